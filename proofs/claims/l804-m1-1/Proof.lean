import JvmDerived
import JvmDerived.Pilot.@@N@@Statement
import JvmDerived.Pilot.@@N@@Code
set_option linter.unusedVariables false
set_option linter.unusedSimpArgs false
namespace Jvm.RoadKit
open Sem ClassFile Op Lib Jvm.Stand Jvm.Free Jvm.LawKit
section New
variable {p : Program} {l : Launch} {e : Env} {R : Room} {s : State} {m : MethodId} {args : Array Value} {below : List Frame} {meth : Method} {c : Code} {T : State} {locs : List Loc} {cells slots : Nat}
theorem retI (X : Stand p l e R s m args below meth c T locs cells slots) (hx : p.tables.exec = Jvm.exec) {pc : Nat} {Ls : Array Slot} {z : Int32} {rest : List Value} (hret : meth.sig.returnType = some .int) (hd : decode c.code pc = .ok (.ireturn, 1)) {fs : List Frame}
    (hl : ∀ (f : JFrame) (acts : List Action), f.method = m → f.locked = none → f.entered = [] → (doReturn e (T.setTop f) acts (some (.int z))).1 = T.setFrames fs) : Steps p.tables e below (T.setTop (mkF m pc Ls (.int z :: rest))) (T.setFrames fs) := by
  have hm' : T.vm.method? m = some meth := X.method'
  have hn : narrow .int (.int z) = .int z := rfl
  show Steps p.tables e below (T.setTop { method := m, pc := pc, locals := Ls, stack := _ :: rest, locked := none }) _
  jvm_step X.here [X.here.top, hx, hd, hm', hret, hn]
  first | (intro acts; rw [hl _ acts rfl rfl rfl]) | rw [hl _ _ rfl rfl rfl]
  exact Steps.refl _
theorem retAddr (X : Stand p l e R s m args below meth c T locs cells slots) (hx : p.tables.exec = Jvm.exec) {pc : Nat} {Ls : Array Slot} {z : Addr} {rest : List Value} {t : FieldType} (hret : meth.sig.returnType = some t) (ht : t.isReference = true) (hd : decode c.code pc = .ok (.areturn, 1)) {fs : List Frame}
    (hl : ∀ (f : JFrame) (acts : List Action), f.method = m → f.locked = none → f.entered = [] → (doReturn e (T.setTop f) acts (some (.ref z))).1 = T.setFrames fs) : Steps p.tables e below (T.setTop (mkF m pc Ls (.ref z :: rest))) (T.setFrames fs) := by
  have hm' : T.vm.method? m = some meth := X.method'
  show Steps p.tables e below (T.setTop { method := m, pc := pc, locals := Ls, stack := _ :: rest, locked := none }) _
  jvm_step X.here [X.here.top, hx, hd, hm', hret, ht, Value.isRef]
  first | (intro acts; rw [hl _ acts rfl rfl rfl]) | rw [hl _ _ rfl rfl rfl]
  exact Steps.refl _
end New
end Jvm.RoadKit
namespace Jvm.Pilot.@@N@@
open Jvm Jvm.ClassFile Sem Op Lib Jvm.Free Jvm.Stand Jvm.LawKit Jvm.RoadKit Bundle Jvm.Pilot.@@N@@.Jvm.D
/-- from A the run ends, returning, as Q says of the value, the heap and the places written -/
def own_Fin (tb : Tables) (e : Env) (below : List Frame) (s : State) (C S : Nat) (Q : Option Value → Heap → List Loc → Prop) (A : State) : Prop :=
  ∃ s₂ o, Steps tb e below A s₂ ∧ s₂.status = .running ∧ Ended s₂ below o ∧ ∃ v L, o = .returned v ∧ Q v s₂.heap L ∧ FrameEnd s o s₂ L C S
theorem own_st {tb : Tables} {e : Env} {below : List Frame} {s : State} {C S : Nat} {Q : Option Value → Heap → List Loc → Prop} {A B : State} (h : ∀ t, Steps tb e below B t → Steps tb e below A t) (k : own_Fin tb e below s C S Q B) : own_Fin tb e below s C S Q A := by
  obtain ⟨s₂, o, h1, h2⟩ := k
  exact ⟨s₂, o, h _ h1, h2⟩
section Ret
variable {p : Program} {l : Launch} {e : Env} {R : Room} {s : State} {m : MethodId} {args : Array Value} {below : List Frame} {meth : Method} {c : Code} {T : State} {locs : List Loc} {cells slots : Nat} {Q : Option Value → Heap → List Loc → Prop} {C S : Nat}
theorem own_retN (X : Stand p l e R s m args below meth c T locs cells slots) (hx : p.tables.exec = Jvm.exec) (hk : meth.locks = false) {t : FieldType} (hret : meth.sig.returnType = some t) (ht : t = .boolean ∨ t = .byte ∨ t = .char ∨ t = .short) {pc : Nat} {Ls : Array Slot} {z : Int32} {rest : List Value} (hd : decode c.code pc = .ok (.ireturn, 1)) (hC : cells ≤ C) (hS : slots ≤ S) (hq : Q (some (.int (nar t z))) T.heap locs) : own_Fin p.tables e below s C S Q (T.setTop (mkF m pc Ls (.int z :: rest))) := by
  obtain ⟨fs, hr, hrun, hended, hW, hsame⟩ := X.leave (v := some (.int (nar t z))) (fun h => by rw [hret] at h; cases h)
  exact ⟨_, _, retN X hx hret ht hd hr, hrun, hended, _, _, rfl, hq, ⟨_, rfl⟩, hW, hsame.mono hC hS⟩
theorem own_retI (X : Stand p l e R s m args below meth c T locs cells slots) (hx : p.tables.exec = Jvm.exec) (hk : meth.locks = false) (hret : meth.sig.returnType = some .int) {pc : Nat} {Ls : Array Slot} {z : Int32} {rest : List Value} (hd : decode c.code pc = .ok (.ireturn, 1)) (hC : cells ≤ C) (hS : slots ≤ S) (hq : Q (some (.int z)) T.heap locs) : own_Fin p.tables e below s C S Q (T.setTop (mkF m pc Ls (.int z :: rest))) := by
  obtain ⟨fs, hr, hrun, hended, hW, hsame⟩ := X.leave (v := some (.int z)) (fun h => by rw [hret] at h; cases h)
  exact ⟨_, _, retI X hx hret hd hr, hrun, hended, _, _, rfl, hq, ⟨_, rfl⟩, hW, hsame.mono hC hS⟩
theorem own_retA (X : Stand p l e R s m args below meth c T locs cells slots) (hx : p.tables.exec = Jvm.exec) (hk : meth.locks = false) {t : FieldType} (hret : meth.sig.returnType = some t) (ht : t.isReference = true) {pc : Nat} {Ls : Array Slot} {z : Addr} {rest : List Value} (hd : decode c.code pc = .ok (.areturn, 1)) (hC : cells ≤ C) (hS : slots ≤ S) (hq : Q (some (.ref z)) T.heap locs) : own_Fin p.tables e below s C S Q (T.setTop (mkF m pc Ls (.ref z :: rest))) := by
  obtain ⟨fs, hr, hrun, hended, hW, hsame⟩ := X.leave (v := some (.ref z)) (fun h => by rw [hret] at h; cases h)
  exact ⟨_, _, retAddr X hx hret ht hd hr, hrun, hended, _, _, rfl, hq, ⟨_, rfl⟩, hW, hsame.mono hC hS⟩
theorem own_retJ (X : Stand p l e R s m args below meth c T locs cells slots) (hx : p.tables.exec = Jvm.exec) (hk : meth.locks = false) (hret : meth.sig.returnType = some .long) {pc : Nat} {Ls : Array Slot} {z : Int64} (hd : decode c.code pc = .ok (.lreturn, 1)) (hC : cells ≤ C) (hS : slots ≤ S) (hq : Q (some (.long z)) T.heap locs) : own_Fin p.tables e below s C S Q (T.setTop (mkF m pc Ls [.long z])) := by
  obtain ⟨fs, hr, hrun, hended, hW, hsame⟩ := X.leave (v := some (.long z)) (fun h => by rw [hret] at h; cases h)
  exact ⟨_, _, X.lreturnOut hx hret hd hr, hrun, hended, _, _, rfl, hq, ⟨_, rfl⟩, hW, hsame.mono hC hS⟩
theorem own_retV (X : Stand p l e R s m args below meth c T locs cells slots) (hx : p.tables.exec = Jvm.exec) (hk : meth.locks = false) (hret : meth.sig.returnType = none) {pc : Nat} {Ls : Array Slot} (hd : decode c.code pc = .ok (.return_, 1)) (hC : cells ≤ C) (hS : slots ≤ S) (hq : Q none T.heap locs) : own_Fin p.tables e below s C S Q (T.setTop (mkF m pc Ls [])) := by
  obtain ⟨fs, hr, hrun, hended, hW, hsame⟩ := X.leave (v := none) (fun _ => rfl)
  exact ⟨_, _, X.returnOut hx hret hd hr, hrun, hended, _, _, rfl, hq, ⟨_, rfl⟩, hW, hsame.mono hC hS⟩
end Ret
theorem own_ltT {a b : Int64} (h : a < b) : ifCond.holds .lt (lcmpW a b) = true ∧ ifCond.holds .ge (lcmpW a b) = false := by
  have q := (lw_lt a b).mpr h
  exact ⟨(if0 _ _).trans (tlt q).1, (if0 _ _).trans (tlt q).2.1⟩
theorem own_ltF {a b : Int64} (h : ¬ a < b) : ifCond.holds .lt (lcmpW a b) = false ∧ ifCond.holds .ge (lcmpW a b) = true := by
  have q := mt (lw_lt a b).mp h
  exact ⟨(if0 _ _).trans (flt q).1, (if0 _ _).trans (flt q).2.1⟩
theorem own_gtT {a b : Int64} (h : b < a) : ifCond.holds .gt (lcmpW a b) = true ∧ ifCond.holds .le (lcmpW a b) = false := by
  have q := (lw_gt a b).mpr h
  exact ⟨(if0 _ _).trans (tlt q).2.2.1, (if0 _ _).trans (tlt q).2.2.2⟩
theorem own_gtF {a b : Int64} (h : ¬ b < a) : ifCond.holds .gt (lcmpW a b) = false ∧ ifCond.holds .le (lcmpW a b) = true := by
  have q := mt (lw_gt a b).mp h
  exact ⟨(if0 _ _).trans (flt q).2.2.1, (if0 _ _).trans (flt q).2.2.2⟩
theorem own_eqT {a b : Int64} (h : a = b) : ifCond.holds .eq (lcmpW a b) = true ∧ ifCond.holds .ne (lcmpW a b) = false := by
  have q := (lw_eq a b).mpr h
  exact ⟨(if0 _ _).trans (teq q).1, (if0 _ _).trans (teq q).2⟩
theorem own_eqF {a b : Int64} (h : ¬ a = b) : ifCond.holds .eq (lcmpW a b) = false ∧ ifCond.holds .ne (lcmpW a b) = true := by
  have q := mt (lw_eq a b).mp h
  exact ⟨(if0 _ _).trans (feq q).1, (if0 _ _).trans (feq q).2⟩
theorem d1_0 : decode method_3_code 0 = .ok (.bipush 32, 2) := by decide +kernel
theorem d1_2 : decode method_3_code 2 = .ok (.iload_n 0, 1) := by decide +kernel
theorem d1_3 : decode method_3_code 3 = .ok (.ldc 33, 2) := by decide +kernel
theorem d1_5 : decode method_3_code 5 = .ok (.iand, 1) := by decide +kernel
theorem d1_6 : decode method_3_code 6 = .ok (.bipush 63, 2) := by decide +kernel
theorem d1_8 : decode method_3_code 8 = .ok (.irem, 1) := by decide +kernel
theorem d1_9 : decode method_3_code 9 = .ok (.iadd, 1) := by decide +kernel
theorem d1_10 : decode method_3_code 10 = .ok (.ireturn, 1) := by decide +kernel
theorem pn_1 : plainFor (⟨"com/example/quietzone/quietzone/datamatrix/CodewordWriterEdifactPinLaw", "ch", "(I)I"⟩ : MethodName) = true := plainFor_of_name (x := (⟨"com/example/quietzone/quietzone/datamatrix/CodewordWriterEdifactPinLaw", "ch", "(I)I"⟩ : MethodName)) (by first | (simp [plainName, overriddenIn]; done) | decide +kernel)
theorem ef_1 (m : MethodId) (p1 : Int32) : entryFrame m #[(.int p1)] 1 = mkF m 0 #[iv p1] [] := by first | (simp [entryFrame, mkF, argsToLocals, Value.category]; done) | rfl
def own_F1 (p1 : Int32) : Int32 := ((32 : Int32) + ((p1 &&& (2147483647 : Int32)) % (63 : Int32)))
def own_Q1 (p1 : Int32) (h0 : Heap) (n0 : Nat) (v : Option Value) (h : Heap) (L : List Loc) : Prop := v = some (.int (own_F1 p1)) ∧ Fr n0 L ∧ h = h0
set_option maxRecDepth 65536 in
set_option maxHeartbeats 40000000 in
theorem rm1 (l : Launch) (Z : State) (a0 : Array Value) (hw : ∀ d ∈ tables_1, d.before a0 Z = true) (ws : List Jvm.Cond) (p1 : Int32) (h0 : Heap) (n0 : Nat) (Z0 : n0 ≤ h0.size) :
    MetFree l (⟨"com/example/quietzone/quietzone/datamatrix/CodewordWriterEdifactPinLaw", "ch", "(I)I"⟩ : MethodName) (head1 (Jvm.Cond.code (⟨"com/example/quietzone/quietzone/datamatrix/CodewordWriterEdifactPinLaw", "ch", "(I)I"⟩ : MethodName) method_3_code 1 (some .int) :: ws) ({ frames := 0, cells := 0, slots := 0, locals := 0 } : Room)) (fun a U => a = #[(.int p1)] ∧ Z.Warmed39 U.vm ∧ U.heap = h0) (fun _ _ _ _ _ => True) (fun _ U o U' => ∃ v L, o = .returned v ∧ own_Q1 p1 h0 n0 v U'.heap L ∧ FrameEnd U o U' L ({ frames := 0, cells := 0, slots := 0, locals := 0 } : Room).cells ({ frames := 0, cells := 0, slots := 0, locals := 0 } : Room).slots) := by
  refine MetFree.of_bodySF pn_1 hisR ?_
  intro p e s m args below meth c s₁ Bd hml0 hP hK
  obtain ⟨rfl, hZ, hh⟩ := hP
  have hx := Bd.exec
  have hby := Bd.bytes
  have hml : c.maxLocals = 1 := hml0
  have hown : s.vm.findClass "com/example/quietzone/quietzone/datamatrix/CodewordWriterEdifactPinLaw" = some m.cls := findClass_of_methodNamed Bd.named
  have X0 : Stand p l e ({ frames := 0, cells := 0, slots := 0, locals := 0 } : Room) s m #[(.int p1)] below meth c s₁ [] 0 0 := Stand.of_body Bd
  have e0 : s₁.heap = h0 := by rw [← hh, Bd.state]; rfl
  have N0 := Fr.nil n0
  show own_Fin p.tables e below s (({ frames := 0, cells := 0, slots := 0, locals := 0 } : Room).cells) (({ frames := 0, cells := 0, slots := 0, locals := 0 } : Room).slots) (own_Q1 p1 h0 n0) (s₁.setTop (entryFrame m #[(.int p1)] 1))
  rw [ef_1 m p1]
  show own_Fin _ _ _ _ _ _ _ (s₁.setTop (mkF m 0 #[iv p1] []))
  refine own_st (fun t k => XS.bipush X0.here hx rfl (hb hby d1_0) k) ?_
  show own_Fin _ _ _ _ _ _ _ (s₁.setTop (mkF m 2 #[iv p1] [(.int (32 : Int32))]))
  refine own_st (fun t k => XS.iloadN X0.here hx rfl (hb hby d1_2) rfl k) ?_
  show own_Fin _ _ _ _ _ _ _ (s₁.setTop (mkF m 3 #[iv p1] [(.int p1), (.int (32 : Int32))]))
  refine own_st (X0.ldcInt hx hown (mvT hZ (hw _ (List.mem_of_getElem? (i := 5) rfl))) (g := (mkF m 3 #[iv p1] [(.int p1), (.int (32 : Int32))])) rfl (hb hby d1_3)) ?_
  show own_Fin _ _ _ _ _ _ _ (s₁.setTop (mkF m 5 #[iv p1] [(.int (2147483647 : Int32)), (.int p1), (.int (32 : Int32))]))
  refine own_st (fun t k => XS.iand X0.here hx rfl (hb hby d1_5) rfl k) ?_
  show own_Fin _ _ _ _ _ _ _ (s₁.setTop (mkF m 6 #[iv p1] [(.int (p1 &&& (2147483647 : Int32))), (.int (32 : Int32))]))
  refine own_st (fun t k => XS.bipush X0.here hx rfl (hb hby d1_6) k) ?_
  show own_Fin _ _ _ _ _ _ _ (s₁.setTop (mkF m 8 #[iv p1] [(.int (63 : Int32)), (.int (p1 &&& (2147483647 : Int32))), (.int (32 : Int32))]))
  refine own_st (fun t k => iremM X0 hx rfl (hb hby d1_8) rfl (by decide) k) ?_
  show own_Fin _ _ _ _ _ _ _ (s₁.setTop (mkF m 9 #[iv p1] [(.int ((p1 &&& (2147483647 : Int32)) % (63 : Int32))), (.int (32 : Int32))]))
  refine own_st (fun t k => XS.iadd X0.here hx rfl (hb hby d1_9) rfl k) ?_
  show own_Fin _ _ _ _ _ _ _ (s₁.setTop (mkF m 10 #[iv p1] [(.int ((32 : Int32) + ((p1 &&& (2147483647 : Int32)) % (63 : Int32))))]))
  have hv : own_F1 p1 = ((32 : Int32) + ((p1 &&& (2147483647 : Int32)) % (63 : Int32))) := rfl
  exact own_retI X0 hx Bd.notSynchronized Bd.returns (hb hby d1_10) (by decide) (by decide) ⟨congrArg (fun z => some (Value.int z)) hv.symm, N0, e0⟩
theorem d9_0 : decode method_4_code 0 = .ok (.iload_n 0, 1) := by decide +kernel
theorem d9_1 : decode method_4_code 1 = .ok (.bipush 64, 2) := by decide +kernel
theorem d9_3 : decode method_4_code 3 = .ok (.if_icmp .lt 10, 3) := by decide +kernel
theorem d9_6 : decode method_4_code 6 = .ok (.iload_n 0, 1) := by decide +kernel
theorem d9_7 : decode method_4_code 7 = .ok (.bipush 64, 2) := by decide +kernel
theorem d9_9 : decode method_4_code 9 = .ok (.isub, 1) := by decide +kernel
theorem d9_10 : decode method_4_code 10 = .ok (.goto 4, 3) := by decide +kernel
theorem d9_13 : decode method_4_code 13 = .ok (.iload_n 0, 1) := by decide +kernel
theorem d9_14 : decode method_4_code 14 = .ok (.ireturn, 1) := by decide +kernel
theorem pn_9 : plainFor (⟨"com/example/quietzone/quietzone/datamatrix/CodewordWriterEdifactPinLaw", "six", "(I)I"⟩ : MethodName) = true := plainFor_of_name (x := (⟨"com/example/quietzone/quietzone/datamatrix/CodewordWriterEdifactPinLaw", "six", "(I)I"⟩ : MethodName)) (by first | (simp [plainName, overriddenIn]; done) | decide +kernel)
theorem ef_9 (m : MethodId) (p1 : Int32) : entryFrame m #[(.int p1)] 1 = mkF m 0 #[iv p1] [] := by first | (simp [entryFrame, mkF, argsToLocals, Value.category]; done) | rfl
def own_F9 (p1 : Int32) : Int32 := (if p1 < (64 : Int32) then p1 else (p1 - (64 : Int32)))
def own_Q9 (p1 : Int32) (h0 : Heap) (n0 : Nat) (v : Option Value) (h : Heap) (L : List Loc) : Prop := v = some (.int (own_F9 p1)) ∧ Fr n0 L ∧ h = h0
set_option maxRecDepth 65536 in
set_option maxHeartbeats 40000000 in
theorem rm9 (l : Launch) (Z : State) (a0 : Array Value) (hw : ∀ d ∈ tables_1, d.before a0 Z = true) (ws : List Jvm.Cond) (p1 : Int32) (h0 : Heap) (n0 : Nat) (Z0 : n0 ≤ h0.size) :
    MetFree l (⟨"com/example/quietzone/quietzone/datamatrix/CodewordWriterEdifactPinLaw", "six", "(I)I"⟩ : MethodName) (head1 (Jvm.Cond.code (⟨"com/example/quietzone/quietzone/datamatrix/CodewordWriterEdifactPinLaw", "six", "(I)I"⟩ : MethodName) method_4_code 1 (some .int) :: ws) ({ frames := 0, cells := 0, slots := 0, locals := 0 } : Room)) (fun a U => a = #[(.int p1)] ∧ Z.Warmed39 U.vm ∧ U.heap = h0) (fun _ _ _ _ _ => True) (fun _ U o U' => ∃ v L, o = .returned v ∧ own_Q9 p1 h0 n0 v U'.heap L ∧ FrameEnd U o U' L ({ frames := 0, cells := 0, slots := 0, locals := 0 } : Room).cells ({ frames := 0, cells := 0, slots := 0, locals := 0 } : Room).slots) := by
  refine MetFree.of_bodySF pn_9 hisR ?_
  intro p e s m args below meth c s₁ Bd hml0 hP hK
  obtain ⟨rfl, hZ, hh⟩ := hP
  have hx := Bd.exec
  have hby := Bd.bytes
  have hml : c.maxLocals = 1 := hml0
  have hown : s.vm.findClass "com/example/quietzone/quietzone/datamatrix/CodewordWriterEdifactPinLaw" = some m.cls := findClass_of_methodNamed Bd.named
  have X0 : Stand p l e ({ frames := 0, cells := 0, slots := 0, locals := 0 } : Room) s m #[(.int p1)] below meth c s₁ [] 0 0 := Stand.of_body Bd
  have e0 : s₁.heap = h0 := by rw [← hh, Bd.state]; rfl
  have N0 := Fr.nil n0
  show own_Fin p.tables e below s (({ frames := 0, cells := 0, slots := 0, locals := 0 } : Room).cells) (({ frames := 0, cells := 0, slots := 0, locals := 0 } : Room).slots) (own_Q9 p1 h0 n0) (s₁.setTop (entryFrame m #[(.int p1)] 1))
  rw [ef_9 m p1]
  show own_Fin _ _ _ _ _ _ _ (s₁.setTop (mkF m 0 #[iv p1] []))
  refine own_st (fun t k => XS.iloadN X0.here hx rfl (hb hby d9_0) rfl k) ?_
  show own_Fin _ _ _ _ _ _ _ (s₁.setTop (mkF m 1 #[iv p1] [(.int p1)]))
  refine own_st (fun t k => XS.bipush X0.here hx rfl (hb hby d9_1) k) ?_
  show own_Fin _ _ _ _ _ _ _ (s₁.setTop (mkF m 3 #[iv p1] [(.int (64 : Int32)), (.int p1)]))
  by_cases hc3_1 : p1 < (64 : Int32)
  · refine own_st (fun t k => XS.icmpYes X0.here hx rfl (pc0 := 3) (pc' := 13) rfl (hb hby d9_3) rfl (tlt hc3_1).1 (by decide) (by decide) k) ?_
    show own_Fin _ _ _ _ _ _ _ (s₁.setTop (mkF m 13 #[iv p1] []))
    refine own_st (fun t k => XS.iloadN X0.here hx rfl (hb hby d9_13) rfl k) ?_
    show own_Fin _ _ _ _ _ _ _ (s₁.setTop (mkF m 14 #[iv p1] [(.int p1)]))
    have hv : own_F9 p1 = p1 := by unfold own_F9; rw [if_pos hc3_1]
    exact own_retI X0 hx Bd.notSynchronized Bd.returns (hb hby d9_14) (by decide) (by decide) ⟨congrArg (fun z => some (Value.int z)) hv.symm, N0, e0⟩
  · refine own_st (fun t k => XS.icmpNo X0.here hx rfl (hb hby d9_3) rfl (flt hc3_1).1 k) ?_
    show own_Fin _ _ _ _ _ _ _ (s₁.setTop (mkF m 6 #[iv p1] []))
    refine own_st (fun t k => XS.iloadN X0.here hx rfl (hb hby d9_6) rfl k) ?_
    show own_Fin _ _ _ _ _ _ _ (s₁.setTop (mkF m 7 #[iv p1] [(.int p1)]))
    refine own_st (fun t k => XS.bipush X0.here hx rfl (hb hby d9_7) k) ?_
    show own_Fin _ _ _ _ _ _ _ (s₁.setTop (mkF m 9 #[iv p1] [(.int (64 : Int32)), (.int p1)]))
    refine own_st (fun t k => XS.isub X0.here hx rfl (hb hby d9_9) rfl k) ?_
    show own_Fin _ _ _ _ _ _ _ (s₁.setTop (mkF m 10 #[iv p1] [(.int (p1 - (64 : Int32)))]))
    refine own_st (fun t k => XS.goto X0.here hx rfl (pc0 := 10) (pc' := 14) rfl (hb hby d9_10) (by decide) (by decide) k) ?_
    show own_Fin _ _ _ _ _ _ _ (s₁.setTop (mkF m 14 #[iv p1] [(.int (p1 - (64 : Int32)))]))
    have hv : own_F9 p1 = (p1 - (64 : Int32)) := by unfold own_F9; rw [if_neg hc3_1]
    exact own_retI X0 hx Bd.notSynchronized Bd.returns (hb hby d9_14) (by decide) (by decide) ⟨congrArg (fun z => some (Value.int z)) hv.symm, N0, e0⟩
theorem d8_0 : decode jdk_29_method_69_code 0 = .ok (.iload_n 0, 1) := by decide +kernel
theorem d8_1 : decode jdk_29_method_69_code 1 = .ok (.iload_n 1, 1) := by decide +kernel
theorem d8_2 : decode jdk_29_method_69_code 2 = .ok (.if_icmp .gt 7, 3) := by decide +kernel
theorem d8_5 : decode jdk_29_method_69_code 5 = .ok (.iload_n 0, 1) := by decide +kernel
theorem d8_6 : decode jdk_29_method_69_code 6 = .ok (.goto 4, 3) := by decide +kernel
theorem d8_9 : decode jdk_29_method_69_code 9 = .ok (.iload_n 1, 1) := by decide +kernel
theorem d8_10 : decode jdk_29_method_69_code 10 = .ok (.ireturn, 1) := by decide +kernel
theorem pn_8 : plainFor (⟨"java/lang/Math", "min", "(II)I"⟩ : MethodName) = true := Jvm.Free.JP.mathPlain rfl (by decide)
theorem ef_8 (m : MethodId) (p1 : Int32) (p2 : Int32) : entryFrame m #[(.int p1), (.int p2)] 2 = mkF m 0 #[iv p1, iv p2] [] := by first | (simp [entryFrame, mkF, argsToLocals, Value.category]; done) | rfl
def own_F8 (p1 : Int32) (p2 : Int32) : Int32 := (if p2 < p1 then p2 else p1)
def own_Q8 (p1 : Int32) (p2 : Int32) (h0 : Heap) (n0 : Nat) (v : Option Value) (h : Heap) (L : List Loc) : Prop := v = some (.int (own_F8 p1 p2)) ∧ Fr n0 L ∧ h = h0
set_option maxRecDepth 65536 in
set_option maxHeartbeats 40000000 in
theorem rm8 (l : Launch) (Z : State) (a0 : Array Value) (hw : ∀ d ∈ tables_1, d.before a0 Z = true) (ws : List Jvm.Cond) (p1 : Int32) (p2 : Int32) (h0 : Heap) (n0 : Nat) (Z0 : n0 ≤ h0.size) :
    MetFree l (⟨"java/lang/Math", "min", "(II)I"⟩ : MethodName) (head1 (Jvm.Cond.code (⟨"java/lang/Math", "min", "(II)I"⟩ : MethodName) jdk_29_method_69_code 2 (some .int) :: ws) ({ frames := 0, cells := 0, slots := 0, locals := 0 } : Room)) (fun a U => a = #[(.int p1), (.int p2)] ∧ Z.Warmed39 U.vm ∧ U.heap = h0) (fun _ _ _ _ _ => True) (fun _ U o U' => ∃ v L, o = .returned v ∧ own_Q8 p1 p2 h0 n0 v U'.heap L ∧ FrameEnd U o U' L ({ frames := 0, cells := 0, slots := 0, locals := 0 } : Room).cells ({ frames := 0, cells := 0, slots := 0, locals := 0 } : Room).slots) := by
  refine MetFree.of_bodySF pn_8 hisR ?_
  intro p e s m args below meth c s₁ Bd hml0 hP hK
  obtain ⟨rfl, hZ, hh⟩ := hP
  have hx := Bd.exec
  have hby := Bd.bytes
  have hml : c.maxLocals = 2 := hml0
  have hown : s.vm.findClass "java/lang/Math" = some m.cls := findClass_of_methodNamed Bd.named
  have X0 : Stand p l e ({ frames := 0, cells := 0, slots := 0, locals := 0 } : Room) s m #[(.int p1), (.int p2)] below meth c s₁ [] 0 0 := Stand.of_body Bd
  have e0 : s₁.heap = h0 := by rw [← hh, Bd.state]; rfl
  have N0 := Fr.nil n0
  show own_Fin p.tables e below s (({ frames := 0, cells := 0, slots := 0, locals := 0 } : Room).cells) (({ frames := 0, cells := 0, slots := 0, locals := 0 } : Room).slots) (own_Q8 p1 p2 h0 n0) (s₁.setTop (entryFrame m #[(.int p1), (.int p2)] 2))
  rw [ef_8 m p1 p2]
  show own_Fin _ _ _ _ _ _ _ (s₁.setTop (mkF m 0 #[iv p1, iv p2] []))
  refine own_st (fun t k => XS.iloadN X0.here hx rfl (hb hby d8_0) rfl k) ?_
  show own_Fin _ _ _ _ _ _ _ (s₁.setTop (mkF m 1 #[iv p1, iv p2] [(.int p1)]))
  refine own_st (fun t k => XS.iloadN X0.here hx rfl (hb hby d8_1) rfl k) ?_
  show own_Fin _ _ _ _ _ _ _ (s₁.setTop (mkF m 2 #[iv p1, iv p2] [(.int p2), (.int p1)]))
  by_cases hc2_1 : p2 < p1
  · refine own_st (fun t k => XS.icmpYes X0.here hx rfl (pc0 := 2) (pc' := 9) rfl (hb hby d8_2) rfl (tlt hc2_1).2.2.1 (by decide) (by decide) k) ?_
    show own_Fin _ _ _ _ _ _ _ (s₁.setTop (mkF m 9 #[iv p1, iv p2] []))
    refine own_st (fun t k => XS.iloadN X0.here hx rfl (hb hby d8_9) rfl k) ?_
    show own_Fin _ _ _ _ _ _ _ (s₁.setTop (mkF m 10 #[iv p1, iv p2] [(.int p2)]))
    have hv : own_F8 p1 p2 = p2 := by unfold own_F8; rw [if_pos hc2_1]
    exact own_retI X0 hx Bd.notSynchronized Bd.returns (hb hby d8_10) (by decide) (by decide) ⟨congrArg (fun z => some (Value.int z)) hv.symm, N0, e0⟩
  · refine own_st (fun t k => XS.icmpNo X0.here hx rfl (hb hby d8_2) rfl (flt hc2_1).2.2.1 k) ?_
    show own_Fin _ _ _ _ _ _ _ (s₁.setTop (mkF m 5 #[iv p1, iv p2] []))
    refine own_st (fun t k => XS.iloadN X0.here hx rfl (hb hby d8_5) rfl k) ?_
    show own_Fin _ _ _ _ _ _ _ (s₁.setTop (mkF m 6 #[iv p1, iv p2] [(.int p1)]))
    refine own_st (fun t k => XS.goto X0.here hx rfl (pc0 := 6) (pc' := 10) rfl (hb hby d8_6) (by decide) (by decide) k) ?_
    show own_Fin _ _ _ _ _ _ _ (s₁.setTop (mkF m 10 #[iv p1, iv p2] [(.int p1)]))
    have hv : own_F8 p1 p2 = p1 := by unfold own_F8; rw [if_neg hc2_1]
    exact own_retI X0 hx Bd.notSynchronized Bd.returns (hb hby d8_10) (by decide) (by decide) ⟨congrArg (fun z => some (Value.int z)) hv.symm, N0, e0⟩
abbrev own_six := own_F9
abbrev own_chr := own_F1
def own_val (n u i w : Int32) : Int32 := if i < n then own_six w else if i = n then (if u = (0 : Int32) then (0 : Int32) else (31 : Int32)) else (0 : Int32)
def own_take (len k0 k1 k2 k3 : Int32) : List Int32 := if len = 0 then [] else if len = 1 then [k0] else if len = 2 then [k0, k1] else if len = 3 then [k0, k1, k2] else [k0, k1, k2, k3]
def own_len (m : Int32) : Int32 := if m = 5 then 4 else if m = 4 then 3 else m
def own_m (n u : Int32) : Int32 := n + (if u = 0 then 0 else 1)
def own_k0 (a b : Int32) : Int32 := (a * 4) + (b / 16)
def own_k1 (a b : Int32) : Int32 := ((a % 16) * 16) + (b / 4)
def own_k2 (a b : Int32) : Int32 := ((a % 4) * 64) + b
def own_ks (n u w0 w1 w2 w3 : Int32) : List Int32 := own_take (own_len (own_m n u)) (own_k0 (own_val n u 0 w0) (own_val n u 1 w1)) (own_k1 (own_val n u 1 w1) (own_val n u 2 w2)) (own_k2 (own_val n u 2 w2) (own_val n u 3 w3)) ((own_val n u 4 0) * 4)
theorem own_six_mask {w : Int32} (h : 32 ≤ w.toInt ∧ w.toInt ≤ 94) : own_six w = w &&& (63 : Int32) := by
  have m := c_mask w (63 : Int32) 6 (by decide) (by decide)
  rw [show ((2 ^ 6 : Nat) : Int) = 64 by decide] at m
  have s := c_isub w (64 : Int32)
  have r := rng32 (w - 64)
  have l : (64 : Int32).toInt = 64 := by decide
  rw [l] at s
  unfold own_six own_F9
  apply Int32.toInt_inj.mp
  by_cases h1 : w < (64 : Int32)
  · rw [if_pos h1]
    have h1' := Int32.lt_iff_toInt_lt.mp h1
    rw [l] at h1'
    omega
  · rw [if_neg h1]
    have h1' : ¬ w.toInt < 64 := fun q => h1 (Int32.lt_iff_toInt_lt.mpr (by rw [l]; exact q))
    omega
theorem own_buf {b x : Int32} (hb : 0 ≤ b.toInt ∧ b.toInt < 33554432) (hx : 0 ≤ x.toInt ∧ x.toInt < 64) : ((b <<< ((6 : Int32) &&& 31)) ||| x).toInt = b.toInt * 64 + x.toInt := by
  have s := c_ishl b (6 : Int32) 6 (by decide)
  rw [show ((2 ^ 6 : Nat) : Int) = 64 by decide] at s
  have r := rng32 (b <<< ((6 : Int32) &&& 31))
  have o := c_or (b <<< ((6 : Int32) &&& 31)) x 6 (by decide) 64 (by decide) (by omega) hx.1 hx.2
  have r2 := rng32 ((b <<< ((6 : Int32) &&& 31)) ||| x)
  omega
theorem own_shr {b : Int32} {k : Int32} {q : Nat} (hk : k.toBitVec.toNat % 32 = q) (hb : 0 ≤ b.toInt) : ((b >>> (k &&& 31)) &&& (255 : Int32)).toInt = b.toInt / (2 ^ q : Nat) % 256 := by
  have m := c_mask (b >>> (k &&& 31)) (255 : Int32) 8 (by decide) (by decide)
  rw [show ((2 ^ 8 : Nat) : Int) = 256 by decide, c_ishr b k q hk] at m
  exact m
theorem own_shl {b : Int32} {k : Int32} {q : Nat} (hk : k.toBitVec.toNat % 32 = q) (P : Int) (hP : ((2 ^ q : Nat) : Int) = P) (hb : 0 ≤ b.toInt) : ((b <<< (k &&& 31)) &&& (255 : Int32)).toInt = (b.toInt * P) % 256 := by
  have m := c_mask (b <<< (k &&& 31)) (255 : Int32) 8 (by decide) (by decide)
  rw [show ((2 ^ 8 : Nat) : Int) = 256 by decide] at m
  have s := c_ishl b k q hk
  rw [hP] at s
  rw [m]
  generalize b.toInt * P = y at *
  omega
theorem own_k0_int {a b : Int32} (ha : 0 ≤ a.toInt ∧ a.toInt < 64) (hb : 0 ≤ b.toInt ∧ b.toInt < 64) : (own_k0 a b).toInt = a.toInt * 4 + b.toInt / 16 := by
  unfold own_k0
  have m := c_imul a (4 : Int32)
  rw [show (4 : Int32).toInt = 4 by decide] at m
  have d := (c_idiv b (16 : Int32) 16 (by decide) (by decide)).1 hb.1
  have s := c_iadd (a * 4) (b / 16)
  have r1 := rng32 (a * 4)
  have r2 := rng32 (a * 4 + b / 16)
  omega
theorem own_k1_int {a b : Int32} (ha : 0 ≤ a.toInt ∧ a.toInt < 64) (hb : 0 ≤ b.toInt ∧ b.toInt < 64) : (own_k1 a b).toInt = a.toInt % 16 * 16 + b.toInt / 4 := by
  unfold own_k1
  have q := (c_irem a (16 : Int32) 16 (by decide)).1 ha.1
  have m := c_imul (a % 16) (16 : Int32)
  rw [show (16 : Int32).toInt = 16 by decide] at m
  have d := (c_idiv b (4 : Int32) 4 (by decide) (by decide)).1 hb.1
  have s := c_iadd (a % 16 * 16) (b / 4)
  have r1 := rng32 (a % 16 * 16)
  have r2 := rng32 (a % 16 * 16 + b / 4)
  omega
theorem own_k2_int {a b : Int32} (ha : 0 ≤ a.toInt ∧ a.toInt < 64) (hb : 0 ≤ b.toInt ∧ b.toInt < 64) : (own_k2 a b).toInt = a.toInt % 4 * 64 + b.toInt := by
  unfold own_k2
  have q := (c_irem a (4 : Int32) 4 (by decide)).1 ha.1
  have m := c_imul (a % 4) (64 : Int32)
  rw [show (64 : Int32).toInt = 64 by decide] at m
  have s := c_iadd (a % 4 * 64) b
  have r1 := rng32 (a % 4 * 64)
  have r2 := rng32 (a % 4 * 64 + b)
  omega
theorem own_k3_int {a : Int32} (ha : 0 ≤ a.toInt ∧ a.toInt < 64) : (a * 4).toInt = a.toInt * 4 := by
  have m := c_imul a (4 : Int32)
  rw [show (4 : Int32).toInt = 4 by decide] at m
  have r1 := rng32 (a * 4)
  omega
section Bits
variable {x0 x1 x2 x3 x4 : Int32} (h0 : 0 ≤ x0.toInt ∧ x0.toInt < 64) (h1 : 0 ≤ x1.toInt ∧ x1.toInt < 64) (h2 : 0 ≤ x2.toInt ∧ x2.toInt < 64) (h3 : 0 ≤ x3.toInt ∧ x3.toInt < 64) (h4 : 0 ≤ x4.toInt ∧ x4.toInt < 64) {b1 b2 b3 b4 b5 : Int32}
theorem own_b1 (e : b1 = (((0 : Int32) <<< ((6 : Int32) &&& 31)) ||| x0)) (h0 : 0 ≤ x0.toInt ∧ x0.toInt < 64) : b1.toInt = x0.toInt := by
  rw [e, own_buf (by decide) h0]; simp
theorem own_bS {b b' x : Int32} {B : Int} (e : b' = ((b <<< ((6 : Int32) &&& 31)) ||| x)) (hb : b.toInt = B) (hB : 0 ≤ B ∧ B < 33554432) (hx : 0 ≤ x.toInt ∧ x.toInt < 64) : b'.toInt = B * 64 + x.toInt := by
  rw [e, own_buf (by omega) hx, hb]
theorem own_o0 (hb : b2.toInt = x0.toInt * 64 + x1.toInt) (h0 : 0 ≤ x0.toInt ∧ x0.toInt < 64) (h1 : 0 ≤ x1.toInt ∧ x1.toInt < 64) : ((b2 >>> ((4 : Int32) &&& 31)) &&& (255 : Int32)) = own_k0 x0 x1 := by
  apply Int32.toInt_inj.mp
  rw [own_shr (q := 4) (by decide) (by omega), own_k0_int h0 h1, show ((2 ^ 4 : Nat) : Int) = 16 by decide]
  omega
theorem own_o1 (hb : b3.toInt = (x0.toInt * 64 + x1.toInt) * 64 + x2.toInt) (h0 : 0 ≤ x0.toInt ∧ x0.toInt < 64) (h1 : 0 ≤ x1.toInt ∧ x1.toInt < 64) (h2 : 0 ≤ x2.toInt ∧ x2.toInt < 64) : ((b3 >>> ((2 : Int32) &&& 31)) &&& (255 : Int32)) = own_k1 x1 x2 := by
  apply Int32.toInt_inj.mp
  rw [own_shr (q := 2) (by decide) (by omega), own_k1_int h1 h2, show ((2 ^ 2 : Nat) : Int) = 4 by decide]
  omega
theorem own_o2 (hb : b4.toInt = ((x0.toInt * 64 + x1.toInt) * 64 + x2.toInt) * 64 + x3.toInt) (h0 : 0 ≤ x0.toInt ∧ x0.toInt < 64) (h1 : 0 ≤ x1.toInt ∧ x1.toInt < 64) (h2 : 0 ≤ x2.toInt ∧ x2.toInt < 64) (h3 : 0 ≤ x3.toInt ∧ x3.toInt < 64) : ((b4 >>> ((0 : Int32) &&& 31)) &&& (255 : Int32)) = own_k2 x2 x3 := by
  apply Int32.toInt_inj.mp
  rw [own_shr (q := 0) (by decide) (by omega), own_k2_int h2 h3, show ((2 ^ 0 : Nat) : Int) = 1 by decide]
  omega
theorem own_o3 (hb : b5.toInt = (((x0.toInt * 64 + x1.toInt) * 64 + x2.toInt) * 64 + x3.toInt) * 64 + x4.toInt) (h0 : 0 ≤ x0.toInt ∧ x0.toInt < 64) (h1 : 0 ≤ x1.toInt ∧ x1.toInt < 64) (h2 : 0 ≤ x2.toInt ∧ x2.toInt < 64) (h3 : 0 ≤ x3.toInt ∧ x3.toInt < 64) (h4 : 0 ≤ x4.toInt ∧ x4.toInt < 64) : ((b5 <<< ((2 : Int32) &&& 31)) &&& (255 : Int32)) = x4 * 4 := by
  apply Int32.toInt_inj.mp
  rw [own_shl (q := 2) (by decide) 4 (by decide) (by omega), own_k3_int h4]
  omega
theorem own_f1 (hb : b1.toInt = x0.toInt) (h0 : 0 ≤ x0.toInt ∧ x0.toInt < 64) : ((b1 <<< ((2 : Int32) &&& 31)) &&& (255 : Int32)) = own_k0 x0 0 := by
  apply Int32.toInt_inj.mp
  rw [own_shl (q := 2) (by decide) 4 (by decide) (by omega), own_k0_int h0 (by decide), show (0 : Int32).toInt = 0 by decide]
  omega
theorem own_f2 (hb : b2.toInt = x0.toInt * 64 + x1.toInt) (h0 : 0 ≤ x0.toInt ∧ x0.toInt < 64) (h1 : 0 ≤ x1.toInt ∧ x1.toInt < 64) : ((b2 <<< ((4 : Int32) &&& 31)) &&& (255 : Int32)) = own_k1 x1 0 := by
  apply Int32.toInt_inj.mp
  rw [own_shl (q := 4) (by decide) 16 (by decide) (by omega), own_k1_int h1 (by decide), show (0 : Int32).toInt = 0 by decide]
  omega
theorem own_f3 (hb : b3.toInt = (x0.toInt * 64 + x1.toInt) * 64 + x2.toInt) (h0 : 0 ≤ x0.toInt ∧ x0.toInt < 64) (h1 : 0 ≤ x1.toInt ∧ x1.toInt < 64) (h2 : 0 ≤ x2.toInt ∧ x2.toInt < 64) : ((b3 <<< ((6 : Int32) &&& 31)) &&& (255 : Int32)) = own_k2 x2 0 := by
  apply Int32.toInt_inj.mp
  rw [own_shl (q := 6) (by decide) 64 (by decide) (by omega), own_k2_int h2 (by decide), show (0 : Int32).toInt = 0 by decide]
  omega
end Bits
theorem own_x63 (w : Int32) : 0 ≤ (w &&& (63 : Int32)).toInt ∧ (w &&& (63 : Int32)).toInt < 64 := by
  have b := c_and w (63 : Int32) (by decide)
  rw [show (63 : Int32).toInt = 63 by decide] at b
  omega
theorem own_ks_41 (w0 w1 w2 w3 : Int32) : own_ks 4 1 w0 w1 w2 w3 = [own_k0 (own_six w0) (own_six w1), own_k1 (own_six w1) (own_six w2), own_k2 (own_six w2) (own_six w3), (31 : Int32) * 4] := rfl
theorem own_ks_40 (w0 w1 w2 w3 : Int32) : own_ks 4 0 w0 w1 w2 w3 = [own_k0 (own_six w0) (own_six w1), own_k1 (own_six w1) (own_six w2), own_k2 (own_six w2) (own_six w3)] := rfl
theorem own_ks_31 (w0 w1 w2 w3 : Int32) : own_ks 3 1 w0 w1 w2 w3 = [own_k0 (own_six w0) (own_six w1), own_k1 (own_six w1) (own_six w2), own_k2 (own_six w2) 31] := rfl
theorem own_ks_21 (w0 w1 w2 w3 : Int32) : own_ks 2 1 w0 w1 w2 w3 = [own_k0 (own_six w0) (own_six w1), own_k1 (own_six w1) 31, own_k2 31 0] := rfl
theorem own_ks_11 (w0 w1 w2 w3 : Int32) : own_ks 1 1 w0 w1 w2 w3 = [own_k0 (own_six w0) 31, own_k1 31 0] := rfl
theorem own_ks_01 (w0 w1 w2 w3 : Int32) : own_ks 0 1 w0 w1 w2 w3 = [own_k0 31 0] := rfl
theorem own_ks_00 (w0 w1 w2 w3 : Int32) : own_ks 0 0 w0 w1 w2 w3 = [] := rfl
def own_app : List Value → Int32 → List Int32 → List Value
  | vs, _, [] => vs
  | vs, c, k :: r => own_app (vs.set c.toNatClampNeg (.int k)) (c + (1 : Int32)) r
def own_cnt : Int32 → List Int32 → Int32
  | c, [] => c
  | c, _ :: r => own_cnt (c + (1 : Int32)) r
theorem d2_0 : decode method_5_code 0 = .ok (.iload 4, 2) := by decide +kernel
theorem d2_2 : decode method_5_code 2 = .ok (.iload_n 2, 1) := by decide +kernel
theorem d2_3 : decode method_5_code 3 = .ok (.if_icmp .ge 13, 3) := by decide +kernel
theorem d2_6 : decode method_5_code 6 = .ok (.aload_n 0, 1) := by decide +kernel
theorem d2_7 : decode method_5_code 7 = .ok (.iload_n 1, 1) := by decide +kernel
theorem d2_8 : decode method_5_code 8 = .ok (.iload 4, 2) := by decide +kernel
theorem d2_10 : decode method_5_code 10 = .ok (.iadd, 1) := by decide +kernel
theorem d2_11 : decode method_5_code 11 = .ok (.iaload, 1) := by decide +kernel
theorem d2_12 : decode method_5_code 12 = .ok (.invokestatic 34, 3) := by decide +kernel
theorem d2_15 : decode method_5_code 15 = .ok (.ireturn, 1) := by decide +kernel
theorem d2_16 : decode method_5_code 16 = .ok (.iload 4, 2) := by decide +kernel
theorem d2_18 : decode method_5_code 18 = .ok (.iload_n 2, 1) := by decide +kernel
theorem d2_19 : decode method_5_code 19 = .ok (.if_icmp .ne 10, 3) := by decide +kernel
theorem d2_22 : decode method_5_code 22 = .ok (.iload_n 3, 1) := by decide +kernel
theorem d2_23 : decode method_5_code 23 = .ok (.ifCond .eq 6, 3) := by decide +kernel
theorem d2_26 : decode method_5_code 26 = .ok (.bipush 31, 2) := by decide +kernel
theorem d2_28 : decode method_5_code 28 = .ok (.ireturn, 1) := by decide +kernel
theorem d2_29 : decode method_5_code 29 = .ok (.iconst 0, 1) := by decide +kernel
theorem d2_30 : decode method_5_code 30 = .ok (.ireturn, 1) := by decide +kernel
theorem pn_2 : plainFor (⟨"com/example/quietzone/quietzone/datamatrix/CodewordWriterEdifactPinLaw", "value", "([IIIZI)I"⟩ : MethodName) = true := plainFor_of_name (x := (⟨"com/example/quietzone/quietzone/datamatrix/CodewordWriterEdifactPinLaw", "value", "([IIIZI)I"⟩ : MethodName)) (by first | (simp [plainName, overriddenIn]; done) | decide +kernel)
theorem pd_2_0 : parseMethodDescriptor "(I)I" = some ⟨[.int], some .int⟩ := by decide +kernel
theorem ef_2 (m : MethodId) (a1 : Addr) (p2 : Int32) (p3 : Int32) (p4 : Int32) (p5 : Int32) : entryFrame m #[(.ref a1), (.int p2), (.int p3), (.int p4), (.int p5)] 5 = mkF m 0 #[rv a1, iv p2, iv p3, iv p4, iv p5] [] := by first | (simp [entryFrame, mkF, argsToLocals, Value.category]; done) | rfl
def own_Q_rm2 (Z : State) (a1 : Addr) (p2 : Int32) (p3 : Int32) (p4 : Int32) (p5 : Int32) (ka : ClassId) (za : Int32) (vs : List Value) (wa : Int32) (h0 : Heap) (n0 : Nat) (v : Option Value) (h : Heap) (L : List Loc) : Prop := v = some (.int (own_val p3 p4 p5 wa)) ∧ Fr n0 L ∧ h = h0
set_option maxRecDepth 65536 in
set_option maxHeartbeats 40000000 in
theorem rm2 (l : Launch) (Z : State) (a0 : Array Value) (hw : ∀ d ∈ tables_1, d.before a0 Z = true) (ws : List Jvm.Cond) (a1 : Addr) (p2 : Int32) (p3 : Int32) (p4 : Int32) (p5 : Int32) (ka : ClassId) (za : Int32) (vs : List Value) (wa : Int32) (h0 : Heap) (n0 : Nat) (Z0 : n0 ≤ h0.size) (Vi : Arv Z h0 a1 ka .int za vs (.int (0 : Int32))) (hin : p5 < p3 → ¬ (p2 + p5) < 0 ∧ (p2 + p5) < za) (hat : p5 < p3 → vs.getD (p2 + p5).toNatClampNeg (.int (0 : Int32)) = .int wa) :
    MetFree l (⟨"com/example/quietzone/quietzone/datamatrix/CodewordWriterEdifactPinLaw", "value", "([IIIZI)I"⟩ : MethodName) (head1 (Jvm.Cond.code (⟨"com/example/quietzone/quietzone/datamatrix/CodewordWriterEdifactPinLaw", "value", "([IIIZI)I"⟩ : MethodName) method_5_code 5 (some .int) :: ws) ({ frames := 1, cells := 0, slots := 0, locals := 12 } : Room)) (fun a U => a = #[(.ref a1), (.int p2), (.int p3), (.int p4), (.int p5)] ∧ Z.Warmed39 U.vm ∧ U.heap = h0) (fun _ _ _ _ _ => True) (fun _ U o U' => ∃ v L, o = .returned v ∧ own_Q_rm2 Z a1 p2 p3 p4 p5 ka za vs wa h0 n0 v U'.heap L ∧ FrameEnd U o U' L ({ frames := 1, cells := 0, slots := 0, locals := 12 } : Room).cells ({ frames := 1, cells := 0, slots := 0, locals := 12 } : Room).slots) := by
  refine MetFree.of_bodySF pn_2 hisR ?_
  intro p e s m args below meth c s₁ Bd hml0 hP hK
  obtain ⟨rfl, hZ, hh⟩ := hP
  have hx := Bd.exec
  have hby := Bd.bytes
  have hml : c.maxLocals = 5 := hml0
  have hown : s.vm.findClass "com/example/quietzone/quietzone/datamatrix/CodewordWriterEdifactPinLaw" = some m.cls := findClass_of_methodNamed Bd.named
  have hnm := (name_of_methodNamed Bd.named Bd.method).1
  have X0 : Stand p l e ({ frames := 1, cells := 0, slots := 0, locals := 12 } : Room) s m #[(.ref a1), (.int p2), (.int p3), (.int p4), (.int p5)] below meth c s₁ [] 0 0 := Stand.of_body Bd
  have e0 : s₁.heap = h0 := by rw [← hh, Bd.state]; rfl
  have N0 := Fr.nil n0
  show own_Fin p.tables e below s (({ frames := 1, cells := 0, slots := 0, locals := 12 } : Room).cells) (({ frames := 1, cells := 0, slots := 0, locals := 12 } : Room).slots) (own_Q_rm2 Z a1 p2 p3 p4 p5 ka za vs wa h0 n0) (s₁.setTop (entryFrame m #[(.ref a1), (.int p2), (.int p3), (.int p4), (.int p5)] 5))
  rw [ef_2 m a1 p2 p3 p4 p5]
  show own_Fin _ _ _ _ _ _ _ (s₁.setTop (mkF m 0 #[rv a1, iv p2, iv p3, iv p4, iv p5] []))
  refine own_st (fun t k => XS.iload X0.here hx rfl (hb hby d2_0) rfl k) ?_
  show own_Fin _ _ _ _ _ _ _ (s₁.setTop (mkF m 2 #[rv a1, iv p2, iv p3, iv p4, iv p5] [(.int p5)]))
  refine own_st (fun t k => XS.iloadN X0.here hx rfl (hb hby d2_2) rfl k) ?_
  show own_Fin _ _ _ _ _ _ _ (s₁.setTop (mkF m 3 #[rv a1, iv p2, iv p3, iv p4, iv p5] [(.int p3), (.int p5)]))
  by_cases hc3_1 : p5 < p3
  · refine own_st (fun t k => XS.icmpNo X0.here hx rfl (hb hby d2_3) rfl (tlt hc3_1).2.1 k) ?_
    show own_Fin _ _ _ _ _ _ _ (s₁.setTop (mkF m 6 #[rv a1, iv p2, iv p3, iv p4, iv p5] []))
    refine own_st (fun t k => XS.aloadN X0.here hx rfl (hb hby d2_6) rfl rfl k) ?_
    show own_Fin _ _ _ _ _ _ _ (s₁.setTop (mkF m 7 #[rv a1, iv p2, iv p3, iv p4, iv p5] [(.ref a1)]))
    refine own_st (fun t k => XS.iloadN X0.here hx rfl (hb hby d2_7) rfl k) ?_
    show own_Fin _ _ _ _ _ _ _ (s₁.setTop (mkF m 8 #[rv a1, iv p2, iv p3, iv p4, iv p5] [(.int p2), (.ref a1)]))
    refine own_st (fun t k => XS.iload X0.here hx rfl (hb hby d2_8) rfl k) ?_
    show own_Fin _ _ _ _ _ _ _ (s₁.setTop (mkF m 10 #[rv a1, iv p2, iv p3, iv p4, iv p5] [(.int p5), (.int p2), (.ref a1)]))
    refine own_st (fun t k => XS.iadd X0.here hx rfl (hb hby d2_10) rfl k) ?_
    show own_Fin _ _ _ _ _ _ _ (s₁.setTop (mkF m 11 #[rv a1, iv p2, iv p3, iv p4, iv p5] [(.int (p2 + p5)), (.ref a1)]))
    obtain ⟨cl2, Ar2, Cq2, Sz2, Mn2, Hs2, Gf2⟩ := id Vi
    have hin2 := inb_of Sz2 (j := (p2 + p5)) (hin hc3_1)
    refine own_st (X0.iaload hx (j := (p2 + p5)) (v := (.int wa)) (by rw [e0]; exact Ar2.1) (State.isArrayOf_alike hZ.alike Ar2.2.1) Ar2.2.2 hin2 (Hs2.at hin2 (hat hc3_1)) (g := (mkF m 11 #[rv a1, iv p2, iv p3, iv p4, iv p5] [(.int (p2 + p5)), (.ref a1)])) rfl rfl (hb hby d2_11)) ?_
    show own_Fin _ _ _ _ _ _ _ (s₁.setTop (mkF m 12 #[rv a1, iv p2, iv p3, iv p4, iv p5] [(.int wa)]))
    obtain ⟨_, _, ⟨T3, L3, k3, n3⟩, -, X3, ⟨Lc3, hQ3, l3, y3, z3⟩, st3⟩ := Jvm.LawKit.callS X0 hx (y := (⟨"com/example/quietzone/quietzone/datamatrix/CodewordWriterEdifactPinLaw", "six", "(I)I"⟩ : MethodName)) hown (mvT hZ (hw _ (List.mem_of_getElem? (i := 48) rfl))) (mvT hZ (hw _ (List.mem_of_getElem? (i := 49) rfl))) (mvT hZ (hw _ (List.mem_of_getElem? (i := 3) rfl))) (mvT hZ (hw _ (List.mem_of_getElem? (i := 50) rfl))) (by decide) (backOf (W := 0) (rm9 l Z a0 hw [] wa h0 n0 Z0) hZ (hw _ (List.mem_of_getElem? (i := 50) rfl)) (hw _ (List.mem_of_getElem? (i := 3) rfl)) (by decide) (by decide)) (g := (mkF m 12 #[rv a1, iv p2, iv p3, iv p4, iv p5] [(.int wa)])) rfl (by rw [hml]; rfl) (argsL := [(.int wa)]) (rest := []) (lenOf pd_2_0 rfl) rfl (by show 2 * 0 + _ ≤ _; exact Nat.le_of_eq rfl) (hb hby d2_12) (fun _ _ => ⟨rfl, e0, (by decide : 0 + 0 ≤ _), (by decide : 0 + 0 ≤ _)⟩)
    dsimp only [Pt.U, Pt.locs, Pt.cells, Pt.slots] at X3 l3 y3 z3 st3 hQ3
    subst l3 y3 z3
    obtain ⟨rfl, N3q, e3⟩ := hQ3
    have N3 := Fr.app N0 N3q
    refine own_st st3 ?_
    show own_Fin _ _ _ _ _ _ _ (T3.setTop (mkF m 15 #[rv a1, iv p2, iv p3, iv p4, iv p5] [(.int (own_F9 wa))]))
    have hv : own_val p3 p4 p5 wa = (own_six wa) := by unfold own_val; rw [if_pos hc3_1]
    exact own_retI X3 hx Bd.notSynchronized Bd.returns (hb hby d2_15) (by decide) (by decide) (by rw [e3]; unfold own_Q_rm2; rw [hv]; exact ⟨rfl, N3, rfl⟩)
  · refine own_st (fun t k => XS.icmpYes X0.here hx rfl (pc0 := 3) (pc' := 16) rfl (hb hby d2_3) rfl (flt hc3_1).2.1 (by decide) (by decide) k) ?_
    show own_Fin _ _ _ _ _ _ _ (s₁.setTop (mkF m 16 #[rv a1, iv p2, iv p3, iv p4, iv p5] []))
    refine own_st (fun t k => XS.iload X0.here hx rfl (hb hby d2_16) rfl k) ?_
    show own_Fin _ _ _ _ _ _ _ (s₁.setTop (mkF m 18 #[rv a1, iv p2, iv p3, iv p4, iv p5] [(.int p5)]))
    refine own_st (fun t k => XS.iloadN X0.here hx rfl (hb hby d2_18) rfl k) ?_
    show own_Fin _ _ _ _ _ _ _ (s₁.setTop (mkF m 19 #[rv a1, iv p2, iv p3, iv p4, iv p5] [(.int p3), (.int p5)]))
    by_cases hc19_4 : p5 = p3
    · refine own_st (fun t k => XS.icmpNo X0.here hx rfl (hb hby d2_19) rfl (teq hc19_4).2 k) ?_
      show own_Fin _ _ _ _ _ _ _ (s₁.setTop (mkF m 22 #[rv a1, iv p2, iv p3, iv p4, iv p5] []))
      refine own_st (fun t k => XS.iloadN X0.here hx rfl (hb hby d2_22) rfl k) ?_
      show own_Fin _ _ _ _ _ _ _ (s₁.setTop (mkF m 23 #[rv a1, iv p2, iv p3, iv p4, iv p5] [(.int p4)]))
      by_cases hc23_5 : p4 = (0 : Int32)
      · refine own_st (fun t k => XS.ifYes X0.here hx rfl (pc0 := 23) (pc' := 29) rfl (hb hby d2_23) rfl ((if0 _ _).trans (teq hc23_5).1) (by decide) (by decide) k) ?_
        show own_Fin _ _ _ _ _ _ _ (s₁.setTop (mkF m 29 #[rv a1, iv p2, iv p3, iv p4, iv p5] []))
        refine own_st (fun t k => XS.iconst X0.here hx rfl (hb hby d2_29) k) ?_
        show own_Fin _ _ _ _ _ _ _ (s₁.setTop (mkF m 30 #[rv a1, iv p2, iv p3, iv p4, iv p5] [(.int (0 : Int32))]))
        have hv : own_val p3 p4 p5 wa = (0 : Int32) := by unfold own_val; rw [if_neg hc3_1, if_pos hc19_4, if_pos hc23_5]
        exact own_retI X0 hx Bd.notSynchronized Bd.returns (hb hby d2_30) (by decide) (by decide) (by rw [e0]; unfold own_Q_rm2; rw [hv]; exact ⟨rfl, N0, rfl⟩)
      · refine own_st (fun t k => XS.ifNo X0.here hx rfl (hb hby d2_23) rfl ((if0 _ _).trans (feq hc23_5).1) k) ?_
        show own_Fin _ _ _ _ _ _ _ (s₁.setTop (mkF m 26 #[rv a1, iv p2, iv p3, iv p4, iv p5] []))
        refine own_st (fun t k => XS.bipush X0.here hx rfl (hb hby d2_26) k) ?_
        show own_Fin _ _ _ _ _ _ _ (s₁.setTop (mkF m 28 #[rv a1, iv p2, iv p3, iv p4, iv p5] [(.int (31 : Int32))]))
        have hv : own_val p3 p4 p5 wa = (31 : Int32) := by unfold own_val; rw [if_neg hc3_1, if_pos hc19_4, if_neg hc23_5]
        exact own_retI X0 hx Bd.notSynchronized Bd.returns (hb hby d2_28) (by decide) (by decide) (by rw [e0]; unfold own_Q_rm2; rw [hv]; exact ⟨rfl, N0, rfl⟩)
    · refine own_st (fun t k => XS.icmpYes X0.here hx rfl (pc0 := 19) (pc' := 29) rfl (hb hby d2_19) rfl (feq hc19_4).2 (by decide) (by decide) k) ?_
      show own_Fin _ _ _ _ _ _ _ (s₁.setTop (mkF m 29 #[rv a1, iv p2, iv p3, iv p4, iv p5] []))
      refine own_st (fun t k => XS.iconst X0.here hx rfl (hb hby d2_29) k) ?_
      show own_Fin _ _ _ _ _ _ _ (s₁.setTop (mkF m 30 #[rv a1, iv p2, iv p3, iv p4, iv p5] [(.int (0 : Int32))]))
      have hv : own_val p3 p4 p5 wa = (0 : Int32) := by unfold own_val; rw [if_neg hc3_1, if_neg hc19_4]
      exact own_retI X0 hx Bd.notSynchronized Bd.returns (hb hby d2_30) (by decide) (by decide) (by rw [e0]; unfold own_Q_rm2; rw [hv]; exact ⟨rfl, N0, rfl⟩)
theorem d3_0 : decode prog_34_method_1_code 0 = .ok (.aload_n 0, 1) := by decide +kernel
theorem d3_1 : decode prog_34_method_1_code 1 = .ok (.invokespecial 3, 3) := by decide +kernel
theorem d3_4 : decode prog_34_method_1_code 4 = .ok (.aload_n 0, 1) := by decide +kernel
theorem d3_5 : decode prog_34_method_1_code 5 = .ok (.bipush 6, 2) := by decide +kernel
theorem d3_7 : decode prog_34_method_1_code 7 = .ok (.newarray .int, 2) := by decide +kernel
theorem d3_9 : decode prog_34_method_1_code 9 = .ok (.putfield 9, 3) := by decide +kernel
theorem d3_12 : decode prog_34_method_1_code 12 = .ok (.aload_n 0, 1) := by decide +kernel
theorem d3_13 : decode prog_34_method_1_code 13 = .ok (.iconst 4, 1) := by decide +kernel
theorem d3_14 : decode prog_34_method_1_code 14 = .ok (.newarray .int, 2) := by decide +kernel
theorem d3_16 : decode prog_34_method_1_code 16 = .ok (.putfield 13, 3) := by decide +kernel
theorem d3_19 : decode prog_34_method_1_code 19 = .ok (.aload_n 0, 1) := by decide +kernel
theorem d3_20 : decode prog_34_method_1_code 20 = .ok (.iload_n 1, 1) := by decide +kernel
theorem d3_21 : decode prog_34_method_1_code 21 = .ok (.newarray .int, 2) := by decide +kernel
theorem d3_23 : decode prog_34_method_1_code 23 = .ok (.putfield 16, 3) := by decide +kernel
theorem d3_26 : decode prog_34_method_1_code 26 = .ok (.return_, 1) := by decide +kernel
theorem pn_3 : plainFor (⟨"com/example/quietzone/quietzone/datamatrix/CodewordWriter", "<init>", "(I)V"⟩ : MethodName) = true := plainFor_of_name (x := (⟨"com/example/quietzone/quietzone/datamatrix/CodewordWriter", "<init>", "(I)V"⟩ : MethodName)) (by first | (simp [plainName, overriddenIn]; done) | decide +kernel)
theorem ef_3 (m : MethodId) (a1 : Addr) (p2 : Int32) : entryFrame m #[(.ref a1), (.int p2)] 2 = mkF m 0 #[rv a1, iv p2] [] := by first | (simp [entryFrame, mkF, argsToLocals, Value.category]; done) | rfl
def own_Q_rm3 (Z : State) (a1 : Addr) (p2 : Int32)  (h0 : Heap) (n0 : Nat) (v : Option Value) (h : Heap) (L : List Loc) : Prop := v = none ∧ Fr n0 L ∧ Keep h0 h [a1] ∧ Exa Z h a1 "com/example/quietzone/quietzone/datamatrix/CodewordWriter" ∧ Fld Z h a1 "com/example/quietzone/quietzone/datamatrix/CodewordWriter" "count" "I" (.int (0 : Int32)) ∧ ∃ (t : Addr) (kt : ClassId), n0 ≤ t ∧ h0.size ≤ t ∧ Fld Z h a1 "com/example/quietzone/quietzone/datamatrix/CodewordWriter" "codewords" "[I" (.ref t) ∧ Arv Z h t kt .int p2 [] (.int (0 : Int32))
set_option maxRecDepth 65536 in
set_option maxHeartbeats 40000000 in
theorem rm3 (l : Launch) (Z : State) (a0 : Array Value) (hw : ∀ d ∈ tables_1, d.before a0 Z = true) (ws : List Jvm.Cond) (a1 : Addr) (p2 : Int32)  (h0 : Heap) (n0 : Nat) (Z0 : n0 ≤ h0.size) (Ei : Exa Z h0 a1 "com/example/quietzone/quietzone/datamatrix/CodewordWriter") (Fi_values : Fld Z h0 a1 "com/example/quietzone/quietzone/datamatrix/CodewordWriter" "values" "[I" .null) (Fi_added : Fld Z h0 a1 "com/example/quietzone/quietzone/datamatrix/CodewordWriter" "added" "[I" .null) (Fi_codewords : Fld Z h0 a1 "com/example/quietzone/quietzone/datamatrix/CodewordWriter" "codewords" "[I" .null) (Fi_count : Fld Z h0 a1 "com/example/quietzone/quietzone/datamatrix/CodewordWriter" "count" "I" (.int (0 : Int32))) (gi : n0 ≤ a1) (hn0 : ¬ p2 < 0) (hn8 : p2.toNatClampNeg ≤ 8) :
    MetFree l (⟨"com/example/quietzone/quietzone/datamatrix/CodewordWriter", "<init>", "(I)V"⟩ : MethodName) (head1 (Jvm.Cond.code (⟨"com/example/quietzone/quietzone/datamatrix/CodewordWriter", "<init>", "(I)V"⟩ : MethodName) prog_34_method_1_code 2 none :: ws) ({ frames := 1, cells := 3, slots := 18, locals := 12 } : Room)) (fun a U => a = #[(.ref a1), (.int p2)] ∧ Z.Warmed39 U.vm ∧ U.heap = h0) (fun _ _ _ _ _ => True) (fun _ U o U' => ∃ v L, o = .returned v ∧ own_Q_rm3 Z a1 p2 h0 n0 v U'.heap L ∧ FrameEnd U o U' L ({ frames := 1, cells := 3, slots := 18, locals := 12 } : Room).cells ({ frames := 1, cells := 3, slots := 18, locals := 12 } : Room).slots) := by
  refine MetFree.of_bodySF pn_3 hisR ?_
  intro p e s m args below meth c s₁ Bd hml0 hP hK
  obtain ⟨rfl, hZ, hh⟩ := hP
  have hx := Bd.exec
  have hby := Bd.bytes
  have hml : c.maxLocals = 2 := hml0
  have hown : s.vm.findClass "com/example/quietzone/quietzone/datamatrix/CodewordWriter" = some m.cls := findClass_of_methodNamed Bd.named
  have hnm := (name_of_methodNamed Bd.named Bd.method).1
  have X0 : Stand p l e ({ frames := 1, cells := 3, slots := 18, locals := 12 } : Room) s m #[(.ref a1), (.int p2)] below meth c s₁ [] 0 0 := Stand.of_body Bd
  have e0 : s₁.heap = h0 := by rw [← hh, Bd.state]; rfl
  have N0 := Fr.nil n0
  have KR : Keep h0 h0 [a1] := Keep.refl h0 [a1]
  show own_Fin p.tables e below s (({ frames := 1, cells := 3, slots := 18, locals := 12 } : Room).cells) (({ frames := 1, cells := 3, slots := 18, locals := 12 } : Room).slots) (own_Q_rm3 Z a1 p2 h0 n0) (s₁.setTop (entryFrame m #[(.ref a1), (.int p2)] 2))
  rw [ef_3 m a1 p2]
  show own_Fin _ _ _ _ _ _ _ (s₁.setTop (mkF m 0 #[rv a1, iv p2] []))
  refine own_st (fun t k => XS.aloadN X0.here hx rfl (hb hby d3_0) rfl rfl k) ?_
  show own_Fin _ _ _ _ _ _ _ (s₁.setTop (mkF m 1 #[rv a1, iv p2] [(.ref a1)]))
  obtain ⟨T1, X1, e1, st1⟩ := initO X0 hx hZ hown (hw _ (List.mem_of_getElem? (i := 15) rfl)) (hw _ (List.mem_of_getElem? (i := 16) rfl)) (hw _ (List.mem_of_getElem? (i := 17) rfl)) e0 (g := (mkF m 1 #[rv a1, iv p2] [(.ref a1)])) rfl (by rw [hml]; rfl) rfl (hb hby d3_1) (by decide) (W := 0) (by show 2 * 0 + _ ≤ _; exact Nat.le_of_eq rfl) (by decide)
  refine own_st st1 ?_
  show own_Fin _ _ _ _ _ _ _ (T1.setTop (mkF m 4 #[rv a1, iv p2] []))
  refine own_st (fun t k => XS.aloadN X1.here hx rfl (hb hby d3_4) rfl rfl k) ?_
  show own_Fin _ _ _ _ _ _ _ (T1.setTop (mkF m 5 #[rv a1, iv p2] [(.ref a1)]))
  refine own_st (fun t k => XS.bipush X1.here hx rfl (hb hby d3_5) k) ?_
  show own_Fin _ _ _ _ _ _ _ (T1.setTop (mkF m 7 #[rv a1, iv p2] [(.int (6 : Int32)), (.ref a1)]))
  obtain ⟨T2, h2, k2, X2, e2, E2, A2, st2⟩ := newP X1 hx hZ (hw _ (List.mem_of_getElem? (i := 0) rfl)) e1 (g := (mkF m 7 #[rv a1, iv p2] [(.int (6 : Int32)), (.ref a1)])) rfl (hb hby d3_7) rfl (by decide) (cap := 6) (by decide) (by decide) (by decide) (by decide)
  obtain ⟨b2, g2⟩ : ∃ z, z = h0.size := ⟨_, rfl⟩
  rw [← g2] at A2 st2
  have f2_0 := Ei.ext E2
  have f2_1 := Fi_values.ext E2
  have f2_2 := Fi_added.ext E2
  have f2_3 := Fi_codewords.ext E2
  have f2_4 := Fi_count.ext E2
  have ne_a1_b2 : a1 ≠ b2 := Nat.ne_of_lt (Nat.lt_of_lt_of_le Ei.lt (Nat.le_of_eq g2.symm))
  have ge_b2 : n0 ≤ b2 := Nat.le_trans Z0 (Nat.le_of_eq g2.symm)
  have sz_b2 : h0.size ≤ b2 := Nat.le_trans KR.1 (Nat.le_of_eq g2.symm)
  have Z2 : n0 ≤ h2.size := Nat.le_trans Z0 E2.1
  have K2 : Keep h0 h2 [a1] := KR.ext E2
  have V2 : Arv Z h2 b2 k2 .int (6 : Int32) [(.int (0 : Int32)), (.int (0 : Int32)), (.int (0 : Int32)), (.int (0 : Int32)), (.int (0 : Int32)), (.int (0 : Int32))] (.int (0 : Int32)) := (Arv.new A2 (by decide)).pad (pad_rep [] (.int (0 : Int32)) 6)
  refine own_st st2 ?_
  show own_Fin _ _ _ _ _ _ _ (T2.setTop (mkF m 9 #[rv a1, iv p2] [(.ref b2), (.ref a1)]))
  obtain ⟨T3, h3, X3, e3, W3, st3⟩ := putF X2 hx hZ hown (host := "") (Or.inl (hw _ (List.mem_of_getElem? (i := 18) rfl))) Via.refl e2 f2_1 f2_0 (Or.inr ⟨(hw _ (List.mem_of_getElem? (i := 19) rfl)), rfl, hnm⟩) (hw _ (List.mem_of_getElem? (i := 10) rfl)) (ty := (.array .int)) (by decide) rfl rfl (g := (mkF m 9 #[rv a1, iv p2] [(.ref b2), (.ref a1)])) rfl rfl (hb hby d3_9)
  have f3_0 := f2_0.wr W3
  have f3_1 := f2_2.other W3 (Or.inr (slot_ne (Or.inr (hw _ (List.mem_of_getElem? (i := 21) rfl))) (Or.inr (hw _ (List.mem_of_getElem? (i := 19) rfl))) (by decide) (t := (.array .int)) (t' := (.array .int)) (by decide) (by decide)))
  have f3_2 := f2_3.other W3 (Or.inr (slot_ne (Or.inr (hw _ (List.mem_of_getElem? (i := 23) rfl))) (Or.inr (hw _ (List.mem_of_getElem? (i := 19) rfl))) (by decide) (t := (.array .int)) (t' := (.array .int)) (by decide) (by decide)))
  have f3_3 := f2_4.other W3 (Or.inr (slot_ne (Or.inl (hw _ (List.mem_of_getElem? (i := 30) rfl))) (Or.inr (hw _ (List.mem_of_getElem? (i := 19) rfl))) (by decide) (t := .int) (t' := (.array .int)) (by decide) (by decide)))
  have f3_4 := V2.other W3 (Ne.symm ne_a1_b2)
  have Fw3 : Fld Z h3 a1 "com/example/quietzone/quietzone/datamatrix/CodewordWriter" "values" "[I" (.ref b2) := f2_1.same W3
  have N3 := Fr.snoc X3 N0 gi
  have Z3 : n0 ≤ h3.size := Nat.le_trans Z2 (Keep.of_wr W3).1
  have K3 : Keep h0 h3 [a1] := K2.wr W3 (Or.inl (List.mem_of_getElem? (i := 0) rfl))
  refine own_st st3 ?_
  show own_Fin _ _ _ _ _ _ _ (T3.setTop (mkF m 12 #[rv a1, iv p2] []))
  refine own_st (fun t k => XS.aloadN X3.here hx rfl (hb hby d3_12) rfl rfl k) ?_
  show own_Fin _ _ _ _ _ _ _ (T3.setTop (mkF m 13 #[rv a1, iv p2] [(.ref a1)]))
  refine own_st (fun t k => XS.iconst X3.here hx rfl (hb hby d3_13) k) ?_
  show own_Fin _ _ _ _ _ _ _ (T3.setTop (mkF m 14 #[rv a1, iv p2] [(.int (4 : Int32)), (.ref a1)]))
  obtain ⟨T4, h4, k4, X4, e4, E4, A4, st4⟩ := newP X3 hx hZ (hw _ (List.mem_of_getElem? (i := 0) rfl)) e3 (g := (mkF m 14 #[rv a1, iv p2] [(.int (4 : Int32)), (.ref a1)])) rfl (hb hby d3_14) rfl (by decide) (cap := 4) (by decide) (by decide) (by decide) (by decide)
  obtain ⟨b4, g4⟩ : ∃ z, z = h3.size := ⟨_, rfl⟩
  rw [← g4] at A4 st4
  have f4_0 := f3_0.ext E4
  have f4_1 := f3_1.ext E4
  have f4_2 := f3_2.ext E4
  have f4_3 := f3_3.ext E4
  have f4_4 := f3_4.ext E4
  have f4_5 := Fw3.ext E4
  have ne_a1_b4 : a1 ≠ b4 := Nat.ne_of_lt (Nat.lt_of_lt_of_le f3_0.lt (Nat.le_of_eq g4.symm))
  have ne_b2_b4 : b2 ≠ b4 := Nat.ne_of_lt (Nat.lt_of_lt_of_le f3_4.lt (Nat.le_of_eq g4.symm))
  have ge_b4 : n0 ≤ b4 := Nat.le_trans Z3 (Nat.le_of_eq g4.symm)
  have sz_b4 : h0.size ≤ b4 := Nat.le_trans K3.1 (Nat.le_of_eq g4.symm)
  have Z4 : n0 ≤ h4.size := Nat.le_trans Z3 E4.1
  have K4 : Keep h0 h4 [a1] := K3.ext E4
  have V4 : Arv Z h4 b4 k4 .int (4 : Int32) [(.int (0 : Int32)), (.int (0 : Int32)), (.int (0 : Int32)), (.int (0 : Int32))] (.int (0 : Int32)) := (Arv.new A4 (by decide)).pad (pad_rep [] (.int (0 : Int32)) 4)
  refine own_st st4 ?_
  show own_Fin _ _ _ _ _ _ _ (T4.setTop (mkF m 16 #[rv a1, iv p2] [(.ref b4), (.ref a1)]))
  obtain ⟨T5, h5, X5, e5, W5, st5⟩ := putF X4 hx hZ hown (host := "") (Or.inl (hw _ (List.mem_of_getElem? (i := 20) rfl))) Via.refl e4 f4_1 f4_0 (Or.inr ⟨(hw _ (List.mem_of_getElem? (i := 21) rfl)), rfl, hnm⟩) (hw _ (List.mem_of_getElem? (i := 10) rfl)) (ty := (.array .int)) (by decide) rfl rfl (g := (mkF m 16 #[rv a1, iv p2] [(.ref b4), (.ref a1)])) rfl rfl (hb hby d3_16)
  have f5_0 := f4_0.wr W5
  have f5_1 := f4_2.other W5 (Or.inr (slot_ne (Or.inr (hw _ (List.mem_of_getElem? (i := 23) rfl))) (Or.inr (hw _ (List.mem_of_getElem? (i := 21) rfl))) (by decide) (t := (.array .int)) (t' := (.array .int)) (by decide) (by decide)))
  have f5_2 := f4_3.other W5 (Or.inr (slot_ne (Or.inl (hw _ (List.mem_of_getElem? (i := 30) rfl))) (Or.inr (hw _ (List.mem_of_getElem? (i := 21) rfl))) (by decide) (t := .int) (t' := (.array .int)) (by decide) (by decide)))
  have f5_3 := f4_4.other W5 (Ne.symm ne_a1_b2)
  have f5_4 := f4_5.other W5 (Or.inr (slot_ne (Or.inr (hw _ (List.mem_of_getElem? (i := 19) rfl))) (Or.inr (hw _ (List.mem_of_getElem? (i := 21) rfl))) (by decide) (t := (.array .int)) (t' := (.array .int)) (by decide) (by decide)))
  have f5_5 := V4.other W5 (Ne.symm ne_a1_b4)
  have Fw5 : Fld Z h5 a1 "com/example/quietzone/quietzone/datamatrix/CodewordWriter" "added" "[I" (.ref b4) := f4_1.same W5
  have N5 := Fr.snoc X5 N3 gi
  have Z5 : n0 ≤ h5.size := Nat.le_trans Z4 (Keep.of_wr W5).1
  have K5 : Keep h0 h5 [a1] := K4.wr W5 (Or.inl (List.mem_of_getElem? (i := 0) rfl))
  refine own_st st5 ?_
  show own_Fin _ _ _ _ _ _ _ (T5.setTop (mkF m 19 #[rv a1, iv p2] []))
  refine own_st (fun t k => XS.aloadN X5.here hx rfl (hb hby d3_19) rfl rfl k) ?_
  show own_Fin _ _ _ _ _ _ _ (T5.setTop (mkF m 20 #[rv a1, iv p2] [(.ref a1)]))
  refine own_st (fun t k => XS.iloadN X5.here hx rfl (hb hby d3_20) rfl k) ?_
  show own_Fin _ _ _ _ _ _ _ (T5.setTop (mkF m 21 #[rv a1, iv p2] [(.int p2), (.ref a1)]))
  obtain ⟨T6, h6, k6, X6, e6, E6, A6, st6⟩ := newP X5 hx hZ (hw _ (List.mem_of_getElem? (i := 0) rfl)) e5 (g := (mkF m 21 #[rv a1, iv p2] [(.int p2), (.ref a1)])) rfl (hb hby d3_21) rfl hn0 (cap := 8) hn8 (by decide) (by decide) (by decide)
  obtain ⟨b6, g6⟩ : ∃ z, z = h5.size := ⟨_, rfl⟩
  rw [← g6] at A6 st6
  have f6_0 := f5_0.ext E6
  have f6_1 := f5_1.ext E6
  have f6_2 := f5_2.ext E6
  have f6_3 := f5_3.ext E6
  have f6_4 := f5_4.ext E6
  have f6_5 := f5_5.ext E6
  have f6_6 := Fw5.ext E6
  have ne_a1_b6 : a1 ≠ b6 := Nat.ne_of_lt (Nat.lt_of_lt_of_le f5_0.lt (Nat.le_of_eq g6.symm))
  have ne_b2_b6 : b2 ≠ b6 := Nat.ne_of_lt (Nat.lt_of_lt_of_le f5_3.lt (Nat.le_of_eq g6.symm))
  have ne_b4_b6 : b4 ≠ b6 := Nat.ne_of_lt (Nat.lt_of_lt_of_le f5_5.lt (Nat.le_of_eq g6.symm))
  have ge_b6 : n0 ≤ b6 := Nat.le_trans Z5 (Nat.le_of_eq g6.symm)
  have sz_b6 : h0.size ≤ b6 := Nat.le_trans K5.1 (Nat.le_of_eq g6.symm)
  have Z6 : n0 ≤ h6.size := Nat.le_trans Z5 E6.1
  have K6 : Keep h0 h6 [a1] := K5.ext E6
  have V6 : Arv Z h6 b6 k6 .int p2 [] (.int (0 : Int32)) := Arv.new A6 hn0
  refine own_st st6 ?_
  show own_Fin _ _ _ _ _ _ _ (T6.setTop (mkF m 23 #[rv a1, iv p2] [(.ref b6), (.ref a1)]))
  obtain ⟨T7, h7, X7, e7, W7, st7⟩ := putF X6 hx hZ hown (host := "") (Or.inl (hw _ (List.mem_of_getElem? (i := 22) rfl))) Via.refl e6 f6_1 f6_0 (Or.inr ⟨(hw _ (List.mem_of_getElem? (i := 23) rfl)), rfl, hnm⟩) (hw _ (List.mem_of_getElem? (i := 10) rfl)) (ty := (.array .int)) (by decide) rfl rfl (g := (mkF m 23 #[rv a1, iv p2] [(.ref b6), (.ref a1)])) rfl rfl (hb hby d3_23)
  have f7_0 := f6_0.wr W7
  have f7_1 := f6_2.other W7 (Or.inr (slot_ne (Or.inl (hw _ (List.mem_of_getElem? (i := 30) rfl))) (Or.inr (hw _ (List.mem_of_getElem? (i := 23) rfl))) (by decide) (t := .int) (t' := (.array .int)) (by decide) (by decide)))
  have f7_2 := f6_3.other W7 (Ne.symm ne_a1_b2)
  have f7_3 := f6_4.other W7 (Or.inr (slot_ne (Or.inr (hw _ (List.mem_of_getElem? (i := 19) rfl))) (Or.inr (hw _ (List.mem_of_getElem? (i := 23) rfl))) (by decide) (t := (.array .int)) (t' := (.array .int)) (by decide) (by decide)))
  have f7_4 := f6_5.other W7 (Ne.symm ne_a1_b4)
  have f7_5 := f6_6.other W7 (Or.inr (slot_ne (Or.inr (hw _ (List.mem_of_getElem? (i := 21) rfl))) (Or.inr (hw _ (List.mem_of_getElem? (i := 23) rfl))) (by decide) (t := (.array .int)) (t' := (.array .int)) (by decide) (by decide)))
  have f7_6 := V6.other W7 (Ne.symm ne_a1_b6)
  have Fw7 : Fld Z h7 a1 "com/example/quietzone/quietzone/datamatrix/CodewordWriter" "codewords" "[I" (.ref b6) := f6_1.same W7
  have N7 := Fr.snoc X7 N5 gi
  have Z7 : n0 ≤ h7.size := Nat.le_trans Z6 (Keep.of_wr W7).1
  have K7 : Keep h0 h7 [a1] := K6.wr W7 (Or.inl (List.mem_of_getElem? (i := 0) rfl))
  refine own_st st7 ?_
  show own_Fin _ _ _ _ _ _ _ (T7.setTop (mkF m 26 #[rv a1, iv p2] []))
  exact own_retV X7 hx Bd.notSynchronized Bd.returns (hb hby d3_26) (by decide) (by decide) (by rw [e7]; exact ⟨rfl, N7, K7, f7_0, f7_1, b6, k6, ge_b6, sz_b6, Fw7, f7_6⟩)
theorem d10_0 : decode prog_34_method_2_code 0 = .ok (.aload_n 0, 1) := by decide +kernel
theorem d10_1 : decode prog_34_method_2_code 1 = .ok (.getfield 16, 3) := by decide +kernel
theorem d10_4 : decode prog_34_method_2_code 4 = .ok (.aload_n 0, 1) := by decide +kernel
theorem d10_5 : decode prog_34_method_2_code 5 = .ok (.dup, 1) := by decide +kernel
theorem d10_6 : decode prog_34_method_2_code 6 = .ok (.getfield 19, 3) := by decide +kernel
theorem d10_9 : decode prog_34_method_2_code 9 = .ok (.dup_x1, 1) := by decide +kernel
theorem d10_10 : decode prog_34_method_2_code 10 = .ok (.iconst 1, 1) := by decide +kernel
theorem d10_11 : decode prog_34_method_2_code 11 = .ok (.iadd, 1) := by decide +kernel
theorem d10_12 : decode prog_34_method_2_code 12 = .ok (.putfield 19, 3) := by decide +kernel
theorem d10_15 : decode prog_34_method_2_code 15 = .ok (.iload_n 1, 1) := by decide +kernel
theorem d10_16 : decode prog_34_method_2_code 16 = .ok (.iastore, 1) := by decide +kernel
theorem d10_17 : decode prog_34_method_2_code 17 = .ok (.return_, 1) := by decide +kernel
theorem pn_10 : plainFor (⟨"com/example/quietzone/quietzone/datamatrix/CodewordWriter", "codeword", "(I)V"⟩ : MethodName) = true := plainFor_of_name (x := (⟨"com/example/quietzone/quietzone/datamatrix/CodewordWriter", "codeword", "(I)V"⟩ : MethodName)) (by first | (simp [plainName, overriddenIn]; done) | decide +kernel)
theorem ef_10 (m : MethodId) (a1 : Addr) (p2 : Int32) : entryFrame m #[(.ref a1), (.int p2)] 2 = mkF m 0 #[rv a1, iv p2] [] := by first | (simp [entryFrame, mkF, argsToLocals, Value.category]; done) | rfl
def own_Q_rm10 (Z : State) (a1 : Addr) (p2 : Int32) (t : Addr) (kt : ClassId) (vs : List Value) (cn : Int32) (h0 : Heap) (n0 : Nat) (v : Option Value) (h : Heap) (L : List Loc) : Prop := v = none ∧ Fr n0 L ∧ Keep h0 h [a1, t] ∧ Exa Z h a1 "com/example/quietzone/quietzone/datamatrix/CodewordWriter" ∧ Fld Z h a1 "com/example/quietzone/quietzone/datamatrix/CodewordWriter" "codewords" "[I" (.ref t) ∧ Fld Z h a1 "com/example/quietzone/quietzone/datamatrix/CodewordWriter" "count" "I" (.int (cn + (1 : Int32))) ∧ Arv Z h t kt .int (8 : Int32) (vs.set cn.toNatClampNeg (.int p2)) (.int (0 : Int32))
set_option maxRecDepth 65536 in
set_option maxHeartbeats 40000000 in
theorem rm10 (l : Launch) (Z : State) (a0 : Array Value) (hw : ∀ d ∈ tables_1, d.before a0 Z = true) (ws : List Jvm.Cond) (a1 : Addr) (p2 : Int32) (t : Addr) (kt : ClassId) (vs : List Value) (cn : Int32) (h0 : Heap) (n0 : Nat) (Z0 : n0 ≤ h0.size) (Ei : Exa Z h0 a1 "com/example/quietzone/quietzone/datamatrix/CodewordWriter") (Fw : Fld Z h0 a1 "com/example/quietzone/quietzone/datamatrix/CodewordWriter" "codewords" "[I" (.ref t)) (Fc : Fld Z h0 a1 "com/example/quietzone/quietzone/datamatrix/CodewordWriter" "count" "I" (.int cn)) (Vt : Arv Z h0 t kt .int (8 : Int32) vs (.int (0 : Int32))) (gi : n0 ≤ a1) (gt : n0 ≤ t) (nat : a1 ≠ t) (hi0 : ¬ cn < 0) (hi1 : cn < (8 : Int32)) (hl : cn.toNatClampNeg < vs.length) :
    MetFree l (⟨"com/example/quietzone/quietzone/datamatrix/CodewordWriter", "codeword", "(I)V"⟩ : MethodName) (head1 (Jvm.Cond.code (⟨"com/example/quietzone/quietzone/datamatrix/CodewordWriter", "codeword", "(I)V"⟩ : MethodName) prog_34_method_2_code 2 none :: ws) ({ frames := 0, cells := 0, slots := 0, locals := 0 } : Room)) (fun a U => a = #[(.ref a1), (.int p2)] ∧ Z.Warmed39 U.vm ∧ U.heap = h0) (fun _ _ _ _ _ => True) (fun _ U o U' => ∃ v L, o = .returned v ∧ own_Q_rm10 Z a1 p2 t kt vs cn h0 n0 v U'.heap L ∧ FrameEnd U o U' L ({ frames := 0, cells := 0, slots := 0, locals := 0 } : Room).cells ({ frames := 0, cells := 0, slots := 0, locals := 0 } : Room).slots) := by
  refine MetFree.of_bodySF pn_10 hisR ?_
  intro p e s m args below meth c s₁ Bd hml0 hP hK
  obtain ⟨rfl, hZ, hh⟩ := hP
  have hx := Bd.exec
  have hby := Bd.bytes
  have hml : c.maxLocals = 2 := hml0
  have hown : s.vm.findClass "com/example/quietzone/quietzone/datamatrix/CodewordWriter" = some m.cls := findClass_of_methodNamed Bd.named
  have hnm := (name_of_methodNamed Bd.named Bd.method).1
  have X0 : Stand p l e ({ frames := 0, cells := 0, slots := 0, locals := 0 } : Room) s m #[(.ref a1), (.int p2)] below meth c s₁ [] 0 0 := Stand.of_body Bd
  have e0 : s₁.heap = h0 := by rw [← hh, Bd.state]; rfl
  have N0 := Fr.nil n0
  have KR : Keep h0 h0 [a1, t] := Keep.refl h0 [a1, t]
  show own_Fin p.tables e below s (({ frames := 0, cells := 0, slots := 0, locals := 0 } : Room).cells) (({ frames := 0, cells := 0, slots := 0, locals := 0 } : Room).slots) (own_Q_rm10 Z a1 p2 t kt vs cn h0 n0) (s₁.setTop (entryFrame m #[(.ref a1), (.int p2)] 2))
  rw [ef_10 m a1 p2]
  show own_Fin _ _ _ _ _ _ _ (s₁.setTop (mkF m 0 #[rv a1, iv p2] []))
  refine own_st (fun t k => XS.aloadN X0.here hx rfl (hb hby d10_0) rfl rfl k) ?_
  show own_Fin _ _ _ _ _ _ _ (s₁.setTop (mkF m 1 #[rv a1, iv p2] [(.ref a1)]))
  obtain ⟨T1, X1, e1, st1⟩ := getF X0 hx hZ hown (host := "") (Or.inl (hw _ (List.mem_of_getElem? (i := 22) rfl))) Via.refl e0 Fw (g := (mkF m 1 #[rv a1, iv p2] [(.ref a1)])) rfl rfl (hb hby d10_1)
  refine own_st st1 ?_
  show own_Fin _ _ _ _ _ _ _ (T1.setTop (mkF m 4 #[rv a1, iv p2] [(.ref t)]))
  refine own_st (fun t k => XS.aloadN X1.here hx rfl (hb hby d10_4) rfl rfl k) ?_
  show own_Fin _ _ _ _ _ _ _ (T1.setTop (mkF m 5 #[rv a1, iv p2] [(.ref a1), (.ref t)]))
  refine own_st (fun t k => XS.dup X1.here hx rfl (hb hby d10_5) rfl rfl k) ?_
  show own_Fin _ _ _ _ _ _ _ (T1.setTop (mkF m 6 #[rv a1, iv p2] [(.ref a1), (.ref a1), (.ref t)]))
  obtain ⟨T2, X2, e2, st2⟩ := getF X1 hx hZ hown (host := "") (Or.inl (hw _ (List.mem_of_getElem? (i := 29) rfl))) Via.refl e1 Fc (g := (mkF m 6 #[rv a1, iv p2] [(.ref a1), (.ref a1), (.ref t)])) rfl rfl (hb hby d10_6)
  refine own_st st2 ?_
  show own_Fin _ _ _ _ _ _ _ (T2.setTop (mkF m 9 #[rv a1, iv p2] [(.int cn), (.ref a1), (.ref t)]))
  refine own_st (fun t k => XS.dupX1 X2.here hx rfl (hb hby d10_9) rfl rfl rfl k) ?_
  show own_Fin _ _ _ _ _ _ _ (T2.setTop (mkF m 10 #[rv a1, iv p2] [(.int cn), (.ref a1), (.int cn), (.ref t)]))
  refine own_st (fun t k => XS.iconst X2.here hx rfl (hb hby d10_10) k) ?_
  show own_Fin _ _ _ _ _ _ _ (T2.setTop (mkF m 11 #[rv a1, iv p2] [(.int (1 : Int32)), (.int cn), (.ref a1), (.int cn), (.ref t)]))
  refine own_st (fun t k => XS.iadd X2.here hx rfl (hb hby d10_11) rfl k) ?_
  show own_Fin _ _ _ _ _ _ _ (T2.setTop (mkF m 12 #[rv a1, iv p2] [(.int (cn + (1 : Int32))), (.ref a1), (.int cn), (.ref t)]))
  obtain ⟨T3, h3, X3, e3, W3, st3⟩ := putF X2 hx hZ hown (host := "") (Or.inl (hw _ (List.mem_of_getElem? (i := 29) rfl))) Via.refl e2 Fc Ei (Or.inl (hw _ (List.mem_of_getElem? (i := 30) rfl))) (hw _ (List.mem_of_getElem? (i := 10) rfl)) (ty := .int) (by decide) rfl rfl (g := (mkF m 12 #[rv a1, iv p2] [(.int (cn + (1 : Int32))), (.ref a1), (.int cn), (.ref t)])) rfl rfl (hb hby d10_12)
  have f3_0 := Ei.wr W3
  have f3_1 := Fw.other W3 (Or.inr (slot_ne (Or.inr (hw _ (List.mem_of_getElem? (i := 23) rfl))) (Or.inl (hw _ (List.mem_of_getElem? (i := 30) rfl))) (by decide) (t := (.array .int)) (t' := .int) (by decide) (by decide)))
  have f3_2 := Vt.other W3 (Ne.symm nat)
  have Fw3 : Fld Z h3 a1 "com/example/quietzone/quietzone/datamatrix/CodewordWriter" "count" "I" (.int (cn + (1 : Int32))) := Fc.same W3
  have N3 := Fr.snoc X3 N0 gi
  have Z3 : n0 ≤ h3.size := Nat.le_trans Z0 (Keep.of_wr W3).1
  have K3 : Keep h0 h3 [a1, t] := KR.wr W3 (Or.inl (List.mem_of_getElem? (i := 0) rfl))
  refine own_st st3 ?_
  show own_Fin _ _ _ _ _ _ _ (T3.setTop (mkF m 15 #[rv a1, iv p2] [(.int cn), (.ref t)]))
  refine own_st (fun t k => XS.iloadN X3.here hx rfl (hb hby d10_15) rfl k) ?_
  show own_Fin _ _ _ _ _ _ _ (T3.setTop (mkF m 16 #[rv a1, iv p2] [(.int p2), (.int cn), (.ref t)]))
  obtain ⟨cl4, Ar4, Cq4, Sz4, Mn4, Hs4, Gf4⟩ := id f3_2
  obtain ⟨T4, h4, X4, e4, W4, st4⟩ := stI X3 hx hZ e3 Ar4 (j := cn) (inb_of Sz4 ⟨hi0, hi1⟩) (g := (mkF m 16 #[rv a1, iv p2] [(.int p2), (.int cn), (.ref t)])) rfl rfl (hb hby d10_16)
  have f4_0 := f3_0.wr W4
  have f4_1 := f3_1.other W4 (Or.inl nat)
  have f4_2 := Fw3.other W4 (Or.inl nat)
  have V4 : Arv Z h4 t kt .int (8 : Int32) (vs.set (cn).toNatClampNeg (.int p2)) (.int (0 : Int32)) := Arv.set Ar4 Cq4 Sz4 Mn4 Hs4 Gf4 rfl W4 (cn).toNatClampNeg rfl hl
  have N4 := Fr.snoc X4 N3 gt
  have Z4 : n0 ≤ h4.size := Nat.le_trans Z3 (Keep.of_wr W4).1
  have K4 : Keep h0 h4 [a1, t] := K3.wr W4 (Or.inl (List.mem_of_getElem? (i := 1) rfl))
  refine own_st st4 ?_
  show own_Fin _ _ _ _ _ _ _ (T4.setTop (mkF m 17 #[rv a1, iv p2] []))
  exact own_retV X4 hx Bd.notSynchronized Bd.returns (hb hby d10_17) (by decide) (by decide) (by rw [e4]; exact ⟨rfl, N4, K4, f4_0, f4_1, f4_2, V4⟩)
theorem own_cn {cn : Int32} (h : cn = (0 : Int32) ∨ cn = (1 : Int32)) {vs : List Value} (hl : vs.length = 8) : (¬ cn < 0 ∧ cn < (8 : Int32)) ∧ (¬ (cn + 1) < 0 ∧ (cn + 1) < (8 : Int32)) ∧ (¬ (cn + 1 + 1) < 0 ∧ (cn + 1 + 1) < (8 : Int32)) ∧ (¬ (cn + 1 + 1 + 1) < 0 ∧ (cn + 1 + 1 + 1) < (8 : Int32)) ∧ cn.toNatClampNeg < vs.length ∧ (cn + 1).toNatClampNeg < vs.length ∧ (cn + 1 + 1).toNatClampNeg < vs.length ∧ (cn + 1 + 1 + 1).toNatClampNeg < vs.length := by
  rw [hl]
  rcases h with rfl | rfl <;> decide
theorem d5_0 : decode prog_34_method_9_code 0 = .ok (.iconst 0, 1) := by decide +kernel
theorem d5_1 : decode prog_34_method_9_code 1 = .ok (.istore 5, 2) := by decide +kernel
theorem d5_3 : decode prog_34_method_9_code 3 = .ok (.iconst 0, 1) := by decide +kernel
theorem d5_4 : decode prog_34_method_9_code 4 = .ok (.istore 6, 2) := by decide +kernel
theorem d5_6 : decode prog_34_method_9_code 6 = .ok (.iload_n 3, 1) := by decide +kernel
theorem d5_7 : decode prog_34_method_9_code 7 = .ok (.iload_n 2, 1) := by decide +kernel
theorem d5_8 : decode prog_34_method_9_code 8 = .ok (.isub, 1) := by decide +kernel
theorem d5_9 : decode prog_34_method_9_code 9 = .ok (.iload 4, 2) := by decide +kernel
theorem d5_11 : decode prog_34_method_9_code 11 = .ok (.ifCond .eq 7, 3) := by decide +kernel
theorem d5_14 : decode prog_34_method_9_code 14 = .ok (.iconst 1, 1) := by decide +kernel
theorem d5_15 : decode prog_34_method_9_code 15 = .ok (.goto 4, 3) := by decide +kernel
theorem d5_18 : decode prog_34_method_9_code 18 = .ok (.iconst 0, 1) := by decide +kernel
theorem d5_19 : decode prog_34_method_9_code 19 = .ok (.iadd, 1) := by decide +kernel
theorem d5_20 : decode prog_34_method_9_code 20 = .ok (.istore 7, 2) := by decide +kernel
theorem d5_22 : decode prog_34_method_9_code 22 = .ok (.iload_n 2, 1) := by decide +kernel
theorem d5_23 : decode prog_34_method_9_code 23 = .ok (.istore 8, 2) := by decide +kernel
theorem d5_25 : decode prog_34_method_9_code 25 = .ok (.iload 8, 2) := by decide +kernel
theorem d5_27 : decode prog_34_method_9_code 27 = .ok (.iload_n 2, 1) := by decide +kernel
theorem d5_28 : decode prog_34_method_9_code 28 = .ok (.iload 7, 2) := by decide +kernel
theorem d5_30 : decode prog_34_method_9_code 30 = .ok (.iadd, 1) := by decide +kernel
theorem d5_31 : decode prog_34_method_9_code 31 = .ok (.if_icmp .ge 76, 3) := by decide +kernel
theorem d5_34 : decode prog_34_method_9_code 34 = .ok (.iload 5, 2) := by decide +kernel
theorem d5_36 : decode prog_34_method_9_code 36 = .ok (.bipush 6, 2) := by decide +kernel
theorem d5_38 : decode prog_34_method_9_code 38 = .ok (.ishl, 1) := by decide +kernel
theorem d5_39 : decode prog_34_method_9_code 39 = .ok (.iload 8, 2) := by decide +kernel
theorem d5_41 : decode prog_34_method_9_code 41 = .ok (.iload_n 3, 1) := by decide +kernel
theorem d5_42 : decode prog_34_method_9_code 42 = .ok (.if_icmp .ge 13, 3) := by decide +kernel
theorem d5_45 : decode prog_34_method_9_code 45 = .ok (.aload_n 1, 1) := by decide +kernel
theorem d5_46 : decode prog_34_method_9_code 46 = .ok (.iload 8, 2) := by decide +kernel
theorem d5_48 : decode prog_34_method_9_code 48 = .ok (.iaload, 1) := by decide +kernel
theorem d5_49 : decode prog_34_method_9_code 49 = .ok (.bipush 63, 2) := by decide +kernel
theorem d5_51 : decode prog_34_method_9_code 51 = .ok (.iand, 1) := by decide +kernel
theorem d5_52 : decode prog_34_method_9_code 52 = .ok (.goto 5, 3) := by decide +kernel
theorem d5_55 : decode prog_34_method_9_code 55 = .ok (.bipush 31, 2) := by decide +kernel
theorem d5_57 : decode prog_34_method_9_code 57 = .ok (.ior, 1) := by decide +kernel
theorem d5_58 : decode prog_34_method_9_code 58 = .ok (.istore 5, 2) := by decide +kernel
theorem d5_60 : decode prog_34_method_9_code 60 = .ok (.iinc 6 6, 3) := by decide +kernel
theorem d5_63 : decode prog_34_method_9_code 63 = .ok (.iload 6, 2) := by decide +kernel
theorem d5_65 : decode prog_34_method_9_code 65 = .ok (.bipush 8, 2) := by decide +kernel
theorem d5_67 : decode prog_34_method_9_code 67 = .ok (.if_icmp .lt 34, 3) := by decide +kernel
theorem d5_70 : decode prog_34_method_9_code 70 = .ok (.iinc 6 (-8), 3) := by decide +kernel
theorem d5_73 : decode prog_34_method_9_code 73 = .ok (.aload_n 0, 1) := by decide +kernel
theorem d5_74 : decode prog_34_method_9_code 74 = .ok (.getfield 16, 3) := by decide +kernel
theorem d5_77 : decode prog_34_method_9_code 77 = .ok (.aload_n 0, 1) := by decide +kernel
theorem d5_78 : decode prog_34_method_9_code 78 = .ok (.dup, 1) := by decide +kernel
theorem d5_79 : decode prog_34_method_9_code 79 = .ok (.getfield 19, 3) := by decide +kernel
theorem d5_82 : decode prog_34_method_9_code 82 = .ok (.dup_x1, 1) := by decide +kernel
theorem d5_83 : decode prog_34_method_9_code 83 = .ok (.iconst 1, 1) := by decide +kernel
theorem d5_84 : decode prog_34_method_9_code 84 = .ok (.iadd, 1) := by decide +kernel
theorem d5_85 : decode prog_34_method_9_code 85 = .ok (.putfield 19, 3) := by decide +kernel
theorem d5_88 : decode prog_34_method_9_code 88 = .ok (.iload 5, 2) := by decide +kernel
theorem d5_90 : decode prog_34_method_9_code 90 = .ok (.iload 6, 2) := by decide +kernel
theorem d5_92 : decode prog_34_method_9_code 92 = .ok (.ishr, 1) := by decide +kernel
theorem d5_93 : decode prog_34_method_9_code 93 = .ok (.sipush 255, 3) := by decide +kernel
theorem d5_96 : decode prog_34_method_9_code 96 = .ok (.iand, 1) := by decide +kernel
theorem d5_97 : decode prog_34_method_9_code 97 = .ok (.iastore, 1) := by decide +kernel
theorem d5_98 : decode prog_34_method_9_code 98 = .ok (.goto (-35), 3) := by decide +kernel
theorem d5_101 : decode prog_34_method_9_code 101 = .ok (.iinc 8 1, 3) := by decide +kernel
theorem d5_104 : decode prog_34_method_9_code 104 = .ok (.goto (-79), 3) := by decide +kernel
theorem d5_107 : decode prog_34_method_9_code 107 = .ok (.iload 6, 2) := by decide +kernel
theorem d5_109 : decode prog_34_method_9_code 109 = .ok (.ifCond .le 31, 3) := by decide +kernel
theorem d5_112 : decode prog_34_method_9_code 112 = .ok (.aload_n 0, 1) := by decide +kernel
theorem d5_113 : decode prog_34_method_9_code 113 = .ok (.getfield 16, 3) := by decide +kernel
theorem d5_116 : decode prog_34_method_9_code 116 = .ok (.aload_n 0, 1) := by decide +kernel
theorem d5_117 : decode prog_34_method_9_code 117 = .ok (.dup, 1) := by decide +kernel
theorem d5_118 : decode prog_34_method_9_code 118 = .ok (.getfield 19, 3) := by decide +kernel
theorem d5_121 : decode prog_34_method_9_code 121 = .ok (.dup_x1, 1) := by decide +kernel
theorem d5_122 : decode prog_34_method_9_code 122 = .ok (.iconst 1, 1) := by decide +kernel
theorem d5_123 : decode prog_34_method_9_code 123 = .ok (.iadd, 1) := by decide +kernel
theorem d5_124 : decode prog_34_method_9_code 124 = .ok (.putfield 19, 3) := by decide +kernel
theorem d5_127 : decode prog_34_method_9_code 127 = .ok (.iload 5, 2) := by decide +kernel
theorem d5_129 : decode prog_34_method_9_code 129 = .ok (.bipush 8, 2) := by decide +kernel
theorem d5_131 : decode prog_34_method_9_code 131 = .ok (.iload 6, 2) := by decide +kernel
theorem d5_133 : decode prog_34_method_9_code 133 = .ok (.isub, 1) := by decide +kernel
theorem d5_134 : decode prog_34_method_9_code 134 = .ok (.ishl, 1) := by decide +kernel
theorem d5_135 : decode prog_34_method_9_code 135 = .ok (.sipush 255, 3) := by decide +kernel
theorem d5_138 : decode prog_34_method_9_code 138 = .ok (.iand, 1) := by decide +kernel
theorem d5_139 : decode prog_34_method_9_code 139 = .ok (.iastore, 1) := by decide +kernel
theorem d5_140 : decode prog_34_method_9_code 140 = .ok (.return_, 1) := by decide +kernel
theorem pn_5 : plainFor (⟨"com/example/quietzone/quietzone/datamatrix/CodewordWriter", "edifact", "([IIIZ)V"⟩ : MethodName) = true := plainFor_of_name (x := (⟨"com/example/quietzone/quietzone/datamatrix/CodewordWriter", "edifact", "([IIIZ)V"⟩ : MethodName)) (by first | (simp [plainName, overriddenIn]; done) | decide +kernel)
theorem ef_5 (m : MethodId) (a1 : Addr) (a2 : Addr) (p3 : Int32) (p4 : Int32) (p5 : Int32) : entryFrame m #[(.ref a1), (.ref a2), (.int p3), (.int p4), (.int p5)] 9 = mkF m 0 #[rv a1, rv a2, iv p3, iv p4, iv p5, .unset, .unset, .unset, .unset] [] := by first | (simp [entryFrame, mkF, argsToLocals, Value.category]; done) | rfl
def own_Q_rmE_0_0_1 (Z : State)  (a1 a2 : Addr) (t : Addr) (kt : ClassId) (vs : List Value) (cn : Int32) (kc : ClassId) (vc : List Value) (w0 w1 w2 w3 : Int32) (h0 : Heap) (n0 : Nat) (v : Option Value) (h : Heap) (L : List Loc) : Prop := v = none ∧ Fr n0 L ∧ Keep h0 h [a1, t] ∧ Exa Z h a1 "com/example/quietzone/quietzone/datamatrix/CodewordWriter" ∧ Fld Z h a1 "com/example/quietzone/quietzone/datamatrix/CodewordWriter" "codewords" "[I" (.ref t) ∧ Fld Z h a1 "com/example/quietzone/quietzone/datamatrix/CodewordWriter" "count" "I" (.int (own_cnt cn (own_ks 0 1 w0 w1 w2 w3))) ∧ Arv Z h t kt .int (8 : Int32) (own_app vs cn (own_ks 0 1 w0 w1 w2 w3)) (.int (0 : Int32))
set_option maxRecDepth 65536 in
set_option maxHeartbeats 40000000 in
theorem rmE_0_0_1 (l : Launch) (Z : State) (a0 : Array Value) (hw : ∀ d ∈ tables_1, d.before a0 Z = true) (ws : List Jvm.Cond)  (a1 a2 : Addr) (t : Addr) (kt : ClassId) (vs : List Value) (cn : Int32) (kc : ClassId) (vc : List Value) (w0 w1 w2 w3 : Int32) (h0 : Heap) (n0 : Nat) (Z0 : n0 ≤ h0.size) (Ei : Exa Z h0 a1 "com/example/quietzone/quietzone/datamatrix/CodewordWriter") (Fw : Fld Z h0 a1 "com/example/quietzone/quietzone/datamatrix/CodewordWriter" "codewords" "[I" (.ref t)) (Fc : Fld Z h0 a1 "com/example/quietzone/quietzone/datamatrix/CodewordWriter" "count" "I" (.int cn)) (Vt : Arv Z h0 t kt .int (8 : Int32) vs (.int (0 : Int32))) (gi : n0 ≤ a1) (gt : n0 ≤ t) (nat : a1 ≠ t) (Vc : Arv Z h0 a2 kc .int (5 : Int32) vc (.int (0 : Int32))) (nac : a2 ≠ a1) (nct : a2 ≠ t) (hcn : cn = (0 : Int32) ∨ cn = (1 : Int32)) (hlen : vs.length = 8) :
    MetFree l (⟨"com/example/quietzone/quietzone/datamatrix/CodewordWriter", "edifact", "([IIIZ)V"⟩ : MethodName) (head1 (Jvm.Cond.code (⟨"com/example/quietzone/quietzone/datamatrix/CodewordWriter", "edifact", "([IIIZ)V"⟩ : MethodName) prog_34_method_9_code 9 none :: ws) ({ frames := 0, cells := 0, slots := 0, locals := 0 } : Room)) (fun a U => a = #[(.ref a1), (.ref a2), (.int (0 : Int32)), (.int (0 : Int32)), (.int (1 : Int32))] ∧ Z.Warmed39 U.vm ∧ U.heap = h0) (fun _ _ _ _ _ => True) (fun _ U o U' => ∃ v L, o = .returned v ∧ own_Q_rmE_0_0_1 Z a1 a2 t kt vs cn kc vc w0 w1 w2 w3 h0 n0 v U'.heap L ∧ FrameEnd U o U' L ({ frames := 0, cells := 0, slots := 0, locals := 0 } : Room).cells ({ frames := 0, cells := 0, slots := 0, locals := 0 } : Room).slots) := by
  refine MetFree.of_bodySF pn_5 hisR ?_
  intro p e s m args below meth c s₁ Bd hml0 hP hK
  obtain ⟨rfl, hZ, hh⟩ := hP
  have hx := Bd.exec
  have hby := Bd.bytes
  have hml : c.maxLocals = 9 := hml0
  have hown : s.vm.findClass "com/example/quietzone/quietzone/datamatrix/CodewordWriter" = some m.cls := findClass_of_methodNamed Bd.named
  have hnm := (name_of_methodNamed Bd.named Bd.method).1
  have X0 : Stand p l e ({ frames := 0, cells := 0, slots := 0, locals := 0 } : Room) s m #[(.ref a1), (.ref a2), (.int (0 : Int32)), (.int (0 : Int32)), (.int (1 : Int32))] below meth c s₁ [] 0 0 := Stand.of_body Bd
  have e0 : s₁.heap = h0 := by rw [← hh, Bd.state]; rfl
  have N0 := Fr.nil n0
  have KR : Keep h0 h0 [a1, t] := Keep.refl h0 [a1, t]
  show own_Fin p.tables e below s (({ frames := 0, cells := 0, slots := 0, locals := 0 } : Room).cells) (({ frames := 0, cells := 0, slots := 0, locals := 0 } : Room).slots) (own_Q_rmE_0_0_1 Z a1 a2 t kt vs cn kc vc w0 w1 w2 w3 h0 n0) (s₁.setTop (entryFrame m #[(.ref a1), (.ref a2), (.int (0 : Int32)), (.int (0 : Int32)), (.int (1 : Int32))] 9))
  rw [ef_5 m a1 a2 (0 : Int32) (0 : Int32) (1 : Int32)]
  refine own_st (fun t k => XS.iconst X0.here hx rfl (hb hby d5_0) k) ?_
  refine own_st (fun t k => XS.istore X0.here hx rfl (hb hby d5_1) rfl (l' := #[rv a1, rv a2, iv 0, iv 0, iv 1, iv 0, .unset, .unset, .unset]) rfl k) ?_
  show own_Fin _ _ _ _ _ _ _ (s₁.setTop (mkF m 3 #[rv a1, rv a2, iv 0, iv 0, iv 1, iv 0, .unset, .unset, .unset] []))
  refine own_st (fun t k => XS.iconst X0.here hx rfl (hb hby d5_3) k) ?_
  refine own_st (fun t k => XS.istore X0.here hx rfl (hb hby d5_4) rfl (l' := #[rv a1, rv a2, iv 0, iv 0, iv 1, iv 0, iv 0, .unset, .unset]) rfl k) ?_
  refine own_st (fun t k => XS.iloadN X0.here hx rfl (hb hby d5_6) rfl k) ?_
  show own_Fin _ _ _ _ _ _ _ (s₁.setTop (mkF m 7 #[rv a1, rv a2, iv 0, iv 0, iv 1, iv 0, iv 0, .unset, .unset] [(.int (0 : Int32))]))
  refine own_st (fun t k => XS.iloadN X0.here hx rfl (hb hby d5_7) rfl k) ?_
  refine own_st (fun t k => XS.isub X0.here hx rfl (hb hby d5_8) rfl k) ?_
  refine own_st (fun t k => XS.iload X0.here hx rfl (hb hby d5_9) rfl k) ?_
  show own_Fin _ _ _ _ _ _ _ (s₁.setTop (mkF m 11 #[rv a1, rv a2, iv 0, iv 0, iv 1, iv 0, iv 0, .unset, .unset] [(.int (1 : Int32)), (.int (0 : Int32))]))
  refine own_st (fun t k => XS.ifNo X0.here hx rfl (hb hby d5_11) rfl ((if0 _ _).trans (feq (by decide : ¬ ((1 : Int32) = (0 : Int32)))).1) k) ?_
  refine own_st (fun t k => XS.iconst X0.here hx rfl (hb hby d5_14) k) ?_
  refine own_st (fun t k => XS.goto X0.here hx rfl (pc0 := 15) (pc' := 19) rfl (hb hby d5_15) (by decide) (by decide) k) ?_
  show own_Fin _ _ _ _ _ _ _ (s₁.setTop (mkF m 19 #[rv a1, rv a2, iv 0, iv 0, iv 1, iv 0, iv 0, .unset, .unset] [(.int (1 : Int32)), (.int (0 : Int32))]))
  refine own_st (fun t k => XS.iadd X0.here hx rfl (hb hby d5_19) rfl k) ?_
  refine own_st (fun t k => XS.istore X0.here hx rfl (hb hby d5_20) rfl (l' := #[rv a1, rv a2, iv 0, iv 0, iv 1, iv 0, iv 0, iv 1, .unset]) rfl k) ?_
  refine own_st (fun t k => XS.iloadN X0.here hx rfl (hb hby d5_22) rfl k) ?_
  show own_Fin _ _ _ _ _ _ _ (s₁.setTop (mkF m 23 #[rv a1, rv a2, iv 0, iv 0, iv 1, iv 0, iv 0, iv 1, .unset] [(.int (0 : Int32))]))
  refine own_st (fun t k => XS.istore X0.here hx rfl (hb hby d5_23) rfl (l' := #[rv a1, rv a2, iv 0, iv 0, iv 1, iv 0, iv 0, iv 1, iv 0]) rfl k) ?_
  refine own_st (fun t k => XS.iload X0.here hx rfl (hb hby d5_25) rfl k) ?_
  refine own_st (fun t k => XS.iloadN X0.here hx rfl (hb hby d5_27) rfl k) ?_
  show own_Fin _ _ _ _ _ _ _ (s₁.setTop (mkF m 28 #[rv a1, rv a2, iv 0, iv 0, iv 1, iv 0, iv 0, iv 1, iv 0] [(.int (0 : Int32)), (.int (0 : Int32))]))
  refine own_st (fun t k => XS.iload X0.here hx rfl (hb hby d5_28) rfl k) ?_
  refine own_st (fun t k => XS.iadd X0.here hx rfl (hb hby d5_30) rfl k) ?_
  show own_Fin _ _ _ _ _ _ _ (s₁.setTop (mkF m 31 #[rv a1, rv a2, iv 0, iv 0, iv 1, iv 0, iv 0, iv 1, iv 0] [(.int (1 : Int32)), (.int (0 : Int32))]))
  refine own_st (fun t k => XS.icmpNo X0.here hx rfl (hb hby d5_31) rfl (tlt (by decide : (0 : Int32) < (1 : Int32))).2.1 k) ?_
  refine own_st (fun t k => XS.iload X0.here hx rfl (hb hby d5_34) rfl k) ?_
  refine own_st (fun t k => XS.bipush X0.here hx rfl (hb hby d5_36) k) ?_
  show own_Fin _ _ _ _ _ _ _ (s₁.setTop (mkF m 38 #[rv a1, rv a2, iv 0, iv 0, iv 1, iv 0, iv 0, iv 1, iv 0] [(.int (6 : Int32)), (.int (0 : Int32))]))
  refine own_st (fun t k => XS.ishl X0.here hx rfl (hb hby d5_38) rfl k) ?_
  refine own_st (fun t k => XS.iload X0.here hx rfl (hb hby d5_39) rfl k) ?_
  refine own_st (fun t k => XS.iloadN X0.here hx rfl (hb hby d5_41) rfl k) ?_
  show own_Fin _ _ _ _ _ _ _ (s₁.setTop (mkF m 42 #[rv a1, rv a2, iv 0, iv 0, iv 1, iv 0, iv 0, iv 1, iv 0] [(.int (0 : Int32)), (.int (0 : Int32)), (.int ((0 : Int32) <<< ((6 : Int32) &&& 31)))]))
  refine own_st (fun t k => XS.icmpYes X0.here hx rfl (pc0 := 42) (pc' := 55) rfl (hb hby d5_42) rfl (flt (by decide : ¬ ((0 : Int32) < (0 : Int32)))).2.1 (by decide) (by decide) k) ?_
  refine own_st (fun t k => XS.bipush X0.here hx rfl (hb hby d5_55) k) ?_
  refine own_st (fun t k => XS.ior X0.here hx rfl (hb hby d5_57) rfl k) ?_
  show own_Fin _ _ _ _ _ _ _ (s₁.setTop (mkF m 58 #[rv a1, rv a2, iv 0, iv 0, iv 1, iv 0, iv 0, iv 1, iv 0] [(.int (((0 : Int32) <<< ((6 : Int32) &&& 31)) ||| (31 : Int32)))]))
  refine own_st (fun t k => XS.istore X0.here hx rfl (hb hby d5_58) rfl (l' := #[rv a1, rv a2, iv 0, iv 0, iv 1, iv (((0 : Int32) <<< ((6 : Int32) &&& 31)) ||| (31 : Int32)), iv 0, iv 1, iv 0]) rfl k) ?_
  show own_Fin _ _ _ _ _ _ _ (s₁.setTop (mkF m 60 #[rv a1, rv a2, iv 0, iv 0, iv 1, iv (((0 : Int32) <<< ((6 : Int32) &&& 31)) ||| (31 : Int32)), iv 0, iv 1, iv 0] []))
  obtain ⟨B1, hB1⟩ : ∃ z, z = (((0 : Int32) <<< ((6 : Int32) &&& 31)) ||| (31 : Int32)) := ⟨_, rfl⟩
  rw [← hB1]
  refine own_st (fun t k => XS.iinc X0.here hx rfl (hb hby d5_60) rfl (l' := #[rv a1, rv a2, iv 0, iv 0, iv 1, iv B1, iv 6, iv 1, iv 0]) rfl k) ?_
  refine own_st (fun t k => XS.iload X0.here hx rfl (hb hby d5_63) rfl k) ?_
  refine own_st (fun t k => XS.bipush X0.here hx rfl (hb hby d5_65) k) ?_
  show own_Fin _ _ _ _ _ _ _ (s₁.setTop (mkF m 67 #[rv a1, rv a2, iv 0, iv 0, iv 1, iv B1, iv 6, iv 1, iv 0] [(.int (8 : Int32)), (.int (6 : Int32))]))
  refine own_st (fun t k => XS.icmpYes X0.here hx rfl (pc0 := 67) (pc' := 101) rfl (hb hby d5_67) rfl (tlt (by decide : (6 : Int32) < (8 : Int32))).1 (by decide) (by decide) k) ?_
  show own_Fin _ _ _ _ _ _ _ (s₁.setTop (mkF m 101 #[rv a1, rv a2, iv 0, iv 0, iv 1, iv B1, iv 6, iv 1, iv 0] []))
  refine own_st (fun t k => XS.iinc X0.here hx rfl (hb hby d5_101) rfl (l' := #[rv a1, rv a2, iv 0, iv 0, iv 1, iv B1, iv 6, iv 1, iv 1]) rfl k) ?_
  refine own_st (fun t k => XS.goto X0.here hx rfl (pc0 := 104) (pc' := 25) rfl (hb hby d5_104) (by decide) (by decide) k) ?_
  refine own_st (fun t k => XS.iload X0.here hx rfl (hb hby d5_25) rfl k) ?_
  show own_Fin _ _ _ _ _ _ _ (s₁.setTop (mkF m 27 #[rv a1, rv a2, iv 0, iv 0, iv 1, iv B1, iv 6, iv 1, iv 1] [(.int (1 : Int32))]))
  refine own_st (fun t k => XS.iloadN X0.here hx rfl (hb hby d5_27) rfl k) ?_
  refine own_st (fun t k => XS.iload X0.here hx rfl (hb hby d5_28) rfl k) ?_
  refine own_st (fun t k => XS.iadd X0.here hx rfl (hb hby d5_30) rfl k) ?_
  show own_Fin _ _ _ _ _ _ _ (s₁.setTop (mkF m 31 #[rv a1, rv a2, iv 0, iv 0, iv 1, iv B1, iv 6, iv 1, iv 1] [(.int (1 : Int32)), (.int (1 : Int32))]))
  refine own_st (fun t k => XS.icmpYes X0.here hx rfl (pc0 := 31) (pc' := 107) rfl (hb hby d5_31) rfl (flt (by decide : ¬ ((1 : Int32) < (1 : Int32)))).2.1 (by decide) (by decide) k) ?_
  refine own_st (fun t k => XS.iload X0.here hx rfl (hb hby d5_107) rfl k) ?_
  show own_Fin _ _ _ _ _ _ _ (s₁.setTop (mkF m 109 #[rv a1, rv a2, iv 0, iv 0, iv 1, iv B1, iv 6, iv 1, iv 1] [(.int (6 : Int32))]))
  refine own_st (fun t k => XS.ifNo X0.here hx rfl (hb hby d5_109) rfl ((if0 _ _).trans (tlt (by decide : (0 : Int32) < (6 : Int32))).2.2.2) k) ?_
  refine own_st (fun t k => XS.aloadN X0.here hx rfl (hb hby d5_112) rfl rfl k) ?_
  show own_Fin _ _ _ _ _ _ _ (s₁.setTop (mkF m 113 #[rv a1, rv a2, iv 0, iv 0, iv 1, iv B1, iv 6, iv 1, iv 1] [(.ref a1)]))
  obtain ⟨T1, X1, e1, st1⟩ := getF X0 hx hZ hown (host := "") (Or.inl (hw _ (List.mem_of_getElem? (i := 22) rfl))) Via.refl e0 Fw (g := (mkF m 113 #[rv a1, rv a2, iv 0, iv 0, iv 1, iv B1, iv 6, iv 1, iv 1] [(.ref a1)])) rfl rfl (hb hby d5_113)
  refine own_st st1 ?_
  refine own_st (fun t k => XS.aloadN X1.here hx rfl (hb hby d5_116) rfl rfl k) ?_
  refine own_st (fun t k => XS.dup X1.here hx rfl (hb hby d5_117) rfl rfl k) ?_
  show own_Fin _ _ _ _ _ _ _ (T1.setTop (mkF m 118 #[rv a1, rv a2, iv 0, iv 0, iv 1, iv B1, iv 6, iv 1, iv 1] [(.ref a1), (.ref a1), (.ref t)]))
  obtain ⟨T2, X2, e2, st2⟩ := getF X1 hx hZ hown (host := "") (Or.inl (hw _ (List.mem_of_getElem? (i := 29) rfl))) Via.refl e1 Fc (g := (mkF m 118 #[rv a1, rv a2, iv 0, iv 0, iv 1, iv B1, iv 6, iv 1, iv 1] [(.ref a1), (.ref a1), (.ref t)])) rfl rfl (hb hby d5_118)
  refine own_st st2 ?_
  show own_Fin _ _ _ _ _ _ _ (T2.setTop (mkF m 121 #[rv a1, rv a2, iv 0, iv 0, iv 1, iv B1, iv 6, iv 1, iv 1] [(.int cn), (.ref a1), (.ref t)]))
  refine own_st (fun t k => XS.dupX1 X2.here hx rfl (hb hby d5_121) rfl rfl rfl k) ?_
  refine own_st (fun t k => XS.iconst X2.here hx rfl (hb hby d5_122) k) ?_
  refine own_st (fun t k => XS.iadd X2.here hx rfl (hb hby d5_123) rfl k) ?_
  show own_Fin _ _ _ _ _ _ _ (T2.setTop (mkF m 124 #[rv a1, rv a2, iv 0, iv 0, iv 1, iv B1, iv 6, iv 1, iv 1] [(.int (cn + (1 : Int32))), (.ref a1), (.int cn), (.ref t)]))
  obtain ⟨T3, h3, X3, e3, W3, st3⟩ := putF X2 hx hZ hown (host := "") (Or.inl (hw _ (List.mem_of_getElem? (i := 29) rfl))) Via.refl e2 Fc Ei (Or.inl (hw _ (List.mem_of_getElem? (i := 30) rfl))) (hw _ (List.mem_of_getElem? (i := 10) rfl)) (ty := .int) (by decide) rfl rfl (g := (mkF m 124 #[rv a1, rv a2, iv 0, iv 0, iv 1, iv B1, iv 6, iv 1, iv 1] [(.int (cn + (1 : Int32))), (.ref a1), (.int cn), (.ref t)])) rfl rfl (hb hby d5_124)
  have f3_0 := Ei.wr W3
  have f3_1 := Fw.other W3 (Or.inr (slot_ne (Or.inr (hw _ (List.mem_of_getElem? (i := 23) rfl))) (Or.inl (hw _ (List.mem_of_getElem? (i := 30) rfl))) (by decide) (t := (.array .int)) (t' := .int) (by decide) (by decide)))
  have f3_2 := Vt.other W3 (Ne.symm nat)
  have f3_3 := Vc.other W3 nac
  have Fw3 : Fld Z h3 a1 "com/example/quietzone/quietzone/datamatrix/CodewordWriter" "count" "I" (.int (cn + (1 : Int32))) := Fc.same W3
  have N3 := Fr.snoc X3 N0 gi
  have Z3 : n0 ≤ h3.size := Nat.le_trans Z0 (Keep.of_wr W3).1
  have K3 : Keep h0 h3 [a1, t] := KR.wr W3 (Or.inl (List.mem_of_getElem? (i := 0) rfl))
  refine own_st st3 ?_
  refine own_st (fun t k => XS.iload X3.here hx rfl (hb hby d5_127) rfl k) ?_
  refine own_st (fun t k => XS.bipush X3.here hx rfl (hb hby d5_129) k) ?_
  show own_Fin _ _ _ _ _ _ _ (T3.setTop (mkF m 131 #[rv a1, rv a2, iv 0, iv 0, iv 1, iv B1, iv 6, iv 1, iv 1] [(.int (8 : Int32)), (.int B1), (.int cn), (.ref t)]))
  refine own_st (fun t k => XS.iload X3.here hx rfl (hb hby d5_131) rfl k) ?_
  refine own_st (fun t k => XS.isub X3.here hx rfl (hb hby d5_133) rfl k) ?_
  show own_Fin _ _ _ _ _ _ _ (T3.setTop (mkF m 134 #[rv a1, rv a2, iv 0, iv 0, iv 1, iv B1, iv 6, iv 1, iv 1] [(.int (2 : Int32)), (.int B1), (.int cn), (.ref t)]))
  refine own_st (fun t k => XS.ishl X3.here hx rfl (hb hby d5_134) rfl k) ?_
  refine own_st (fun t k => XS.sipush X3.here hx rfl (hb hby d5_135) k) ?_
  refine own_st (fun t k => XS.iand X3.here hx rfl (hb hby d5_138) rfl k) ?_
  show own_Fin _ _ _ _ _ _ _ (T3.setTop (mkF m 139 #[rv a1, rv a2, iv 0, iv 0, iv 1, iv B1, iv 6, iv 1, iv 1] [(.int ((B1 <<< ((2 : Int32) &&& 31)) &&& (255 : Int32))), (.int cn), (.ref t)]))
  obtain ⟨cl4, Ar4, Cq4, Sz4, Mn4, Hs4, Gf4⟩ := id f3_2
  obtain ⟨T4, h4, X4, e4, W4, st4⟩ := stI X3 hx hZ e3 Ar4 (j := cn) (inb_of Sz4 (own_cn hcn hlen).1) (g := (mkF m 139 #[rv a1, rv a2, iv 0, iv 0, iv 1, iv B1, iv 6, iv 1, iv 1] [(.int ((B1 <<< ((2 : Int32) &&& 31)) &&& (255 : Int32))), (.int cn), (.ref t)])) rfl rfl (hb hby d5_139)
  have f4_0 := f3_0.wr W4
  have f4_1 := f3_1.other W4 (Or.inl nat)
  have f4_2 := f3_3.other W4 nct
  have f4_3 := Fw3.other W4 (Or.inl nat)
  have V4 : Arv Z h4 t kt .int (8 : Int32) (vs.set (cn).toNatClampNeg (.int ((B1 <<< ((2 : Int32) &&& 31)) &&& (255 : Int32)))) (.int (0 : Int32)) := Arv.set Ar4 Cq4 Sz4 Mn4 Hs4 Gf4 rfl W4 (cn).toNatClampNeg rfl (own_cn hcn hlen).2.2.2.2.1
  have N4 := Fr.snoc X4 N3 gt
  have Z4 : n0 ≤ h4.size := Nat.le_trans Z3 (Keep.of_wr W4).1
  have K4 : Keep h0 h4 [a1, t] := K3.wr W4 (Or.inl (List.mem_of_getElem? (i := 1) rfl))
  refine own_st st4 ?_
  show own_Fin _ _ _ _ _ _ _ (T4.setTop (mkF m 140 #[rv a1, rv a2, iv 0, iv 0, iv 1, iv B1, iv 6, iv 1, iv 1] []))
  have x0 : 0 ≤ ((31 : Int32)).toInt ∧ ((31 : Int32)).toInt < 64 := by decide
  have b1 := own_b1 hB1 x0
  have hks : own_ks 0 1 w0 w1 w2 w3 = [((B1 <<< ((2 : Int32) &&& 31)) &&& (255 : Int32))] := by
    rw [own_ks_01]
    rw [(own_f1 b1 x0)]
  exact own_retV X4 hx Bd.notSynchronized Bd.returns (hb hby d5_140) (by decide) (by decide) (by rw [e4]; unfold own_Q_rmE_0_0_1; rw [hks]; exact ⟨rfl, N4, K4, f4_0, f4_1, f4_3, V4⟩)
def own_Q_rmE_0_1_1 (Z : State)  (a1 a2 : Addr) (t : Addr) (kt : ClassId) (vs : List Value) (cn : Int32) (kc : ClassId) (vc : List Value) (w0 w1 w2 w3 : Int32) (h0 : Heap) (n0 : Nat) (v : Option Value) (h : Heap) (L : List Loc) : Prop := v = none ∧ Fr n0 L ∧ Keep h0 h [a1, t] ∧ Exa Z h a1 "com/example/quietzone/quietzone/datamatrix/CodewordWriter" ∧ Fld Z h a1 "com/example/quietzone/quietzone/datamatrix/CodewordWriter" "codewords" "[I" (.ref t) ∧ Fld Z h a1 "com/example/quietzone/quietzone/datamatrix/CodewordWriter" "count" "I" (.int (own_cnt cn (own_ks 1 1 w0 w1 w2 w3))) ∧ Arv Z h t kt .int (8 : Int32) (own_app vs cn (own_ks 1 1 w0 w1 w2 w3)) (.int (0 : Int32))
set_option maxRecDepth 65536 in
set_option maxHeartbeats 40000000 in
theorem rmE_0_1_1 (l : Launch) (Z : State) (a0 : Array Value) (hw : ∀ d ∈ tables_1, d.before a0 Z = true) (ws : List Jvm.Cond)  (a1 a2 : Addr) (t : Addr) (kt : ClassId) (vs : List Value) (cn : Int32) (kc : ClassId) (vc : List Value) (w0 w1 w2 w3 : Int32) (h0 : Heap) (n0 : Nat) (Z0 : n0 ≤ h0.size) (Ei : Exa Z h0 a1 "com/example/quietzone/quietzone/datamatrix/CodewordWriter") (Fw : Fld Z h0 a1 "com/example/quietzone/quietzone/datamatrix/CodewordWriter" "codewords" "[I" (.ref t)) (Fc : Fld Z h0 a1 "com/example/quietzone/quietzone/datamatrix/CodewordWriter" "count" "I" (.int cn)) (Vt : Arv Z h0 t kt .int (8 : Int32) vs (.int (0 : Int32))) (gi : n0 ≤ a1) (gt : n0 ≤ t) (nat : a1 ≠ t) (Vc : Arv Z h0 a2 kc .int (5 : Int32) vc (.int (0 : Int32))) (nac : a2 ≠ a1) (nct : a2 ≠ t) (hcn : cn = (0 : Int32) ∨ cn = (1 : Int32)) (hlen : vs.length = 8) (hat0 : vc.getD (0 : Int32).toNatClampNeg (.int (0 : Int32)) = .int w0) (hw0 : 32 ≤ w0.toInt ∧ w0.toInt ≤ 94) :
    MetFree l (⟨"com/example/quietzone/quietzone/datamatrix/CodewordWriter", "edifact", "([IIIZ)V"⟩ : MethodName) (head1 (Jvm.Cond.code (⟨"com/example/quietzone/quietzone/datamatrix/CodewordWriter", "edifact", "([IIIZ)V"⟩ : MethodName) prog_34_method_9_code 9 none :: ws) ({ frames := 0, cells := 0, slots := 0, locals := 0 } : Room)) (fun a U => a = #[(.ref a1), (.ref a2), (.int (0 : Int32)), (.int (1 : Int32)), (.int (1 : Int32))] ∧ Z.Warmed39 U.vm ∧ U.heap = h0) (fun _ _ _ _ _ => True) (fun _ U o U' => ∃ v L, o = .returned v ∧ own_Q_rmE_0_1_1 Z a1 a2 t kt vs cn kc vc w0 w1 w2 w3 h0 n0 v U'.heap L ∧ FrameEnd U o U' L ({ frames := 0, cells := 0, slots := 0, locals := 0 } : Room).cells ({ frames := 0, cells := 0, slots := 0, locals := 0 } : Room).slots) := by
  refine MetFree.of_bodySF pn_5 hisR ?_
  intro p e s m args below meth c s₁ Bd hml0 hP hK
  obtain ⟨rfl, hZ, hh⟩ := hP
  have hx := Bd.exec
  have hby := Bd.bytes
  have hml : c.maxLocals = 9 := hml0
  have hown : s.vm.findClass "com/example/quietzone/quietzone/datamatrix/CodewordWriter" = some m.cls := findClass_of_methodNamed Bd.named
  have hnm := (name_of_methodNamed Bd.named Bd.method).1
  have X0 : Stand p l e ({ frames := 0, cells := 0, slots := 0, locals := 0 } : Room) s m #[(.ref a1), (.ref a2), (.int (0 : Int32)), (.int (1 : Int32)), (.int (1 : Int32))] below meth c s₁ [] 0 0 := Stand.of_body Bd
  have e0 : s₁.heap = h0 := by rw [← hh, Bd.state]; rfl
  have N0 := Fr.nil n0
  have KR : Keep h0 h0 [a1, t] := Keep.refl h0 [a1, t]
  show own_Fin p.tables e below s (({ frames := 0, cells := 0, slots := 0, locals := 0 } : Room).cells) (({ frames := 0, cells := 0, slots := 0, locals := 0 } : Room).slots) (own_Q_rmE_0_1_1 Z a1 a2 t kt vs cn kc vc w0 w1 w2 w3 h0 n0) (s₁.setTop (entryFrame m #[(.ref a1), (.ref a2), (.int (0 : Int32)), (.int (1 : Int32)), (.int (1 : Int32))] 9))
  rw [ef_5 m a1 a2 (0 : Int32) (1 : Int32) (1 : Int32)]
  refine own_st (fun t k => XS.iconst X0.here hx rfl (hb hby d5_0) k) ?_
  refine own_st (fun t k => XS.istore X0.here hx rfl (hb hby d5_1) rfl (l' := #[rv a1, rv a2, iv 0, iv 1, iv 1, iv 0, .unset, .unset, .unset]) rfl k) ?_
  show own_Fin _ _ _ _ _ _ _ (s₁.setTop (mkF m 3 #[rv a1, rv a2, iv 0, iv 1, iv 1, iv 0, .unset, .unset, .unset] []))
  refine own_st (fun t k => XS.iconst X0.here hx rfl (hb hby d5_3) k) ?_
  refine own_st (fun t k => XS.istore X0.here hx rfl (hb hby d5_4) rfl (l' := #[rv a1, rv a2, iv 0, iv 1, iv 1, iv 0, iv 0, .unset, .unset]) rfl k) ?_
  refine own_st (fun t k => XS.iloadN X0.here hx rfl (hb hby d5_6) rfl k) ?_
  show own_Fin _ _ _ _ _ _ _ (s₁.setTop (mkF m 7 #[rv a1, rv a2, iv 0, iv 1, iv 1, iv 0, iv 0, .unset, .unset] [(.int (1 : Int32))]))
  refine own_st (fun t k => XS.iloadN X0.here hx rfl (hb hby d5_7) rfl k) ?_
  refine own_st (fun t k => XS.isub X0.here hx rfl (hb hby d5_8) rfl k) ?_
  refine own_st (fun t k => XS.iload X0.here hx rfl (hb hby d5_9) rfl k) ?_
  show own_Fin _ _ _ _ _ _ _ (s₁.setTop (mkF m 11 #[rv a1, rv a2, iv 0, iv 1, iv 1, iv 0, iv 0, .unset, .unset] [(.int (1 : Int32)), (.int (1 : Int32))]))
  refine own_st (fun t k => XS.ifNo X0.here hx rfl (hb hby d5_11) rfl ((if0 _ _).trans (feq (by decide : ¬ ((1 : Int32) = (0 : Int32)))).1) k) ?_
  refine own_st (fun t k => XS.iconst X0.here hx rfl (hb hby d5_14) k) ?_
  refine own_st (fun t k => XS.goto X0.here hx rfl (pc0 := 15) (pc' := 19) rfl (hb hby d5_15) (by decide) (by decide) k) ?_
  show own_Fin _ _ _ _ _ _ _ (s₁.setTop (mkF m 19 #[rv a1, rv a2, iv 0, iv 1, iv 1, iv 0, iv 0, .unset, .unset] [(.int (1 : Int32)), (.int (1 : Int32))]))
  refine own_st (fun t k => XS.iadd X0.here hx rfl (hb hby d5_19) rfl k) ?_
  refine own_st (fun t k => XS.istore X0.here hx rfl (hb hby d5_20) rfl (l' := #[rv a1, rv a2, iv 0, iv 1, iv 1, iv 0, iv 0, iv 2, .unset]) rfl k) ?_
  refine own_st (fun t k => XS.iloadN X0.here hx rfl (hb hby d5_22) rfl k) ?_
  show own_Fin _ _ _ _ _ _ _ (s₁.setTop (mkF m 23 #[rv a1, rv a2, iv 0, iv 1, iv 1, iv 0, iv 0, iv 2, .unset] [(.int (0 : Int32))]))
  refine own_st (fun t k => XS.istore X0.here hx rfl (hb hby d5_23) rfl (l' := #[rv a1, rv a2, iv 0, iv 1, iv 1, iv 0, iv 0, iv 2, iv 0]) rfl k) ?_
  refine own_st (fun t k => XS.iload X0.here hx rfl (hb hby d5_25) rfl k) ?_
  refine own_st (fun t k => XS.iloadN X0.here hx rfl (hb hby d5_27) rfl k) ?_
  show own_Fin _ _ _ _ _ _ _ (s₁.setTop (mkF m 28 #[rv a1, rv a2, iv 0, iv 1, iv 1, iv 0, iv 0, iv 2, iv 0] [(.int (0 : Int32)), (.int (0 : Int32))]))
  refine own_st (fun t k => XS.iload X0.here hx rfl (hb hby d5_28) rfl k) ?_
  refine own_st (fun t k => XS.iadd X0.here hx rfl (hb hby d5_30) rfl k) ?_
  show own_Fin _ _ _ _ _ _ _ (s₁.setTop (mkF m 31 #[rv a1, rv a2, iv 0, iv 1, iv 1, iv 0, iv 0, iv 2, iv 0] [(.int (2 : Int32)), (.int (0 : Int32))]))
  refine own_st (fun t k => XS.icmpNo X0.here hx rfl (hb hby d5_31) rfl (tlt (by decide : (0 : Int32) < (2 : Int32))).2.1 k) ?_
  refine own_st (fun t k => XS.iload X0.here hx rfl (hb hby d5_34) rfl k) ?_
  refine own_st (fun t k => XS.bipush X0.here hx rfl (hb hby d5_36) k) ?_
  show own_Fin _ _ _ _ _ _ _ (s₁.setTop (mkF m 38 #[rv a1, rv a2, iv 0, iv 1, iv 1, iv 0, iv 0, iv 2, iv 0] [(.int (6 : Int32)), (.int (0 : Int32))]))
  refine own_st (fun t k => XS.ishl X0.here hx rfl (hb hby d5_38) rfl k) ?_
  refine own_st (fun t k => XS.iload X0.here hx rfl (hb hby d5_39) rfl k) ?_
  refine own_st (fun t k => XS.iloadN X0.here hx rfl (hb hby d5_41) rfl k) ?_
  show own_Fin _ _ _ _ _ _ _ (s₁.setTop (mkF m 42 #[rv a1, rv a2, iv 0, iv 1, iv 1, iv 0, iv 0, iv 2, iv 0] [(.int (1 : Int32)), (.int (0 : Int32)), (.int ((0 : Int32) <<< ((6 : Int32) &&& 31)))]))
  refine own_st (fun t k => XS.icmpNo X0.here hx rfl (hb hby d5_42) rfl (tlt (by decide : (0 : Int32) < (1 : Int32))).2.1 k) ?_
  refine own_st (fun t k => XS.aloadN X0.here hx rfl (hb hby d5_45) rfl rfl k) ?_
  refine own_st (fun t k => XS.iload X0.here hx rfl (hb hby d5_46) rfl k) ?_
  show own_Fin _ _ _ _ _ _ _ (s₁.setTop (mkF m 48 #[rv a1, rv a2, iv 0, iv 1, iv 1, iv 0, iv 0, iv 2, iv 0] [(.int (0 : Int32)), (.ref a2), (.int ((0 : Int32) <<< ((6 : Int32) &&& 31)))]))
  obtain ⟨cl1, Ar1, Cq1, Sz1, Mn1, Hs1, Gf1⟩ := id Vc
  have hin1 := inb_of Sz1 (j := (0 : Int32)) ⟨by decide, by decide⟩
  refine own_st (X0.iaload hx (j := (0 : Int32)) (v := (.int w0)) (by rw [e0]; exact Ar1.1) (State.isArrayOf_alike hZ.alike Ar1.2.1) Ar1.2.2 hin1 (Hs1.at hin1 hat0) (g := (mkF m 48 #[rv a1, rv a2, iv 0, iv 1, iv 1, iv 0, iv 0, iv 2, iv 0] [(.int (0 : Int32)), (.ref a2), (.int ((0 : Int32) <<< ((6 : Int32) &&& 31)))])) rfl rfl (hb hby d5_48)) ?_
  refine own_st (fun t k => XS.bipush X0.here hx rfl (hb hby d5_49) k) ?_
  refine own_st (fun t k => XS.iand X0.here hx rfl (hb hby d5_51) rfl k) ?_
  show own_Fin _ _ _ _ _ _ _ (s₁.setTop (mkF m 52 #[rv a1, rv a2, iv 0, iv 1, iv 1, iv 0, iv 0, iv 2, iv 0] [(.int (w0 &&& (63 : Int32))), (.int ((0 : Int32) <<< ((6 : Int32) &&& 31)))]))
  refine own_st (fun t k => XS.goto X0.here hx rfl (pc0 := 52) (pc' := 57) rfl (hb hby d5_52) (by decide) (by decide) k) ?_
  refine own_st (fun t k => XS.ior X0.here hx rfl (hb hby d5_57) rfl k) ?_
  refine own_st (fun t k => XS.istore X0.here hx rfl (hb hby d5_58) rfl (l' := #[rv a1, rv a2, iv 0, iv 1, iv 1, iv (((0 : Int32) <<< ((6 : Int32) &&& 31)) ||| (w0 &&& (63 : Int32))), iv 0, iv 2, iv 0]) rfl k) ?_
  show own_Fin _ _ _ _ _ _ _ (s₁.setTop (mkF m 60 #[rv a1, rv a2, iv 0, iv 1, iv 1, iv (((0 : Int32) <<< ((6 : Int32) &&& 31)) ||| (w0 &&& (63 : Int32))), iv 0, iv 2, iv 0] []))
  obtain ⟨B1, hB1⟩ : ∃ z, z = (((0 : Int32) <<< ((6 : Int32) &&& 31)) ||| (w0 &&& (63 : Int32))) := ⟨_, rfl⟩
  rw [← hB1]
  refine own_st (fun t k => XS.iinc X0.here hx rfl (hb hby d5_60) rfl (l' := #[rv a1, rv a2, iv 0, iv 1, iv 1, iv B1, iv 6, iv 2, iv 0]) rfl k) ?_
  refine own_st (fun t k => XS.iload X0.here hx rfl (hb hby d5_63) rfl k) ?_
  refine own_st (fun t k => XS.bipush X0.here hx rfl (hb hby d5_65) k) ?_
  show own_Fin _ _ _ _ _ _ _ (s₁.setTop (mkF m 67 #[rv a1, rv a2, iv 0, iv 1, iv 1, iv B1, iv 6, iv 2, iv 0] [(.int (8 : Int32)), (.int (6 : Int32))]))
  refine own_st (fun t k => XS.icmpYes X0.here hx rfl (pc0 := 67) (pc' := 101) rfl (hb hby d5_67) rfl (tlt (by decide : (6 : Int32) < (8 : Int32))).1 (by decide) (by decide) k) ?_
  show own_Fin _ _ _ _ _ _ _ (s₁.setTop (mkF m 101 #[rv a1, rv a2, iv 0, iv 1, iv 1, iv B1, iv 6, iv 2, iv 0] []))
  refine own_st (fun t k => XS.iinc X0.here hx rfl (hb hby d5_101) rfl (l' := #[rv a1, rv a2, iv 0, iv 1, iv 1, iv B1, iv 6, iv 2, iv 1]) rfl k) ?_
  refine own_st (fun t k => XS.goto X0.here hx rfl (pc0 := 104) (pc' := 25) rfl (hb hby d5_104) (by decide) (by decide) k) ?_
  refine own_st (fun t k => XS.iload X0.here hx rfl (hb hby d5_25) rfl k) ?_
  show own_Fin _ _ _ _ _ _ _ (s₁.setTop (mkF m 27 #[rv a1, rv a2, iv 0, iv 1, iv 1, iv B1, iv 6, iv 2, iv 1] [(.int (1 : Int32))]))
  refine own_st (fun t k => XS.iloadN X0.here hx rfl (hb hby d5_27) rfl k) ?_
  refine own_st (fun t k => XS.iload X0.here hx rfl (hb hby d5_28) rfl k) ?_
  refine own_st (fun t k => XS.iadd X0.here hx rfl (hb hby d5_30) rfl k) ?_
  show own_Fin _ _ _ _ _ _ _ (s₁.setTop (mkF m 31 #[rv a1, rv a2, iv 0, iv 1, iv 1, iv B1, iv 6, iv 2, iv 1] [(.int (2 : Int32)), (.int (1 : Int32))]))
  refine own_st (fun t k => XS.icmpNo X0.here hx rfl (hb hby d5_31) rfl (tlt (by decide : (1 : Int32) < (2 : Int32))).2.1 k) ?_
  refine own_st (fun t k => XS.iload X0.here hx rfl (hb hby d5_34) rfl k) ?_
  refine own_st (fun t k => XS.bipush X0.here hx rfl (hb hby d5_36) k) ?_
  show own_Fin _ _ _ _ _ _ _ (s₁.setTop (mkF m 38 #[rv a1, rv a2, iv 0, iv 1, iv 1, iv B1, iv 6, iv 2, iv 1] [(.int (6 : Int32)), (.int B1)]))
  refine own_st (fun t k => XS.ishl X0.here hx rfl (hb hby d5_38) rfl k) ?_
  refine own_st (fun t k => XS.iload X0.here hx rfl (hb hby d5_39) rfl k) ?_
  refine own_st (fun t k => XS.iloadN X0.here hx rfl (hb hby d5_41) rfl k) ?_
  show own_Fin _ _ _ _ _ _ _ (s₁.setTop (mkF m 42 #[rv a1, rv a2, iv 0, iv 1, iv 1, iv B1, iv 6, iv 2, iv 1] [(.int (1 : Int32)), (.int (1 : Int32)), (.int (B1 <<< ((6 : Int32) &&& 31)))]))
  refine own_st (fun t k => XS.icmpYes X0.here hx rfl (pc0 := 42) (pc' := 55) rfl (hb hby d5_42) rfl (flt (by decide : ¬ ((1 : Int32) < (1 : Int32)))).2.1 (by decide) (by decide) k) ?_
  refine own_st (fun t k => XS.bipush X0.here hx rfl (hb hby d5_55) k) ?_
  refine own_st (fun t k => XS.ior X0.here hx rfl (hb hby d5_57) rfl k) ?_
  show own_Fin _ _ _ _ _ _ _ (s₁.setTop (mkF m 58 #[rv a1, rv a2, iv 0, iv 1, iv 1, iv B1, iv 6, iv 2, iv 1] [(.int ((B1 <<< ((6 : Int32) &&& 31)) ||| (31 : Int32)))]))
  refine own_st (fun t k => XS.istore X0.here hx rfl (hb hby d5_58) rfl (l' := #[rv a1, rv a2, iv 0, iv 1, iv 1, iv ((B1 <<< ((6 : Int32) &&& 31)) ||| (31 : Int32)), iv 6, iv 2, iv 1]) rfl k) ?_
  show own_Fin _ _ _ _ _ _ _ (s₁.setTop (mkF m 60 #[rv a1, rv a2, iv 0, iv 1, iv 1, iv ((B1 <<< ((6 : Int32) &&& 31)) ||| (31 : Int32)), iv 6, iv 2, iv 1] []))
  obtain ⟨B2, hB2⟩ : ∃ z, z = ((B1 <<< ((6 : Int32) &&& 31)) ||| (31 : Int32)) := ⟨_, rfl⟩
  rw [← hB2]
  refine own_st (fun t k => XS.iinc X0.here hx rfl (hb hby d5_60) rfl (l' := #[rv a1, rv a2, iv 0, iv 1, iv 1, iv B2, iv 12, iv 2, iv 1]) rfl k) ?_
  refine own_st (fun t k => XS.iload X0.here hx rfl (hb hby d5_63) rfl k) ?_
  refine own_st (fun t k => XS.bipush X0.here hx rfl (hb hby d5_65) k) ?_
  show own_Fin _ _ _ _ _ _ _ (s₁.setTop (mkF m 67 #[rv a1, rv a2, iv 0, iv 1, iv 1, iv B2, iv 12, iv 2, iv 1] [(.int (8 : Int32)), (.int (12 : Int32))]))
  refine own_st (fun t k => XS.icmpNo X0.here hx rfl (hb hby d5_67) rfl (flt (by decide : ¬ ((12 : Int32) < (8 : Int32)))).1 k) ?_
  show own_Fin _ _ _ _ _ _ _ (s₁.setTop (mkF m 70 #[rv a1, rv a2, iv 0, iv 1, iv 1, iv B2, iv 12, iv 2, iv 1] []))
  refine own_st (fun t k => XS.iinc X0.here hx rfl (hb hby d5_70) rfl (l' := #[rv a1, rv a2, iv 0, iv 1, iv 1, iv B2, iv 4, iv 2, iv 1]) rfl k) ?_
  refine own_st (fun t k => XS.aloadN X0.here hx rfl (hb hby d5_73) rfl rfl k) ?_
  show own_Fin _ _ _ _ _ _ _ (s₁.setTop (mkF m 74 #[rv a1, rv a2, iv 0, iv 1, iv 1, iv B2, iv 4, iv 2, iv 1] [(.ref a1)]))
  obtain ⟨T2, X2, e2, st2⟩ := getF X0 hx hZ hown (host := "") (Or.inl (hw _ (List.mem_of_getElem? (i := 22) rfl))) Via.refl e0 Fw (g := (mkF m 74 #[rv a1, rv a2, iv 0, iv 1, iv 1, iv B2, iv 4, iv 2, iv 1] [(.ref a1)])) rfl rfl (hb hby d5_74)
  refine own_st st2 ?_
  refine own_st (fun t k => XS.aloadN X2.here hx rfl (hb hby d5_77) rfl rfl k) ?_
  refine own_st (fun t k => XS.dup X2.here hx rfl (hb hby d5_78) rfl rfl k) ?_
  show own_Fin _ _ _ _ _ _ _ (T2.setTop (mkF m 79 #[rv a1, rv a2, iv 0, iv 1, iv 1, iv B2, iv 4, iv 2, iv 1] [(.ref a1), (.ref a1), (.ref t)]))
  obtain ⟨T3, X3, e3, st3⟩ := getF X2 hx hZ hown (host := "") (Or.inl (hw _ (List.mem_of_getElem? (i := 29) rfl))) Via.refl e2 Fc (g := (mkF m 79 #[rv a1, rv a2, iv 0, iv 1, iv 1, iv B2, iv 4, iv 2, iv 1] [(.ref a1), (.ref a1), (.ref t)])) rfl rfl (hb hby d5_79)
  refine own_st st3 ?_
  show own_Fin _ _ _ _ _ _ _ (T3.setTop (mkF m 82 #[rv a1, rv a2, iv 0, iv 1, iv 1, iv B2, iv 4, iv 2, iv 1] [(.int cn), (.ref a1), (.ref t)]))
  refine own_st (fun t k => XS.dupX1 X3.here hx rfl (hb hby d5_82) rfl rfl rfl k) ?_
  refine own_st (fun t k => XS.iconst X3.here hx rfl (hb hby d5_83) k) ?_
  refine own_st (fun t k => XS.iadd X3.here hx rfl (hb hby d5_84) rfl k) ?_
  show own_Fin _ _ _ _ _ _ _ (T3.setTop (mkF m 85 #[rv a1, rv a2, iv 0, iv 1, iv 1, iv B2, iv 4, iv 2, iv 1] [(.int (cn + (1 : Int32))), (.ref a1), (.int cn), (.ref t)]))
  obtain ⟨T4, h4, X4, e4, W4, st4⟩ := putF X3 hx hZ hown (host := "") (Or.inl (hw _ (List.mem_of_getElem? (i := 29) rfl))) Via.refl e3 Fc Ei (Or.inl (hw _ (List.mem_of_getElem? (i := 30) rfl))) (hw _ (List.mem_of_getElem? (i := 10) rfl)) (ty := .int) (by decide) rfl rfl (g := (mkF m 85 #[rv a1, rv a2, iv 0, iv 1, iv 1, iv B2, iv 4, iv 2, iv 1] [(.int (cn + (1 : Int32))), (.ref a1), (.int cn), (.ref t)])) rfl rfl (hb hby d5_85)
  have f4_0 := Ei.wr W4
  have f4_1 := Fw.other W4 (Or.inr (slot_ne (Or.inr (hw _ (List.mem_of_getElem? (i := 23) rfl))) (Or.inl (hw _ (List.mem_of_getElem? (i := 30) rfl))) (by decide) (t := (.array .int)) (t' := .int) (by decide) (by decide)))
  have f4_2 := Vt.other W4 (Ne.symm nat)
  have f4_3 := Vc.other W4 nac
  have Fw4 : Fld Z h4 a1 "com/example/quietzone/quietzone/datamatrix/CodewordWriter" "count" "I" (.int (cn + (1 : Int32))) := Fc.same W4
  have N4 := Fr.snoc X4 N0 gi
  have Z4 : n0 ≤ h4.size := Nat.le_trans Z0 (Keep.of_wr W4).1
  have K4 : Keep h0 h4 [a1, t] := KR.wr W4 (Or.inl (List.mem_of_getElem? (i := 0) rfl))
  refine own_st st4 ?_
  refine own_st (fun t k => XS.iload X4.here hx rfl (hb hby d5_88) rfl k) ?_
  refine own_st (fun t k => XS.iload X4.here hx rfl (hb hby d5_90) rfl k) ?_
  show own_Fin _ _ _ _ _ _ _ (T4.setTop (mkF m 92 #[rv a1, rv a2, iv 0, iv 1, iv 1, iv B2, iv 4, iv 2, iv 1] [(.int (4 : Int32)), (.int B2), (.int cn), (.ref t)]))
  refine own_st (fun t k => XS.ishr X4.here hx rfl (hb hby d5_92) rfl k) ?_
  refine own_st (fun t k => XS.sipush X4.here hx rfl (hb hby d5_93) k) ?_
  refine own_st (fun t k => XS.iand X4.here hx rfl (hb hby d5_96) rfl k) ?_
  show own_Fin _ _ _ _ _ _ _ (T4.setTop (mkF m 97 #[rv a1, rv a2, iv 0, iv 1, iv 1, iv B2, iv 4, iv 2, iv 1] [(.int ((B2 >>> ((4 : Int32) &&& 31)) &&& (255 : Int32))), (.int cn), (.ref t)]))
  obtain ⟨cl5, Ar5, Cq5, Sz5, Mn5, Hs5, Gf5⟩ := id f4_2
  obtain ⟨T5, h5, X5, e5, W5, st5⟩ := stI X4 hx hZ e4 Ar5 (j := cn) (inb_of Sz5 (own_cn hcn hlen).1) (g := (mkF m 97 #[rv a1, rv a2, iv 0, iv 1, iv 1, iv B2, iv 4, iv 2, iv 1] [(.int ((B2 >>> ((4 : Int32) &&& 31)) &&& (255 : Int32))), (.int cn), (.ref t)])) rfl rfl (hb hby d5_97)
  have f5_0 := f4_0.wr W5
  have f5_1 := f4_1.other W5 (Or.inl nat)
  have f5_2 := f4_3.other W5 nct
  have f5_3 := Fw4.other W5 (Or.inl nat)
  have V5 : Arv Z h5 t kt .int (8 : Int32) (vs.set (cn).toNatClampNeg (.int ((B2 >>> ((4 : Int32) &&& 31)) &&& (255 : Int32)))) (.int (0 : Int32)) := Arv.set Ar5 Cq5 Sz5 Mn5 Hs5 Gf5 rfl W5 (cn).toNatClampNeg rfl (own_cn hcn hlen).2.2.2.2.1
  have N5 := Fr.snoc X5 N4 gt
  have Z5 : n0 ≤ h5.size := Nat.le_trans Z4 (Keep.of_wr W5).1
  have K5 : Keep h0 h5 [a1, t] := K4.wr W5 (Or.inl (List.mem_of_getElem? (i := 1) rfl))
  refine own_st st5 ?_
  refine own_st (fun t k => XS.goto X5.here hx rfl (pc0 := 98) (pc' := 63) rfl (hb hby d5_98) (by decide) (by decide) k) ?_
  refine own_st (fun t k => XS.iload X5.here hx rfl (hb hby d5_63) rfl k) ?_
  show own_Fin _ _ _ _ _ _ _ (T5.setTop (mkF m 65 #[rv a1, rv a2, iv 0, iv 1, iv 1, iv B2, iv 4, iv 2, iv 1] [(.int (4 : Int32))]))
  refine own_st (fun t k => XS.bipush X5.here hx rfl (hb hby d5_65) k) ?_
  show own_Fin _ _ _ _ _ _ _ (T5.setTop (mkF m 67 #[rv a1, rv a2, iv 0, iv 1, iv 1, iv B2, iv 4, iv 2, iv 1] [(.int (8 : Int32)), (.int (4 : Int32))]))
  refine own_st (fun t k => XS.icmpYes X5.here hx rfl (pc0 := 67) (pc' := 101) rfl (hb hby d5_67) rfl (tlt (by decide : (4 : Int32) < (8 : Int32))).1 (by decide) (by decide) k) ?_
  show own_Fin _ _ _ _ _ _ _ (T5.setTop (mkF m 101 #[rv a1, rv a2, iv 0, iv 1, iv 1, iv B2, iv 4, iv 2, iv 1] []))
  refine own_st (fun t k => XS.iinc X5.here hx rfl (hb hby d5_101) rfl (l' := #[rv a1, rv a2, iv 0, iv 1, iv 1, iv B2, iv 4, iv 2, iv 2]) rfl k) ?_
  refine own_st (fun t k => XS.goto X5.here hx rfl (pc0 := 104) (pc' := 25) rfl (hb hby d5_104) (by decide) (by decide) k) ?_
  refine own_st (fun t k => XS.iload X5.here hx rfl (hb hby d5_25) rfl k) ?_
  show own_Fin _ _ _ _ _ _ _ (T5.setTop (mkF m 27 #[rv a1, rv a2, iv 0, iv 1, iv 1, iv B2, iv 4, iv 2, iv 2] [(.int (2 : Int32))]))
  refine own_st (fun t k => XS.iloadN X5.here hx rfl (hb hby d5_27) rfl k) ?_
  refine own_st (fun t k => XS.iload X5.here hx rfl (hb hby d5_28) rfl k) ?_
  refine own_st (fun t k => XS.iadd X5.here hx rfl (hb hby d5_30) rfl k) ?_
  show own_Fin _ _ _ _ _ _ _ (T5.setTop (mkF m 31 #[rv a1, rv a2, iv 0, iv 1, iv 1, iv B2, iv 4, iv 2, iv 2] [(.int (2 : Int32)), (.int (2 : Int32))]))
  refine own_st (fun t k => XS.icmpYes X5.here hx rfl (pc0 := 31) (pc' := 107) rfl (hb hby d5_31) rfl (flt (by decide : ¬ ((2 : Int32) < (2 : Int32)))).2.1 (by decide) (by decide) k) ?_
  refine own_st (fun t k => XS.iload X5.here hx rfl (hb hby d5_107) rfl k) ?_
  show own_Fin _ _ _ _ _ _ _ (T5.setTop (mkF m 109 #[rv a1, rv a2, iv 0, iv 1, iv 1, iv B2, iv 4, iv 2, iv 2] [(.int (4 : Int32))]))
  refine own_st (fun t k => XS.ifNo X5.here hx rfl (hb hby d5_109) rfl ((if0 _ _).trans (tlt (by decide : (0 : Int32) < (4 : Int32))).2.2.2) k) ?_
  refine own_st (fun t k => XS.aloadN X5.here hx rfl (hb hby d5_112) rfl rfl k) ?_
  show own_Fin _ _ _ _ _ _ _ (T5.setTop (mkF m 113 #[rv a1, rv a2, iv 0, iv 1, iv 1, iv B2, iv 4, iv 2, iv 2] [(.ref a1)]))
  obtain ⟨T6, X6, e6, st6⟩ := getF X5 hx hZ hown (host := "") (Or.inl (hw _ (List.mem_of_getElem? (i := 22) rfl))) Via.refl e5 f5_1 (g := (mkF m 113 #[rv a1, rv a2, iv 0, iv 1, iv 1, iv B2, iv 4, iv 2, iv 2] [(.ref a1)])) rfl rfl (hb hby d5_113)
  refine own_st st6 ?_
  refine own_st (fun t k => XS.aloadN X6.here hx rfl (hb hby d5_116) rfl rfl k) ?_
  refine own_st (fun t k => XS.dup X6.here hx rfl (hb hby d5_117) rfl rfl k) ?_
  show own_Fin _ _ _ _ _ _ _ (T6.setTop (mkF m 118 #[rv a1, rv a2, iv 0, iv 1, iv 1, iv B2, iv 4, iv 2, iv 2] [(.ref a1), (.ref a1), (.ref t)]))
  obtain ⟨T7, X7, e7, st7⟩ := getF X6 hx hZ hown (host := "") (Or.inl (hw _ (List.mem_of_getElem? (i := 29) rfl))) Via.refl e6 f5_3 (g := (mkF m 118 #[rv a1, rv a2, iv 0, iv 1, iv 1, iv B2, iv 4, iv 2, iv 2] [(.ref a1), (.ref a1), (.ref t)])) rfl rfl (hb hby d5_118)
  refine own_st st7 ?_
  show own_Fin _ _ _ _ _ _ _ (T7.setTop (mkF m 121 #[rv a1, rv a2, iv 0, iv 1, iv 1, iv B2, iv 4, iv 2, iv 2] [(.int (cn + (1 : Int32))), (.ref a1), (.ref t)]))
  refine own_st (fun t k => XS.dupX1 X7.here hx rfl (hb hby d5_121) rfl rfl rfl k) ?_
  refine own_st (fun t k => XS.iconst X7.here hx rfl (hb hby d5_122) k) ?_
  refine own_st (fun t k => XS.iadd X7.here hx rfl (hb hby d5_123) rfl k) ?_
  show own_Fin _ _ _ _ _ _ _ (T7.setTop (mkF m 124 #[rv a1, rv a2, iv 0, iv 1, iv 1, iv B2, iv 4, iv 2, iv 2] [(.int ((cn + (1 : Int32)) + (1 : Int32))), (.ref a1), (.int (cn + (1 : Int32))), (.ref t)]))
  obtain ⟨T8, h8, X8, e8, W8, st8⟩ := putF X7 hx hZ hown (host := "") (Or.inl (hw _ (List.mem_of_getElem? (i := 29) rfl))) Via.refl e7 f5_3 f5_0 (Or.inl (hw _ (List.mem_of_getElem? (i := 30) rfl))) (hw _ (List.mem_of_getElem? (i := 10) rfl)) (ty := .int) (by decide) rfl rfl (g := (mkF m 124 #[rv a1, rv a2, iv 0, iv 1, iv 1, iv B2, iv 4, iv 2, iv 2] [(.int ((cn + (1 : Int32)) + (1 : Int32))), (.ref a1), (.int (cn + (1 : Int32))), (.ref t)])) rfl rfl (hb hby d5_124)
  have f8_0 := f5_0.wr W8
  have f8_1 := f5_1.other W8 (Or.inr (slot_ne (Or.inr (hw _ (List.mem_of_getElem? (i := 23) rfl))) (Or.inl (hw _ (List.mem_of_getElem? (i := 30) rfl))) (by decide) (t := (.array .int)) (t' := .int) (by decide) (by decide)))
  have f8_2 := f5_2.other W8 nac
  have f8_3 := V5.other W8 (Ne.symm nat)
  have Fw8 : Fld Z h8 a1 "com/example/quietzone/quietzone/datamatrix/CodewordWriter" "count" "I" (.int ((cn + (1 : Int32)) + (1 : Int32))) := f5_3.same W8
  have N8 := Fr.snoc X8 N5 gi
  have Z8 : n0 ≤ h8.size := Nat.le_trans Z5 (Keep.of_wr W8).1
  have K8 : Keep h0 h8 [a1, t] := K5.wr W8 (Or.inl (List.mem_of_getElem? (i := 0) rfl))
  refine own_st st8 ?_
  refine own_st (fun t k => XS.iload X8.here hx rfl (hb hby d5_127) rfl k) ?_
  refine own_st (fun t k => XS.bipush X8.here hx rfl (hb hby d5_129) k) ?_
  show own_Fin _ _ _ _ _ _ _ (T8.setTop (mkF m 131 #[rv a1, rv a2, iv 0, iv 1, iv 1, iv B2, iv 4, iv 2, iv 2] [(.int (8 : Int32)), (.int B2), (.int (cn + (1 : Int32))), (.ref t)]))
  refine own_st (fun t k => XS.iload X8.here hx rfl (hb hby d5_131) rfl k) ?_
  refine own_st (fun t k => XS.isub X8.here hx rfl (hb hby d5_133) rfl k) ?_
  show own_Fin _ _ _ _ _ _ _ (T8.setTop (mkF m 134 #[rv a1, rv a2, iv 0, iv 1, iv 1, iv B2, iv 4, iv 2, iv 2] [(.int (4 : Int32)), (.int B2), (.int (cn + (1 : Int32))), (.ref t)]))
  refine own_st (fun t k => XS.ishl X8.here hx rfl (hb hby d5_134) rfl k) ?_
  refine own_st (fun t k => XS.sipush X8.here hx rfl (hb hby d5_135) k) ?_
  refine own_st (fun t k => XS.iand X8.here hx rfl (hb hby d5_138) rfl k) ?_
  show own_Fin _ _ _ _ _ _ _ (T8.setTop (mkF m 139 #[rv a1, rv a2, iv 0, iv 1, iv 1, iv B2, iv 4, iv 2, iv 2] [(.int ((B2 <<< ((4 : Int32) &&& 31)) &&& (255 : Int32))), (.int (cn + (1 : Int32))), (.ref t)]))
  obtain ⟨cl9, Ar9, Cq9, Sz9, Mn9, Hs9, Gf9⟩ := id f8_3
  obtain ⟨T9, h9, X9, e9, W9, st9⟩ := stI X8 hx hZ e8 Ar9 (j := (cn + (1 : Int32))) (inb_of Sz9 (own_cn hcn hlen).2.1) (g := (mkF m 139 #[rv a1, rv a2, iv 0, iv 1, iv 1, iv B2, iv 4, iv 2, iv 2] [(.int ((B2 <<< ((4 : Int32) &&& 31)) &&& (255 : Int32))), (.int (cn + (1 : Int32))), (.ref t)])) rfl rfl (hb hby d5_139)
  have f9_0 := f8_0.wr W9
  have f9_1 := f8_1.other W9 (Or.inl nat)
  have f9_2 := f8_2.other W9 nct
  have f9_3 := Fw8.other W9 (Or.inl nat)
  have V9 : Arv Z h9 t kt .int (8 : Int32) ((vs.set (cn).toNatClampNeg (.int ((B2 >>> ((4 : Int32) &&& 31)) &&& (255 : Int32)))).set ((cn + (1 : Int32))).toNatClampNeg (.int ((B2 <<< ((4 : Int32) &&& 31)) &&& (255 : Int32)))) (.int (0 : Int32)) := Arv.set Ar9 Cq9 Sz9 Mn9 Hs9 Gf9 rfl W9 ((cn + (1 : Int32))).toNatClampNeg rfl (by simp only [List.length_set]; exact (own_cn hcn hlen).2.2.2.2.2.1)
  have N9 := Fr.snoc X9 N8 gt
  have Z9 : n0 ≤ h9.size := Nat.le_trans Z8 (Keep.of_wr W9).1
  have K9 : Keep h0 h9 [a1, t] := K8.wr W9 (Or.inl (List.mem_of_getElem? (i := 1) rfl))
  refine own_st st9 ?_
  show own_Fin _ _ _ _ _ _ _ (T9.setTop (mkF m 140 #[rv a1, rv a2, iv 0, iv 1, iv 1, iv B2, iv 4, iv 2, iv 2] []))
  have x0 : 0 ≤ ((w0 &&& (63 : Int32))).toInt ∧ ((w0 &&& (63 : Int32))).toInt < 64 := own_x63 _
  have b1 := own_b1 hB1 x0
  have x1 : 0 ≤ ((31 : Int32)).toInt ∧ ((31 : Int32)).toInt < 64 := by decide
  have b2 := own_bS hB2 b1 (by omega) x1
  have hks : own_ks 1 1 w0 w1 w2 w3 = [((B2 >>> ((4 : Int32) &&& 31)) &&& (255 : Int32)), ((B2 <<< ((4 : Int32) &&& 31)) &&& (255 : Int32))] := by
    rw [own_ks_11, own_six_mask hw0]
    rw [(own_o0 b2 x0 x1), (own_f2 b2 x0 x1)]
  exact own_retV X9 hx Bd.notSynchronized Bd.returns (hb hby d5_140) (by decide) (by decide) (by rw [e9]; unfold own_Q_rmE_0_1_1; rw [hks]; exact ⟨rfl, N9, K9, f9_0, f9_1, f9_3, V9⟩)
def own_Q_rmE_0_2_1 (Z : State)  (a1 a2 : Addr) (t : Addr) (kt : ClassId) (vs : List Value) (cn : Int32) (kc : ClassId) (vc : List Value) (w0 w1 w2 w3 : Int32) (h0 : Heap) (n0 : Nat) (v : Option Value) (h : Heap) (L : List Loc) : Prop := v = none ∧ Fr n0 L ∧ Keep h0 h [a1, t] ∧ Exa Z h a1 "com/example/quietzone/quietzone/datamatrix/CodewordWriter" ∧ Fld Z h a1 "com/example/quietzone/quietzone/datamatrix/CodewordWriter" "codewords" "[I" (.ref t) ∧ Fld Z h a1 "com/example/quietzone/quietzone/datamatrix/CodewordWriter" "count" "I" (.int (own_cnt cn (own_ks 2 1 w0 w1 w2 w3))) ∧ Arv Z h t kt .int (8 : Int32) (own_app vs cn (own_ks 2 1 w0 w1 w2 w3)) (.int (0 : Int32))
set_option maxRecDepth 65536 in
set_option maxHeartbeats 40000000 in
theorem rmE_0_2_1 (l : Launch) (Z : State) (a0 : Array Value) (hw : ∀ d ∈ tables_1, d.before a0 Z = true) (ws : List Jvm.Cond)  (a1 a2 : Addr) (t : Addr) (kt : ClassId) (vs : List Value) (cn : Int32) (kc : ClassId) (vc : List Value) (w0 w1 w2 w3 : Int32) (h0 : Heap) (n0 : Nat) (Z0 : n0 ≤ h0.size) (Ei : Exa Z h0 a1 "com/example/quietzone/quietzone/datamatrix/CodewordWriter") (Fw : Fld Z h0 a1 "com/example/quietzone/quietzone/datamatrix/CodewordWriter" "codewords" "[I" (.ref t)) (Fc : Fld Z h0 a1 "com/example/quietzone/quietzone/datamatrix/CodewordWriter" "count" "I" (.int cn)) (Vt : Arv Z h0 t kt .int (8 : Int32) vs (.int (0 : Int32))) (gi : n0 ≤ a1) (gt : n0 ≤ t) (nat : a1 ≠ t) (Vc : Arv Z h0 a2 kc .int (5 : Int32) vc (.int (0 : Int32))) (nac : a2 ≠ a1) (nct : a2 ≠ t) (hcn : cn = (0 : Int32) ∨ cn = (1 : Int32)) (hlen : vs.length = 8) (hat0 : vc.getD (0 : Int32).toNatClampNeg (.int (0 : Int32)) = .int w0) (hw0 : 32 ≤ w0.toInt ∧ w0.toInt ≤ 94) (hat1 : vc.getD (1 : Int32).toNatClampNeg (.int (0 : Int32)) = .int w1) (hw1 : 32 ≤ w1.toInt ∧ w1.toInt ≤ 94) :
    MetFree l (⟨"com/example/quietzone/quietzone/datamatrix/CodewordWriter", "edifact", "([IIIZ)V"⟩ : MethodName) (head1 (Jvm.Cond.code (⟨"com/example/quietzone/quietzone/datamatrix/CodewordWriter", "edifact", "([IIIZ)V"⟩ : MethodName) prog_34_method_9_code 9 none :: ws) ({ frames := 0, cells := 0, slots := 0, locals := 0 } : Room)) (fun a U => a = #[(.ref a1), (.ref a2), (.int (0 : Int32)), (.int (2 : Int32)), (.int (1 : Int32))] ∧ Z.Warmed39 U.vm ∧ U.heap = h0) (fun _ _ _ _ _ => True) (fun _ U o U' => ∃ v L, o = .returned v ∧ own_Q_rmE_0_2_1 Z a1 a2 t kt vs cn kc vc w0 w1 w2 w3 h0 n0 v U'.heap L ∧ FrameEnd U o U' L ({ frames := 0, cells := 0, slots := 0, locals := 0 } : Room).cells ({ frames := 0, cells := 0, slots := 0, locals := 0 } : Room).slots) := by
  refine MetFree.of_bodySF pn_5 hisR ?_
  intro p e s m args below meth c s₁ Bd hml0 hP hK
  obtain ⟨rfl, hZ, hh⟩ := hP
  have hx := Bd.exec
  have hby := Bd.bytes
  have hml : c.maxLocals = 9 := hml0
  have hown : s.vm.findClass "com/example/quietzone/quietzone/datamatrix/CodewordWriter" = some m.cls := findClass_of_methodNamed Bd.named
  have hnm := (name_of_methodNamed Bd.named Bd.method).1
  have X0 : Stand p l e ({ frames := 0, cells := 0, slots := 0, locals := 0 } : Room) s m #[(.ref a1), (.ref a2), (.int (0 : Int32)), (.int (2 : Int32)), (.int (1 : Int32))] below meth c s₁ [] 0 0 := Stand.of_body Bd
  have e0 : s₁.heap = h0 := by rw [← hh, Bd.state]; rfl
  have N0 := Fr.nil n0
  have KR : Keep h0 h0 [a1, t] := Keep.refl h0 [a1, t]
  show own_Fin p.tables e below s (({ frames := 0, cells := 0, slots := 0, locals := 0 } : Room).cells) (({ frames := 0, cells := 0, slots := 0, locals := 0 } : Room).slots) (own_Q_rmE_0_2_1 Z a1 a2 t kt vs cn kc vc w0 w1 w2 w3 h0 n0) (s₁.setTop (entryFrame m #[(.ref a1), (.ref a2), (.int (0 : Int32)), (.int (2 : Int32)), (.int (1 : Int32))] 9))
  rw [ef_5 m a1 a2 (0 : Int32) (2 : Int32) (1 : Int32)]
  refine own_st (fun t k => XS.iconst X0.here hx rfl (hb hby d5_0) k) ?_
  refine own_st (fun t k => XS.istore X0.here hx rfl (hb hby d5_1) rfl (l' := #[rv a1, rv a2, iv 0, iv 2, iv 1, iv 0, .unset, .unset, .unset]) rfl k) ?_
  show own_Fin _ _ _ _ _ _ _ (s₁.setTop (mkF m 3 #[rv a1, rv a2, iv 0, iv 2, iv 1, iv 0, .unset, .unset, .unset] []))
  refine own_st (fun t k => XS.iconst X0.here hx rfl (hb hby d5_3) k) ?_
  refine own_st (fun t k => XS.istore X0.here hx rfl (hb hby d5_4) rfl (l' := #[rv a1, rv a2, iv 0, iv 2, iv 1, iv 0, iv 0, .unset, .unset]) rfl k) ?_
  refine own_st (fun t k => XS.iloadN X0.here hx rfl (hb hby d5_6) rfl k) ?_
  show own_Fin _ _ _ _ _ _ _ (s₁.setTop (mkF m 7 #[rv a1, rv a2, iv 0, iv 2, iv 1, iv 0, iv 0, .unset, .unset] [(.int (2 : Int32))]))
  refine own_st (fun t k => XS.iloadN X0.here hx rfl (hb hby d5_7) rfl k) ?_
  refine own_st (fun t k => XS.isub X0.here hx rfl (hb hby d5_8) rfl k) ?_
  refine own_st (fun t k => XS.iload X0.here hx rfl (hb hby d5_9) rfl k) ?_
  show own_Fin _ _ _ _ _ _ _ (s₁.setTop (mkF m 11 #[rv a1, rv a2, iv 0, iv 2, iv 1, iv 0, iv 0, .unset, .unset] [(.int (1 : Int32)), (.int (2 : Int32))]))
  refine own_st (fun t k => XS.ifNo X0.here hx rfl (hb hby d5_11) rfl ((if0 _ _).trans (feq (by decide : ¬ ((1 : Int32) = (0 : Int32)))).1) k) ?_
  refine own_st (fun t k => XS.iconst X0.here hx rfl (hb hby d5_14) k) ?_
  refine own_st (fun t k => XS.goto X0.here hx rfl (pc0 := 15) (pc' := 19) rfl (hb hby d5_15) (by decide) (by decide) k) ?_
  show own_Fin _ _ _ _ _ _ _ (s₁.setTop (mkF m 19 #[rv a1, rv a2, iv 0, iv 2, iv 1, iv 0, iv 0, .unset, .unset] [(.int (1 : Int32)), (.int (2 : Int32))]))
  refine own_st (fun t k => XS.iadd X0.here hx rfl (hb hby d5_19) rfl k) ?_
  refine own_st (fun t k => XS.istore X0.here hx rfl (hb hby d5_20) rfl (l' := #[rv a1, rv a2, iv 0, iv 2, iv 1, iv 0, iv 0, iv 3, .unset]) rfl k) ?_
  refine own_st (fun t k => XS.iloadN X0.here hx rfl (hb hby d5_22) rfl k) ?_
  show own_Fin _ _ _ _ _ _ _ (s₁.setTop (mkF m 23 #[rv a1, rv a2, iv 0, iv 2, iv 1, iv 0, iv 0, iv 3, .unset] [(.int (0 : Int32))]))
  refine own_st (fun t k => XS.istore X0.here hx rfl (hb hby d5_23) rfl (l' := #[rv a1, rv a2, iv 0, iv 2, iv 1, iv 0, iv 0, iv 3, iv 0]) rfl k) ?_
  refine own_st (fun t k => XS.iload X0.here hx rfl (hb hby d5_25) rfl k) ?_
  refine own_st (fun t k => XS.iloadN X0.here hx rfl (hb hby d5_27) rfl k) ?_
  show own_Fin _ _ _ _ _ _ _ (s₁.setTop (mkF m 28 #[rv a1, rv a2, iv 0, iv 2, iv 1, iv 0, iv 0, iv 3, iv 0] [(.int (0 : Int32)), (.int (0 : Int32))]))
  refine own_st (fun t k => XS.iload X0.here hx rfl (hb hby d5_28) rfl k) ?_
  refine own_st (fun t k => XS.iadd X0.here hx rfl (hb hby d5_30) rfl k) ?_
  show own_Fin _ _ _ _ _ _ _ (s₁.setTop (mkF m 31 #[rv a1, rv a2, iv 0, iv 2, iv 1, iv 0, iv 0, iv 3, iv 0] [(.int (3 : Int32)), (.int (0 : Int32))]))
  refine own_st (fun t k => XS.icmpNo X0.here hx rfl (hb hby d5_31) rfl (tlt (by decide : (0 : Int32) < (3 : Int32))).2.1 k) ?_
  refine own_st (fun t k => XS.iload X0.here hx rfl (hb hby d5_34) rfl k) ?_
  refine own_st (fun t k => XS.bipush X0.here hx rfl (hb hby d5_36) k) ?_
  show own_Fin _ _ _ _ _ _ _ (s₁.setTop (mkF m 38 #[rv a1, rv a2, iv 0, iv 2, iv 1, iv 0, iv 0, iv 3, iv 0] [(.int (6 : Int32)), (.int (0 : Int32))]))
  refine own_st (fun t k => XS.ishl X0.here hx rfl (hb hby d5_38) rfl k) ?_
  refine own_st (fun t k => XS.iload X0.here hx rfl (hb hby d5_39) rfl k) ?_
  refine own_st (fun t k => XS.iloadN X0.here hx rfl (hb hby d5_41) rfl k) ?_
  show own_Fin _ _ _ _ _ _ _ (s₁.setTop (mkF m 42 #[rv a1, rv a2, iv 0, iv 2, iv 1, iv 0, iv 0, iv 3, iv 0] [(.int (2 : Int32)), (.int (0 : Int32)), (.int ((0 : Int32) <<< ((6 : Int32) &&& 31)))]))
  refine own_st (fun t k => XS.icmpNo X0.here hx rfl (hb hby d5_42) rfl (tlt (by decide : (0 : Int32) < (2 : Int32))).2.1 k) ?_
  refine own_st (fun t k => XS.aloadN X0.here hx rfl (hb hby d5_45) rfl rfl k) ?_
  refine own_st (fun t k => XS.iload X0.here hx rfl (hb hby d5_46) rfl k) ?_
  show own_Fin _ _ _ _ _ _ _ (s₁.setTop (mkF m 48 #[rv a1, rv a2, iv 0, iv 2, iv 1, iv 0, iv 0, iv 3, iv 0] [(.int (0 : Int32)), (.ref a2), (.int ((0 : Int32) <<< ((6 : Int32) &&& 31)))]))
  obtain ⟨cl1, Ar1, Cq1, Sz1, Mn1, Hs1, Gf1⟩ := id Vc
  have hin1 := inb_of Sz1 (j := (0 : Int32)) ⟨by decide, by decide⟩
  refine own_st (X0.iaload hx (j := (0 : Int32)) (v := (.int w0)) (by rw [e0]; exact Ar1.1) (State.isArrayOf_alike hZ.alike Ar1.2.1) Ar1.2.2 hin1 (Hs1.at hin1 hat0) (g := (mkF m 48 #[rv a1, rv a2, iv 0, iv 2, iv 1, iv 0, iv 0, iv 3, iv 0] [(.int (0 : Int32)), (.ref a2), (.int ((0 : Int32) <<< ((6 : Int32) &&& 31)))])) rfl rfl (hb hby d5_48)) ?_
  refine own_st (fun t k => XS.bipush X0.here hx rfl (hb hby d5_49) k) ?_
  refine own_st (fun t k => XS.iand X0.here hx rfl (hb hby d5_51) rfl k) ?_
  show own_Fin _ _ _ _ _ _ _ (s₁.setTop (mkF m 52 #[rv a1, rv a2, iv 0, iv 2, iv 1, iv 0, iv 0, iv 3, iv 0] [(.int (w0 &&& (63 : Int32))), (.int ((0 : Int32) <<< ((6 : Int32) &&& 31)))]))
  refine own_st (fun t k => XS.goto X0.here hx rfl (pc0 := 52) (pc' := 57) rfl (hb hby d5_52) (by decide) (by decide) k) ?_
  refine own_st (fun t k => XS.ior X0.here hx rfl (hb hby d5_57) rfl k) ?_
  refine own_st (fun t k => XS.istore X0.here hx rfl (hb hby d5_58) rfl (l' := #[rv a1, rv a2, iv 0, iv 2, iv 1, iv (((0 : Int32) <<< ((6 : Int32) &&& 31)) ||| (w0 &&& (63 : Int32))), iv 0, iv 3, iv 0]) rfl k) ?_
  show own_Fin _ _ _ _ _ _ _ (s₁.setTop (mkF m 60 #[rv a1, rv a2, iv 0, iv 2, iv 1, iv (((0 : Int32) <<< ((6 : Int32) &&& 31)) ||| (w0 &&& (63 : Int32))), iv 0, iv 3, iv 0] []))
  obtain ⟨B1, hB1⟩ : ∃ z, z = (((0 : Int32) <<< ((6 : Int32) &&& 31)) ||| (w0 &&& (63 : Int32))) := ⟨_, rfl⟩
  rw [← hB1]
  refine own_st (fun t k => XS.iinc X0.here hx rfl (hb hby d5_60) rfl (l' := #[rv a1, rv a2, iv 0, iv 2, iv 1, iv B1, iv 6, iv 3, iv 0]) rfl k) ?_
  refine own_st (fun t k => XS.iload X0.here hx rfl (hb hby d5_63) rfl k) ?_
  refine own_st (fun t k => XS.bipush X0.here hx rfl (hb hby d5_65) k) ?_
  show own_Fin _ _ _ _ _ _ _ (s₁.setTop (mkF m 67 #[rv a1, rv a2, iv 0, iv 2, iv 1, iv B1, iv 6, iv 3, iv 0] [(.int (8 : Int32)), (.int (6 : Int32))]))
  refine own_st (fun t k => XS.icmpYes X0.here hx rfl (pc0 := 67) (pc' := 101) rfl (hb hby d5_67) rfl (tlt (by decide : (6 : Int32) < (8 : Int32))).1 (by decide) (by decide) k) ?_
  show own_Fin _ _ _ _ _ _ _ (s₁.setTop (mkF m 101 #[rv a1, rv a2, iv 0, iv 2, iv 1, iv B1, iv 6, iv 3, iv 0] []))
  refine own_st (fun t k => XS.iinc X0.here hx rfl (hb hby d5_101) rfl (l' := #[rv a1, rv a2, iv 0, iv 2, iv 1, iv B1, iv 6, iv 3, iv 1]) rfl k) ?_
  refine own_st (fun t k => XS.goto X0.here hx rfl (pc0 := 104) (pc' := 25) rfl (hb hby d5_104) (by decide) (by decide) k) ?_
  refine own_st (fun t k => XS.iload X0.here hx rfl (hb hby d5_25) rfl k) ?_
  show own_Fin _ _ _ _ _ _ _ (s₁.setTop (mkF m 27 #[rv a1, rv a2, iv 0, iv 2, iv 1, iv B1, iv 6, iv 3, iv 1] [(.int (1 : Int32))]))
  refine own_st (fun t k => XS.iloadN X0.here hx rfl (hb hby d5_27) rfl k) ?_
  refine own_st (fun t k => XS.iload X0.here hx rfl (hb hby d5_28) rfl k) ?_
  refine own_st (fun t k => XS.iadd X0.here hx rfl (hb hby d5_30) rfl k) ?_
  show own_Fin _ _ _ _ _ _ _ (s₁.setTop (mkF m 31 #[rv a1, rv a2, iv 0, iv 2, iv 1, iv B1, iv 6, iv 3, iv 1] [(.int (3 : Int32)), (.int (1 : Int32))]))
  refine own_st (fun t k => XS.icmpNo X0.here hx rfl (hb hby d5_31) rfl (tlt (by decide : (1 : Int32) < (3 : Int32))).2.1 k) ?_
  refine own_st (fun t k => XS.iload X0.here hx rfl (hb hby d5_34) rfl k) ?_
  refine own_st (fun t k => XS.bipush X0.here hx rfl (hb hby d5_36) k) ?_
  show own_Fin _ _ _ _ _ _ _ (s₁.setTop (mkF m 38 #[rv a1, rv a2, iv 0, iv 2, iv 1, iv B1, iv 6, iv 3, iv 1] [(.int (6 : Int32)), (.int B1)]))
  refine own_st (fun t k => XS.ishl X0.here hx rfl (hb hby d5_38) rfl k) ?_
  refine own_st (fun t k => XS.iload X0.here hx rfl (hb hby d5_39) rfl k) ?_
  refine own_st (fun t k => XS.iloadN X0.here hx rfl (hb hby d5_41) rfl k) ?_
  show own_Fin _ _ _ _ _ _ _ (s₁.setTop (mkF m 42 #[rv a1, rv a2, iv 0, iv 2, iv 1, iv B1, iv 6, iv 3, iv 1] [(.int (2 : Int32)), (.int (1 : Int32)), (.int (B1 <<< ((6 : Int32) &&& 31)))]))
  refine own_st (fun t k => XS.icmpNo X0.here hx rfl (hb hby d5_42) rfl (tlt (by decide : (1 : Int32) < (2 : Int32))).2.1 k) ?_
  refine own_st (fun t k => XS.aloadN X0.here hx rfl (hb hby d5_45) rfl rfl k) ?_
  refine own_st (fun t k => XS.iload X0.here hx rfl (hb hby d5_46) rfl k) ?_
  show own_Fin _ _ _ _ _ _ _ (s₁.setTop (mkF m 48 #[rv a1, rv a2, iv 0, iv 2, iv 1, iv B1, iv 6, iv 3, iv 1] [(.int (1 : Int32)), (.ref a2), (.int (B1 <<< ((6 : Int32) &&& 31)))]))
  obtain ⟨cl2, Ar2, Cq2, Sz2, Mn2, Hs2, Gf2⟩ := id Vc
  have hin2 := inb_of Sz2 (j := (1 : Int32)) ⟨by decide, by decide⟩
  refine own_st (X0.iaload hx (j := (1 : Int32)) (v := (.int w1)) (by rw [e0]; exact Ar2.1) (State.isArrayOf_alike hZ.alike Ar2.2.1) Ar2.2.2 hin2 (Hs2.at hin2 hat1) (g := (mkF m 48 #[rv a1, rv a2, iv 0, iv 2, iv 1, iv B1, iv 6, iv 3, iv 1] [(.int (1 : Int32)), (.ref a2), (.int (B1 <<< ((6 : Int32) &&& 31)))])) rfl rfl (hb hby d5_48)) ?_
  refine own_st (fun t k => XS.bipush X0.here hx rfl (hb hby d5_49) k) ?_
  refine own_st (fun t k => XS.iand X0.here hx rfl (hb hby d5_51) rfl k) ?_
  show own_Fin _ _ _ _ _ _ _ (s₁.setTop (mkF m 52 #[rv a1, rv a2, iv 0, iv 2, iv 1, iv B1, iv 6, iv 3, iv 1] [(.int (w1 &&& (63 : Int32))), (.int (B1 <<< ((6 : Int32) &&& 31)))]))
  refine own_st (fun t k => XS.goto X0.here hx rfl (pc0 := 52) (pc' := 57) rfl (hb hby d5_52) (by decide) (by decide) k) ?_
  refine own_st (fun t k => XS.ior X0.here hx rfl (hb hby d5_57) rfl k) ?_
  refine own_st (fun t k => XS.istore X0.here hx rfl (hb hby d5_58) rfl (l' := #[rv a1, rv a2, iv 0, iv 2, iv 1, iv ((B1 <<< ((6 : Int32) &&& 31)) ||| (w1 &&& (63 : Int32))), iv 6, iv 3, iv 1]) rfl k) ?_
  show own_Fin _ _ _ _ _ _ _ (s₁.setTop (mkF m 60 #[rv a1, rv a2, iv 0, iv 2, iv 1, iv ((B1 <<< ((6 : Int32) &&& 31)) ||| (w1 &&& (63 : Int32))), iv 6, iv 3, iv 1] []))
  obtain ⟨B2, hB2⟩ : ∃ z, z = ((B1 <<< ((6 : Int32) &&& 31)) ||| (w1 &&& (63 : Int32))) := ⟨_, rfl⟩
  rw [← hB2]
  refine own_st (fun t k => XS.iinc X0.here hx rfl (hb hby d5_60) rfl (l' := #[rv a1, rv a2, iv 0, iv 2, iv 1, iv B2, iv 12, iv 3, iv 1]) rfl k) ?_
  refine own_st (fun t k => XS.iload X0.here hx rfl (hb hby d5_63) rfl k) ?_
  refine own_st (fun t k => XS.bipush X0.here hx rfl (hb hby d5_65) k) ?_
  show own_Fin _ _ _ _ _ _ _ (s₁.setTop (mkF m 67 #[rv a1, rv a2, iv 0, iv 2, iv 1, iv B2, iv 12, iv 3, iv 1] [(.int (8 : Int32)), (.int (12 : Int32))]))
  refine own_st (fun t k => XS.icmpNo X0.here hx rfl (hb hby d5_67) rfl (flt (by decide : ¬ ((12 : Int32) < (8 : Int32)))).1 k) ?_
  show own_Fin _ _ _ _ _ _ _ (s₁.setTop (mkF m 70 #[rv a1, rv a2, iv 0, iv 2, iv 1, iv B2, iv 12, iv 3, iv 1] []))
  refine own_st (fun t k => XS.iinc X0.here hx rfl (hb hby d5_70) rfl (l' := #[rv a1, rv a2, iv 0, iv 2, iv 1, iv B2, iv 4, iv 3, iv 1]) rfl k) ?_
  refine own_st (fun t k => XS.aloadN X0.here hx rfl (hb hby d5_73) rfl rfl k) ?_
  show own_Fin _ _ _ _ _ _ _ (s₁.setTop (mkF m 74 #[rv a1, rv a2, iv 0, iv 2, iv 1, iv B2, iv 4, iv 3, iv 1] [(.ref a1)]))
  obtain ⟨T3, X3, e3, st3⟩ := getF X0 hx hZ hown (host := "") (Or.inl (hw _ (List.mem_of_getElem? (i := 22) rfl))) Via.refl e0 Fw (g := (mkF m 74 #[rv a1, rv a2, iv 0, iv 2, iv 1, iv B2, iv 4, iv 3, iv 1] [(.ref a1)])) rfl rfl (hb hby d5_74)
  refine own_st st3 ?_
  refine own_st (fun t k => XS.aloadN X3.here hx rfl (hb hby d5_77) rfl rfl k) ?_
  refine own_st (fun t k => XS.dup X3.here hx rfl (hb hby d5_78) rfl rfl k) ?_
  show own_Fin _ _ _ _ _ _ _ (T3.setTop (mkF m 79 #[rv a1, rv a2, iv 0, iv 2, iv 1, iv B2, iv 4, iv 3, iv 1] [(.ref a1), (.ref a1), (.ref t)]))
  obtain ⟨T4, X4, e4, st4⟩ := getF X3 hx hZ hown (host := "") (Or.inl (hw _ (List.mem_of_getElem? (i := 29) rfl))) Via.refl e3 Fc (g := (mkF m 79 #[rv a1, rv a2, iv 0, iv 2, iv 1, iv B2, iv 4, iv 3, iv 1] [(.ref a1), (.ref a1), (.ref t)])) rfl rfl (hb hby d5_79)
  refine own_st st4 ?_
  show own_Fin _ _ _ _ _ _ _ (T4.setTop (mkF m 82 #[rv a1, rv a2, iv 0, iv 2, iv 1, iv B2, iv 4, iv 3, iv 1] [(.int cn), (.ref a1), (.ref t)]))
  refine own_st (fun t k => XS.dupX1 X4.here hx rfl (hb hby d5_82) rfl rfl rfl k) ?_
  refine own_st (fun t k => XS.iconst X4.here hx rfl (hb hby d5_83) k) ?_
  refine own_st (fun t k => XS.iadd X4.here hx rfl (hb hby d5_84) rfl k) ?_
  show own_Fin _ _ _ _ _ _ _ (T4.setTop (mkF m 85 #[rv a1, rv a2, iv 0, iv 2, iv 1, iv B2, iv 4, iv 3, iv 1] [(.int (cn + (1 : Int32))), (.ref a1), (.int cn), (.ref t)]))
  obtain ⟨T5, h5, X5, e5, W5, st5⟩ := putF X4 hx hZ hown (host := "") (Or.inl (hw _ (List.mem_of_getElem? (i := 29) rfl))) Via.refl e4 Fc Ei (Or.inl (hw _ (List.mem_of_getElem? (i := 30) rfl))) (hw _ (List.mem_of_getElem? (i := 10) rfl)) (ty := .int) (by decide) rfl rfl (g := (mkF m 85 #[rv a1, rv a2, iv 0, iv 2, iv 1, iv B2, iv 4, iv 3, iv 1] [(.int (cn + (1 : Int32))), (.ref a1), (.int cn), (.ref t)])) rfl rfl (hb hby d5_85)
  have f5_0 := Ei.wr W5
  have f5_1 := Fw.other W5 (Or.inr (slot_ne (Or.inr (hw _ (List.mem_of_getElem? (i := 23) rfl))) (Or.inl (hw _ (List.mem_of_getElem? (i := 30) rfl))) (by decide) (t := (.array .int)) (t' := .int) (by decide) (by decide)))
  have f5_2 := Vt.other W5 (Ne.symm nat)
  have f5_3 := Vc.other W5 nac
  have Fw5 : Fld Z h5 a1 "com/example/quietzone/quietzone/datamatrix/CodewordWriter" "count" "I" (.int (cn + (1 : Int32))) := Fc.same W5
  have N5 := Fr.snoc X5 N0 gi
  have Z5 : n0 ≤ h5.size := Nat.le_trans Z0 (Keep.of_wr W5).1
  have K5 : Keep h0 h5 [a1, t] := KR.wr W5 (Or.inl (List.mem_of_getElem? (i := 0) rfl))
  refine own_st st5 ?_
  refine own_st (fun t k => XS.iload X5.here hx rfl (hb hby d5_88) rfl k) ?_
  refine own_st (fun t k => XS.iload X5.here hx rfl (hb hby d5_90) rfl k) ?_
  show own_Fin _ _ _ _ _ _ _ (T5.setTop (mkF m 92 #[rv a1, rv a2, iv 0, iv 2, iv 1, iv B2, iv 4, iv 3, iv 1] [(.int (4 : Int32)), (.int B2), (.int cn), (.ref t)]))
  refine own_st (fun t k => XS.ishr X5.here hx rfl (hb hby d5_92) rfl k) ?_
  refine own_st (fun t k => XS.sipush X5.here hx rfl (hb hby d5_93) k) ?_
  refine own_st (fun t k => XS.iand X5.here hx rfl (hb hby d5_96) rfl k) ?_
  show own_Fin _ _ _ _ _ _ _ (T5.setTop (mkF m 97 #[rv a1, rv a2, iv 0, iv 2, iv 1, iv B2, iv 4, iv 3, iv 1] [(.int ((B2 >>> ((4 : Int32) &&& 31)) &&& (255 : Int32))), (.int cn), (.ref t)]))
  obtain ⟨cl6, Ar6, Cq6, Sz6, Mn6, Hs6, Gf6⟩ := id f5_2
  obtain ⟨T6, h6, X6, e6, W6, st6⟩ := stI X5 hx hZ e5 Ar6 (j := cn) (inb_of Sz6 (own_cn hcn hlen).1) (g := (mkF m 97 #[rv a1, rv a2, iv 0, iv 2, iv 1, iv B2, iv 4, iv 3, iv 1] [(.int ((B2 >>> ((4 : Int32) &&& 31)) &&& (255 : Int32))), (.int cn), (.ref t)])) rfl rfl (hb hby d5_97)
  have f6_0 := f5_0.wr W6
  have f6_1 := f5_1.other W6 (Or.inl nat)
  have f6_2 := f5_3.other W6 nct
  have f6_3 := Fw5.other W6 (Or.inl nat)
  have V6 : Arv Z h6 t kt .int (8 : Int32) (vs.set (cn).toNatClampNeg (.int ((B2 >>> ((4 : Int32) &&& 31)) &&& (255 : Int32)))) (.int (0 : Int32)) := Arv.set Ar6 Cq6 Sz6 Mn6 Hs6 Gf6 rfl W6 (cn).toNatClampNeg rfl (own_cn hcn hlen).2.2.2.2.1
  have N6 := Fr.snoc X6 N5 gt
  have Z6 : n0 ≤ h6.size := Nat.le_trans Z5 (Keep.of_wr W6).1
  have K6 : Keep h0 h6 [a1, t] := K5.wr W6 (Or.inl (List.mem_of_getElem? (i := 1) rfl))
  refine own_st st6 ?_
  refine own_st (fun t k => XS.goto X6.here hx rfl (pc0 := 98) (pc' := 63) rfl (hb hby d5_98) (by decide) (by decide) k) ?_
  refine own_st (fun t k => XS.iload X6.here hx rfl (hb hby d5_63) rfl k) ?_
  show own_Fin _ _ _ _ _ _ _ (T6.setTop (mkF m 65 #[rv a1, rv a2, iv 0, iv 2, iv 1, iv B2, iv 4, iv 3, iv 1] [(.int (4 : Int32))]))
  refine own_st (fun t k => XS.bipush X6.here hx rfl (hb hby d5_65) k) ?_
  show own_Fin _ _ _ _ _ _ _ (T6.setTop (mkF m 67 #[rv a1, rv a2, iv 0, iv 2, iv 1, iv B2, iv 4, iv 3, iv 1] [(.int (8 : Int32)), (.int (4 : Int32))]))
  refine own_st (fun t k => XS.icmpYes X6.here hx rfl (pc0 := 67) (pc' := 101) rfl (hb hby d5_67) rfl (tlt (by decide : (4 : Int32) < (8 : Int32))).1 (by decide) (by decide) k) ?_
  show own_Fin _ _ _ _ _ _ _ (T6.setTop (mkF m 101 #[rv a1, rv a2, iv 0, iv 2, iv 1, iv B2, iv 4, iv 3, iv 1] []))
  refine own_st (fun t k => XS.iinc X6.here hx rfl (hb hby d5_101) rfl (l' := #[rv a1, rv a2, iv 0, iv 2, iv 1, iv B2, iv 4, iv 3, iv 2]) rfl k) ?_
  refine own_st (fun t k => XS.goto X6.here hx rfl (pc0 := 104) (pc' := 25) rfl (hb hby d5_104) (by decide) (by decide) k) ?_
  refine own_st (fun t k => XS.iload X6.here hx rfl (hb hby d5_25) rfl k) ?_
  show own_Fin _ _ _ _ _ _ _ (T6.setTop (mkF m 27 #[rv a1, rv a2, iv 0, iv 2, iv 1, iv B2, iv 4, iv 3, iv 2] [(.int (2 : Int32))]))
  refine own_st (fun t k => XS.iloadN X6.here hx rfl (hb hby d5_27) rfl k) ?_
  refine own_st (fun t k => XS.iload X6.here hx rfl (hb hby d5_28) rfl k) ?_
  refine own_st (fun t k => XS.iadd X6.here hx rfl (hb hby d5_30) rfl k) ?_
  show own_Fin _ _ _ _ _ _ _ (T6.setTop (mkF m 31 #[rv a1, rv a2, iv 0, iv 2, iv 1, iv B2, iv 4, iv 3, iv 2] [(.int (3 : Int32)), (.int (2 : Int32))]))
  refine own_st (fun t k => XS.icmpNo X6.here hx rfl (hb hby d5_31) rfl (tlt (by decide : (2 : Int32) < (3 : Int32))).2.1 k) ?_
  refine own_st (fun t k => XS.iload X6.here hx rfl (hb hby d5_34) rfl k) ?_
  refine own_st (fun t k => XS.bipush X6.here hx rfl (hb hby d5_36) k) ?_
  show own_Fin _ _ _ _ _ _ _ (T6.setTop (mkF m 38 #[rv a1, rv a2, iv 0, iv 2, iv 1, iv B2, iv 4, iv 3, iv 2] [(.int (6 : Int32)), (.int B2)]))
  refine own_st (fun t k => XS.ishl X6.here hx rfl (hb hby d5_38) rfl k) ?_
  refine own_st (fun t k => XS.iload X6.here hx rfl (hb hby d5_39) rfl k) ?_
  refine own_st (fun t k => XS.iloadN X6.here hx rfl (hb hby d5_41) rfl k) ?_
  show own_Fin _ _ _ _ _ _ _ (T6.setTop (mkF m 42 #[rv a1, rv a2, iv 0, iv 2, iv 1, iv B2, iv 4, iv 3, iv 2] [(.int (2 : Int32)), (.int (2 : Int32)), (.int (B2 <<< ((6 : Int32) &&& 31)))]))
  refine own_st (fun t k => XS.icmpYes X6.here hx rfl (pc0 := 42) (pc' := 55) rfl (hb hby d5_42) rfl (flt (by decide : ¬ ((2 : Int32) < (2 : Int32)))).2.1 (by decide) (by decide) k) ?_
  refine own_st (fun t k => XS.bipush X6.here hx rfl (hb hby d5_55) k) ?_
  refine own_st (fun t k => XS.ior X6.here hx rfl (hb hby d5_57) rfl k) ?_
  show own_Fin _ _ _ _ _ _ _ (T6.setTop (mkF m 58 #[rv a1, rv a2, iv 0, iv 2, iv 1, iv B2, iv 4, iv 3, iv 2] [(.int ((B2 <<< ((6 : Int32) &&& 31)) ||| (31 : Int32)))]))
  refine own_st (fun t k => XS.istore X6.here hx rfl (hb hby d5_58) rfl (l' := #[rv a1, rv a2, iv 0, iv 2, iv 1, iv ((B2 <<< ((6 : Int32) &&& 31)) ||| (31 : Int32)), iv 4, iv 3, iv 2]) rfl k) ?_
  show own_Fin _ _ _ _ _ _ _ (T6.setTop (mkF m 60 #[rv a1, rv a2, iv 0, iv 2, iv 1, iv ((B2 <<< ((6 : Int32) &&& 31)) ||| (31 : Int32)), iv 4, iv 3, iv 2] []))
  obtain ⟨B3, hB3⟩ : ∃ z, z = ((B2 <<< ((6 : Int32) &&& 31)) ||| (31 : Int32)) := ⟨_, rfl⟩
  rw [← hB3]
  refine own_st (fun t k => XS.iinc X6.here hx rfl (hb hby d5_60) rfl (l' := #[rv a1, rv a2, iv 0, iv 2, iv 1, iv B3, iv 10, iv 3, iv 2]) rfl k) ?_
  refine own_st (fun t k => XS.iload X6.here hx rfl (hb hby d5_63) rfl k) ?_
  refine own_st (fun t k => XS.bipush X6.here hx rfl (hb hby d5_65) k) ?_
  show own_Fin _ _ _ _ _ _ _ (T6.setTop (mkF m 67 #[rv a1, rv a2, iv 0, iv 2, iv 1, iv B3, iv 10, iv 3, iv 2] [(.int (8 : Int32)), (.int (10 : Int32))]))
  refine own_st (fun t k => XS.icmpNo X6.here hx rfl (hb hby d5_67) rfl (flt (by decide : ¬ ((10 : Int32) < (8 : Int32)))).1 k) ?_
  show own_Fin _ _ _ _ _ _ _ (T6.setTop (mkF m 70 #[rv a1, rv a2, iv 0, iv 2, iv 1, iv B3, iv 10, iv 3, iv 2] []))
  refine own_st (fun t k => XS.iinc X6.here hx rfl (hb hby d5_70) rfl (l' := #[rv a1, rv a2, iv 0, iv 2, iv 1, iv B3, iv 2, iv 3, iv 2]) rfl k) ?_
  refine own_st (fun t k => XS.aloadN X6.here hx rfl (hb hby d5_73) rfl rfl k) ?_
  show own_Fin _ _ _ _ _ _ _ (T6.setTop (mkF m 74 #[rv a1, rv a2, iv 0, iv 2, iv 1, iv B3, iv 2, iv 3, iv 2] [(.ref a1)]))
  obtain ⟨T7, X7, e7, st7⟩ := getF X6 hx hZ hown (host := "") (Or.inl (hw _ (List.mem_of_getElem? (i := 22) rfl))) Via.refl e6 f6_1 (g := (mkF m 74 #[rv a1, rv a2, iv 0, iv 2, iv 1, iv B3, iv 2, iv 3, iv 2] [(.ref a1)])) rfl rfl (hb hby d5_74)
  refine own_st st7 ?_
  refine own_st (fun t k => XS.aloadN X7.here hx rfl (hb hby d5_77) rfl rfl k) ?_
  refine own_st (fun t k => XS.dup X7.here hx rfl (hb hby d5_78) rfl rfl k) ?_
  show own_Fin _ _ _ _ _ _ _ (T7.setTop (mkF m 79 #[rv a1, rv a2, iv 0, iv 2, iv 1, iv B3, iv 2, iv 3, iv 2] [(.ref a1), (.ref a1), (.ref t)]))
  obtain ⟨T8, X8, e8, st8⟩ := getF X7 hx hZ hown (host := "") (Or.inl (hw _ (List.mem_of_getElem? (i := 29) rfl))) Via.refl e7 f6_3 (g := (mkF m 79 #[rv a1, rv a2, iv 0, iv 2, iv 1, iv B3, iv 2, iv 3, iv 2] [(.ref a1), (.ref a1), (.ref t)])) rfl rfl (hb hby d5_79)
  refine own_st st8 ?_
  show own_Fin _ _ _ _ _ _ _ (T8.setTop (mkF m 82 #[rv a1, rv a2, iv 0, iv 2, iv 1, iv B3, iv 2, iv 3, iv 2] [(.int (cn + (1 : Int32))), (.ref a1), (.ref t)]))
  refine own_st (fun t k => XS.dupX1 X8.here hx rfl (hb hby d5_82) rfl rfl rfl k) ?_
  refine own_st (fun t k => XS.iconst X8.here hx rfl (hb hby d5_83) k) ?_
  refine own_st (fun t k => XS.iadd X8.here hx rfl (hb hby d5_84) rfl k) ?_
  show own_Fin _ _ _ _ _ _ _ (T8.setTop (mkF m 85 #[rv a1, rv a2, iv 0, iv 2, iv 1, iv B3, iv 2, iv 3, iv 2] [(.int ((cn + (1 : Int32)) + (1 : Int32))), (.ref a1), (.int (cn + (1 : Int32))), (.ref t)]))
  obtain ⟨T9, h9, X9, e9, W9, st9⟩ := putF X8 hx hZ hown (host := "") (Or.inl (hw _ (List.mem_of_getElem? (i := 29) rfl))) Via.refl e8 f6_3 f6_0 (Or.inl (hw _ (List.mem_of_getElem? (i := 30) rfl))) (hw _ (List.mem_of_getElem? (i := 10) rfl)) (ty := .int) (by decide) rfl rfl (g := (mkF m 85 #[rv a1, rv a2, iv 0, iv 2, iv 1, iv B3, iv 2, iv 3, iv 2] [(.int ((cn + (1 : Int32)) + (1 : Int32))), (.ref a1), (.int (cn + (1 : Int32))), (.ref t)])) rfl rfl (hb hby d5_85)
  have f9_0 := f6_0.wr W9
  have f9_1 := f6_1.other W9 (Or.inr (slot_ne (Or.inr (hw _ (List.mem_of_getElem? (i := 23) rfl))) (Or.inl (hw _ (List.mem_of_getElem? (i := 30) rfl))) (by decide) (t := (.array .int)) (t' := .int) (by decide) (by decide)))
  have f9_2 := f6_2.other W9 nac
  have f9_3 := V6.other W9 (Ne.symm nat)
  have Fw9 : Fld Z h9 a1 "com/example/quietzone/quietzone/datamatrix/CodewordWriter" "count" "I" (.int ((cn + (1 : Int32)) + (1 : Int32))) := f6_3.same W9
  have N9 := Fr.snoc X9 N6 gi
  have Z9 : n0 ≤ h9.size := Nat.le_trans Z6 (Keep.of_wr W9).1
  have K9 : Keep h0 h9 [a1, t] := K6.wr W9 (Or.inl (List.mem_of_getElem? (i := 0) rfl))
  refine own_st st9 ?_
  refine own_st (fun t k => XS.iload X9.here hx rfl (hb hby d5_88) rfl k) ?_
  refine own_st (fun t k => XS.iload X9.here hx rfl (hb hby d5_90) rfl k) ?_
  show own_Fin _ _ _ _ _ _ _ (T9.setTop (mkF m 92 #[rv a1, rv a2, iv 0, iv 2, iv 1, iv B3, iv 2, iv 3, iv 2] [(.int (2 : Int32)), (.int B3), (.int (cn + (1 : Int32))), (.ref t)]))
  refine own_st (fun t k => XS.ishr X9.here hx rfl (hb hby d5_92) rfl k) ?_
  refine own_st (fun t k => XS.sipush X9.here hx rfl (hb hby d5_93) k) ?_
  refine own_st (fun t k => XS.iand X9.here hx rfl (hb hby d5_96) rfl k) ?_
  show own_Fin _ _ _ _ _ _ _ (T9.setTop (mkF m 97 #[rv a1, rv a2, iv 0, iv 2, iv 1, iv B3, iv 2, iv 3, iv 2] [(.int ((B3 >>> ((2 : Int32) &&& 31)) &&& (255 : Int32))), (.int (cn + (1 : Int32))), (.ref t)]))
  obtain ⟨cl10, Ar10, Cq10, Sz10, Mn10, Hs10, Gf10⟩ := id f9_3
  obtain ⟨T10, h10, X10, e10, W10, st10⟩ := stI X9 hx hZ e9 Ar10 (j := (cn + (1 : Int32))) (inb_of Sz10 (own_cn hcn hlen).2.1) (g := (mkF m 97 #[rv a1, rv a2, iv 0, iv 2, iv 1, iv B3, iv 2, iv 3, iv 2] [(.int ((B3 >>> ((2 : Int32) &&& 31)) &&& (255 : Int32))), (.int (cn + (1 : Int32))), (.ref t)])) rfl rfl (hb hby d5_97)
  have f10_0 := f9_0.wr W10
  have f10_1 := f9_1.other W10 (Or.inl nat)
  have f10_2 := f9_2.other W10 nct
  have f10_3 := Fw9.other W10 (Or.inl nat)
  have V10 : Arv Z h10 t kt .int (8 : Int32) ((vs.set (cn).toNatClampNeg (.int ((B2 >>> ((4 : Int32) &&& 31)) &&& (255 : Int32)))).set ((cn + (1 : Int32))).toNatClampNeg (.int ((B3 >>> ((2 : Int32) &&& 31)) &&& (255 : Int32)))) (.int (0 : Int32)) := Arv.set Ar10 Cq10 Sz10 Mn10 Hs10 Gf10 rfl W10 ((cn + (1 : Int32))).toNatClampNeg rfl (by simp only [List.length_set]; exact (own_cn hcn hlen).2.2.2.2.2.1)
  have N10 := Fr.snoc X10 N9 gt
  have Z10 : n0 ≤ h10.size := Nat.le_trans Z9 (Keep.of_wr W10).1
  have K10 : Keep h0 h10 [a1, t] := K9.wr W10 (Or.inl (List.mem_of_getElem? (i := 1) rfl))
  refine own_st st10 ?_
  refine own_st (fun t k => XS.goto X10.here hx rfl (pc0 := 98) (pc' := 63) rfl (hb hby d5_98) (by decide) (by decide) k) ?_
  refine own_st (fun t k => XS.iload X10.here hx rfl (hb hby d5_63) rfl k) ?_
  show own_Fin _ _ _ _ _ _ _ (T10.setTop (mkF m 65 #[rv a1, rv a2, iv 0, iv 2, iv 1, iv B3, iv 2, iv 3, iv 2] [(.int (2 : Int32))]))
  refine own_st (fun t k => XS.bipush X10.here hx rfl (hb hby d5_65) k) ?_
  show own_Fin _ _ _ _ _ _ _ (T10.setTop (mkF m 67 #[rv a1, rv a2, iv 0, iv 2, iv 1, iv B3, iv 2, iv 3, iv 2] [(.int (8 : Int32)), (.int (2 : Int32))]))
  refine own_st (fun t k => XS.icmpYes X10.here hx rfl (pc0 := 67) (pc' := 101) rfl (hb hby d5_67) rfl (tlt (by decide : (2 : Int32) < (8 : Int32))).1 (by decide) (by decide) k) ?_
  show own_Fin _ _ _ _ _ _ _ (T10.setTop (mkF m 101 #[rv a1, rv a2, iv 0, iv 2, iv 1, iv B3, iv 2, iv 3, iv 2] []))
  refine own_st (fun t k => XS.iinc X10.here hx rfl (hb hby d5_101) rfl (l' := #[rv a1, rv a2, iv 0, iv 2, iv 1, iv B3, iv 2, iv 3, iv 3]) rfl k) ?_
  refine own_st (fun t k => XS.goto X10.here hx rfl (pc0 := 104) (pc' := 25) rfl (hb hby d5_104) (by decide) (by decide) k) ?_
  refine own_st (fun t k => XS.iload X10.here hx rfl (hb hby d5_25) rfl k) ?_
  show own_Fin _ _ _ _ _ _ _ (T10.setTop (mkF m 27 #[rv a1, rv a2, iv 0, iv 2, iv 1, iv B3, iv 2, iv 3, iv 3] [(.int (3 : Int32))]))
  refine own_st (fun t k => XS.iloadN X10.here hx rfl (hb hby d5_27) rfl k) ?_
  refine own_st (fun t k => XS.iload X10.here hx rfl (hb hby d5_28) rfl k) ?_
  refine own_st (fun t k => XS.iadd X10.here hx rfl (hb hby d5_30) rfl k) ?_
  show own_Fin _ _ _ _ _ _ _ (T10.setTop (mkF m 31 #[rv a1, rv a2, iv 0, iv 2, iv 1, iv B3, iv 2, iv 3, iv 3] [(.int (3 : Int32)), (.int (3 : Int32))]))
  refine own_st (fun t k => XS.icmpYes X10.here hx rfl (pc0 := 31) (pc' := 107) rfl (hb hby d5_31) rfl (flt (by decide : ¬ ((3 : Int32) < (3 : Int32)))).2.1 (by decide) (by decide) k) ?_
  refine own_st (fun t k => XS.iload X10.here hx rfl (hb hby d5_107) rfl k) ?_
  show own_Fin _ _ _ _ _ _ _ (T10.setTop (mkF m 109 #[rv a1, rv a2, iv 0, iv 2, iv 1, iv B3, iv 2, iv 3, iv 3] [(.int (2 : Int32))]))
  refine own_st (fun t k => XS.ifNo X10.here hx rfl (hb hby d5_109) rfl ((if0 _ _).trans (tlt (by decide : (0 : Int32) < (2 : Int32))).2.2.2) k) ?_
  refine own_st (fun t k => XS.aloadN X10.here hx rfl (hb hby d5_112) rfl rfl k) ?_
  show own_Fin _ _ _ _ _ _ _ (T10.setTop (mkF m 113 #[rv a1, rv a2, iv 0, iv 2, iv 1, iv B3, iv 2, iv 3, iv 3] [(.ref a1)]))
  obtain ⟨T11, X11, e11, st11⟩ := getF X10 hx hZ hown (host := "") (Or.inl (hw _ (List.mem_of_getElem? (i := 22) rfl))) Via.refl e10 f10_1 (g := (mkF m 113 #[rv a1, rv a2, iv 0, iv 2, iv 1, iv B3, iv 2, iv 3, iv 3] [(.ref a1)])) rfl rfl (hb hby d5_113)
  refine own_st st11 ?_
  refine own_st (fun t k => XS.aloadN X11.here hx rfl (hb hby d5_116) rfl rfl k) ?_
  refine own_st (fun t k => XS.dup X11.here hx rfl (hb hby d5_117) rfl rfl k) ?_
  show own_Fin _ _ _ _ _ _ _ (T11.setTop (mkF m 118 #[rv a1, rv a2, iv 0, iv 2, iv 1, iv B3, iv 2, iv 3, iv 3] [(.ref a1), (.ref a1), (.ref t)]))
  obtain ⟨T12, X12, e12, st12⟩ := getF X11 hx hZ hown (host := "") (Or.inl (hw _ (List.mem_of_getElem? (i := 29) rfl))) Via.refl e11 f10_3 (g := (mkF m 118 #[rv a1, rv a2, iv 0, iv 2, iv 1, iv B3, iv 2, iv 3, iv 3] [(.ref a1), (.ref a1), (.ref t)])) rfl rfl (hb hby d5_118)
  refine own_st st12 ?_
  show own_Fin _ _ _ _ _ _ _ (T12.setTop (mkF m 121 #[rv a1, rv a2, iv 0, iv 2, iv 1, iv B3, iv 2, iv 3, iv 3] [(.int ((cn + (1 : Int32)) + (1 : Int32))), (.ref a1), (.ref t)]))
  refine own_st (fun t k => XS.dupX1 X12.here hx rfl (hb hby d5_121) rfl rfl rfl k) ?_
  refine own_st (fun t k => XS.iconst X12.here hx rfl (hb hby d5_122) k) ?_
  refine own_st (fun t k => XS.iadd X12.here hx rfl (hb hby d5_123) rfl k) ?_
  show own_Fin _ _ _ _ _ _ _ (T12.setTop (mkF m 124 #[rv a1, rv a2, iv 0, iv 2, iv 1, iv B3, iv 2, iv 3, iv 3] [(.int (((cn + (1 : Int32)) + (1 : Int32)) + (1 : Int32))), (.ref a1), (.int ((cn + (1 : Int32)) + (1 : Int32))), (.ref t)]))
  obtain ⟨T13, h13, X13, e13, W13, st13⟩ := putF X12 hx hZ hown (host := "") (Or.inl (hw _ (List.mem_of_getElem? (i := 29) rfl))) Via.refl e12 f10_3 f10_0 (Or.inl (hw _ (List.mem_of_getElem? (i := 30) rfl))) (hw _ (List.mem_of_getElem? (i := 10) rfl)) (ty := .int) (by decide) rfl rfl (g := (mkF m 124 #[rv a1, rv a2, iv 0, iv 2, iv 1, iv B3, iv 2, iv 3, iv 3] [(.int (((cn + (1 : Int32)) + (1 : Int32)) + (1 : Int32))), (.ref a1), (.int ((cn + (1 : Int32)) + (1 : Int32))), (.ref t)])) rfl rfl (hb hby d5_124)
  have f13_0 := f10_0.wr W13
  have f13_1 := f10_1.other W13 (Or.inr (slot_ne (Or.inr (hw _ (List.mem_of_getElem? (i := 23) rfl))) (Or.inl (hw _ (List.mem_of_getElem? (i := 30) rfl))) (by decide) (t := (.array .int)) (t' := .int) (by decide) (by decide)))
  have f13_2 := f10_2.other W13 nac
  have f13_3 := V10.other W13 (Ne.symm nat)
  have Fw13 : Fld Z h13 a1 "com/example/quietzone/quietzone/datamatrix/CodewordWriter" "count" "I" (.int (((cn + (1 : Int32)) + (1 : Int32)) + (1 : Int32))) := f10_3.same W13
  have N13 := Fr.snoc X13 N10 gi
  have Z13 : n0 ≤ h13.size := Nat.le_trans Z10 (Keep.of_wr W13).1
  have K13 : Keep h0 h13 [a1, t] := K10.wr W13 (Or.inl (List.mem_of_getElem? (i := 0) rfl))
  refine own_st st13 ?_
  refine own_st (fun t k => XS.iload X13.here hx rfl (hb hby d5_127) rfl k) ?_
  refine own_st (fun t k => XS.bipush X13.here hx rfl (hb hby d5_129) k) ?_
  show own_Fin _ _ _ _ _ _ _ (T13.setTop (mkF m 131 #[rv a1, rv a2, iv 0, iv 2, iv 1, iv B3, iv 2, iv 3, iv 3] [(.int (8 : Int32)), (.int B3), (.int ((cn + (1 : Int32)) + (1 : Int32))), (.ref t)]))
  refine own_st (fun t k => XS.iload X13.here hx rfl (hb hby d5_131) rfl k) ?_
  refine own_st (fun t k => XS.isub X13.here hx rfl (hb hby d5_133) rfl k) ?_
  show own_Fin _ _ _ _ _ _ _ (T13.setTop (mkF m 134 #[rv a1, rv a2, iv 0, iv 2, iv 1, iv B3, iv 2, iv 3, iv 3] [(.int (6 : Int32)), (.int B3), (.int ((cn + (1 : Int32)) + (1 : Int32))), (.ref t)]))
  refine own_st (fun t k => XS.ishl X13.here hx rfl (hb hby d5_134) rfl k) ?_
  refine own_st (fun t k => XS.sipush X13.here hx rfl (hb hby d5_135) k) ?_
  refine own_st (fun t k => XS.iand X13.here hx rfl (hb hby d5_138) rfl k) ?_
  show own_Fin _ _ _ _ _ _ _ (T13.setTop (mkF m 139 #[rv a1, rv a2, iv 0, iv 2, iv 1, iv B3, iv 2, iv 3, iv 3] [(.int ((B3 <<< ((6 : Int32) &&& 31)) &&& (255 : Int32))), (.int ((cn + (1 : Int32)) + (1 : Int32))), (.ref t)]))
  obtain ⟨cl14, Ar14, Cq14, Sz14, Mn14, Hs14, Gf14⟩ := id f13_3
  obtain ⟨T14, h14, X14, e14, W14, st14⟩ := stI X13 hx hZ e13 Ar14 (j := ((cn + (1 : Int32)) + (1 : Int32))) (inb_of Sz14 (own_cn hcn hlen).2.2.1) (g := (mkF m 139 #[rv a1, rv a2, iv 0, iv 2, iv 1, iv B3, iv 2, iv 3, iv 3] [(.int ((B3 <<< ((6 : Int32) &&& 31)) &&& (255 : Int32))), (.int ((cn + (1 : Int32)) + (1 : Int32))), (.ref t)])) rfl rfl (hb hby d5_139)
  have f14_0 := f13_0.wr W14
  have f14_1 := f13_1.other W14 (Or.inl nat)
  have f14_2 := f13_2.other W14 nct
  have f14_3 := Fw13.other W14 (Or.inl nat)
  have V14 : Arv Z h14 t kt .int (8 : Int32) (((vs.set (cn).toNatClampNeg (.int ((B2 >>> ((4 : Int32) &&& 31)) &&& (255 : Int32)))).set ((cn + (1 : Int32))).toNatClampNeg (.int ((B3 >>> ((2 : Int32) &&& 31)) &&& (255 : Int32)))).set (((cn + (1 : Int32)) + (1 : Int32))).toNatClampNeg (.int ((B3 <<< ((6 : Int32) &&& 31)) &&& (255 : Int32)))) (.int (0 : Int32)) := Arv.set Ar14 Cq14 Sz14 Mn14 Hs14 Gf14 rfl W14 (((cn + (1 : Int32)) + (1 : Int32))).toNatClampNeg rfl (by simp only [List.length_set]; exact (own_cn hcn hlen).2.2.2.2.2.2.1)
  have N14 := Fr.snoc X14 N13 gt
  have Z14 : n0 ≤ h14.size := Nat.le_trans Z13 (Keep.of_wr W14).1
  have K14 : Keep h0 h14 [a1, t] := K13.wr W14 (Or.inl (List.mem_of_getElem? (i := 1) rfl))
  refine own_st st14 ?_
  show own_Fin _ _ _ _ _ _ _ (T14.setTop (mkF m 140 #[rv a1, rv a2, iv 0, iv 2, iv 1, iv B3, iv 2, iv 3, iv 3] []))
  have x0 : 0 ≤ ((w0 &&& (63 : Int32))).toInt ∧ ((w0 &&& (63 : Int32))).toInt < 64 := own_x63 _
  have b1 := own_b1 hB1 x0
  have x1 : 0 ≤ ((w1 &&& (63 : Int32))).toInt ∧ ((w1 &&& (63 : Int32))).toInt < 64 := own_x63 _
  have b2 := own_bS hB2 b1 (by omega) x1
  have x2 : 0 ≤ ((31 : Int32)).toInt ∧ ((31 : Int32)).toInt < 64 := by decide
  have b3 := own_bS hB3 b2 (by omega) x2
  have hks : own_ks 2 1 w0 w1 w2 w3 = [((B2 >>> ((4 : Int32) &&& 31)) &&& (255 : Int32)), ((B3 >>> ((2 : Int32) &&& 31)) &&& (255 : Int32)), ((B3 <<< ((6 : Int32) &&& 31)) &&& (255 : Int32))] := by
    rw [own_ks_21, own_six_mask hw0, own_six_mask hw1]
    rw [(own_o0 b2 x0 x1), (own_o1 b3 x0 x1 x2), (own_f3 b3 x0 x1 x2)]
  exact own_retV X14 hx Bd.notSynchronized Bd.returns (hb hby d5_140) (by decide) (by decide) (by rw [e14]; unfold own_Q_rmE_0_2_1; rw [hks]; exact ⟨rfl, N14, K14, f14_0, f14_1, f14_3, V14⟩)
def own_Q_rmE_0_3_1 (Z : State)  (a1 a2 : Addr) (t : Addr) (kt : ClassId) (vs : List Value) (cn : Int32) (kc : ClassId) (vc : List Value) (w0 w1 w2 w3 : Int32) (h0 : Heap) (n0 : Nat) (v : Option Value) (h : Heap) (L : List Loc) : Prop := v = none ∧ Fr n0 L ∧ Keep h0 h [a1, t] ∧ Exa Z h a1 "com/example/quietzone/quietzone/datamatrix/CodewordWriter" ∧ Fld Z h a1 "com/example/quietzone/quietzone/datamatrix/CodewordWriter" "codewords" "[I" (.ref t) ∧ Fld Z h a1 "com/example/quietzone/quietzone/datamatrix/CodewordWriter" "count" "I" (.int (own_cnt cn (own_ks 3 1 w0 w1 w2 w3))) ∧ Arv Z h t kt .int (8 : Int32) (own_app vs cn (own_ks 3 1 w0 w1 w2 w3)) (.int (0 : Int32))
set_option maxRecDepth 65536 in
set_option maxHeartbeats 40000000 in
theorem rmE_0_3_1 (l : Launch) (Z : State) (a0 : Array Value) (hw : ∀ d ∈ tables_1, d.before a0 Z = true) (ws : List Jvm.Cond)  (a1 a2 : Addr) (t : Addr) (kt : ClassId) (vs : List Value) (cn : Int32) (kc : ClassId) (vc : List Value) (w0 w1 w2 w3 : Int32) (h0 : Heap) (n0 : Nat) (Z0 : n0 ≤ h0.size) (Ei : Exa Z h0 a1 "com/example/quietzone/quietzone/datamatrix/CodewordWriter") (Fw : Fld Z h0 a1 "com/example/quietzone/quietzone/datamatrix/CodewordWriter" "codewords" "[I" (.ref t)) (Fc : Fld Z h0 a1 "com/example/quietzone/quietzone/datamatrix/CodewordWriter" "count" "I" (.int cn)) (Vt : Arv Z h0 t kt .int (8 : Int32) vs (.int (0 : Int32))) (gi : n0 ≤ a1) (gt : n0 ≤ t) (nat : a1 ≠ t) (Vc : Arv Z h0 a2 kc .int (5 : Int32) vc (.int (0 : Int32))) (nac : a2 ≠ a1) (nct : a2 ≠ t) (hcn : cn = (0 : Int32) ∨ cn = (1 : Int32)) (hlen : vs.length = 8) (hat0 : vc.getD (0 : Int32).toNatClampNeg (.int (0 : Int32)) = .int w0) (hw0 : 32 ≤ w0.toInt ∧ w0.toInt ≤ 94) (hat1 : vc.getD (1 : Int32).toNatClampNeg (.int (0 : Int32)) = .int w1) (hw1 : 32 ≤ w1.toInt ∧ w1.toInt ≤ 94) (hat2 : vc.getD (2 : Int32).toNatClampNeg (.int (0 : Int32)) = .int w2) (hw2 : 32 ≤ w2.toInt ∧ w2.toInt ≤ 94) :
    MetFree l (⟨"com/example/quietzone/quietzone/datamatrix/CodewordWriter", "edifact", "([IIIZ)V"⟩ : MethodName) (head1 (Jvm.Cond.code (⟨"com/example/quietzone/quietzone/datamatrix/CodewordWriter", "edifact", "([IIIZ)V"⟩ : MethodName) prog_34_method_9_code 9 none :: ws) ({ frames := 0, cells := 0, slots := 0, locals := 0 } : Room)) (fun a U => a = #[(.ref a1), (.ref a2), (.int (0 : Int32)), (.int (3 : Int32)), (.int (1 : Int32))] ∧ Z.Warmed39 U.vm ∧ U.heap = h0) (fun _ _ _ _ _ => True) (fun _ U o U' => ∃ v L, o = .returned v ∧ own_Q_rmE_0_3_1 Z a1 a2 t kt vs cn kc vc w0 w1 w2 w3 h0 n0 v U'.heap L ∧ FrameEnd U o U' L ({ frames := 0, cells := 0, slots := 0, locals := 0 } : Room).cells ({ frames := 0, cells := 0, slots := 0, locals := 0 } : Room).slots) := by
  refine MetFree.of_bodySF pn_5 hisR ?_
  intro p e s m args below meth c s₁ Bd hml0 hP hK
  obtain ⟨rfl, hZ, hh⟩ := hP
  have hx := Bd.exec
  have hby := Bd.bytes
  have hml : c.maxLocals = 9 := hml0
  have hown : s.vm.findClass "com/example/quietzone/quietzone/datamatrix/CodewordWriter" = some m.cls := findClass_of_methodNamed Bd.named
  have hnm := (name_of_methodNamed Bd.named Bd.method).1
  have X0 : Stand p l e ({ frames := 0, cells := 0, slots := 0, locals := 0 } : Room) s m #[(.ref a1), (.ref a2), (.int (0 : Int32)), (.int (3 : Int32)), (.int (1 : Int32))] below meth c s₁ [] 0 0 := Stand.of_body Bd
  have e0 : s₁.heap = h0 := by rw [← hh, Bd.state]; rfl
  have N0 := Fr.nil n0
  have KR : Keep h0 h0 [a1, t] := Keep.refl h0 [a1, t]
  show own_Fin p.tables e below s (({ frames := 0, cells := 0, slots := 0, locals := 0 } : Room).cells) (({ frames := 0, cells := 0, slots := 0, locals := 0 } : Room).slots) (own_Q_rmE_0_3_1 Z a1 a2 t kt vs cn kc vc w0 w1 w2 w3 h0 n0) (s₁.setTop (entryFrame m #[(.ref a1), (.ref a2), (.int (0 : Int32)), (.int (3 : Int32)), (.int (1 : Int32))] 9))
  rw [ef_5 m a1 a2 (0 : Int32) (3 : Int32) (1 : Int32)]
  refine own_st (fun t k => XS.iconst X0.here hx rfl (hb hby d5_0) k) ?_
  refine own_st (fun t k => XS.istore X0.here hx rfl (hb hby d5_1) rfl (l' := #[rv a1, rv a2, iv 0, iv 3, iv 1, iv 0, .unset, .unset, .unset]) rfl k) ?_
  show own_Fin _ _ _ _ _ _ _ (s₁.setTop (mkF m 3 #[rv a1, rv a2, iv 0, iv 3, iv 1, iv 0, .unset, .unset, .unset] []))
  refine own_st (fun t k => XS.iconst X0.here hx rfl (hb hby d5_3) k) ?_
  refine own_st (fun t k => XS.istore X0.here hx rfl (hb hby d5_4) rfl (l' := #[rv a1, rv a2, iv 0, iv 3, iv 1, iv 0, iv 0, .unset, .unset]) rfl k) ?_
  refine own_st (fun t k => XS.iloadN X0.here hx rfl (hb hby d5_6) rfl k) ?_
  show own_Fin _ _ _ _ _ _ _ (s₁.setTop (mkF m 7 #[rv a1, rv a2, iv 0, iv 3, iv 1, iv 0, iv 0, .unset, .unset] [(.int (3 : Int32))]))
  refine own_st (fun t k => XS.iloadN X0.here hx rfl (hb hby d5_7) rfl k) ?_
  refine own_st (fun t k => XS.isub X0.here hx rfl (hb hby d5_8) rfl k) ?_
  refine own_st (fun t k => XS.iload X0.here hx rfl (hb hby d5_9) rfl k) ?_
  show own_Fin _ _ _ _ _ _ _ (s₁.setTop (mkF m 11 #[rv a1, rv a2, iv 0, iv 3, iv 1, iv 0, iv 0, .unset, .unset] [(.int (1 : Int32)), (.int (3 : Int32))]))
  refine own_st (fun t k => XS.ifNo X0.here hx rfl (hb hby d5_11) rfl ((if0 _ _).trans (feq (by decide : ¬ ((1 : Int32) = (0 : Int32)))).1) k) ?_
  refine own_st (fun t k => XS.iconst X0.here hx rfl (hb hby d5_14) k) ?_
  refine own_st (fun t k => XS.goto X0.here hx rfl (pc0 := 15) (pc' := 19) rfl (hb hby d5_15) (by decide) (by decide) k) ?_
  show own_Fin _ _ _ _ _ _ _ (s₁.setTop (mkF m 19 #[rv a1, rv a2, iv 0, iv 3, iv 1, iv 0, iv 0, .unset, .unset] [(.int (1 : Int32)), (.int (3 : Int32))]))
  refine own_st (fun t k => XS.iadd X0.here hx rfl (hb hby d5_19) rfl k) ?_
  refine own_st (fun t k => XS.istore X0.here hx rfl (hb hby d5_20) rfl (l' := #[rv a1, rv a2, iv 0, iv 3, iv 1, iv 0, iv 0, iv 4, .unset]) rfl k) ?_
  refine own_st (fun t k => XS.iloadN X0.here hx rfl (hb hby d5_22) rfl k) ?_
  show own_Fin _ _ _ _ _ _ _ (s₁.setTop (mkF m 23 #[rv a1, rv a2, iv 0, iv 3, iv 1, iv 0, iv 0, iv 4, .unset] [(.int (0 : Int32))]))
  refine own_st (fun t k => XS.istore X0.here hx rfl (hb hby d5_23) rfl (l' := #[rv a1, rv a2, iv 0, iv 3, iv 1, iv 0, iv 0, iv 4, iv 0]) rfl k) ?_
  refine own_st (fun t k => XS.iload X0.here hx rfl (hb hby d5_25) rfl k) ?_
  refine own_st (fun t k => XS.iloadN X0.here hx rfl (hb hby d5_27) rfl k) ?_
  show own_Fin _ _ _ _ _ _ _ (s₁.setTop (mkF m 28 #[rv a1, rv a2, iv 0, iv 3, iv 1, iv 0, iv 0, iv 4, iv 0] [(.int (0 : Int32)), (.int (0 : Int32))]))
  refine own_st (fun t k => XS.iload X0.here hx rfl (hb hby d5_28) rfl k) ?_
  refine own_st (fun t k => XS.iadd X0.here hx rfl (hb hby d5_30) rfl k) ?_
  show own_Fin _ _ _ _ _ _ _ (s₁.setTop (mkF m 31 #[rv a1, rv a2, iv 0, iv 3, iv 1, iv 0, iv 0, iv 4, iv 0] [(.int (4 : Int32)), (.int (0 : Int32))]))
  refine own_st (fun t k => XS.icmpNo X0.here hx rfl (hb hby d5_31) rfl (tlt (by decide : (0 : Int32) < (4 : Int32))).2.1 k) ?_
  refine own_st (fun t k => XS.iload X0.here hx rfl (hb hby d5_34) rfl k) ?_
  refine own_st (fun t k => XS.bipush X0.here hx rfl (hb hby d5_36) k) ?_
  show own_Fin _ _ _ _ _ _ _ (s₁.setTop (mkF m 38 #[rv a1, rv a2, iv 0, iv 3, iv 1, iv 0, iv 0, iv 4, iv 0] [(.int (6 : Int32)), (.int (0 : Int32))]))
  refine own_st (fun t k => XS.ishl X0.here hx rfl (hb hby d5_38) rfl k) ?_
  refine own_st (fun t k => XS.iload X0.here hx rfl (hb hby d5_39) rfl k) ?_
  refine own_st (fun t k => XS.iloadN X0.here hx rfl (hb hby d5_41) rfl k) ?_
  show own_Fin _ _ _ _ _ _ _ (s₁.setTop (mkF m 42 #[rv a1, rv a2, iv 0, iv 3, iv 1, iv 0, iv 0, iv 4, iv 0] [(.int (3 : Int32)), (.int (0 : Int32)), (.int ((0 : Int32) <<< ((6 : Int32) &&& 31)))]))
  refine own_st (fun t k => XS.icmpNo X0.here hx rfl (hb hby d5_42) rfl (tlt (by decide : (0 : Int32) < (3 : Int32))).2.1 k) ?_
  refine own_st (fun t k => XS.aloadN X0.here hx rfl (hb hby d5_45) rfl rfl k) ?_
  refine own_st (fun t k => XS.iload X0.here hx rfl (hb hby d5_46) rfl k) ?_
  show own_Fin _ _ _ _ _ _ _ (s₁.setTop (mkF m 48 #[rv a1, rv a2, iv 0, iv 3, iv 1, iv 0, iv 0, iv 4, iv 0] [(.int (0 : Int32)), (.ref a2), (.int ((0 : Int32) <<< ((6 : Int32) &&& 31)))]))
  obtain ⟨cl1, Ar1, Cq1, Sz1, Mn1, Hs1, Gf1⟩ := id Vc
  have hin1 := inb_of Sz1 (j := (0 : Int32)) ⟨by decide, by decide⟩
  refine own_st (X0.iaload hx (j := (0 : Int32)) (v := (.int w0)) (by rw [e0]; exact Ar1.1) (State.isArrayOf_alike hZ.alike Ar1.2.1) Ar1.2.2 hin1 (Hs1.at hin1 hat0) (g := (mkF m 48 #[rv a1, rv a2, iv 0, iv 3, iv 1, iv 0, iv 0, iv 4, iv 0] [(.int (0 : Int32)), (.ref a2), (.int ((0 : Int32) <<< ((6 : Int32) &&& 31)))])) rfl rfl (hb hby d5_48)) ?_
  refine own_st (fun t k => XS.bipush X0.here hx rfl (hb hby d5_49) k) ?_
  refine own_st (fun t k => XS.iand X0.here hx rfl (hb hby d5_51) rfl k) ?_
  show own_Fin _ _ _ _ _ _ _ (s₁.setTop (mkF m 52 #[rv a1, rv a2, iv 0, iv 3, iv 1, iv 0, iv 0, iv 4, iv 0] [(.int (w0 &&& (63 : Int32))), (.int ((0 : Int32) <<< ((6 : Int32) &&& 31)))]))
  refine own_st (fun t k => XS.goto X0.here hx rfl (pc0 := 52) (pc' := 57) rfl (hb hby d5_52) (by decide) (by decide) k) ?_
  refine own_st (fun t k => XS.ior X0.here hx rfl (hb hby d5_57) rfl k) ?_
  refine own_st (fun t k => XS.istore X0.here hx rfl (hb hby d5_58) rfl (l' := #[rv a1, rv a2, iv 0, iv 3, iv 1, iv (((0 : Int32) <<< ((6 : Int32) &&& 31)) ||| (w0 &&& (63 : Int32))), iv 0, iv 4, iv 0]) rfl k) ?_
  show own_Fin _ _ _ _ _ _ _ (s₁.setTop (mkF m 60 #[rv a1, rv a2, iv 0, iv 3, iv 1, iv (((0 : Int32) <<< ((6 : Int32) &&& 31)) ||| (w0 &&& (63 : Int32))), iv 0, iv 4, iv 0] []))
  obtain ⟨B1, hB1⟩ : ∃ z, z = (((0 : Int32) <<< ((6 : Int32) &&& 31)) ||| (w0 &&& (63 : Int32))) := ⟨_, rfl⟩
  rw [← hB1]
  refine own_st (fun t k => XS.iinc X0.here hx rfl (hb hby d5_60) rfl (l' := #[rv a1, rv a2, iv 0, iv 3, iv 1, iv B1, iv 6, iv 4, iv 0]) rfl k) ?_
  refine own_st (fun t k => XS.iload X0.here hx rfl (hb hby d5_63) rfl k) ?_
  refine own_st (fun t k => XS.bipush X0.here hx rfl (hb hby d5_65) k) ?_
  show own_Fin _ _ _ _ _ _ _ (s₁.setTop (mkF m 67 #[rv a1, rv a2, iv 0, iv 3, iv 1, iv B1, iv 6, iv 4, iv 0] [(.int (8 : Int32)), (.int (6 : Int32))]))
  refine own_st (fun t k => XS.icmpYes X0.here hx rfl (pc0 := 67) (pc' := 101) rfl (hb hby d5_67) rfl (tlt (by decide : (6 : Int32) < (8 : Int32))).1 (by decide) (by decide) k) ?_
  show own_Fin _ _ _ _ _ _ _ (s₁.setTop (mkF m 101 #[rv a1, rv a2, iv 0, iv 3, iv 1, iv B1, iv 6, iv 4, iv 0] []))
  refine own_st (fun t k => XS.iinc X0.here hx rfl (hb hby d5_101) rfl (l' := #[rv a1, rv a2, iv 0, iv 3, iv 1, iv B1, iv 6, iv 4, iv 1]) rfl k) ?_
  refine own_st (fun t k => XS.goto X0.here hx rfl (pc0 := 104) (pc' := 25) rfl (hb hby d5_104) (by decide) (by decide) k) ?_
  refine own_st (fun t k => XS.iload X0.here hx rfl (hb hby d5_25) rfl k) ?_
  show own_Fin _ _ _ _ _ _ _ (s₁.setTop (mkF m 27 #[rv a1, rv a2, iv 0, iv 3, iv 1, iv B1, iv 6, iv 4, iv 1] [(.int (1 : Int32))]))
  refine own_st (fun t k => XS.iloadN X0.here hx rfl (hb hby d5_27) rfl k) ?_
  refine own_st (fun t k => XS.iload X0.here hx rfl (hb hby d5_28) rfl k) ?_
  refine own_st (fun t k => XS.iadd X0.here hx rfl (hb hby d5_30) rfl k) ?_
  show own_Fin _ _ _ _ _ _ _ (s₁.setTop (mkF m 31 #[rv a1, rv a2, iv 0, iv 3, iv 1, iv B1, iv 6, iv 4, iv 1] [(.int (4 : Int32)), (.int (1 : Int32))]))
  refine own_st (fun t k => XS.icmpNo X0.here hx rfl (hb hby d5_31) rfl (tlt (by decide : (1 : Int32) < (4 : Int32))).2.1 k) ?_
  refine own_st (fun t k => XS.iload X0.here hx rfl (hb hby d5_34) rfl k) ?_
  refine own_st (fun t k => XS.bipush X0.here hx rfl (hb hby d5_36) k) ?_
  show own_Fin _ _ _ _ _ _ _ (s₁.setTop (mkF m 38 #[rv a1, rv a2, iv 0, iv 3, iv 1, iv B1, iv 6, iv 4, iv 1] [(.int (6 : Int32)), (.int B1)]))
  refine own_st (fun t k => XS.ishl X0.here hx rfl (hb hby d5_38) rfl k) ?_
  refine own_st (fun t k => XS.iload X0.here hx rfl (hb hby d5_39) rfl k) ?_
  refine own_st (fun t k => XS.iloadN X0.here hx rfl (hb hby d5_41) rfl k) ?_
  show own_Fin _ _ _ _ _ _ _ (s₁.setTop (mkF m 42 #[rv a1, rv a2, iv 0, iv 3, iv 1, iv B1, iv 6, iv 4, iv 1] [(.int (3 : Int32)), (.int (1 : Int32)), (.int (B1 <<< ((6 : Int32) &&& 31)))]))
  refine own_st (fun t k => XS.icmpNo X0.here hx rfl (hb hby d5_42) rfl (tlt (by decide : (1 : Int32) < (3 : Int32))).2.1 k) ?_
  refine own_st (fun t k => XS.aloadN X0.here hx rfl (hb hby d5_45) rfl rfl k) ?_
  refine own_st (fun t k => XS.iload X0.here hx rfl (hb hby d5_46) rfl k) ?_
  show own_Fin _ _ _ _ _ _ _ (s₁.setTop (mkF m 48 #[rv a1, rv a2, iv 0, iv 3, iv 1, iv B1, iv 6, iv 4, iv 1] [(.int (1 : Int32)), (.ref a2), (.int (B1 <<< ((6 : Int32) &&& 31)))]))
  obtain ⟨cl2, Ar2, Cq2, Sz2, Mn2, Hs2, Gf2⟩ := id Vc
  have hin2 := inb_of Sz2 (j := (1 : Int32)) ⟨by decide, by decide⟩
  refine own_st (X0.iaload hx (j := (1 : Int32)) (v := (.int w1)) (by rw [e0]; exact Ar2.1) (State.isArrayOf_alike hZ.alike Ar2.2.1) Ar2.2.2 hin2 (Hs2.at hin2 hat1) (g := (mkF m 48 #[rv a1, rv a2, iv 0, iv 3, iv 1, iv B1, iv 6, iv 4, iv 1] [(.int (1 : Int32)), (.ref a2), (.int (B1 <<< ((6 : Int32) &&& 31)))])) rfl rfl (hb hby d5_48)) ?_
  refine own_st (fun t k => XS.bipush X0.here hx rfl (hb hby d5_49) k) ?_
  refine own_st (fun t k => XS.iand X0.here hx rfl (hb hby d5_51) rfl k) ?_
  show own_Fin _ _ _ _ _ _ _ (s₁.setTop (mkF m 52 #[rv a1, rv a2, iv 0, iv 3, iv 1, iv B1, iv 6, iv 4, iv 1] [(.int (w1 &&& (63 : Int32))), (.int (B1 <<< ((6 : Int32) &&& 31)))]))
  refine own_st (fun t k => XS.goto X0.here hx rfl (pc0 := 52) (pc' := 57) rfl (hb hby d5_52) (by decide) (by decide) k) ?_
  refine own_st (fun t k => XS.ior X0.here hx rfl (hb hby d5_57) rfl k) ?_
  refine own_st (fun t k => XS.istore X0.here hx rfl (hb hby d5_58) rfl (l' := #[rv a1, rv a2, iv 0, iv 3, iv 1, iv ((B1 <<< ((6 : Int32) &&& 31)) ||| (w1 &&& (63 : Int32))), iv 6, iv 4, iv 1]) rfl k) ?_
  show own_Fin _ _ _ _ _ _ _ (s₁.setTop (mkF m 60 #[rv a1, rv a2, iv 0, iv 3, iv 1, iv ((B1 <<< ((6 : Int32) &&& 31)) ||| (w1 &&& (63 : Int32))), iv 6, iv 4, iv 1] []))
  obtain ⟨B2, hB2⟩ : ∃ z, z = ((B1 <<< ((6 : Int32) &&& 31)) ||| (w1 &&& (63 : Int32))) := ⟨_, rfl⟩
  rw [← hB2]
  refine own_st (fun t k => XS.iinc X0.here hx rfl (hb hby d5_60) rfl (l' := #[rv a1, rv a2, iv 0, iv 3, iv 1, iv B2, iv 12, iv 4, iv 1]) rfl k) ?_
  refine own_st (fun t k => XS.iload X0.here hx rfl (hb hby d5_63) rfl k) ?_
  refine own_st (fun t k => XS.bipush X0.here hx rfl (hb hby d5_65) k) ?_
  show own_Fin _ _ _ _ _ _ _ (s₁.setTop (mkF m 67 #[rv a1, rv a2, iv 0, iv 3, iv 1, iv B2, iv 12, iv 4, iv 1] [(.int (8 : Int32)), (.int (12 : Int32))]))
  refine own_st (fun t k => XS.icmpNo X0.here hx rfl (hb hby d5_67) rfl (flt (by decide : ¬ ((12 : Int32) < (8 : Int32)))).1 k) ?_
  show own_Fin _ _ _ _ _ _ _ (s₁.setTop (mkF m 70 #[rv a1, rv a2, iv 0, iv 3, iv 1, iv B2, iv 12, iv 4, iv 1] []))
  refine own_st (fun t k => XS.iinc X0.here hx rfl (hb hby d5_70) rfl (l' := #[rv a1, rv a2, iv 0, iv 3, iv 1, iv B2, iv 4, iv 4, iv 1]) rfl k) ?_
  refine own_st (fun t k => XS.aloadN X0.here hx rfl (hb hby d5_73) rfl rfl k) ?_
  show own_Fin _ _ _ _ _ _ _ (s₁.setTop (mkF m 74 #[rv a1, rv a2, iv 0, iv 3, iv 1, iv B2, iv 4, iv 4, iv 1] [(.ref a1)]))
  obtain ⟨T3, X3, e3, st3⟩ := getF X0 hx hZ hown (host := "") (Or.inl (hw _ (List.mem_of_getElem? (i := 22) rfl))) Via.refl e0 Fw (g := (mkF m 74 #[rv a1, rv a2, iv 0, iv 3, iv 1, iv B2, iv 4, iv 4, iv 1] [(.ref a1)])) rfl rfl (hb hby d5_74)
  refine own_st st3 ?_
  refine own_st (fun t k => XS.aloadN X3.here hx rfl (hb hby d5_77) rfl rfl k) ?_
  refine own_st (fun t k => XS.dup X3.here hx rfl (hb hby d5_78) rfl rfl k) ?_
  show own_Fin _ _ _ _ _ _ _ (T3.setTop (mkF m 79 #[rv a1, rv a2, iv 0, iv 3, iv 1, iv B2, iv 4, iv 4, iv 1] [(.ref a1), (.ref a1), (.ref t)]))
  obtain ⟨T4, X4, e4, st4⟩ := getF X3 hx hZ hown (host := "") (Or.inl (hw _ (List.mem_of_getElem? (i := 29) rfl))) Via.refl e3 Fc (g := (mkF m 79 #[rv a1, rv a2, iv 0, iv 3, iv 1, iv B2, iv 4, iv 4, iv 1] [(.ref a1), (.ref a1), (.ref t)])) rfl rfl (hb hby d5_79)
  refine own_st st4 ?_
  show own_Fin _ _ _ _ _ _ _ (T4.setTop (mkF m 82 #[rv a1, rv a2, iv 0, iv 3, iv 1, iv B2, iv 4, iv 4, iv 1] [(.int cn), (.ref a1), (.ref t)]))
  refine own_st (fun t k => XS.dupX1 X4.here hx rfl (hb hby d5_82) rfl rfl rfl k) ?_
  refine own_st (fun t k => XS.iconst X4.here hx rfl (hb hby d5_83) k) ?_
  refine own_st (fun t k => XS.iadd X4.here hx rfl (hb hby d5_84) rfl k) ?_
  show own_Fin _ _ _ _ _ _ _ (T4.setTop (mkF m 85 #[rv a1, rv a2, iv 0, iv 3, iv 1, iv B2, iv 4, iv 4, iv 1] [(.int (cn + (1 : Int32))), (.ref a1), (.int cn), (.ref t)]))
  obtain ⟨T5, h5, X5, e5, W5, st5⟩ := putF X4 hx hZ hown (host := "") (Or.inl (hw _ (List.mem_of_getElem? (i := 29) rfl))) Via.refl e4 Fc Ei (Or.inl (hw _ (List.mem_of_getElem? (i := 30) rfl))) (hw _ (List.mem_of_getElem? (i := 10) rfl)) (ty := .int) (by decide) rfl rfl (g := (mkF m 85 #[rv a1, rv a2, iv 0, iv 3, iv 1, iv B2, iv 4, iv 4, iv 1] [(.int (cn + (1 : Int32))), (.ref a1), (.int cn), (.ref t)])) rfl rfl (hb hby d5_85)
  have f5_0 := Ei.wr W5
  have f5_1 := Fw.other W5 (Or.inr (slot_ne (Or.inr (hw _ (List.mem_of_getElem? (i := 23) rfl))) (Or.inl (hw _ (List.mem_of_getElem? (i := 30) rfl))) (by decide) (t := (.array .int)) (t' := .int) (by decide) (by decide)))
  have f5_2 := Vt.other W5 (Ne.symm nat)
  have f5_3 := Vc.other W5 nac
  have Fw5 : Fld Z h5 a1 "com/example/quietzone/quietzone/datamatrix/CodewordWriter" "count" "I" (.int (cn + (1 : Int32))) := Fc.same W5
  have N5 := Fr.snoc X5 N0 gi
  have Z5 : n0 ≤ h5.size := Nat.le_trans Z0 (Keep.of_wr W5).1
  have K5 : Keep h0 h5 [a1, t] := KR.wr W5 (Or.inl (List.mem_of_getElem? (i := 0) rfl))
  refine own_st st5 ?_
  refine own_st (fun t k => XS.iload X5.here hx rfl (hb hby d5_88) rfl k) ?_
  refine own_st (fun t k => XS.iload X5.here hx rfl (hb hby d5_90) rfl k) ?_
  show own_Fin _ _ _ _ _ _ _ (T5.setTop (mkF m 92 #[rv a1, rv a2, iv 0, iv 3, iv 1, iv B2, iv 4, iv 4, iv 1] [(.int (4 : Int32)), (.int B2), (.int cn), (.ref t)]))
  refine own_st (fun t k => XS.ishr X5.here hx rfl (hb hby d5_92) rfl k) ?_
  refine own_st (fun t k => XS.sipush X5.here hx rfl (hb hby d5_93) k) ?_
  refine own_st (fun t k => XS.iand X5.here hx rfl (hb hby d5_96) rfl k) ?_
  show own_Fin _ _ _ _ _ _ _ (T5.setTop (mkF m 97 #[rv a1, rv a2, iv 0, iv 3, iv 1, iv B2, iv 4, iv 4, iv 1] [(.int ((B2 >>> ((4 : Int32) &&& 31)) &&& (255 : Int32))), (.int cn), (.ref t)]))
  obtain ⟨cl6, Ar6, Cq6, Sz6, Mn6, Hs6, Gf6⟩ := id f5_2
  obtain ⟨T6, h6, X6, e6, W6, st6⟩ := stI X5 hx hZ e5 Ar6 (j := cn) (inb_of Sz6 (own_cn hcn hlen).1) (g := (mkF m 97 #[rv a1, rv a2, iv 0, iv 3, iv 1, iv B2, iv 4, iv 4, iv 1] [(.int ((B2 >>> ((4 : Int32) &&& 31)) &&& (255 : Int32))), (.int cn), (.ref t)])) rfl rfl (hb hby d5_97)
  have f6_0 := f5_0.wr W6
  have f6_1 := f5_1.other W6 (Or.inl nat)
  have f6_2 := f5_3.other W6 nct
  have f6_3 := Fw5.other W6 (Or.inl nat)
  have V6 : Arv Z h6 t kt .int (8 : Int32) (vs.set (cn).toNatClampNeg (.int ((B2 >>> ((4 : Int32) &&& 31)) &&& (255 : Int32)))) (.int (0 : Int32)) := Arv.set Ar6 Cq6 Sz6 Mn6 Hs6 Gf6 rfl W6 (cn).toNatClampNeg rfl (own_cn hcn hlen).2.2.2.2.1
  have N6 := Fr.snoc X6 N5 gt
  have Z6 : n0 ≤ h6.size := Nat.le_trans Z5 (Keep.of_wr W6).1
  have K6 : Keep h0 h6 [a1, t] := K5.wr W6 (Or.inl (List.mem_of_getElem? (i := 1) rfl))
  refine own_st st6 ?_
  refine own_st (fun t k => XS.goto X6.here hx rfl (pc0 := 98) (pc' := 63) rfl (hb hby d5_98) (by decide) (by decide) k) ?_
  refine own_st (fun t k => XS.iload X6.here hx rfl (hb hby d5_63) rfl k) ?_
  show own_Fin _ _ _ _ _ _ _ (T6.setTop (mkF m 65 #[rv a1, rv a2, iv 0, iv 3, iv 1, iv B2, iv 4, iv 4, iv 1] [(.int (4 : Int32))]))
  refine own_st (fun t k => XS.bipush X6.here hx rfl (hb hby d5_65) k) ?_
  show own_Fin _ _ _ _ _ _ _ (T6.setTop (mkF m 67 #[rv a1, rv a2, iv 0, iv 3, iv 1, iv B2, iv 4, iv 4, iv 1] [(.int (8 : Int32)), (.int (4 : Int32))]))
  refine own_st (fun t k => XS.icmpYes X6.here hx rfl (pc0 := 67) (pc' := 101) rfl (hb hby d5_67) rfl (tlt (by decide : (4 : Int32) < (8 : Int32))).1 (by decide) (by decide) k) ?_
  show own_Fin _ _ _ _ _ _ _ (T6.setTop (mkF m 101 #[rv a1, rv a2, iv 0, iv 3, iv 1, iv B2, iv 4, iv 4, iv 1] []))
  refine own_st (fun t k => XS.iinc X6.here hx rfl (hb hby d5_101) rfl (l' := #[rv a1, rv a2, iv 0, iv 3, iv 1, iv B2, iv 4, iv 4, iv 2]) rfl k) ?_
  refine own_st (fun t k => XS.goto X6.here hx rfl (pc0 := 104) (pc' := 25) rfl (hb hby d5_104) (by decide) (by decide) k) ?_
  refine own_st (fun t k => XS.iload X6.here hx rfl (hb hby d5_25) rfl k) ?_
  show own_Fin _ _ _ _ _ _ _ (T6.setTop (mkF m 27 #[rv a1, rv a2, iv 0, iv 3, iv 1, iv B2, iv 4, iv 4, iv 2] [(.int (2 : Int32))]))
  refine own_st (fun t k => XS.iloadN X6.here hx rfl (hb hby d5_27) rfl k) ?_
  refine own_st (fun t k => XS.iload X6.here hx rfl (hb hby d5_28) rfl k) ?_
  refine own_st (fun t k => XS.iadd X6.here hx rfl (hb hby d5_30) rfl k) ?_
  show own_Fin _ _ _ _ _ _ _ (T6.setTop (mkF m 31 #[rv a1, rv a2, iv 0, iv 3, iv 1, iv B2, iv 4, iv 4, iv 2] [(.int (4 : Int32)), (.int (2 : Int32))]))
  refine own_st (fun t k => XS.icmpNo X6.here hx rfl (hb hby d5_31) rfl (tlt (by decide : (2 : Int32) < (4 : Int32))).2.1 k) ?_
  refine own_st (fun t k => XS.iload X6.here hx rfl (hb hby d5_34) rfl k) ?_
  refine own_st (fun t k => XS.bipush X6.here hx rfl (hb hby d5_36) k) ?_
  show own_Fin _ _ _ _ _ _ _ (T6.setTop (mkF m 38 #[rv a1, rv a2, iv 0, iv 3, iv 1, iv B2, iv 4, iv 4, iv 2] [(.int (6 : Int32)), (.int B2)]))
  refine own_st (fun t k => XS.ishl X6.here hx rfl (hb hby d5_38) rfl k) ?_
  refine own_st (fun t k => XS.iload X6.here hx rfl (hb hby d5_39) rfl k) ?_
  refine own_st (fun t k => XS.iloadN X6.here hx rfl (hb hby d5_41) rfl k) ?_
  show own_Fin _ _ _ _ _ _ _ (T6.setTop (mkF m 42 #[rv a1, rv a2, iv 0, iv 3, iv 1, iv B2, iv 4, iv 4, iv 2] [(.int (3 : Int32)), (.int (2 : Int32)), (.int (B2 <<< ((6 : Int32) &&& 31)))]))
  refine own_st (fun t k => XS.icmpNo X6.here hx rfl (hb hby d5_42) rfl (tlt (by decide : (2 : Int32) < (3 : Int32))).2.1 k) ?_
  refine own_st (fun t k => XS.aloadN X6.here hx rfl (hb hby d5_45) rfl rfl k) ?_
  refine own_st (fun t k => XS.iload X6.here hx rfl (hb hby d5_46) rfl k) ?_
  show own_Fin _ _ _ _ _ _ _ (T6.setTop (mkF m 48 #[rv a1, rv a2, iv 0, iv 3, iv 1, iv B2, iv 4, iv 4, iv 2] [(.int (2 : Int32)), (.ref a2), (.int (B2 <<< ((6 : Int32) &&& 31)))]))
  obtain ⟨cl7, Ar7, Cq7, Sz7, Mn7, Hs7, Gf7⟩ := id f6_2
  have hin7 := inb_of Sz7 (j := (2 : Int32)) ⟨by decide, by decide⟩
  refine own_st (X6.iaload hx (j := (2 : Int32)) (v := (.int w2)) (by rw [e6]; exact Ar7.1) (State.isArrayOf_alike hZ.alike Ar7.2.1) Ar7.2.2 hin7 (Hs7.at hin7 hat2) (g := (mkF m 48 #[rv a1, rv a2, iv 0, iv 3, iv 1, iv B2, iv 4, iv 4, iv 2] [(.int (2 : Int32)), (.ref a2), (.int (B2 <<< ((6 : Int32) &&& 31)))])) rfl rfl (hb hby d5_48)) ?_
  refine own_st (fun t k => XS.bipush X6.here hx rfl (hb hby d5_49) k) ?_
  refine own_st (fun t k => XS.iand X6.here hx rfl (hb hby d5_51) rfl k) ?_
  show own_Fin _ _ _ _ _ _ _ (T6.setTop (mkF m 52 #[rv a1, rv a2, iv 0, iv 3, iv 1, iv B2, iv 4, iv 4, iv 2] [(.int (w2 &&& (63 : Int32))), (.int (B2 <<< ((6 : Int32) &&& 31)))]))
  refine own_st (fun t k => XS.goto X6.here hx rfl (pc0 := 52) (pc' := 57) rfl (hb hby d5_52) (by decide) (by decide) k) ?_
  refine own_st (fun t k => XS.ior X6.here hx rfl (hb hby d5_57) rfl k) ?_
  refine own_st (fun t k => XS.istore X6.here hx rfl (hb hby d5_58) rfl (l' := #[rv a1, rv a2, iv 0, iv 3, iv 1, iv ((B2 <<< ((6 : Int32) &&& 31)) ||| (w2 &&& (63 : Int32))), iv 4, iv 4, iv 2]) rfl k) ?_
  show own_Fin _ _ _ _ _ _ _ (T6.setTop (mkF m 60 #[rv a1, rv a2, iv 0, iv 3, iv 1, iv ((B2 <<< ((6 : Int32) &&& 31)) ||| (w2 &&& (63 : Int32))), iv 4, iv 4, iv 2] []))
  obtain ⟨B3, hB3⟩ : ∃ z, z = ((B2 <<< ((6 : Int32) &&& 31)) ||| (w2 &&& (63 : Int32))) := ⟨_, rfl⟩
  rw [← hB3]
  refine own_st (fun t k => XS.iinc X6.here hx rfl (hb hby d5_60) rfl (l' := #[rv a1, rv a2, iv 0, iv 3, iv 1, iv B3, iv 10, iv 4, iv 2]) rfl k) ?_
  refine own_st (fun t k => XS.iload X6.here hx rfl (hb hby d5_63) rfl k) ?_
  refine own_st (fun t k => XS.bipush X6.here hx rfl (hb hby d5_65) k) ?_
  show own_Fin _ _ _ _ _ _ _ (T6.setTop (mkF m 67 #[rv a1, rv a2, iv 0, iv 3, iv 1, iv B3, iv 10, iv 4, iv 2] [(.int (8 : Int32)), (.int (10 : Int32))]))
  refine own_st (fun t k => XS.icmpNo X6.here hx rfl (hb hby d5_67) rfl (flt (by decide : ¬ ((10 : Int32) < (8 : Int32)))).1 k) ?_
  show own_Fin _ _ _ _ _ _ _ (T6.setTop (mkF m 70 #[rv a1, rv a2, iv 0, iv 3, iv 1, iv B3, iv 10, iv 4, iv 2] []))
  refine own_st (fun t k => XS.iinc X6.here hx rfl (hb hby d5_70) rfl (l' := #[rv a1, rv a2, iv 0, iv 3, iv 1, iv B3, iv 2, iv 4, iv 2]) rfl k) ?_
  refine own_st (fun t k => XS.aloadN X6.here hx rfl (hb hby d5_73) rfl rfl k) ?_
  show own_Fin _ _ _ _ _ _ _ (T6.setTop (mkF m 74 #[rv a1, rv a2, iv 0, iv 3, iv 1, iv B3, iv 2, iv 4, iv 2] [(.ref a1)]))
  obtain ⟨T8, X8, e8, st8⟩ := getF X6 hx hZ hown (host := "") (Or.inl (hw _ (List.mem_of_getElem? (i := 22) rfl))) Via.refl e6 f6_1 (g := (mkF m 74 #[rv a1, rv a2, iv 0, iv 3, iv 1, iv B3, iv 2, iv 4, iv 2] [(.ref a1)])) rfl rfl (hb hby d5_74)
  refine own_st st8 ?_
  refine own_st (fun t k => XS.aloadN X8.here hx rfl (hb hby d5_77) rfl rfl k) ?_
  refine own_st (fun t k => XS.dup X8.here hx rfl (hb hby d5_78) rfl rfl k) ?_
  show own_Fin _ _ _ _ _ _ _ (T8.setTop (mkF m 79 #[rv a1, rv a2, iv 0, iv 3, iv 1, iv B3, iv 2, iv 4, iv 2] [(.ref a1), (.ref a1), (.ref t)]))
  obtain ⟨T9, X9, e9, st9⟩ := getF X8 hx hZ hown (host := "") (Or.inl (hw _ (List.mem_of_getElem? (i := 29) rfl))) Via.refl e8 f6_3 (g := (mkF m 79 #[rv a1, rv a2, iv 0, iv 3, iv 1, iv B3, iv 2, iv 4, iv 2] [(.ref a1), (.ref a1), (.ref t)])) rfl rfl (hb hby d5_79)
  refine own_st st9 ?_
  show own_Fin _ _ _ _ _ _ _ (T9.setTop (mkF m 82 #[rv a1, rv a2, iv 0, iv 3, iv 1, iv B3, iv 2, iv 4, iv 2] [(.int (cn + (1 : Int32))), (.ref a1), (.ref t)]))
  refine own_st (fun t k => XS.dupX1 X9.here hx rfl (hb hby d5_82) rfl rfl rfl k) ?_
  refine own_st (fun t k => XS.iconst X9.here hx rfl (hb hby d5_83) k) ?_
  refine own_st (fun t k => XS.iadd X9.here hx rfl (hb hby d5_84) rfl k) ?_
  show own_Fin _ _ _ _ _ _ _ (T9.setTop (mkF m 85 #[rv a1, rv a2, iv 0, iv 3, iv 1, iv B3, iv 2, iv 4, iv 2] [(.int ((cn + (1 : Int32)) + (1 : Int32))), (.ref a1), (.int (cn + (1 : Int32))), (.ref t)]))
  obtain ⟨T10, h10, X10, e10, W10, st10⟩ := putF X9 hx hZ hown (host := "") (Or.inl (hw _ (List.mem_of_getElem? (i := 29) rfl))) Via.refl e9 f6_3 f6_0 (Or.inl (hw _ (List.mem_of_getElem? (i := 30) rfl))) (hw _ (List.mem_of_getElem? (i := 10) rfl)) (ty := .int) (by decide) rfl rfl (g := (mkF m 85 #[rv a1, rv a2, iv 0, iv 3, iv 1, iv B3, iv 2, iv 4, iv 2] [(.int ((cn + (1 : Int32)) + (1 : Int32))), (.ref a1), (.int (cn + (1 : Int32))), (.ref t)])) rfl rfl (hb hby d5_85)
  have f10_0 := f6_0.wr W10
  have f10_1 := f6_1.other W10 (Or.inr (slot_ne (Or.inr (hw _ (List.mem_of_getElem? (i := 23) rfl))) (Or.inl (hw _ (List.mem_of_getElem? (i := 30) rfl))) (by decide) (t := (.array .int)) (t' := .int) (by decide) (by decide)))
  have f10_2 := f6_2.other W10 nac
  have f10_3 := V6.other W10 (Ne.symm nat)
  have Fw10 : Fld Z h10 a1 "com/example/quietzone/quietzone/datamatrix/CodewordWriter" "count" "I" (.int ((cn + (1 : Int32)) + (1 : Int32))) := f6_3.same W10
  have N10 := Fr.snoc X10 N6 gi
  have Z10 : n0 ≤ h10.size := Nat.le_trans Z6 (Keep.of_wr W10).1
  have K10 : Keep h0 h10 [a1, t] := K6.wr W10 (Or.inl (List.mem_of_getElem? (i := 0) rfl))
  refine own_st st10 ?_
  refine own_st (fun t k => XS.iload X10.here hx rfl (hb hby d5_88) rfl k) ?_
  refine own_st (fun t k => XS.iload X10.here hx rfl (hb hby d5_90) rfl k) ?_
  show own_Fin _ _ _ _ _ _ _ (T10.setTop (mkF m 92 #[rv a1, rv a2, iv 0, iv 3, iv 1, iv B3, iv 2, iv 4, iv 2] [(.int (2 : Int32)), (.int B3), (.int (cn + (1 : Int32))), (.ref t)]))
  refine own_st (fun t k => XS.ishr X10.here hx rfl (hb hby d5_92) rfl k) ?_
  refine own_st (fun t k => XS.sipush X10.here hx rfl (hb hby d5_93) k) ?_
  refine own_st (fun t k => XS.iand X10.here hx rfl (hb hby d5_96) rfl k) ?_
  show own_Fin _ _ _ _ _ _ _ (T10.setTop (mkF m 97 #[rv a1, rv a2, iv 0, iv 3, iv 1, iv B3, iv 2, iv 4, iv 2] [(.int ((B3 >>> ((2 : Int32) &&& 31)) &&& (255 : Int32))), (.int (cn + (1 : Int32))), (.ref t)]))
  obtain ⟨cl11, Ar11, Cq11, Sz11, Mn11, Hs11, Gf11⟩ := id f10_3
  obtain ⟨T11, h11, X11, e11, W11, st11⟩ := stI X10 hx hZ e10 Ar11 (j := (cn + (1 : Int32))) (inb_of Sz11 (own_cn hcn hlen).2.1) (g := (mkF m 97 #[rv a1, rv a2, iv 0, iv 3, iv 1, iv B3, iv 2, iv 4, iv 2] [(.int ((B3 >>> ((2 : Int32) &&& 31)) &&& (255 : Int32))), (.int (cn + (1 : Int32))), (.ref t)])) rfl rfl (hb hby d5_97)
  have f11_0 := f10_0.wr W11
  have f11_1 := f10_1.other W11 (Or.inl nat)
  have f11_2 := f10_2.other W11 nct
  have f11_3 := Fw10.other W11 (Or.inl nat)
  have V11 : Arv Z h11 t kt .int (8 : Int32) ((vs.set (cn).toNatClampNeg (.int ((B2 >>> ((4 : Int32) &&& 31)) &&& (255 : Int32)))).set ((cn + (1 : Int32))).toNatClampNeg (.int ((B3 >>> ((2 : Int32) &&& 31)) &&& (255 : Int32)))) (.int (0 : Int32)) := Arv.set Ar11 Cq11 Sz11 Mn11 Hs11 Gf11 rfl W11 ((cn + (1 : Int32))).toNatClampNeg rfl (by simp only [List.length_set]; exact (own_cn hcn hlen).2.2.2.2.2.1)
  have N11 := Fr.snoc X11 N10 gt
  have Z11 : n0 ≤ h11.size := Nat.le_trans Z10 (Keep.of_wr W11).1
  have K11 : Keep h0 h11 [a1, t] := K10.wr W11 (Or.inl (List.mem_of_getElem? (i := 1) rfl))
  refine own_st st11 ?_
  refine own_st (fun t k => XS.goto X11.here hx rfl (pc0 := 98) (pc' := 63) rfl (hb hby d5_98) (by decide) (by decide) k) ?_
  refine own_st (fun t k => XS.iload X11.here hx rfl (hb hby d5_63) rfl k) ?_
  show own_Fin _ _ _ _ _ _ _ (T11.setTop (mkF m 65 #[rv a1, rv a2, iv 0, iv 3, iv 1, iv B3, iv 2, iv 4, iv 2] [(.int (2 : Int32))]))
  refine own_st (fun t k => XS.bipush X11.here hx rfl (hb hby d5_65) k) ?_
  show own_Fin _ _ _ _ _ _ _ (T11.setTop (mkF m 67 #[rv a1, rv a2, iv 0, iv 3, iv 1, iv B3, iv 2, iv 4, iv 2] [(.int (8 : Int32)), (.int (2 : Int32))]))
  refine own_st (fun t k => XS.icmpYes X11.here hx rfl (pc0 := 67) (pc' := 101) rfl (hb hby d5_67) rfl (tlt (by decide : (2 : Int32) < (8 : Int32))).1 (by decide) (by decide) k) ?_
  show own_Fin _ _ _ _ _ _ _ (T11.setTop (mkF m 101 #[rv a1, rv a2, iv 0, iv 3, iv 1, iv B3, iv 2, iv 4, iv 2] []))
  refine own_st (fun t k => XS.iinc X11.here hx rfl (hb hby d5_101) rfl (l' := #[rv a1, rv a2, iv 0, iv 3, iv 1, iv B3, iv 2, iv 4, iv 3]) rfl k) ?_
  refine own_st (fun t k => XS.goto X11.here hx rfl (pc0 := 104) (pc' := 25) rfl (hb hby d5_104) (by decide) (by decide) k) ?_
  refine own_st (fun t k => XS.iload X11.here hx rfl (hb hby d5_25) rfl k) ?_
  show own_Fin _ _ _ _ _ _ _ (T11.setTop (mkF m 27 #[rv a1, rv a2, iv 0, iv 3, iv 1, iv B3, iv 2, iv 4, iv 3] [(.int (3 : Int32))]))
  refine own_st (fun t k => XS.iloadN X11.here hx rfl (hb hby d5_27) rfl k) ?_
  refine own_st (fun t k => XS.iload X11.here hx rfl (hb hby d5_28) rfl k) ?_
  refine own_st (fun t k => XS.iadd X11.here hx rfl (hb hby d5_30) rfl k) ?_
  show own_Fin _ _ _ _ _ _ _ (T11.setTop (mkF m 31 #[rv a1, rv a2, iv 0, iv 3, iv 1, iv B3, iv 2, iv 4, iv 3] [(.int (4 : Int32)), (.int (3 : Int32))]))
  refine own_st (fun t k => XS.icmpNo X11.here hx rfl (hb hby d5_31) rfl (tlt (by decide : (3 : Int32) < (4 : Int32))).2.1 k) ?_
  refine own_st (fun t k => XS.iload X11.here hx rfl (hb hby d5_34) rfl k) ?_
  refine own_st (fun t k => XS.bipush X11.here hx rfl (hb hby d5_36) k) ?_
  show own_Fin _ _ _ _ _ _ _ (T11.setTop (mkF m 38 #[rv a1, rv a2, iv 0, iv 3, iv 1, iv B3, iv 2, iv 4, iv 3] [(.int (6 : Int32)), (.int B3)]))
  refine own_st (fun t k => XS.ishl X11.here hx rfl (hb hby d5_38) rfl k) ?_
  refine own_st (fun t k => XS.iload X11.here hx rfl (hb hby d5_39) rfl k) ?_
  refine own_st (fun t k => XS.iloadN X11.here hx rfl (hb hby d5_41) rfl k) ?_
  show own_Fin _ _ _ _ _ _ _ (T11.setTop (mkF m 42 #[rv a1, rv a2, iv 0, iv 3, iv 1, iv B3, iv 2, iv 4, iv 3] [(.int (3 : Int32)), (.int (3 : Int32)), (.int (B3 <<< ((6 : Int32) &&& 31)))]))
  refine own_st (fun t k => XS.icmpYes X11.here hx rfl (pc0 := 42) (pc' := 55) rfl (hb hby d5_42) rfl (flt (by decide : ¬ ((3 : Int32) < (3 : Int32)))).2.1 (by decide) (by decide) k) ?_
  refine own_st (fun t k => XS.bipush X11.here hx rfl (hb hby d5_55) k) ?_
  refine own_st (fun t k => XS.ior X11.here hx rfl (hb hby d5_57) rfl k) ?_
  show own_Fin _ _ _ _ _ _ _ (T11.setTop (mkF m 58 #[rv a1, rv a2, iv 0, iv 3, iv 1, iv B3, iv 2, iv 4, iv 3] [(.int ((B3 <<< ((6 : Int32) &&& 31)) ||| (31 : Int32)))]))
  refine own_st (fun t k => XS.istore X11.here hx rfl (hb hby d5_58) rfl (l' := #[rv a1, rv a2, iv 0, iv 3, iv 1, iv ((B3 <<< ((6 : Int32) &&& 31)) ||| (31 : Int32)), iv 2, iv 4, iv 3]) rfl k) ?_
  show own_Fin _ _ _ _ _ _ _ (T11.setTop (mkF m 60 #[rv a1, rv a2, iv 0, iv 3, iv 1, iv ((B3 <<< ((6 : Int32) &&& 31)) ||| (31 : Int32)), iv 2, iv 4, iv 3] []))
  obtain ⟨B4, hB4⟩ : ∃ z, z = ((B3 <<< ((6 : Int32) &&& 31)) ||| (31 : Int32)) := ⟨_, rfl⟩
  rw [← hB4]
  refine own_st (fun t k => XS.iinc X11.here hx rfl (hb hby d5_60) rfl (l' := #[rv a1, rv a2, iv 0, iv 3, iv 1, iv B4, iv 8, iv 4, iv 3]) rfl k) ?_
  refine own_st (fun t k => XS.iload X11.here hx rfl (hb hby d5_63) rfl k) ?_
  refine own_st (fun t k => XS.bipush X11.here hx rfl (hb hby d5_65) k) ?_
  show own_Fin _ _ _ _ _ _ _ (T11.setTop (mkF m 67 #[rv a1, rv a2, iv 0, iv 3, iv 1, iv B4, iv 8, iv 4, iv 3] [(.int (8 : Int32)), (.int (8 : Int32))]))
  refine own_st (fun t k => XS.icmpNo X11.here hx rfl (hb hby d5_67) rfl (flt (by decide : ¬ ((8 : Int32) < (8 : Int32)))).1 k) ?_
  show own_Fin _ _ _ _ _ _ _ (T11.setTop (mkF m 70 #[rv a1, rv a2, iv 0, iv 3, iv 1, iv B4, iv 8, iv 4, iv 3] []))
  refine own_st (fun t k => XS.iinc X11.here hx rfl (hb hby d5_70) rfl (l' := #[rv a1, rv a2, iv 0, iv 3, iv 1, iv B4, iv 0, iv 4, iv 3]) rfl k) ?_
  refine own_st (fun t k => XS.aloadN X11.here hx rfl (hb hby d5_73) rfl rfl k) ?_
  show own_Fin _ _ _ _ _ _ _ (T11.setTop (mkF m 74 #[rv a1, rv a2, iv 0, iv 3, iv 1, iv B4, iv 0, iv 4, iv 3] [(.ref a1)]))
  obtain ⟨T12, X12, e12, st12⟩ := getF X11 hx hZ hown (host := "") (Or.inl (hw _ (List.mem_of_getElem? (i := 22) rfl))) Via.refl e11 f11_1 (g := (mkF m 74 #[rv a1, rv a2, iv 0, iv 3, iv 1, iv B4, iv 0, iv 4, iv 3] [(.ref a1)])) rfl rfl (hb hby d5_74)
  refine own_st st12 ?_
  refine own_st (fun t k => XS.aloadN X12.here hx rfl (hb hby d5_77) rfl rfl k) ?_
  refine own_st (fun t k => XS.dup X12.here hx rfl (hb hby d5_78) rfl rfl k) ?_
  show own_Fin _ _ _ _ _ _ _ (T12.setTop (mkF m 79 #[rv a1, rv a2, iv 0, iv 3, iv 1, iv B4, iv 0, iv 4, iv 3] [(.ref a1), (.ref a1), (.ref t)]))
  obtain ⟨T13, X13, e13, st13⟩ := getF X12 hx hZ hown (host := "") (Or.inl (hw _ (List.mem_of_getElem? (i := 29) rfl))) Via.refl e12 f11_3 (g := (mkF m 79 #[rv a1, rv a2, iv 0, iv 3, iv 1, iv B4, iv 0, iv 4, iv 3] [(.ref a1), (.ref a1), (.ref t)])) rfl rfl (hb hby d5_79)
  refine own_st st13 ?_
  show own_Fin _ _ _ _ _ _ _ (T13.setTop (mkF m 82 #[rv a1, rv a2, iv 0, iv 3, iv 1, iv B4, iv 0, iv 4, iv 3] [(.int ((cn + (1 : Int32)) + (1 : Int32))), (.ref a1), (.ref t)]))
  refine own_st (fun t k => XS.dupX1 X13.here hx rfl (hb hby d5_82) rfl rfl rfl k) ?_
  refine own_st (fun t k => XS.iconst X13.here hx rfl (hb hby d5_83) k) ?_
  refine own_st (fun t k => XS.iadd X13.here hx rfl (hb hby d5_84) rfl k) ?_
  show own_Fin _ _ _ _ _ _ _ (T13.setTop (mkF m 85 #[rv a1, rv a2, iv 0, iv 3, iv 1, iv B4, iv 0, iv 4, iv 3] [(.int (((cn + (1 : Int32)) + (1 : Int32)) + (1 : Int32))), (.ref a1), (.int ((cn + (1 : Int32)) + (1 : Int32))), (.ref t)]))
  obtain ⟨T14, h14, X14, e14, W14, st14⟩ := putF X13 hx hZ hown (host := "") (Or.inl (hw _ (List.mem_of_getElem? (i := 29) rfl))) Via.refl e13 f11_3 f11_0 (Or.inl (hw _ (List.mem_of_getElem? (i := 30) rfl))) (hw _ (List.mem_of_getElem? (i := 10) rfl)) (ty := .int) (by decide) rfl rfl (g := (mkF m 85 #[rv a1, rv a2, iv 0, iv 3, iv 1, iv B4, iv 0, iv 4, iv 3] [(.int (((cn + (1 : Int32)) + (1 : Int32)) + (1 : Int32))), (.ref a1), (.int ((cn + (1 : Int32)) + (1 : Int32))), (.ref t)])) rfl rfl (hb hby d5_85)
  have f14_0 := f11_0.wr W14
  have f14_1 := f11_1.other W14 (Or.inr (slot_ne (Or.inr (hw _ (List.mem_of_getElem? (i := 23) rfl))) (Or.inl (hw _ (List.mem_of_getElem? (i := 30) rfl))) (by decide) (t := (.array .int)) (t' := .int) (by decide) (by decide)))
  have f14_2 := f11_2.other W14 nac
  have f14_3 := V11.other W14 (Ne.symm nat)
  have Fw14 : Fld Z h14 a1 "com/example/quietzone/quietzone/datamatrix/CodewordWriter" "count" "I" (.int (((cn + (1 : Int32)) + (1 : Int32)) + (1 : Int32))) := f11_3.same W14
  have N14 := Fr.snoc X14 N11 gi
  have Z14 : n0 ≤ h14.size := Nat.le_trans Z11 (Keep.of_wr W14).1
  have K14 : Keep h0 h14 [a1, t] := K11.wr W14 (Or.inl (List.mem_of_getElem? (i := 0) rfl))
  refine own_st st14 ?_
  refine own_st (fun t k => XS.iload X14.here hx rfl (hb hby d5_88) rfl k) ?_
  refine own_st (fun t k => XS.iload X14.here hx rfl (hb hby d5_90) rfl k) ?_
  show own_Fin _ _ _ _ _ _ _ (T14.setTop (mkF m 92 #[rv a1, rv a2, iv 0, iv 3, iv 1, iv B4, iv 0, iv 4, iv 3] [(.int (0 : Int32)), (.int B4), (.int ((cn + (1 : Int32)) + (1 : Int32))), (.ref t)]))
  refine own_st (fun t k => XS.ishr X14.here hx rfl (hb hby d5_92) rfl k) ?_
  refine own_st (fun t k => XS.sipush X14.here hx rfl (hb hby d5_93) k) ?_
  refine own_st (fun t k => XS.iand X14.here hx rfl (hb hby d5_96) rfl k) ?_
  show own_Fin _ _ _ _ _ _ _ (T14.setTop (mkF m 97 #[rv a1, rv a2, iv 0, iv 3, iv 1, iv B4, iv 0, iv 4, iv 3] [(.int ((B4 >>> ((0 : Int32) &&& 31)) &&& (255 : Int32))), (.int ((cn + (1 : Int32)) + (1 : Int32))), (.ref t)]))
  obtain ⟨cl15, Ar15, Cq15, Sz15, Mn15, Hs15, Gf15⟩ := id f14_3
  obtain ⟨T15, h15, X15, e15, W15, st15⟩ := stI X14 hx hZ e14 Ar15 (j := ((cn + (1 : Int32)) + (1 : Int32))) (inb_of Sz15 (own_cn hcn hlen).2.2.1) (g := (mkF m 97 #[rv a1, rv a2, iv 0, iv 3, iv 1, iv B4, iv 0, iv 4, iv 3] [(.int ((B4 >>> ((0 : Int32) &&& 31)) &&& (255 : Int32))), (.int ((cn + (1 : Int32)) + (1 : Int32))), (.ref t)])) rfl rfl (hb hby d5_97)
  have f15_0 := f14_0.wr W15
  have f15_1 := f14_1.other W15 (Or.inl nat)
  have f15_2 := f14_2.other W15 nct
  have f15_3 := Fw14.other W15 (Or.inl nat)
  have V15 : Arv Z h15 t kt .int (8 : Int32) (((vs.set (cn).toNatClampNeg (.int ((B2 >>> ((4 : Int32) &&& 31)) &&& (255 : Int32)))).set ((cn + (1 : Int32))).toNatClampNeg (.int ((B3 >>> ((2 : Int32) &&& 31)) &&& (255 : Int32)))).set (((cn + (1 : Int32)) + (1 : Int32))).toNatClampNeg (.int ((B4 >>> ((0 : Int32) &&& 31)) &&& (255 : Int32)))) (.int (0 : Int32)) := Arv.set Ar15 Cq15 Sz15 Mn15 Hs15 Gf15 rfl W15 (((cn + (1 : Int32)) + (1 : Int32))).toNatClampNeg rfl (by simp only [List.length_set]; exact (own_cn hcn hlen).2.2.2.2.2.2.1)
  have N15 := Fr.snoc X15 N14 gt
  have Z15 : n0 ≤ h15.size := Nat.le_trans Z14 (Keep.of_wr W15).1
  have K15 : Keep h0 h15 [a1, t] := K14.wr W15 (Or.inl (List.mem_of_getElem? (i := 1) rfl))
  refine own_st st15 ?_
  refine own_st (fun t k => XS.goto X15.here hx rfl (pc0 := 98) (pc' := 63) rfl (hb hby d5_98) (by decide) (by decide) k) ?_
  refine own_st (fun t k => XS.iload X15.here hx rfl (hb hby d5_63) rfl k) ?_
  show own_Fin _ _ _ _ _ _ _ (T15.setTop (mkF m 65 #[rv a1, rv a2, iv 0, iv 3, iv 1, iv B4, iv 0, iv 4, iv 3] [(.int (0 : Int32))]))
  refine own_st (fun t k => XS.bipush X15.here hx rfl (hb hby d5_65) k) ?_
  show own_Fin _ _ _ _ _ _ _ (T15.setTop (mkF m 67 #[rv a1, rv a2, iv 0, iv 3, iv 1, iv B4, iv 0, iv 4, iv 3] [(.int (8 : Int32)), (.int (0 : Int32))]))
  refine own_st (fun t k => XS.icmpYes X15.here hx rfl (pc0 := 67) (pc' := 101) rfl (hb hby d5_67) rfl (tlt (by decide : (0 : Int32) < (8 : Int32))).1 (by decide) (by decide) k) ?_
  show own_Fin _ _ _ _ _ _ _ (T15.setTop (mkF m 101 #[rv a1, rv a2, iv 0, iv 3, iv 1, iv B4, iv 0, iv 4, iv 3] []))
  refine own_st (fun t k => XS.iinc X15.here hx rfl (hb hby d5_101) rfl (l' := #[rv a1, rv a2, iv 0, iv 3, iv 1, iv B4, iv 0, iv 4, iv 4]) rfl k) ?_
  refine own_st (fun t k => XS.goto X15.here hx rfl (pc0 := 104) (pc' := 25) rfl (hb hby d5_104) (by decide) (by decide) k) ?_
  refine own_st (fun t k => XS.iload X15.here hx rfl (hb hby d5_25) rfl k) ?_
  show own_Fin _ _ _ _ _ _ _ (T15.setTop (mkF m 27 #[rv a1, rv a2, iv 0, iv 3, iv 1, iv B4, iv 0, iv 4, iv 4] [(.int (4 : Int32))]))
  refine own_st (fun t k => XS.iloadN X15.here hx rfl (hb hby d5_27) rfl k) ?_
  refine own_st (fun t k => XS.iload X15.here hx rfl (hb hby d5_28) rfl k) ?_
  refine own_st (fun t k => XS.iadd X15.here hx rfl (hb hby d5_30) rfl k) ?_
  show own_Fin _ _ _ _ _ _ _ (T15.setTop (mkF m 31 #[rv a1, rv a2, iv 0, iv 3, iv 1, iv B4, iv 0, iv 4, iv 4] [(.int (4 : Int32)), (.int (4 : Int32))]))
  refine own_st (fun t k => XS.icmpYes X15.here hx rfl (pc0 := 31) (pc' := 107) rfl (hb hby d5_31) rfl (flt (by decide : ¬ ((4 : Int32) < (4 : Int32)))).2.1 (by decide) (by decide) k) ?_
  refine own_st (fun t k => XS.iload X15.here hx rfl (hb hby d5_107) rfl k) ?_
  show own_Fin _ _ _ _ _ _ _ (T15.setTop (mkF m 109 #[rv a1, rv a2, iv 0, iv 3, iv 1, iv B4, iv 0, iv 4, iv 4] [(.int (0 : Int32))]))
  refine own_st (fun t k => XS.ifYes X15.here hx rfl (pc0 := 109) (pc' := 140) rfl (hb hby d5_109) rfl ((if0 _ _).trans (flt (by decide : ¬ ((0 : Int32) < (0 : Int32)))).2.2.2) (by decide) (by decide) k) ?_
  show own_Fin _ _ _ _ _ _ _ (T15.setTop (mkF m 140 #[rv a1, rv a2, iv 0, iv 3, iv 1, iv B4, iv 0, iv 4, iv 4] []))
  have x0 : 0 ≤ ((w0 &&& (63 : Int32))).toInt ∧ ((w0 &&& (63 : Int32))).toInt < 64 := own_x63 _
  have b1 := own_b1 hB1 x0
  have x1 : 0 ≤ ((w1 &&& (63 : Int32))).toInt ∧ ((w1 &&& (63 : Int32))).toInt < 64 := own_x63 _
  have b2 := own_bS hB2 b1 (by omega) x1
  have x2 : 0 ≤ ((w2 &&& (63 : Int32))).toInt ∧ ((w2 &&& (63 : Int32))).toInt < 64 := own_x63 _
  have b3 := own_bS hB3 b2 (by omega) x2
  have x3 : 0 ≤ ((31 : Int32)).toInt ∧ ((31 : Int32)).toInt < 64 := by decide
  have b4 := own_bS hB4 b3 (by omega) x3
  have hks : own_ks 3 1 w0 w1 w2 w3 = [((B2 >>> ((4 : Int32) &&& 31)) &&& (255 : Int32)), ((B3 >>> ((2 : Int32) &&& 31)) &&& (255 : Int32)), ((B4 >>> ((0 : Int32) &&& 31)) &&& (255 : Int32))] := by
    rw [own_ks_31, own_six_mask hw0, own_six_mask hw1, own_six_mask hw2]
    rw [(own_o0 b2 x0 x1), (own_o1 b3 x0 x1 x2), (own_o2 b4 x0 x1 x2 x3)]
  exact own_retV X15 hx Bd.notSynchronized Bd.returns (hb hby d5_140) (by decide) (by decide) (by rw [e15]; unfold own_Q_rmE_0_3_1; rw [hks]; exact ⟨rfl, N15, K15, f15_0, f15_1, f15_3, V15⟩)
def own_Q_rmE_0_4_1 (Z : State)  (a1 a2 : Addr) (t : Addr) (kt : ClassId) (vs : List Value) (cn : Int32) (kc : ClassId) (vc : List Value) (w0 w1 w2 w3 : Int32) (h0 : Heap) (n0 : Nat) (v : Option Value) (h : Heap) (L : List Loc) : Prop := v = none ∧ Fr n0 L ∧ Keep h0 h [a1, t] ∧ Exa Z h a1 "com/example/quietzone/quietzone/datamatrix/CodewordWriter" ∧ Fld Z h a1 "com/example/quietzone/quietzone/datamatrix/CodewordWriter" "codewords" "[I" (.ref t) ∧ Fld Z h a1 "com/example/quietzone/quietzone/datamatrix/CodewordWriter" "count" "I" (.int (own_cnt cn (own_ks 4 1 w0 w1 w2 w3))) ∧ Arv Z h t kt .int (8 : Int32) (own_app vs cn (own_ks 4 1 w0 w1 w2 w3)) (.int (0 : Int32))
set_option maxRecDepth 65536 in
set_option maxHeartbeats 40000000 in
theorem rmE_0_4_1 (l : Launch) (Z : State) (a0 : Array Value) (hw : ∀ d ∈ tables_1, d.before a0 Z = true) (ws : List Jvm.Cond)  (a1 a2 : Addr) (t : Addr) (kt : ClassId) (vs : List Value) (cn : Int32) (kc : ClassId) (vc : List Value) (w0 w1 w2 w3 : Int32) (h0 : Heap) (n0 : Nat) (Z0 : n0 ≤ h0.size) (Ei : Exa Z h0 a1 "com/example/quietzone/quietzone/datamatrix/CodewordWriter") (Fw : Fld Z h0 a1 "com/example/quietzone/quietzone/datamatrix/CodewordWriter" "codewords" "[I" (.ref t)) (Fc : Fld Z h0 a1 "com/example/quietzone/quietzone/datamatrix/CodewordWriter" "count" "I" (.int cn)) (Vt : Arv Z h0 t kt .int (8 : Int32) vs (.int (0 : Int32))) (gi : n0 ≤ a1) (gt : n0 ≤ t) (nat : a1 ≠ t) (Vc : Arv Z h0 a2 kc .int (5 : Int32) vc (.int (0 : Int32))) (nac : a2 ≠ a1) (nct : a2 ≠ t) (hcn : cn = (0 : Int32) ∨ cn = (1 : Int32)) (hlen : vs.length = 8) (hat0 : vc.getD (0 : Int32).toNatClampNeg (.int (0 : Int32)) = .int w0) (hw0 : 32 ≤ w0.toInt ∧ w0.toInt ≤ 94) (hat1 : vc.getD (1 : Int32).toNatClampNeg (.int (0 : Int32)) = .int w1) (hw1 : 32 ≤ w1.toInt ∧ w1.toInt ≤ 94) (hat2 : vc.getD (2 : Int32).toNatClampNeg (.int (0 : Int32)) = .int w2) (hw2 : 32 ≤ w2.toInt ∧ w2.toInt ≤ 94) (hat3 : vc.getD (3 : Int32).toNatClampNeg (.int (0 : Int32)) = .int w3) (hw3 : 32 ≤ w3.toInt ∧ w3.toInt ≤ 94) :
    MetFree l (⟨"com/example/quietzone/quietzone/datamatrix/CodewordWriter", "edifact", "([IIIZ)V"⟩ : MethodName) (head1 (Jvm.Cond.code (⟨"com/example/quietzone/quietzone/datamatrix/CodewordWriter", "edifact", "([IIIZ)V"⟩ : MethodName) prog_34_method_9_code 9 none :: ws) ({ frames := 0, cells := 0, slots := 0, locals := 0 } : Room)) (fun a U => a = #[(.ref a1), (.ref a2), (.int (0 : Int32)), (.int (4 : Int32)), (.int (1 : Int32))] ∧ Z.Warmed39 U.vm ∧ U.heap = h0) (fun _ _ _ _ _ => True) (fun _ U o U' => ∃ v L, o = .returned v ∧ own_Q_rmE_0_4_1 Z a1 a2 t kt vs cn kc vc w0 w1 w2 w3 h0 n0 v U'.heap L ∧ FrameEnd U o U' L ({ frames := 0, cells := 0, slots := 0, locals := 0 } : Room).cells ({ frames := 0, cells := 0, slots := 0, locals := 0 } : Room).slots) := by
  refine MetFree.of_bodySF pn_5 hisR ?_
  intro p e s m args below meth c s₁ Bd hml0 hP hK
  obtain ⟨rfl, hZ, hh⟩ := hP
  have hx := Bd.exec
  have hby := Bd.bytes
  have hml : c.maxLocals = 9 := hml0
  have hown : s.vm.findClass "com/example/quietzone/quietzone/datamatrix/CodewordWriter" = some m.cls := findClass_of_methodNamed Bd.named
  have hnm := (name_of_methodNamed Bd.named Bd.method).1
  have X0 : Stand p l e ({ frames := 0, cells := 0, slots := 0, locals := 0 } : Room) s m #[(.ref a1), (.ref a2), (.int (0 : Int32)), (.int (4 : Int32)), (.int (1 : Int32))] below meth c s₁ [] 0 0 := Stand.of_body Bd
  have e0 : s₁.heap = h0 := by rw [← hh, Bd.state]; rfl
  have N0 := Fr.nil n0
  have KR : Keep h0 h0 [a1, t] := Keep.refl h0 [a1, t]
  show own_Fin p.tables e below s (({ frames := 0, cells := 0, slots := 0, locals := 0 } : Room).cells) (({ frames := 0, cells := 0, slots := 0, locals := 0 } : Room).slots) (own_Q_rmE_0_4_1 Z a1 a2 t kt vs cn kc vc w0 w1 w2 w3 h0 n0) (s₁.setTop (entryFrame m #[(.ref a1), (.ref a2), (.int (0 : Int32)), (.int (4 : Int32)), (.int (1 : Int32))] 9))
  rw [ef_5 m a1 a2 (0 : Int32) (4 : Int32) (1 : Int32)]
  refine own_st (fun t k => XS.iconst X0.here hx rfl (hb hby d5_0) k) ?_
  refine own_st (fun t k => XS.istore X0.here hx rfl (hb hby d5_1) rfl (l' := #[rv a1, rv a2, iv 0, iv 4, iv 1, iv 0, .unset, .unset, .unset]) rfl k) ?_
  show own_Fin _ _ _ _ _ _ _ (s₁.setTop (mkF m 3 #[rv a1, rv a2, iv 0, iv 4, iv 1, iv 0, .unset, .unset, .unset] []))
  refine own_st (fun t k => XS.iconst X0.here hx rfl (hb hby d5_3) k) ?_
  refine own_st (fun t k => XS.istore X0.here hx rfl (hb hby d5_4) rfl (l' := #[rv a1, rv a2, iv 0, iv 4, iv 1, iv 0, iv 0, .unset, .unset]) rfl k) ?_
  refine own_st (fun t k => XS.iloadN X0.here hx rfl (hb hby d5_6) rfl k) ?_
  show own_Fin _ _ _ _ _ _ _ (s₁.setTop (mkF m 7 #[rv a1, rv a2, iv 0, iv 4, iv 1, iv 0, iv 0, .unset, .unset] [(.int (4 : Int32))]))
  refine own_st (fun t k => XS.iloadN X0.here hx rfl (hb hby d5_7) rfl k) ?_
  refine own_st (fun t k => XS.isub X0.here hx rfl (hb hby d5_8) rfl k) ?_
  refine own_st (fun t k => XS.iload X0.here hx rfl (hb hby d5_9) rfl k) ?_
  show own_Fin _ _ _ _ _ _ _ (s₁.setTop (mkF m 11 #[rv a1, rv a2, iv 0, iv 4, iv 1, iv 0, iv 0, .unset, .unset] [(.int (1 : Int32)), (.int (4 : Int32))]))
  refine own_st (fun t k => XS.ifNo X0.here hx rfl (hb hby d5_11) rfl ((if0 _ _).trans (feq (by decide : ¬ ((1 : Int32) = (0 : Int32)))).1) k) ?_
  refine own_st (fun t k => XS.iconst X0.here hx rfl (hb hby d5_14) k) ?_
  refine own_st (fun t k => XS.goto X0.here hx rfl (pc0 := 15) (pc' := 19) rfl (hb hby d5_15) (by decide) (by decide) k) ?_
  show own_Fin _ _ _ _ _ _ _ (s₁.setTop (mkF m 19 #[rv a1, rv a2, iv 0, iv 4, iv 1, iv 0, iv 0, .unset, .unset] [(.int (1 : Int32)), (.int (4 : Int32))]))
  refine own_st (fun t k => XS.iadd X0.here hx rfl (hb hby d5_19) rfl k) ?_
  refine own_st (fun t k => XS.istore X0.here hx rfl (hb hby d5_20) rfl (l' := #[rv a1, rv a2, iv 0, iv 4, iv 1, iv 0, iv 0, iv 5, .unset]) rfl k) ?_
  refine own_st (fun t k => XS.iloadN X0.here hx rfl (hb hby d5_22) rfl k) ?_
  show own_Fin _ _ _ _ _ _ _ (s₁.setTop (mkF m 23 #[rv a1, rv a2, iv 0, iv 4, iv 1, iv 0, iv 0, iv 5, .unset] [(.int (0 : Int32))]))
  refine own_st (fun t k => XS.istore X0.here hx rfl (hb hby d5_23) rfl (l' := #[rv a1, rv a2, iv 0, iv 4, iv 1, iv 0, iv 0, iv 5, iv 0]) rfl k) ?_
  refine own_st (fun t k => XS.iload X0.here hx rfl (hb hby d5_25) rfl k) ?_
  refine own_st (fun t k => XS.iloadN X0.here hx rfl (hb hby d5_27) rfl k) ?_
  show own_Fin _ _ _ _ _ _ _ (s₁.setTop (mkF m 28 #[rv a1, rv a2, iv 0, iv 4, iv 1, iv 0, iv 0, iv 5, iv 0] [(.int (0 : Int32)), (.int (0 : Int32))]))
  refine own_st (fun t k => XS.iload X0.here hx rfl (hb hby d5_28) rfl k) ?_
  refine own_st (fun t k => XS.iadd X0.here hx rfl (hb hby d5_30) rfl k) ?_
  show own_Fin _ _ _ _ _ _ _ (s₁.setTop (mkF m 31 #[rv a1, rv a2, iv 0, iv 4, iv 1, iv 0, iv 0, iv 5, iv 0] [(.int (5 : Int32)), (.int (0 : Int32))]))
  refine own_st (fun t k => XS.icmpNo X0.here hx rfl (hb hby d5_31) rfl (tlt (by decide : (0 : Int32) < (5 : Int32))).2.1 k) ?_
  refine own_st (fun t k => XS.iload X0.here hx rfl (hb hby d5_34) rfl k) ?_
  refine own_st (fun t k => XS.bipush X0.here hx rfl (hb hby d5_36) k) ?_
  show own_Fin _ _ _ _ _ _ _ (s₁.setTop (mkF m 38 #[rv a1, rv a2, iv 0, iv 4, iv 1, iv 0, iv 0, iv 5, iv 0] [(.int (6 : Int32)), (.int (0 : Int32))]))
  refine own_st (fun t k => XS.ishl X0.here hx rfl (hb hby d5_38) rfl k) ?_
  refine own_st (fun t k => XS.iload X0.here hx rfl (hb hby d5_39) rfl k) ?_
  refine own_st (fun t k => XS.iloadN X0.here hx rfl (hb hby d5_41) rfl k) ?_
  show own_Fin _ _ _ _ _ _ _ (s₁.setTop (mkF m 42 #[rv a1, rv a2, iv 0, iv 4, iv 1, iv 0, iv 0, iv 5, iv 0] [(.int (4 : Int32)), (.int (0 : Int32)), (.int ((0 : Int32) <<< ((6 : Int32) &&& 31)))]))
  refine own_st (fun t k => XS.icmpNo X0.here hx rfl (hb hby d5_42) rfl (tlt (by decide : (0 : Int32) < (4 : Int32))).2.1 k) ?_
  refine own_st (fun t k => XS.aloadN X0.here hx rfl (hb hby d5_45) rfl rfl k) ?_
  refine own_st (fun t k => XS.iload X0.here hx rfl (hb hby d5_46) rfl k) ?_
  show own_Fin _ _ _ _ _ _ _ (s₁.setTop (mkF m 48 #[rv a1, rv a2, iv 0, iv 4, iv 1, iv 0, iv 0, iv 5, iv 0] [(.int (0 : Int32)), (.ref a2), (.int ((0 : Int32) <<< ((6 : Int32) &&& 31)))]))
  obtain ⟨cl1, Ar1, Cq1, Sz1, Mn1, Hs1, Gf1⟩ := id Vc
  have hin1 := inb_of Sz1 (j := (0 : Int32)) ⟨by decide, by decide⟩
  refine own_st (X0.iaload hx (j := (0 : Int32)) (v := (.int w0)) (by rw [e0]; exact Ar1.1) (State.isArrayOf_alike hZ.alike Ar1.2.1) Ar1.2.2 hin1 (Hs1.at hin1 hat0) (g := (mkF m 48 #[rv a1, rv a2, iv 0, iv 4, iv 1, iv 0, iv 0, iv 5, iv 0] [(.int (0 : Int32)), (.ref a2), (.int ((0 : Int32) <<< ((6 : Int32) &&& 31)))])) rfl rfl (hb hby d5_48)) ?_
  refine own_st (fun t k => XS.bipush X0.here hx rfl (hb hby d5_49) k) ?_
  refine own_st (fun t k => XS.iand X0.here hx rfl (hb hby d5_51) rfl k) ?_
  show own_Fin _ _ _ _ _ _ _ (s₁.setTop (mkF m 52 #[rv a1, rv a2, iv 0, iv 4, iv 1, iv 0, iv 0, iv 5, iv 0] [(.int (w0 &&& (63 : Int32))), (.int ((0 : Int32) <<< ((6 : Int32) &&& 31)))]))
  refine own_st (fun t k => XS.goto X0.here hx rfl (pc0 := 52) (pc' := 57) rfl (hb hby d5_52) (by decide) (by decide) k) ?_
  refine own_st (fun t k => XS.ior X0.here hx rfl (hb hby d5_57) rfl k) ?_
  refine own_st (fun t k => XS.istore X0.here hx rfl (hb hby d5_58) rfl (l' := #[rv a1, rv a2, iv 0, iv 4, iv 1, iv (((0 : Int32) <<< ((6 : Int32) &&& 31)) ||| (w0 &&& (63 : Int32))), iv 0, iv 5, iv 0]) rfl k) ?_
  show own_Fin _ _ _ _ _ _ _ (s₁.setTop (mkF m 60 #[rv a1, rv a2, iv 0, iv 4, iv 1, iv (((0 : Int32) <<< ((6 : Int32) &&& 31)) ||| (w0 &&& (63 : Int32))), iv 0, iv 5, iv 0] []))
  obtain ⟨B1, hB1⟩ : ∃ z, z = (((0 : Int32) <<< ((6 : Int32) &&& 31)) ||| (w0 &&& (63 : Int32))) := ⟨_, rfl⟩
  rw [← hB1]
  refine own_st (fun t k => XS.iinc X0.here hx rfl (hb hby d5_60) rfl (l' := #[rv a1, rv a2, iv 0, iv 4, iv 1, iv B1, iv 6, iv 5, iv 0]) rfl k) ?_
  refine own_st (fun t k => XS.iload X0.here hx rfl (hb hby d5_63) rfl k) ?_
  refine own_st (fun t k => XS.bipush X0.here hx rfl (hb hby d5_65) k) ?_
  show own_Fin _ _ _ _ _ _ _ (s₁.setTop (mkF m 67 #[rv a1, rv a2, iv 0, iv 4, iv 1, iv B1, iv 6, iv 5, iv 0] [(.int (8 : Int32)), (.int (6 : Int32))]))
  refine own_st (fun t k => XS.icmpYes X0.here hx rfl (pc0 := 67) (pc' := 101) rfl (hb hby d5_67) rfl (tlt (by decide : (6 : Int32) < (8 : Int32))).1 (by decide) (by decide) k) ?_
  show own_Fin _ _ _ _ _ _ _ (s₁.setTop (mkF m 101 #[rv a1, rv a2, iv 0, iv 4, iv 1, iv B1, iv 6, iv 5, iv 0] []))
  refine own_st (fun t k => XS.iinc X0.here hx rfl (hb hby d5_101) rfl (l' := #[rv a1, rv a2, iv 0, iv 4, iv 1, iv B1, iv 6, iv 5, iv 1]) rfl k) ?_
  refine own_st (fun t k => XS.goto X0.here hx rfl (pc0 := 104) (pc' := 25) rfl (hb hby d5_104) (by decide) (by decide) k) ?_
  refine own_st (fun t k => XS.iload X0.here hx rfl (hb hby d5_25) rfl k) ?_
  show own_Fin _ _ _ _ _ _ _ (s₁.setTop (mkF m 27 #[rv a1, rv a2, iv 0, iv 4, iv 1, iv B1, iv 6, iv 5, iv 1] [(.int (1 : Int32))]))
  refine own_st (fun t k => XS.iloadN X0.here hx rfl (hb hby d5_27) rfl k) ?_
  refine own_st (fun t k => XS.iload X0.here hx rfl (hb hby d5_28) rfl k) ?_
  refine own_st (fun t k => XS.iadd X0.here hx rfl (hb hby d5_30) rfl k) ?_
  show own_Fin _ _ _ _ _ _ _ (s₁.setTop (mkF m 31 #[rv a1, rv a2, iv 0, iv 4, iv 1, iv B1, iv 6, iv 5, iv 1] [(.int (5 : Int32)), (.int (1 : Int32))]))
  refine own_st (fun t k => XS.icmpNo X0.here hx rfl (hb hby d5_31) rfl (tlt (by decide : (1 : Int32) < (5 : Int32))).2.1 k) ?_
  refine own_st (fun t k => XS.iload X0.here hx rfl (hb hby d5_34) rfl k) ?_
  refine own_st (fun t k => XS.bipush X0.here hx rfl (hb hby d5_36) k) ?_
  show own_Fin _ _ _ _ _ _ _ (s₁.setTop (mkF m 38 #[rv a1, rv a2, iv 0, iv 4, iv 1, iv B1, iv 6, iv 5, iv 1] [(.int (6 : Int32)), (.int B1)]))
  refine own_st (fun t k => XS.ishl X0.here hx rfl (hb hby d5_38) rfl k) ?_
  refine own_st (fun t k => XS.iload X0.here hx rfl (hb hby d5_39) rfl k) ?_
  refine own_st (fun t k => XS.iloadN X0.here hx rfl (hb hby d5_41) rfl k) ?_
  show own_Fin _ _ _ _ _ _ _ (s₁.setTop (mkF m 42 #[rv a1, rv a2, iv 0, iv 4, iv 1, iv B1, iv 6, iv 5, iv 1] [(.int (4 : Int32)), (.int (1 : Int32)), (.int (B1 <<< ((6 : Int32) &&& 31)))]))
  refine own_st (fun t k => XS.icmpNo X0.here hx rfl (hb hby d5_42) rfl (tlt (by decide : (1 : Int32) < (4 : Int32))).2.1 k) ?_
  refine own_st (fun t k => XS.aloadN X0.here hx rfl (hb hby d5_45) rfl rfl k) ?_
  refine own_st (fun t k => XS.iload X0.here hx rfl (hb hby d5_46) rfl k) ?_
  show own_Fin _ _ _ _ _ _ _ (s₁.setTop (mkF m 48 #[rv a1, rv a2, iv 0, iv 4, iv 1, iv B1, iv 6, iv 5, iv 1] [(.int (1 : Int32)), (.ref a2), (.int (B1 <<< ((6 : Int32) &&& 31)))]))
  obtain ⟨cl2, Ar2, Cq2, Sz2, Mn2, Hs2, Gf2⟩ := id Vc
  have hin2 := inb_of Sz2 (j := (1 : Int32)) ⟨by decide, by decide⟩
  refine own_st (X0.iaload hx (j := (1 : Int32)) (v := (.int w1)) (by rw [e0]; exact Ar2.1) (State.isArrayOf_alike hZ.alike Ar2.2.1) Ar2.2.2 hin2 (Hs2.at hin2 hat1) (g := (mkF m 48 #[rv a1, rv a2, iv 0, iv 4, iv 1, iv B1, iv 6, iv 5, iv 1] [(.int (1 : Int32)), (.ref a2), (.int (B1 <<< ((6 : Int32) &&& 31)))])) rfl rfl (hb hby d5_48)) ?_
  refine own_st (fun t k => XS.bipush X0.here hx rfl (hb hby d5_49) k) ?_
  refine own_st (fun t k => XS.iand X0.here hx rfl (hb hby d5_51) rfl k) ?_
  show own_Fin _ _ _ _ _ _ _ (s₁.setTop (mkF m 52 #[rv a1, rv a2, iv 0, iv 4, iv 1, iv B1, iv 6, iv 5, iv 1] [(.int (w1 &&& (63 : Int32))), (.int (B1 <<< ((6 : Int32) &&& 31)))]))
  refine own_st (fun t k => XS.goto X0.here hx rfl (pc0 := 52) (pc' := 57) rfl (hb hby d5_52) (by decide) (by decide) k) ?_
  refine own_st (fun t k => XS.ior X0.here hx rfl (hb hby d5_57) rfl k) ?_
  refine own_st (fun t k => XS.istore X0.here hx rfl (hb hby d5_58) rfl (l' := #[rv a1, rv a2, iv 0, iv 4, iv 1, iv ((B1 <<< ((6 : Int32) &&& 31)) ||| (w1 &&& (63 : Int32))), iv 6, iv 5, iv 1]) rfl k) ?_
  show own_Fin _ _ _ _ _ _ _ (s₁.setTop (mkF m 60 #[rv a1, rv a2, iv 0, iv 4, iv 1, iv ((B1 <<< ((6 : Int32) &&& 31)) ||| (w1 &&& (63 : Int32))), iv 6, iv 5, iv 1] []))
  obtain ⟨B2, hB2⟩ : ∃ z, z = ((B1 <<< ((6 : Int32) &&& 31)) ||| (w1 &&& (63 : Int32))) := ⟨_, rfl⟩
  rw [← hB2]
  refine own_st (fun t k => XS.iinc X0.here hx rfl (hb hby d5_60) rfl (l' := #[rv a1, rv a2, iv 0, iv 4, iv 1, iv B2, iv 12, iv 5, iv 1]) rfl k) ?_
  refine own_st (fun t k => XS.iload X0.here hx rfl (hb hby d5_63) rfl k) ?_
  refine own_st (fun t k => XS.bipush X0.here hx rfl (hb hby d5_65) k) ?_
  show own_Fin _ _ _ _ _ _ _ (s₁.setTop (mkF m 67 #[rv a1, rv a2, iv 0, iv 4, iv 1, iv B2, iv 12, iv 5, iv 1] [(.int (8 : Int32)), (.int (12 : Int32))]))
  refine own_st (fun t k => XS.icmpNo X0.here hx rfl (hb hby d5_67) rfl (flt (by decide : ¬ ((12 : Int32) < (8 : Int32)))).1 k) ?_
  show own_Fin _ _ _ _ _ _ _ (s₁.setTop (mkF m 70 #[rv a1, rv a2, iv 0, iv 4, iv 1, iv B2, iv 12, iv 5, iv 1] []))
  refine own_st (fun t k => XS.iinc X0.here hx rfl (hb hby d5_70) rfl (l' := #[rv a1, rv a2, iv 0, iv 4, iv 1, iv B2, iv 4, iv 5, iv 1]) rfl k) ?_
  refine own_st (fun t k => XS.aloadN X0.here hx rfl (hb hby d5_73) rfl rfl k) ?_
  show own_Fin _ _ _ _ _ _ _ (s₁.setTop (mkF m 74 #[rv a1, rv a2, iv 0, iv 4, iv 1, iv B2, iv 4, iv 5, iv 1] [(.ref a1)]))
  obtain ⟨T3, X3, e3, st3⟩ := getF X0 hx hZ hown (host := "") (Or.inl (hw _ (List.mem_of_getElem? (i := 22) rfl))) Via.refl e0 Fw (g := (mkF m 74 #[rv a1, rv a2, iv 0, iv 4, iv 1, iv B2, iv 4, iv 5, iv 1] [(.ref a1)])) rfl rfl (hb hby d5_74)
  refine own_st st3 ?_
  refine own_st (fun t k => XS.aloadN X3.here hx rfl (hb hby d5_77) rfl rfl k) ?_
  refine own_st (fun t k => XS.dup X3.here hx rfl (hb hby d5_78) rfl rfl k) ?_
  show own_Fin _ _ _ _ _ _ _ (T3.setTop (mkF m 79 #[rv a1, rv a2, iv 0, iv 4, iv 1, iv B2, iv 4, iv 5, iv 1] [(.ref a1), (.ref a1), (.ref t)]))
  obtain ⟨T4, X4, e4, st4⟩ := getF X3 hx hZ hown (host := "") (Or.inl (hw _ (List.mem_of_getElem? (i := 29) rfl))) Via.refl e3 Fc (g := (mkF m 79 #[rv a1, rv a2, iv 0, iv 4, iv 1, iv B2, iv 4, iv 5, iv 1] [(.ref a1), (.ref a1), (.ref t)])) rfl rfl (hb hby d5_79)
  refine own_st st4 ?_
  show own_Fin _ _ _ _ _ _ _ (T4.setTop (mkF m 82 #[rv a1, rv a2, iv 0, iv 4, iv 1, iv B2, iv 4, iv 5, iv 1] [(.int cn), (.ref a1), (.ref t)]))
  refine own_st (fun t k => XS.dupX1 X4.here hx rfl (hb hby d5_82) rfl rfl rfl k) ?_
  refine own_st (fun t k => XS.iconst X4.here hx rfl (hb hby d5_83) k) ?_
  refine own_st (fun t k => XS.iadd X4.here hx rfl (hb hby d5_84) rfl k) ?_
  show own_Fin _ _ _ _ _ _ _ (T4.setTop (mkF m 85 #[rv a1, rv a2, iv 0, iv 4, iv 1, iv B2, iv 4, iv 5, iv 1] [(.int (cn + (1 : Int32))), (.ref a1), (.int cn), (.ref t)]))
  obtain ⟨T5, h5, X5, e5, W5, st5⟩ := putF X4 hx hZ hown (host := "") (Or.inl (hw _ (List.mem_of_getElem? (i := 29) rfl))) Via.refl e4 Fc Ei (Or.inl (hw _ (List.mem_of_getElem? (i := 30) rfl))) (hw _ (List.mem_of_getElem? (i := 10) rfl)) (ty := .int) (by decide) rfl rfl (g := (mkF m 85 #[rv a1, rv a2, iv 0, iv 4, iv 1, iv B2, iv 4, iv 5, iv 1] [(.int (cn + (1 : Int32))), (.ref a1), (.int cn), (.ref t)])) rfl rfl (hb hby d5_85)
  have f5_0 := Ei.wr W5
  have f5_1 := Fw.other W5 (Or.inr (slot_ne (Or.inr (hw _ (List.mem_of_getElem? (i := 23) rfl))) (Or.inl (hw _ (List.mem_of_getElem? (i := 30) rfl))) (by decide) (t := (.array .int)) (t' := .int) (by decide) (by decide)))
  have f5_2 := Vt.other W5 (Ne.symm nat)
  have f5_3 := Vc.other W5 nac
  have Fw5 : Fld Z h5 a1 "com/example/quietzone/quietzone/datamatrix/CodewordWriter" "count" "I" (.int (cn + (1 : Int32))) := Fc.same W5
  have N5 := Fr.snoc X5 N0 gi
  have Z5 : n0 ≤ h5.size := Nat.le_trans Z0 (Keep.of_wr W5).1
  have K5 : Keep h0 h5 [a1, t] := KR.wr W5 (Or.inl (List.mem_of_getElem? (i := 0) rfl))
  refine own_st st5 ?_
  refine own_st (fun t k => XS.iload X5.here hx rfl (hb hby d5_88) rfl k) ?_
  refine own_st (fun t k => XS.iload X5.here hx rfl (hb hby d5_90) rfl k) ?_
  show own_Fin _ _ _ _ _ _ _ (T5.setTop (mkF m 92 #[rv a1, rv a2, iv 0, iv 4, iv 1, iv B2, iv 4, iv 5, iv 1] [(.int (4 : Int32)), (.int B2), (.int cn), (.ref t)]))
  refine own_st (fun t k => XS.ishr X5.here hx rfl (hb hby d5_92) rfl k) ?_
  refine own_st (fun t k => XS.sipush X5.here hx rfl (hb hby d5_93) k) ?_
  refine own_st (fun t k => XS.iand X5.here hx rfl (hb hby d5_96) rfl k) ?_
  show own_Fin _ _ _ _ _ _ _ (T5.setTop (mkF m 97 #[rv a1, rv a2, iv 0, iv 4, iv 1, iv B2, iv 4, iv 5, iv 1] [(.int ((B2 >>> ((4 : Int32) &&& 31)) &&& (255 : Int32))), (.int cn), (.ref t)]))
  obtain ⟨cl6, Ar6, Cq6, Sz6, Mn6, Hs6, Gf6⟩ := id f5_2
  obtain ⟨T6, h6, X6, e6, W6, st6⟩ := stI X5 hx hZ e5 Ar6 (j := cn) (inb_of Sz6 (own_cn hcn hlen).1) (g := (mkF m 97 #[rv a1, rv a2, iv 0, iv 4, iv 1, iv B2, iv 4, iv 5, iv 1] [(.int ((B2 >>> ((4 : Int32) &&& 31)) &&& (255 : Int32))), (.int cn), (.ref t)])) rfl rfl (hb hby d5_97)
  have f6_0 := f5_0.wr W6
  have f6_1 := f5_1.other W6 (Or.inl nat)
  have f6_2 := f5_3.other W6 nct
  have f6_3 := Fw5.other W6 (Or.inl nat)
  have V6 : Arv Z h6 t kt .int (8 : Int32) (vs.set (cn).toNatClampNeg (.int ((B2 >>> ((4 : Int32) &&& 31)) &&& (255 : Int32)))) (.int (0 : Int32)) := Arv.set Ar6 Cq6 Sz6 Mn6 Hs6 Gf6 rfl W6 (cn).toNatClampNeg rfl (own_cn hcn hlen).2.2.2.2.1
  have N6 := Fr.snoc X6 N5 gt
  have Z6 : n0 ≤ h6.size := Nat.le_trans Z5 (Keep.of_wr W6).1
  have K6 : Keep h0 h6 [a1, t] := K5.wr W6 (Or.inl (List.mem_of_getElem? (i := 1) rfl))
  refine own_st st6 ?_
  refine own_st (fun t k => XS.goto X6.here hx rfl (pc0 := 98) (pc' := 63) rfl (hb hby d5_98) (by decide) (by decide) k) ?_
  refine own_st (fun t k => XS.iload X6.here hx rfl (hb hby d5_63) rfl k) ?_
  show own_Fin _ _ _ _ _ _ _ (T6.setTop (mkF m 65 #[rv a1, rv a2, iv 0, iv 4, iv 1, iv B2, iv 4, iv 5, iv 1] [(.int (4 : Int32))]))
  refine own_st (fun t k => XS.bipush X6.here hx rfl (hb hby d5_65) k) ?_
  show own_Fin _ _ _ _ _ _ _ (T6.setTop (mkF m 67 #[rv a1, rv a2, iv 0, iv 4, iv 1, iv B2, iv 4, iv 5, iv 1] [(.int (8 : Int32)), (.int (4 : Int32))]))
  refine own_st (fun t k => XS.icmpYes X6.here hx rfl (pc0 := 67) (pc' := 101) rfl (hb hby d5_67) rfl (tlt (by decide : (4 : Int32) < (8 : Int32))).1 (by decide) (by decide) k) ?_
  show own_Fin _ _ _ _ _ _ _ (T6.setTop (mkF m 101 #[rv a1, rv a2, iv 0, iv 4, iv 1, iv B2, iv 4, iv 5, iv 1] []))
  refine own_st (fun t k => XS.iinc X6.here hx rfl (hb hby d5_101) rfl (l' := #[rv a1, rv a2, iv 0, iv 4, iv 1, iv B2, iv 4, iv 5, iv 2]) rfl k) ?_
  refine own_st (fun t k => XS.goto X6.here hx rfl (pc0 := 104) (pc' := 25) rfl (hb hby d5_104) (by decide) (by decide) k) ?_
  refine own_st (fun t k => XS.iload X6.here hx rfl (hb hby d5_25) rfl k) ?_
  show own_Fin _ _ _ _ _ _ _ (T6.setTop (mkF m 27 #[rv a1, rv a2, iv 0, iv 4, iv 1, iv B2, iv 4, iv 5, iv 2] [(.int (2 : Int32))]))
  refine own_st (fun t k => XS.iloadN X6.here hx rfl (hb hby d5_27) rfl k) ?_
  refine own_st (fun t k => XS.iload X6.here hx rfl (hb hby d5_28) rfl k) ?_
  refine own_st (fun t k => XS.iadd X6.here hx rfl (hb hby d5_30) rfl k) ?_
  show own_Fin _ _ _ _ _ _ _ (T6.setTop (mkF m 31 #[rv a1, rv a2, iv 0, iv 4, iv 1, iv B2, iv 4, iv 5, iv 2] [(.int (5 : Int32)), (.int (2 : Int32))]))
  refine own_st (fun t k => XS.icmpNo X6.here hx rfl (hb hby d5_31) rfl (tlt (by decide : (2 : Int32) < (5 : Int32))).2.1 k) ?_
  refine own_st (fun t k => XS.iload X6.here hx rfl (hb hby d5_34) rfl k) ?_
  refine own_st (fun t k => XS.bipush X6.here hx rfl (hb hby d5_36) k) ?_
  show own_Fin _ _ _ _ _ _ _ (T6.setTop (mkF m 38 #[rv a1, rv a2, iv 0, iv 4, iv 1, iv B2, iv 4, iv 5, iv 2] [(.int (6 : Int32)), (.int B2)]))
  refine own_st (fun t k => XS.ishl X6.here hx rfl (hb hby d5_38) rfl k) ?_
  refine own_st (fun t k => XS.iload X6.here hx rfl (hb hby d5_39) rfl k) ?_
  refine own_st (fun t k => XS.iloadN X6.here hx rfl (hb hby d5_41) rfl k) ?_
  show own_Fin _ _ _ _ _ _ _ (T6.setTop (mkF m 42 #[rv a1, rv a2, iv 0, iv 4, iv 1, iv B2, iv 4, iv 5, iv 2] [(.int (4 : Int32)), (.int (2 : Int32)), (.int (B2 <<< ((6 : Int32) &&& 31)))]))
  refine own_st (fun t k => XS.icmpNo X6.here hx rfl (hb hby d5_42) rfl (tlt (by decide : (2 : Int32) < (4 : Int32))).2.1 k) ?_
  refine own_st (fun t k => XS.aloadN X6.here hx rfl (hb hby d5_45) rfl rfl k) ?_
  refine own_st (fun t k => XS.iload X6.here hx rfl (hb hby d5_46) rfl k) ?_
  show own_Fin _ _ _ _ _ _ _ (T6.setTop (mkF m 48 #[rv a1, rv a2, iv 0, iv 4, iv 1, iv B2, iv 4, iv 5, iv 2] [(.int (2 : Int32)), (.ref a2), (.int (B2 <<< ((6 : Int32) &&& 31)))]))
  obtain ⟨cl7, Ar7, Cq7, Sz7, Mn7, Hs7, Gf7⟩ := id f6_2
  have hin7 := inb_of Sz7 (j := (2 : Int32)) ⟨by decide, by decide⟩
  refine own_st (X6.iaload hx (j := (2 : Int32)) (v := (.int w2)) (by rw [e6]; exact Ar7.1) (State.isArrayOf_alike hZ.alike Ar7.2.1) Ar7.2.2 hin7 (Hs7.at hin7 hat2) (g := (mkF m 48 #[rv a1, rv a2, iv 0, iv 4, iv 1, iv B2, iv 4, iv 5, iv 2] [(.int (2 : Int32)), (.ref a2), (.int (B2 <<< ((6 : Int32) &&& 31)))])) rfl rfl (hb hby d5_48)) ?_
  refine own_st (fun t k => XS.bipush X6.here hx rfl (hb hby d5_49) k) ?_
  refine own_st (fun t k => XS.iand X6.here hx rfl (hb hby d5_51) rfl k) ?_
  show own_Fin _ _ _ _ _ _ _ (T6.setTop (mkF m 52 #[rv a1, rv a2, iv 0, iv 4, iv 1, iv B2, iv 4, iv 5, iv 2] [(.int (w2 &&& (63 : Int32))), (.int (B2 <<< ((6 : Int32) &&& 31)))]))
  refine own_st (fun t k => XS.goto X6.here hx rfl (pc0 := 52) (pc' := 57) rfl (hb hby d5_52) (by decide) (by decide) k) ?_
  refine own_st (fun t k => XS.ior X6.here hx rfl (hb hby d5_57) rfl k) ?_
  refine own_st (fun t k => XS.istore X6.here hx rfl (hb hby d5_58) rfl (l' := #[rv a1, rv a2, iv 0, iv 4, iv 1, iv ((B2 <<< ((6 : Int32) &&& 31)) ||| (w2 &&& (63 : Int32))), iv 4, iv 5, iv 2]) rfl k) ?_
  show own_Fin _ _ _ _ _ _ _ (T6.setTop (mkF m 60 #[rv a1, rv a2, iv 0, iv 4, iv 1, iv ((B2 <<< ((6 : Int32) &&& 31)) ||| (w2 &&& (63 : Int32))), iv 4, iv 5, iv 2] []))
  obtain ⟨B3, hB3⟩ : ∃ z, z = ((B2 <<< ((6 : Int32) &&& 31)) ||| (w2 &&& (63 : Int32))) := ⟨_, rfl⟩
  rw [← hB3]
  refine own_st (fun t k => XS.iinc X6.here hx rfl (hb hby d5_60) rfl (l' := #[rv a1, rv a2, iv 0, iv 4, iv 1, iv B3, iv 10, iv 5, iv 2]) rfl k) ?_
  refine own_st (fun t k => XS.iload X6.here hx rfl (hb hby d5_63) rfl k) ?_
  refine own_st (fun t k => XS.bipush X6.here hx rfl (hb hby d5_65) k) ?_
  show own_Fin _ _ _ _ _ _ _ (T6.setTop (mkF m 67 #[rv a1, rv a2, iv 0, iv 4, iv 1, iv B3, iv 10, iv 5, iv 2] [(.int (8 : Int32)), (.int (10 : Int32))]))
  refine own_st (fun t k => XS.icmpNo X6.here hx rfl (hb hby d5_67) rfl (flt (by decide : ¬ ((10 : Int32) < (8 : Int32)))).1 k) ?_
  show own_Fin _ _ _ _ _ _ _ (T6.setTop (mkF m 70 #[rv a1, rv a2, iv 0, iv 4, iv 1, iv B3, iv 10, iv 5, iv 2] []))
  refine own_st (fun t k => XS.iinc X6.here hx rfl (hb hby d5_70) rfl (l' := #[rv a1, rv a2, iv 0, iv 4, iv 1, iv B3, iv 2, iv 5, iv 2]) rfl k) ?_
  refine own_st (fun t k => XS.aloadN X6.here hx rfl (hb hby d5_73) rfl rfl k) ?_
  show own_Fin _ _ _ _ _ _ _ (T6.setTop (mkF m 74 #[rv a1, rv a2, iv 0, iv 4, iv 1, iv B3, iv 2, iv 5, iv 2] [(.ref a1)]))
  obtain ⟨T8, X8, e8, st8⟩ := getF X6 hx hZ hown (host := "") (Or.inl (hw _ (List.mem_of_getElem? (i := 22) rfl))) Via.refl e6 f6_1 (g := (mkF m 74 #[rv a1, rv a2, iv 0, iv 4, iv 1, iv B3, iv 2, iv 5, iv 2] [(.ref a1)])) rfl rfl (hb hby d5_74)
  refine own_st st8 ?_
  refine own_st (fun t k => XS.aloadN X8.here hx rfl (hb hby d5_77) rfl rfl k) ?_
  refine own_st (fun t k => XS.dup X8.here hx rfl (hb hby d5_78) rfl rfl k) ?_
  show own_Fin _ _ _ _ _ _ _ (T8.setTop (mkF m 79 #[rv a1, rv a2, iv 0, iv 4, iv 1, iv B3, iv 2, iv 5, iv 2] [(.ref a1), (.ref a1), (.ref t)]))
  obtain ⟨T9, X9, e9, st9⟩ := getF X8 hx hZ hown (host := "") (Or.inl (hw _ (List.mem_of_getElem? (i := 29) rfl))) Via.refl e8 f6_3 (g := (mkF m 79 #[rv a1, rv a2, iv 0, iv 4, iv 1, iv B3, iv 2, iv 5, iv 2] [(.ref a1), (.ref a1), (.ref t)])) rfl rfl (hb hby d5_79)
  refine own_st st9 ?_
  show own_Fin _ _ _ _ _ _ _ (T9.setTop (mkF m 82 #[rv a1, rv a2, iv 0, iv 4, iv 1, iv B3, iv 2, iv 5, iv 2] [(.int (cn + (1 : Int32))), (.ref a1), (.ref t)]))
  refine own_st (fun t k => XS.dupX1 X9.here hx rfl (hb hby d5_82) rfl rfl rfl k) ?_
  refine own_st (fun t k => XS.iconst X9.here hx rfl (hb hby d5_83) k) ?_
  refine own_st (fun t k => XS.iadd X9.here hx rfl (hb hby d5_84) rfl k) ?_
  show own_Fin _ _ _ _ _ _ _ (T9.setTop (mkF m 85 #[rv a1, rv a2, iv 0, iv 4, iv 1, iv B3, iv 2, iv 5, iv 2] [(.int ((cn + (1 : Int32)) + (1 : Int32))), (.ref a1), (.int (cn + (1 : Int32))), (.ref t)]))
  obtain ⟨T10, h10, X10, e10, W10, st10⟩ := putF X9 hx hZ hown (host := "") (Or.inl (hw _ (List.mem_of_getElem? (i := 29) rfl))) Via.refl e9 f6_3 f6_0 (Or.inl (hw _ (List.mem_of_getElem? (i := 30) rfl))) (hw _ (List.mem_of_getElem? (i := 10) rfl)) (ty := .int) (by decide) rfl rfl (g := (mkF m 85 #[rv a1, rv a2, iv 0, iv 4, iv 1, iv B3, iv 2, iv 5, iv 2] [(.int ((cn + (1 : Int32)) + (1 : Int32))), (.ref a1), (.int (cn + (1 : Int32))), (.ref t)])) rfl rfl (hb hby d5_85)
  have f10_0 := f6_0.wr W10
  have f10_1 := f6_1.other W10 (Or.inr (slot_ne (Or.inr (hw _ (List.mem_of_getElem? (i := 23) rfl))) (Or.inl (hw _ (List.mem_of_getElem? (i := 30) rfl))) (by decide) (t := (.array .int)) (t' := .int) (by decide) (by decide)))
  have f10_2 := f6_2.other W10 nac
  have f10_3 := V6.other W10 (Ne.symm nat)
  have Fw10 : Fld Z h10 a1 "com/example/quietzone/quietzone/datamatrix/CodewordWriter" "count" "I" (.int ((cn + (1 : Int32)) + (1 : Int32))) := f6_3.same W10
  have N10 := Fr.snoc X10 N6 gi
  have Z10 : n0 ≤ h10.size := Nat.le_trans Z6 (Keep.of_wr W10).1
  have K10 : Keep h0 h10 [a1, t] := K6.wr W10 (Or.inl (List.mem_of_getElem? (i := 0) rfl))
  refine own_st st10 ?_
  refine own_st (fun t k => XS.iload X10.here hx rfl (hb hby d5_88) rfl k) ?_
  refine own_st (fun t k => XS.iload X10.here hx rfl (hb hby d5_90) rfl k) ?_
  show own_Fin _ _ _ _ _ _ _ (T10.setTop (mkF m 92 #[rv a1, rv a2, iv 0, iv 4, iv 1, iv B3, iv 2, iv 5, iv 2] [(.int (2 : Int32)), (.int B3), (.int (cn + (1 : Int32))), (.ref t)]))
  refine own_st (fun t k => XS.ishr X10.here hx rfl (hb hby d5_92) rfl k) ?_
  refine own_st (fun t k => XS.sipush X10.here hx rfl (hb hby d5_93) k) ?_
  refine own_st (fun t k => XS.iand X10.here hx rfl (hb hby d5_96) rfl k) ?_
  show own_Fin _ _ _ _ _ _ _ (T10.setTop (mkF m 97 #[rv a1, rv a2, iv 0, iv 4, iv 1, iv B3, iv 2, iv 5, iv 2] [(.int ((B3 >>> ((2 : Int32) &&& 31)) &&& (255 : Int32))), (.int (cn + (1 : Int32))), (.ref t)]))
  obtain ⟨cl11, Ar11, Cq11, Sz11, Mn11, Hs11, Gf11⟩ := id f10_3
  obtain ⟨T11, h11, X11, e11, W11, st11⟩ := stI X10 hx hZ e10 Ar11 (j := (cn + (1 : Int32))) (inb_of Sz11 (own_cn hcn hlen).2.1) (g := (mkF m 97 #[rv a1, rv a2, iv 0, iv 4, iv 1, iv B3, iv 2, iv 5, iv 2] [(.int ((B3 >>> ((2 : Int32) &&& 31)) &&& (255 : Int32))), (.int (cn + (1 : Int32))), (.ref t)])) rfl rfl (hb hby d5_97)
  have f11_0 := f10_0.wr W11
  have f11_1 := f10_1.other W11 (Or.inl nat)
  have f11_2 := f10_2.other W11 nct
  have f11_3 := Fw10.other W11 (Or.inl nat)
  have V11 : Arv Z h11 t kt .int (8 : Int32) ((vs.set (cn).toNatClampNeg (.int ((B2 >>> ((4 : Int32) &&& 31)) &&& (255 : Int32)))).set ((cn + (1 : Int32))).toNatClampNeg (.int ((B3 >>> ((2 : Int32) &&& 31)) &&& (255 : Int32)))) (.int (0 : Int32)) := Arv.set Ar11 Cq11 Sz11 Mn11 Hs11 Gf11 rfl W11 ((cn + (1 : Int32))).toNatClampNeg rfl (by simp only [List.length_set]; exact (own_cn hcn hlen).2.2.2.2.2.1)
  have N11 := Fr.snoc X11 N10 gt
  have Z11 : n0 ≤ h11.size := Nat.le_trans Z10 (Keep.of_wr W11).1
  have K11 : Keep h0 h11 [a1, t] := K10.wr W11 (Or.inl (List.mem_of_getElem? (i := 1) rfl))
  refine own_st st11 ?_
  refine own_st (fun t k => XS.goto X11.here hx rfl (pc0 := 98) (pc' := 63) rfl (hb hby d5_98) (by decide) (by decide) k) ?_
  refine own_st (fun t k => XS.iload X11.here hx rfl (hb hby d5_63) rfl k) ?_
  show own_Fin _ _ _ _ _ _ _ (T11.setTop (mkF m 65 #[rv a1, rv a2, iv 0, iv 4, iv 1, iv B3, iv 2, iv 5, iv 2] [(.int (2 : Int32))]))
  refine own_st (fun t k => XS.bipush X11.here hx rfl (hb hby d5_65) k) ?_
  show own_Fin _ _ _ _ _ _ _ (T11.setTop (mkF m 67 #[rv a1, rv a2, iv 0, iv 4, iv 1, iv B3, iv 2, iv 5, iv 2] [(.int (8 : Int32)), (.int (2 : Int32))]))
  refine own_st (fun t k => XS.icmpYes X11.here hx rfl (pc0 := 67) (pc' := 101) rfl (hb hby d5_67) rfl (tlt (by decide : (2 : Int32) < (8 : Int32))).1 (by decide) (by decide) k) ?_
  show own_Fin _ _ _ _ _ _ _ (T11.setTop (mkF m 101 #[rv a1, rv a2, iv 0, iv 4, iv 1, iv B3, iv 2, iv 5, iv 2] []))
  refine own_st (fun t k => XS.iinc X11.here hx rfl (hb hby d5_101) rfl (l' := #[rv a1, rv a2, iv 0, iv 4, iv 1, iv B3, iv 2, iv 5, iv 3]) rfl k) ?_
  refine own_st (fun t k => XS.goto X11.here hx rfl (pc0 := 104) (pc' := 25) rfl (hb hby d5_104) (by decide) (by decide) k) ?_
  refine own_st (fun t k => XS.iload X11.here hx rfl (hb hby d5_25) rfl k) ?_
  show own_Fin _ _ _ _ _ _ _ (T11.setTop (mkF m 27 #[rv a1, rv a2, iv 0, iv 4, iv 1, iv B3, iv 2, iv 5, iv 3] [(.int (3 : Int32))]))
  refine own_st (fun t k => XS.iloadN X11.here hx rfl (hb hby d5_27) rfl k) ?_
  refine own_st (fun t k => XS.iload X11.here hx rfl (hb hby d5_28) rfl k) ?_
  refine own_st (fun t k => XS.iadd X11.here hx rfl (hb hby d5_30) rfl k) ?_
  show own_Fin _ _ _ _ _ _ _ (T11.setTop (mkF m 31 #[rv a1, rv a2, iv 0, iv 4, iv 1, iv B3, iv 2, iv 5, iv 3] [(.int (5 : Int32)), (.int (3 : Int32))]))
  refine own_st (fun t k => XS.icmpNo X11.here hx rfl (hb hby d5_31) rfl (tlt (by decide : (3 : Int32) < (5 : Int32))).2.1 k) ?_
  refine own_st (fun t k => XS.iload X11.here hx rfl (hb hby d5_34) rfl k) ?_
  refine own_st (fun t k => XS.bipush X11.here hx rfl (hb hby d5_36) k) ?_
  show own_Fin _ _ _ _ _ _ _ (T11.setTop (mkF m 38 #[rv a1, rv a2, iv 0, iv 4, iv 1, iv B3, iv 2, iv 5, iv 3] [(.int (6 : Int32)), (.int B3)]))
  refine own_st (fun t k => XS.ishl X11.here hx rfl (hb hby d5_38) rfl k) ?_
  refine own_st (fun t k => XS.iload X11.here hx rfl (hb hby d5_39) rfl k) ?_
  refine own_st (fun t k => XS.iloadN X11.here hx rfl (hb hby d5_41) rfl k) ?_
  show own_Fin _ _ _ _ _ _ _ (T11.setTop (mkF m 42 #[rv a1, rv a2, iv 0, iv 4, iv 1, iv B3, iv 2, iv 5, iv 3] [(.int (4 : Int32)), (.int (3 : Int32)), (.int (B3 <<< ((6 : Int32) &&& 31)))]))
  refine own_st (fun t k => XS.icmpNo X11.here hx rfl (hb hby d5_42) rfl (tlt (by decide : (3 : Int32) < (4 : Int32))).2.1 k) ?_
  refine own_st (fun t k => XS.aloadN X11.here hx rfl (hb hby d5_45) rfl rfl k) ?_
  refine own_st (fun t k => XS.iload X11.here hx rfl (hb hby d5_46) rfl k) ?_
  show own_Fin _ _ _ _ _ _ _ (T11.setTop (mkF m 48 #[rv a1, rv a2, iv 0, iv 4, iv 1, iv B3, iv 2, iv 5, iv 3] [(.int (3 : Int32)), (.ref a2), (.int (B3 <<< ((6 : Int32) &&& 31)))]))
  obtain ⟨cl12, Ar12, Cq12, Sz12, Mn12, Hs12, Gf12⟩ := id f11_2
  have hin12 := inb_of Sz12 (j := (3 : Int32)) ⟨by decide, by decide⟩
  refine own_st (X11.iaload hx (j := (3 : Int32)) (v := (.int w3)) (by rw [e11]; exact Ar12.1) (State.isArrayOf_alike hZ.alike Ar12.2.1) Ar12.2.2 hin12 (Hs12.at hin12 hat3) (g := (mkF m 48 #[rv a1, rv a2, iv 0, iv 4, iv 1, iv B3, iv 2, iv 5, iv 3] [(.int (3 : Int32)), (.ref a2), (.int (B3 <<< ((6 : Int32) &&& 31)))])) rfl rfl (hb hby d5_48)) ?_
  refine own_st (fun t k => XS.bipush X11.here hx rfl (hb hby d5_49) k) ?_
  refine own_st (fun t k => XS.iand X11.here hx rfl (hb hby d5_51) rfl k) ?_
  show own_Fin _ _ _ _ _ _ _ (T11.setTop (mkF m 52 #[rv a1, rv a2, iv 0, iv 4, iv 1, iv B3, iv 2, iv 5, iv 3] [(.int (w3 &&& (63 : Int32))), (.int (B3 <<< ((6 : Int32) &&& 31)))]))
  refine own_st (fun t k => XS.goto X11.here hx rfl (pc0 := 52) (pc' := 57) rfl (hb hby d5_52) (by decide) (by decide) k) ?_
  refine own_st (fun t k => XS.ior X11.here hx rfl (hb hby d5_57) rfl k) ?_
  refine own_st (fun t k => XS.istore X11.here hx rfl (hb hby d5_58) rfl (l' := #[rv a1, rv a2, iv 0, iv 4, iv 1, iv ((B3 <<< ((6 : Int32) &&& 31)) ||| (w3 &&& (63 : Int32))), iv 2, iv 5, iv 3]) rfl k) ?_
  show own_Fin _ _ _ _ _ _ _ (T11.setTop (mkF m 60 #[rv a1, rv a2, iv 0, iv 4, iv 1, iv ((B3 <<< ((6 : Int32) &&& 31)) ||| (w3 &&& (63 : Int32))), iv 2, iv 5, iv 3] []))
  obtain ⟨B4, hB4⟩ : ∃ z, z = ((B3 <<< ((6 : Int32) &&& 31)) ||| (w3 &&& (63 : Int32))) := ⟨_, rfl⟩
  rw [← hB4]
  refine own_st (fun t k => XS.iinc X11.here hx rfl (hb hby d5_60) rfl (l' := #[rv a1, rv a2, iv 0, iv 4, iv 1, iv B4, iv 8, iv 5, iv 3]) rfl k) ?_
  refine own_st (fun t k => XS.iload X11.here hx rfl (hb hby d5_63) rfl k) ?_
  refine own_st (fun t k => XS.bipush X11.here hx rfl (hb hby d5_65) k) ?_
  show own_Fin _ _ _ _ _ _ _ (T11.setTop (mkF m 67 #[rv a1, rv a2, iv 0, iv 4, iv 1, iv B4, iv 8, iv 5, iv 3] [(.int (8 : Int32)), (.int (8 : Int32))]))
  refine own_st (fun t k => XS.icmpNo X11.here hx rfl (hb hby d5_67) rfl (flt (by decide : ¬ ((8 : Int32) < (8 : Int32)))).1 k) ?_
  show own_Fin _ _ _ _ _ _ _ (T11.setTop (mkF m 70 #[rv a1, rv a2, iv 0, iv 4, iv 1, iv B4, iv 8, iv 5, iv 3] []))
  refine own_st (fun t k => XS.iinc X11.here hx rfl (hb hby d5_70) rfl (l' := #[rv a1, rv a2, iv 0, iv 4, iv 1, iv B4, iv 0, iv 5, iv 3]) rfl k) ?_
  refine own_st (fun t k => XS.aloadN X11.here hx rfl (hb hby d5_73) rfl rfl k) ?_
  show own_Fin _ _ _ _ _ _ _ (T11.setTop (mkF m 74 #[rv a1, rv a2, iv 0, iv 4, iv 1, iv B4, iv 0, iv 5, iv 3] [(.ref a1)]))
  obtain ⟨T13, X13, e13, st13⟩ := getF X11 hx hZ hown (host := "") (Or.inl (hw _ (List.mem_of_getElem? (i := 22) rfl))) Via.refl e11 f11_1 (g := (mkF m 74 #[rv a1, rv a2, iv 0, iv 4, iv 1, iv B4, iv 0, iv 5, iv 3] [(.ref a1)])) rfl rfl (hb hby d5_74)
  refine own_st st13 ?_
  refine own_st (fun t k => XS.aloadN X13.here hx rfl (hb hby d5_77) rfl rfl k) ?_
  refine own_st (fun t k => XS.dup X13.here hx rfl (hb hby d5_78) rfl rfl k) ?_
  show own_Fin _ _ _ _ _ _ _ (T13.setTop (mkF m 79 #[rv a1, rv a2, iv 0, iv 4, iv 1, iv B4, iv 0, iv 5, iv 3] [(.ref a1), (.ref a1), (.ref t)]))
  obtain ⟨T14, X14, e14, st14⟩ := getF X13 hx hZ hown (host := "") (Or.inl (hw _ (List.mem_of_getElem? (i := 29) rfl))) Via.refl e13 f11_3 (g := (mkF m 79 #[rv a1, rv a2, iv 0, iv 4, iv 1, iv B4, iv 0, iv 5, iv 3] [(.ref a1), (.ref a1), (.ref t)])) rfl rfl (hb hby d5_79)
  refine own_st st14 ?_
  show own_Fin _ _ _ _ _ _ _ (T14.setTop (mkF m 82 #[rv a1, rv a2, iv 0, iv 4, iv 1, iv B4, iv 0, iv 5, iv 3] [(.int ((cn + (1 : Int32)) + (1 : Int32))), (.ref a1), (.ref t)]))
  refine own_st (fun t k => XS.dupX1 X14.here hx rfl (hb hby d5_82) rfl rfl rfl k) ?_
  refine own_st (fun t k => XS.iconst X14.here hx rfl (hb hby d5_83) k) ?_
  refine own_st (fun t k => XS.iadd X14.here hx rfl (hb hby d5_84) rfl k) ?_
  show own_Fin _ _ _ _ _ _ _ (T14.setTop (mkF m 85 #[rv a1, rv a2, iv 0, iv 4, iv 1, iv B4, iv 0, iv 5, iv 3] [(.int (((cn + (1 : Int32)) + (1 : Int32)) + (1 : Int32))), (.ref a1), (.int ((cn + (1 : Int32)) + (1 : Int32))), (.ref t)]))
  obtain ⟨T15, h15, X15, e15, W15, st15⟩ := putF X14 hx hZ hown (host := "") (Or.inl (hw _ (List.mem_of_getElem? (i := 29) rfl))) Via.refl e14 f11_3 f11_0 (Or.inl (hw _ (List.mem_of_getElem? (i := 30) rfl))) (hw _ (List.mem_of_getElem? (i := 10) rfl)) (ty := .int) (by decide) rfl rfl (g := (mkF m 85 #[rv a1, rv a2, iv 0, iv 4, iv 1, iv B4, iv 0, iv 5, iv 3] [(.int (((cn + (1 : Int32)) + (1 : Int32)) + (1 : Int32))), (.ref a1), (.int ((cn + (1 : Int32)) + (1 : Int32))), (.ref t)])) rfl rfl (hb hby d5_85)
  have f15_0 := f11_0.wr W15
  have f15_1 := f11_1.other W15 (Or.inr (slot_ne (Or.inr (hw _ (List.mem_of_getElem? (i := 23) rfl))) (Or.inl (hw _ (List.mem_of_getElem? (i := 30) rfl))) (by decide) (t := (.array .int)) (t' := .int) (by decide) (by decide)))
  have f15_2 := f11_2.other W15 nac
  have f15_3 := V11.other W15 (Ne.symm nat)
  have Fw15 : Fld Z h15 a1 "com/example/quietzone/quietzone/datamatrix/CodewordWriter" "count" "I" (.int (((cn + (1 : Int32)) + (1 : Int32)) + (1 : Int32))) := f11_3.same W15
  have N15 := Fr.snoc X15 N11 gi
  have Z15 : n0 ≤ h15.size := Nat.le_trans Z11 (Keep.of_wr W15).1
  have K15 : Keep h0 h15 [a1, t] := K11.wr W15 (Or.inl (List.mem_of_getElem? (i := 0) rfl))
  refine own_st st15 ?_
  refine own_st (fun t k => XS.iload X15.here hx rfl (hb hby d5_88) rfl k) ?_
  refine own_st (fun t k => XS.iload X15.here hx rfl (hb hby d5_90) rfl k) ?_
  show own_Fin _ _ _ _ _ _ _ (T15.setTop (mkF m 92 #[rv a1, rv a2, iv 0, iv 4, iv 1, iv B4, iv 0, iv 5, iv 3] [(.int (0 : Int32)), (.int B4), (.int ((cn + (1 : Int32)) + (1 : Int32))), (.ref t)]))
  refine own_st (fun t k => XS.ishr X15.here hx rfl (hb hby d5_92) rfl k) ?_
  refine own_st (fun t k => XS.sipush X15.here hx rfl (hb hby d5_93) k) ?_
  refine own_st (fun t k => XS.iand X15.here hx rfl (hb hby d5_96) rfl k) ?_
  show own_Fin _ _ _ _ _ _ _ (T15.setTop (mkF m 97 #[rv a1, rv a2, iv 0, iv 4, iv 1, iv B4, iv 0, iv 5, iv 3] [(.int ((B4 >>> ((0 : Int32) &&& 31)) &&& (255 : Int32))), (.int ((cn + (1 : Int32)) + (1 : Int32))), (.ref t)]))
  obtain ⟨cl16, Ar16, Cq16, Sz16, Mn16, Hs16, Gf16⟩ := id f15_3
  obtain ⟨T16, h16, X16, e16, W16, st16⟩ := stI X15 hx hZ e15 Ar16 (j := ((cn + (1 : Int32)) + (1 : Int32))) (inb_of Sz16 (own_cn hcn hlen).2.2.1) (g := (mkF m 97 #[rv a1, rv a2, iv 0, iv 4, iv 1, iv B4, iv 0, iv 5, iv 3] [(.int ((B4 >>> ((0 : Int32) &&& 31)) &&& (255 : Int32))), (.int ((cn + (1 : Int32)) + (1 : Int32))), (.ref t)])) rfl rfl (hb hby d5_97)
  have f16_0 := f15_0.wr W16
  have f16_1 := f15_1.other W16 (Or.inl nat)
  have f16_2 := f15_2.other W16 nct
  have f16_3 := Fw15.other W16 (Or.inl nat)
  have V16 : Arv Z h16 t kt .int (8 : Int32) (((vs.set (cn).toNatClampNeg (.int ((B2 >>> ((4 : Int32) &&& 31)) &&& (255 : Int32)))).set ((cn + (1 : Int32))).toNatClampNeg (.int ((B3 >>> ((2 : Int32) &&& 31)) &&& (255 : Int32)))).set (((cn + (1 : Int32)) + (1 : Int32))).toNatClampNeg (.int ((B4 >>> ((0 : Int32) &&& 31)) &&& (255 : Int32)))) (.int (0 : Int32)) := Arv.set Ar16 Cq16 Sz16 Mn16 Hs16 Gf16 rfl W16 (((cn + (1 : Int32)) + (1 : Int32))).toNatClampNeg rfl (by simp only [List.length_set]; exact (own_cn hcn hlen).2.2.2.2.2.2.1)
  have N16 := Fr.snoc X16 N15 gt
  have Z16 : n0 ≤ h16.size := Nat.le_trans Z15 (Keep.of_wr W16).1
  have K16 : Keep h0 h16 [a1, t] := K15.wr W16 (Or.inl (List.mem_of_getElem? (i := 1) rfl))
  refine own_st st16 ?_
  refine own_st (fun t k => XS.goto X16.here hx rfl (pc0 := 98) (pc' := 63) rfl (hb hby d5_98) (by decide) (by decide) k) ?_
  refine own_st (fun t k => XS.iload X16.here hx rfl (hb hby d5_63) rfl k) ?_
  show own_Fin _ _ _ _ _ _ _ (T16.setTop (mkF m 65 #[rv a1, rv a2, iv 0, iv 4, iv 1, iv B4, iv 0, iv 5, iv 3] [(.int (0 : Int32))]))
  refine own_st (fun t k => XS.bipush X16.here hx rfl (hb hby d5_65) k) ?_
  show own_Fin _ _ _ _ _ _ _ (T16.setTop (mkF m 67 #[rv a1, rv a2, iv 0, iv 4, iv 1, iv B4, iv 0, iv 5, iv 3] [(.int (8 : Int32)), (.int (0 : Int32))]))
  refine own_st (fun t k => XS.icmpYes X16.here hx rfl (pc0 := 67) (pc' := 101) rfl (hb hby d5_67) rfl (tlt (by decide : (0 : Int32) < (8 : Int32))).1 (by decide) (by decide) k) ?_
  show own_Fin _ _ _ _ _ _ _ (T16.setTop (mkF m 101 #[rv a1, rv a2, iv 0, iv 4, iv 1, iv B4, iv 0, iv 5, iv 3] []))
  refine own_st (fun t k => XS.iinc X16.here hx rfl (hb hby d5_101) rfl (l' := #[rv a1, rv a2, iv 0, iv 4, iv 1, iv B4, iv 0, iv 5, iv 4]) rfl k) ?_
  refine own_st (fun t k => XS.goto X16.here hx rfl (pc0 := 104) (pc' := 25) rfl (hb hby d5_104) (by decide) (by decide) k) ?_
  refine own_st (fun t k => XS.iload X16.here hx rfl (hb hby d5_25) rfl k) ?_
  show own_Fin _ _ _ _ _ _ _ (T16.setTop (mkF m 27 #[rv a1, rv a2, iv 0, iv 4, iv 1, iv B4, iv 0, iv 5, iv 4] [(.int (4 : Int32))]))
  refine own_st (fun t k => XS.iloadN X16.here hx rfl (hb hby d5_27) rfl k) ?_
  refine own_st (fun t k => XS.iload X16.here hx rfl (hb hby d5_28) rfl k) ?_
  refine own_st (fun t k => XS.iadd X16.here hx rfl (hb hby d5_30) rfl k) ?_
  show own_Fin _ _ _ _ _ _ _ (T16.setTop (mkF m 31 #[rv a1, rv a2, iv 0, iv 4, iv 1, iv B4, iv 0, iv 5, iv 4] [(.int (5 : Int32)), (.int (4 : Int32))]))
  refine own_st (fun t k => XS.icmpNo X16.here hx rfl (hb hby d5_31) rfl (tlt (by decide : (4 : Int32) < (5 : Int32))).2.1 k) ?_
  refine own_st (fun t k => XS.iload X16.here hx rfl (hb hby d5_34) rfl k) ?_
  refine own_st (fun t k => XS.bipush X16.here hx rfl (hb hby d5_36) k) ?_
  show own_Fin _ _ _ _ _ _ _ (T16.setTop (mkF m 38 #[rv a1, rv a2, iv 0, iv 4, iv 1, iv B4, iv 0, iv 5, iv 4] [(.int (6 : Int32)), (.int B4)]))
  refine own_st (fun t k => XS.ishl X16.here hx rfl (hb hby d5_38) rfl k) ?_
  refine own_st (fun t k => XS.iload X16.here hx rfl (hb hby d5_39) rfl k) ?_
  refine own_st (fun t k => XS.iloadN X16.here hx rfl (hb hby d5_41) rfl k) ?_
  show own_Fin _ _ _ _ _ _ _ (T16.setTop (mkF m 42 #[rv a1, rv a2, iv 0, iv 4, iv 1, iv B4, iv 0, iv 5, iv 4] [(.int (4 : Int32)), (.int (4 : Int32)), (.int (B4 <<< ((6 : Int32) &&& 31)))]))
  refine own_st (fun t k => XS.icmpYes X16.here hx rfl (pc0 := 42) (pc' := 55) rfl (hb hby d5_42) rfl (flt (by decide : ¬ ((4 : Int32) < (4 : Int32)))).2.1 (by decide) (by decide) k) ?_
  refine own_st (fun t k => XS.bipush X16.here hx rfl (hb hby d5_55) k) ?_
  refine own_st (fun t k => XS.ior X16.here hx rfl (hb hby d5_57) rfl k) ?_
  show own_Fin _ _ _ _ _ _ _ (T16.setTop (mkF m 58 #[rv a1, rv a2, iv 0, iv 4, iv 1, iv B4, iv 0, iv 5, iv 4] [(.int ((B4 <<< ((6 : Int32) &&& 31)) ||| (31 : Int32)))]))
  refine own_st (fun t k => XS.istore X16.here hx rfl (hb hby d5_58) rfl (l' := #[rv a1, rv a2, iv 0, iv 4, iv 1, iv ((B4 <<< ((6 : Int32) &&& 31)) ||| (31 : Int32)), iv 0, iv 5, iv 4]) rfl k) ?_
  show own_Fin _ _ _ _ _ _ _ (T16.setTop (mkF m 60 #[rv a1, rv a2, iv 0, iv 4, iv 1, iv ((B4 <<< ((6 : Int32) &&& 31)) ||| (31 : Int32)), iv 0, iv 5, iv 4] []))
  obtain ⟨B5, hB5⟩ : ∃ z, z = ((B4 <<< ((6 : Int32) &&& 31)) ||| (31 : Int32)) := ⟨_, rfl⟩
  rw [← hB5]
  refine own_st (fun t k => XS.iinc X16.here hx rfl (hb hby d5_60) rfl (l' := #[rv a1, rv a2, iv 0, iv 4, iv 1, iv B5, iv 6, iv 5, iv 4]) rfl k) ?_
  refine own_st (fun t k => XS.iload X16.here hx rfl (hb hby d5_63) rfl k) ?_
  refine own_st (fun t k => XS.bipush X16.here hx rfl (hb hby d5_65) k) ?_
  show own_Fin _ _ _ _ _ _ _ (T16.setTop (mkF m 67 #[rv a1, rv a2, iv 0, iv 4, iv 1, iv B5, iv 6, iv 5, iv 4] [(.int (8 : Int32)), (.int (6 : Int32))]))
  refine own_st (fun t k => XS.icmpYes X16.here hx rfl (pc0 := 67) (pc' := 101) rfl (hb hby d5_67) rfl (tlt (by decide : (6 : Int32) < (8 : Int32))).1 (by decide) (by decide) k) ?_
  show own_Fin _ _ _ _ _ _ _ (T16.setTop (mkF m 101 #[rv a1, rv a2, iv 0, iv 4, iv 1, iv B5, iv 6, iv 5, iv 4] []))
  refine own_st (fun t k => XS.iinc X16.here hx rfl (hb hby d5_101) rfl (l' := #[rv a1, rv a2, iv 0, iv 4, iv 1, iv B5, iv 6, iv 5, iv 5]) rfl k) ?_
  refine own_st (fun t k => XS.goto X16.here hx rfl (pc0 := 104) (pc' := 25) rfl (hb hby d5_104) (by decide) (by decide) k) ?_
  refine own_st (fun t k => XS.iload X16.here hx rfl (hb hby d5_25) rfl k) ?_
  show own_Fin _ _ _ _ _ _ _ (T16.setTop (mkF m 27 #[rv a1, rv a2, iv 0, iv 4, iv 1, iv B5, iv 6, iv 5, iv 5] [(.int (5 : Int32))]))
  refine own_st (fun t k => XS.iloadN X16.here hx rfl (hb hby d5_27) rfl k) ?_
  refine own_st (fun t k => XS.iload X16.here hx rfl (hb hby d5_28) rfl k) ?_
  refine own_st (fun t k => XS.iadd X16.here hx rfl (hb hby d5_30) rfl k) ?_
  show own_Fin _ _ _ _ _ _ _ (T16.setTop (mkF m 31 #[rv a1, rv a2, iv 0, iv 4, iv 1, iv B5, iv 6, iv 5, iv 5] [(.int (5 : Int32)), (.int (5 : Int32))]))
  refine own_st (fun t k => XS.icmpYes X16.here hx rfl (pc0 := 31) (pc' := 107) rfl (hb hby d5_31) rfl (flt (by decide : ¬ ((5 : Int32) < (5 : Int32)))).2.1 (by decide) (by decide) k) ?_
  refine own_st (fun t k => XS.iload X16.here hx rfl (hb hby d5_107) rfl k) ?_
  show own_Fin _ _ _ _ _ _ _ (T16.setTop (mkF m 109 #[rv a1, rv a2, iv 0, iv 4, iv 1, iv B5, iv 6, iv 5, iv 5] [(.int (6 : Int32))]))
  refine own_st (fun t k => XS.ifNo X16.here hx rfl (hb hby d5_109) rfl ((if0 _ _).trans (tlt (by decide : (0 : Int32) < (6 : Int32))).2.2.2) k) ?_
  refine own_st (fun t k => XS.aloadN X16.here hx rfl (hb hby d5_112) rfl rfl k) ?_
  show own_Fin _ _ _ _ _ _ _ (T16.setTop (mkF m 113 #[rv a1, rv a2, iv 0, iv 4, iv 1, iv B5, iv 6, iv 5, iv 5] [(.ref a1)]))
  obtain ⟨T17, X17, e17, st17⟩ := getF X16 hx hZ hown (host := "") (Or.inl (hw _ (List.mem_of_getElem? (i := 22) rfl))) Via.refl e16 f16_1 (g := (mkF m 113 #[rv a1, rv a2, iv 0, iv 4, iv 1, iv B5, iv 6, iv 5, iv 5] [(.ref a1)])) rfl rfl (hb hby d5_113)
  refine own_st st17 ?_
  refine own_st (fun t k => XS.aloadN X17.here hx rfl (hb hby d5_116) rfl rfl k) ?_
  refine own_st (fun t k => XS.dup X17.here hx rfl (hb hby d5_117) rfl rfl k) ?_
  show own_Fin _ _ _ _ _ _ _ (T17.setTop (mkF m 118 #[rv a1, rv a2, iv 0, iv 4, iv 1, iv B5, iv 6, iv 5, iv 5] [(.ref a1), (.ref a1), (.ref t)]))
  obtain ⟨T18, X18, e18, st18⟩ := getF X17 hx hZ hown (host := "") (Or.inl (hw _ (List.mem_of_getElem? (i := 29) rfl))) Via.refl e17 f16_3 (g := (mkF m 118 #[rv a1, rv a2, iv 0, iv 4, iv 1, iv B5, iv 6, iv 5, iv 5] [(.ref a1), (.ref a1), (.ref t)])) rfl rfl (hb hby d5_118)
  refine own_st st18 ?_
  show own_Fin _ _ _ _ _ _ _ (T18.setTop (mkF m 121 #[rv a1, rv a2, iv 0, iv 4, iv 1, iv B5, iv 6, iv 5, iv 5] [(.int (((cn + (1 : Int32)) + (1 : Int32)) + (1 : Int32))), (.ref a1), (.ref t)]))
  refine own_st (fun t k => XS.dupX1 X18.here hx rfl (hb hby d5_121) rfl rfl rfl k) ?_
  refine own_st (fun t k => XS.iconst X18.here hx rfl (hb hby d5_122) k) ?_
  refine own_st (fun t k => XS.iadd X18.here hx rfl (hb hby d5_123) rfl k) ?_
  show own_Fin _ _ _ _ _ _ _ (T18.setTop (mkF m 124 #[rv a1, rv a2, iv 0, iv 4, iv 1, iv B5, iv 6, iv 5, iv 5] [(.int ((((cn + (1 : Int32)) + (1 : Int32)) + (1 : Int32)) + (1 : Int32))), (.ref a1), (.int (((cn + (1 : Int32)) + (1 : Int32)) + (1 : Int32))), (.ref t)]))
  obtain ⟨T19, h19, X19, e19, W19, st19⟩ := putF X18 hx hZ hown (host := "") (Or.inl (hw _ (List.mem_of_getElem? (i := 29) rfl))) Via.refl e18 f16_3 f16_0 (Or.inl (hw _ (List.mem_of_getElem? (i := 30) rfl))) (hw _ (List.mem_of_getElem? (i := 10) rfl)) (ty := .int) (by decide) rfl rfl (g := (mkF m 124 #[rv a1, rv a2, iv 0, iv 4, iv 1, iv B5, iv 6, iv 5, iv 5] [(.int ((((cn + (1 : Int32)) + (1 : Int32)) + (1 : Int32)) + (1 : Int32))), (.ref a1), (.int (((cn + (1 : Int32)) + (1 : Int32)) + (1 : Int32))), (.ref t)])) rfl rfl (hb hby d5_124)
  have f19_0 := f16_0.wr W19
  have f19_1 := f16_1.other W19 (Or.inr (slot_ne (Or.inr (hw _ (List.mem_of_getElem? (i := 23) rfl))) (Or.inl (hw _ (List.mem_of_getElem? (i := 30) rfl))) (by decide) (t := (.array .int)) (t' := .int) (by decide) (by decide)))
  have f19_2 := f16_2.other W19 nac
  have f19_3 := V16.other W19 (Ne.symm nat)
  have Fw19 : Fld Z h19 a1 "com/example/quietzone/quietzone/datamatrix/CodewordWriter" "count" "I" (.int ((((cn + (1 : Int32)) + (1 : Int32)) + (1 : Int32)) + (1 : Int32))) := f16_3.same W19
  have N19 := Fr.snoc X19 N16 gi
  have Z19 : n0 ≤ h19.size := Nat.le_trans Z16 (Keep.of_wr W19).1
  have K19 : Keep h0 h19 [a1, t] := K16.wr W19 (Or.inl (List.mem_of_getElem? (i := 0) rfl))
  refine own_st st19 ?_
  refine own_st (fun t k => XS.iload X19.here hx rfl (hb hby d5_127) rfl k) ?_
  refine own_st (fun t k => XS.bipush X19.here hx rfl (hb hby d5_129) k) ?_
  show own_Fin _ _ _ _ _ _ _ (T19.setTop (mkF m 131 #[rv a1, rv a2, iv 0, iv 4, iv 1, iv B5, iv 6, iv 5, iv 5] [(.int (8 : Int32)), (.int B5), (.int (((cn + (1 : Int32)) + (1 : Int32)) + (1 : Int32))), (.ref t)]))
  refine own_st (fun t k => XS.iload X19.here hx rfl (hb hby d5_131) rfl k) ?_
  refine own_st (fun t k => XS.isub X19.here hx rfl (hb hby d5_133) rfl k) ?_
  show own_Fin _ _ _ _ _ _ _ (T19.setTop (mkF m 134 #[rv a1, rv a2, iv 0, iv 4, iv 1, iv B5, iv 6, iv 5, iv 5] [(.int (2 : Int32)), (.int B5), (.int (((cn + (1 : Int32)) + (1 : Int32)) + (1 : Int32))), (.ref t)]))
  refine own_st (fun t k => XS.ishl X19.here hx rfl (hb hby d5_134) rfl k) ?_
  refine own_st (fun t k => XS.sipush X19.here hx rfl (hb hby d5_135) k) ?_
  refine own_st (fun t k => XS.iand X19.here hx rfl (hb hby d5_138) rfl k) ?_
  show own_Fin _ _ _ _ _ _ _ (T19.setTop (mkF m 139 #[rv a1, rv a2, iv 0, iv 4, iv 1, iv B5, iv 6, iv 5, iv 5] [(.int ((B5 <<< ((2 : Int32) &&& 31)) &&& (255 : Int32))), (.int (((cn + (1 : Int32)) + (1 : Int32)) + (1 : Int32))), (.ref t)]))
  obtain ⟨cl20, Ar20, Cq20, Sz20, Mn20, Hs20, Gf20⟩ := id f19_3
  obtain ⟨T20, h20, X20, e20, W20, st20⟩ := stI X19 hx hZ e19 Ar20 (j := (((cn + (1 : Int32)) + (1 : Int32)) + (1 : Int32))) (inb_of Sz20 (own_cn hcn hlen).2.2.2.1) (g := (mkF m 139 #[rv a1, rv a2, iv 0, iv 4, iv 1, iv B5, iv 6, iv 5, iv 5] [(.int ((B5 <<< ((2 : Int32) &&& 31)) &&& (255 : Int32))), (.int (((cn + (1 : Int32)) + (1 : Int32)) + (1 : Int32))), (.ref t)])) rfl rfl (hb hby d5_139)
  have f20_0 := f19_0.wr W20
  have f20_1 := f19_1.other W20 (Or.inl nat)
  have f20_2 := f19_2.other W20 nct
  have f20_3 := Fw19.other W20 (Or.inl nat)
  have V20 : Arv Z h20 t kt .int (8 : Int32) ((((vs.set (cn).toNatClampNeg (.int ((B2 >>> ((4 : Int32) &&& 31)) &&& (255 : Int32)))).set ((cn + (1 : Int32))).toNatClampNeg (.int ((B3 >>> ((2 : Int32) &&& 31)) &&& (255 : Int32)))).set (((cn + (1 : Int32)) + (1 : Int32))).toNatClampNeg (.int ((B4 >>> ((0 : Int32) &&& 31)) &&& (255 : Int32)))).set ((((cn + (1 : Int32)) + (1 : Int32)) + (1 : Int32))).toNatClampNeg (.int ((B5 <<< ((2 : Int32) &&& 31)) &&& (255 : Int32)))) (.int (0 : Int32)) := Arv.set Ar20 Cq20 Sz20 Mn20 Hs20 Gf20 rfl W20 ((((cn + (1 : Int32)) + (1 : Int32)) + (1 : Int32))).toNatClampNeg rfl (by simp only [List.length_set]; exact (own_cn hcn hlen).2.2.2.2.2.2.2)
  have N20 := Fr.snoc X20 N19 gt
  have Z20 : n0 ≤ h20.size := Nat.le_trans Z19 (Keep.of_wr W20).1
  have K20 : Keep h0 h20 [a1, t] := K19.wr W20 (Or.inl (List.mem_of_getElem? (i := 1) rfl))
  refine own_st st20 ?_
  show own_Fin _ _ _ _ _ _ _ (T20.setTop (mkF m 140 #[rv a1, rv a2, iv 0, iv 4, iv 1, iv B5, iv 6, iv 5, iv 5] []))
  have x0 : 0 ≤ ((w0 &&& (63 : Int32))).toInt ∧ ((w0 &&& (63 : Int32))).toInt < 64 := own_x63 _
  have b1 := own_b1 hB1 x0
  have x1 : 0 ≤ ((w1 &&& (63 : Int32))).toInt ∧ ((w1 &&& (63 : Int32))).toInt < 64 := own_x63 _
  have b2 := own_bS hB2 b1 (by omega) x1
  have x2 : 0 ≤ ((w2 &&& (63 : Int32))).toInt ∧ ((w2 &&& (63 : Int32))).toInt < 64 := own_x63 _
  have b3 := own_bS hB3 b2 (by omega) x2
  have x3 : 0 ≤ ((w3 &&& (63 : Int32))).toInt ∧ ((w3 &&& (63 : Int32))).toInt < 64 := own_x63 _
  have b4 := own_bS hB4 b3 (by omega) x3
  have x4 : 0 ≤ ((31 : Int32)).toInt ∧ ((31 : Int32)).toInt < 64 := by decide
  have b5 := own_bS hB5 b4 (by omega) x4
  have hks : own_ks 4 1 w0 w1 w2 w3 = [((B2 >>> ((4 : Int32) &&& 31)) &&& (255 : Int32)), ((B3 >>> ((2 : Int32) &&& 31)) &&& (255 : Int32)), ((B4 >>> ((0 : Int32) &&& 31)) &&& (255 : Int32)), ((B5 <<< ((2 : Int32) &&& 31)) &&& (255 : Int32))] := by
    rw [own_ks_41, own_six_mask hw0, own_six_mask hw1, own_six_mask hw2, own_six_mask hw3]
    rw [(own_o0 b2 x0 x1), (own_o1 b3 x0 x1 x2), (own_o2 b4 x0 x1 x2 x3), (own_o3 b5 x0 x1 x2 x3 x4)]
  exact own_retV X20 hx Bd.notSynchronized Bd.returns (hb hby d5_140) (by decide) (by decide) (by rw [e20]; unfold own_Q_rmE_0_4_1; rw [hks]; exact ⟨rfl, N20, K20, f20_0, f20_1, f20_3, V20⟩)
def own_Q_rmE_0_0_0 (Z : State)  (a1 a2 : Addr) (t : Addr) (kt : ClassId) (vs : List Value) (cn : Int32) (kc : ClassId) (vc : List Value) (w0 w1 w2 w3 : Int32) (h0 : Heap) (n0 : Nat) (v : Option Value) (h : Heap) (L : List Loc) : Prop := v = none ∧ Fr n0 L ∧ Keep h0 h [a1, t] ∧ Exa Z h a1 "com/example/quietzone/quietzone/datamatrix/CodewordWriter" ∧ Fld Z h a1 "com/example/quietzone/quietzone/datamatrix/CodewordWriter" "codewords" "[I" (.ref t) ∧ Fld Z h a1 "com/example/quietzone/quietzone/datamatrix/CodewordWriter" "count" "I" (.int (own_cnt cn (own_ks 0 0 w0 w1 w2 w3))) ∧ Arv Z h t kt .int (8 : Int32) (own_app vs cn (own_ks 0 0 w0 w1 w2 w3)) (.int (0 : Int32))
set_option maxRecDepth 65536 in
set_option maxHeartbeats 40000000 in
theorem rmE_0_0_0 (l : Launch) (Z : State) (a0 : Array Value) (hw : ∀ d ∈ tables_1, d.before a0 Z = true) (ws : List Jvm.Cond)  (a1 a2 : Addr) (t : Addr) (kt : ClassId) (vs : List Value) (cn : Int32) (kc : ClassId) (vc : List Value) (w0 w1 w2 w3 : Int32) (h0 : Heap) (n0 : Nat) (Z0 : n0 ≤ h0.size) (Ei : Exa Z h0 a1 "com/example/quietzone/quietzone/datamatrix/CodewordWriter") (Fw : Fld Z h0 a1 "com/example/quietzone/quietzone/datamatrix/CodewordWriter" "codewords" "[I" (.ref t)) (Fc : Fld Z h0 a1 "com/example/quietzone/quietzone/datamatrix/CodewordWriter" "count" "I" (.int cn)) (Vt : Arv Z h0 t kt .int (8 : Int32) vs (.int (0 : Int32))) (gi : n0 ≤ a1) (gt : n0 ≤ t) (nat : a1 ≠ t) (Vc : Arv Z h0 a2 kc .int (5 : Int32) vc (.int (0 : Int32))) (nac : a2 ≠ a1) (nct : a2 ≠ t) (hcn : cn = (0 : Int32) ∨ cn = (1 : Int32)) (hlen : vs.length = 8) :
    MetFree l (⟨"com/example/quietzone/quietzone/datamatrix/CodewordWriter", "edifact", "([IIIZ)V"⟩ : MethodName) (head1 (Jvm.Cond.code (⟨"com/example/quietzone/quietzone/datamatrix/CodewordWriter", "edifact", "([IIIZ)V"⟩ : MethodName) prog_34_method_9_code 9 none :: ws) ({ frames := 0, cells := 0, slots := 0, locals := 0 } : Room)) (fun a U => a = #[(.ref a1), (.ref a2), (.int (0 : Int32)), (.int (0 : Int32)), (.int (0 : Int32))] ∧ Z.Warmed39 U.vm ∧ U.heap = h0) (fun _ _ _ _ _ => True) (fun _ U o U' => ∃ v L, o = .returned v ∧ own_Q_rmE_0_0_0 Z a1 a2 t kt vs cn kc vc w0 w1 w2 w3 h0 n0 v U'.heap L ∧ FrameEnd U o U' L ({ frames := 0, cells := 0, slots := 0, locals := 0 } : Room).cells ({ frames := 0, cells := 0, slots := 0, locals := 0 } : Room).slots) := by
  refine MetFree.of_bodySF pn_5 hisR ?_
  intro p e s m args below meth c s₁ Bd hml0 hP hK
  obtain ⟨rfl, hZ, hh⟩ := hP
  have hx := Bd.exec
  have hby := Bd.bytes
  have hml : c.maxLocals = 9 := hml0
  have hown : s.vm.findClass "com/example/quietzone/quietzone/datamatrix/CodewordWriter" = some m.cls := findClass_of_methodNamed Bd.named
  have hnm := (name_of_methodNamed Bd.named Bd.method).1
  have X0 : Stand p l e ({ frames := 0, cells := 0, slots := 0, locals := 0 } : Room) s m #[(.ref a1), (.ref a2), (.int (0 : Int32)), (.int (0 : Int32)), (.int (0 : Int32))] below meth c s₁ [] 0 0 := Stand.of_body Bd
  have e0 : s₁.heap = h0 := by rw [← hh, Bd.state]; rfl
  have N0 := Fr.nil n0
  have KR : Keep h0 h0 [a1, t] := Keep.refl h0 [a1, t]
  show own_Fin p.tables e below s (({ frames := 0, cells := 0, slots := 0, locals := 0 } : Room).cells) (({ frames := 0, cells := 0, slots := 0, locals := 0 } : Room).slots) (own_Q_rmE_0_0_0 Z a1 a2 t kt vs cn kc vc w0 w1 w2 w3 h0 n0) (s₁.setTop (entryFrame m #[(.ref a1), (.ref a2), (.int (0 : Int32)), (.int (0 : Int32)), (.int (0 : Int32))] 9))
  rw [ef_5 m a1 a2 (0 : Int32) (0 : Int32) (0 : Int32)]
  refine own_st (fun t k => XS.iconst X0.here hx rfl (hb hby d5_0) k) ?_
  refine own_st (fun t k => XS.istore X0.here hx rfl (hb hby d5_1) rfl (l' := #[rv a1, rv a2, iv 0, iv 0, iv 0, iv 0, .unset, .unset, .unset]) rfl k) ?_
  show own_Fin _ _ _ _ _ _ _ (s₁.setTop (mkF m 3 #[rv a1, rv a2, iv 0, iv 0, iv 0, iv 0, .unset, .unset, .unset] []))
  refine own_st (fun t k => XS.iconst X0.here hx rfl (hb hby d5_3) k) ?_
  refine own_st (fun t k => XS.istore X0.here hx rfl (hb hby d5_4) rfl (l' := #[rv a1, rv a2, iv 0, iv 0, iv 0, iv 0, iv 0, .unset, .unset]) rfl k) ?_
  refine own_st (fun t k => XS.iloadN X0.here hx rfl (hb hby d5_6) rfl k) ?_
  show own_Fin _ _ _ _ _ _ _ (s₁.setTop (mkF m 7 #[rv a1, rv a2, iv 0, iv 0, iv 0, iv 0, iv 0, .unset, .unset] [(.int (0 : Int32))]))
  refine own_st (fun t k => XS.iloadN X0.here hx rfl (hb hby d5_7) rfl k) ?_
  refine own_st (fun t k => XS.isub X0.here hx rfl (hb hby d5_8) rfl k) ?_
  refine own_st (fun t k => XS.iload X0.here hx rfl (hb hby d5_9) rfl k) ?_
  show own_Fin _ _ _ _ _ _ _ (s₁.setTop (mkF m 11 #[rv a1, rv a2, iv 0, iv 0, iv 0, iv 0, iv 0, .unset, .unset] [(.int (0 : Int32)), (.int (0 : Int32))]))
  refine own_st (fun t k => XS.ifYes X0.here hx rfl (pc0 := 11) (pc' := 18) rfl (hb hby d5_11) rfl ((if0 _ _).trans (teq (by decide : (0 : Int32) = (0 : Int32))).1) (by decide) (by decide) k) ?_
  refine own_st (fun t k => XS.iconst X0.here hx rfl (hb hby d5_18) k) ?_
  refine own_st (fun t k => XS.iadd X0.here hx rfl (hb hby d5_19) rfl k) ?_
  show own_Fin _ _ _ _ _ _ _ (s₁.setTop (mkF m 20 #[rv a1, rv a2, iv 0, iv 0, iv 0, iv 0, iv 0, .unset, .unset] [(.int (0 : Int32))]))
  refine own_st (fun t k => XS.istore X0.here hx rfl (hb hby d5_20) rfl (l' := #[rv a1, rv a2, iv 0, iv 0, iv 0, iv 0, iv 0, iv 0, .unset]) rfl k) ?_
  refine own_st (fun t k => XS.iloadN X0.here hx rfl (hb hby d5_22) rfl k) ?_
  refine own_st (fun t k => XS.istore X0.here hx rfl (hb hby d5_23) rfl (l' := #[rv a1, rv a2, iv 0, iv 0, iv 0, iv 0, iv 0, iv 0, iv 0]) rfl k) ?_
  show own_Fin _ _ _ _ _ _ _ (s₁.setTop (mkF m 25 #[rv a1, rv a2, iv 0, iv 0, iv 0, iv 0, iv 0, iv 0, iv 0] []))
  refine own_st (fun t k => XS.iload X0.here hx rfl (hb hby d5_25) rfl k) ?_
  refine own_st (fun t k => XS.iloadN X0.here hx rfl (hb hby d5_27) rfl k) ?_
  refine own_st (fun t k => XS.iload X0.here hx rfl (hb hby d5_28) rfl k) ?_
  show own_Fin _ _ _ _ _ _ _ (s₁.setTop (mkF m 30 #[rv a1, rv a2, iv 0, iv 0, iv 0, iv 0, iv 0, iv 0, iv 0] [(.int (0 : Int32)), (.int (0 : Int32)), (.int (0 : Int32))]))
  refine own_st (fun t k => XS.iadd X0.here hx rfl (hb hby d5_30) rfl k) ?_
  show own_Fin _ _ _ _ _ _ _ (s₁.setTop (mkF m 31 #[rv a1, rv a2, iv 0, iv 0, iv 0, iv 0, iv 0, iv 0, iv 0] [(.int (0 : Int32)), (.int (0 : Int32))]))
  refine own_st (fun t k => XS.icmpYes X0.here hx rfl (pc0 := 31) (pc' := 107) rfl (hb hby d5_31) rfl (flt (by decide : ¬ ((0 : Int32) < (0 : Int32)))).2.1 (by decide) (by decide) k) ?_
  refine own_st (fun t k => XS.iload X0.here hx rfl (hb hby d5_107) rfl k) ?_
  show own_Fin _ _ _ _ _ _ _ (s₁.setTop (mkF m 109 #[rv a1, rv a2, iv 0, iv 0, iv 0, iv 0, iv 0, iv 0, iv 0] [(.int (0 : Int32))]))
  refine own_st (fun t k => XS.ifYes X0.here hx rfl (pc0 := 109) (pc' := 140) rfl (hb hby d5_109) rfl ((if0 _ _).trans (flt (by decide : ¬ ((0 : Int32) < (0 : Int32)))).2.2.2) (by decide) (by decide) k) ?_
  show own_Fin _ _ _ _ _ _ _ (s₁.setTop (mkF m 140 #[rv a1, rv a2, iv 0, iv 0, iv 0, iv 0, iv 0, iv 0, iv 0] []))
  have hks : own_ks 0 0 w0 w1 w2 w3 = [] := by
    rw [own_ks_00]
  exact own_retV X0 hx Bd.notSynchronized Bd.returns (hb hby d5_140) (by decide) (by decide) (by rw [e0]; unfold own_Q_rmE_0_0_0; rw [hks]; exact ⟨rfl, N0, KR, Ei, Fw, Fc, Vt⟩)
def own_Q_rmE_0_4_0 (Z : State)  (a1 a2 : Addr) (t : Addr) (kt : ClassId) (vs : List Value) (cn : Int32) (kc : ClassId) (vc : List Value) (w0 w1 w2 w3 : Int32) (h0 : Heap) (n0 : Nat) (v : Option Value) (h : Heap) (L : List Loc) : Prop := v = none ∧ Fr n0 L ∧ Keep h0 h [a1, t] ∧ Exa Z h a1 "com/example/quietzone/quietzone/datamatrix/CodewordWriter" ∧ Fld Z h a1 "com/example/quietzone/quietzone/datamatrix/CodewordWriter" "codewords" "[I" (.ref t) ∧ Fld Z h a1 "com/example/quietzone/quietzone/datamatrix/CodewordWriter" "count" "I" (.int (own_cnt cn (own_ks 4 0 w0 w1 w2 w3))) ∧ Arv Z h t kt .int (8 : Int32) (own_app vs cn (own_ks 4 0 w0 w1 w2 w3)) (.int (0 : Int32))
set_option maxRecDepth 65536 in
set_option maxHeartbeats 40000000 in
theorem rmE_0_4_0 (l : Launch) (Z : State) (a0 : Array Value) (hw : ∀ d ∈ tables_1, d.before a0 Z = true) (ws : List Jvm.Cond)  (a1 a2 : Addr) (t : Addr) (kt : ClassId) (vs : List Value) (cn : Int32) (kc : ClassId) (vc : List Value) (w0 w1 w2 w3 : Int32) (h0 : Heap) (n0 : Nat) (Z0 : n0 ≤ h0.size) (Ei : Exa Z h0 a1 "com/example/quietzone/quietzone/datamatrix/CodewordWriter") (Fw : Fld Z h0 a1 "com/example/quietzone/quietzone/datamatrix/CodewordWriter" "codewords" "[I" (.ref t)) (Fc : Fld Z h0 a1 "com/example/quietzone/quietzone/datamatrix/CodewordWriter" "count" "I" (.int cn)) (Vt : Arv Z h0 t kt .int (8 : Int32) vs (.int (0 : Int32))) (gi : n0 ≤ a1) (gt : n0 ≤ t) (nat : a1 ≠ t) (Vc : Arv Z h0 a2 kc .int (5 : Int32) vc (.int (0 : Int32))) (nac : a2 ≠ a1) (nct : a2 ≠ t) (hcn : cn = (0 : Int32) ∨ cn = (1 : Int32)) (hlen : vs.length = 8) (hat0 : vc.getD (0 : Int32).toNatClampNeg (.int (0 : Int32)) = .int w0) (hw0 : 32 ≤ w0.toInt ∧ w0.toInt ≤ 94) (hat1 : vc.getD (1 : Int32).toNatClampNeg (.int (0 : Int32)) = .int w1) (hw1 : 32 ≤ w1.toInt ∧ w1.toInt ≤ 94) (hat2 : vc.getD (2 : Int32).toNatClampNeg (.int (0 : Int32)) = .int w2) (hw2 : 32 ≤ w2.toInt ∧ w2.toInt ≤ 94) (hat3 : vc.getD (3 : Int32).toNatClampNeg (.int (0 : Int32)) = .int w3) (hw3 : 32 ≤ w3.toInt ∧ w3.toInt ≤ 94) :
    MetFree l (⟨"com/example/quietzone/quietzone/datamatrix/CodewordWriter", "edifact", "([IIIZ)V"⟩ : MethodName) (head1 (Jvm.Cond.code (⟨"com/example/quietzone/quietzone/datamatrix/CodewordWriter", "edifact", "([IIIZ)V"⟩ : MethodName) prog_34_method_9_code 9 none :: ws) ({ frames := 0, cells := 0, slots := 0, locals := 0 } : Room)) (fun a U => a = #[(.ref a1), (.ref a2), (.int (0 : Int32)), (.int (4 : Int32)), (.int (0 : Int32))] ∧ Z.Warmed39 U.vm ∧ U.heap = h0) (fun _ _ _ _ _ => True) (fun _ U o U' => ∃ v L, o = .returned v ∧ own_Q_rmE_0_4_0 Z a1 a2 t kt vs cn kc vc w0 w1 w2 w3 h0 n0 v U'.heap L ∧ FrameEnd U o U' L ({ frames := 0, cells := 0, slots := 0, locals := 0 } : Room).cells ({ frames := 0, cells := 0, slots := 0, locals := 0 } : Room).slots) := by
  refine MetFree.of_bodySF pn_5 hisR ?_
  intro p e s m args below meth c s₁ Bd hml0 hP hK
  obtain ⟨rfl, hZ, hh⟩ := hP
  have hx := Bd.exec
  have hby := Bd.bytes
  have hml : c.maxLocals = 9 := hml0
  have hown : s.vm.findClass "com/example/quietzone/quietzone/datamatrix/CodewordWriter" = some m.cls := findClass_of_methodNamed Bd.named
  have hnm := (name_of_methodNamed Bd.named Bd.method).1
  have X0 : Stand p l e ({ frames := 0, cells := 0, slots := 0, locals := 0 } : Room) s m #[(.ref a1), (.ref a2), (.int (0 : Int32)), (.int (4 : Int32)), (.int (0 : Int32))] below meth c s₁ [] 0 0 := Stand.of_body Bd
  have e0 : s₁.heap = h0 := by rw [← hh, Bd.state]; rfl
  have N0 := Fr.nil n0
  have KR : Keep h0 h0 [a1, t] := Keep.refl h0 [a1, t]
  show own_Fin p.tables e below s (({ frames := 0, cells := 0, slots := 0, locals := 0 } : Room).cells) (({ frames := 0, cells := 0, slots := 0, locals := 0 } : Room).slots) (own_Q_rmE_0_4_0 Z a1 a2 t kt vs cn kc vc w0 w1 w2 w3 h0 n0) (s₁.setTop (entryFrame m #[(.ref a1), (.ref a2), (.int (0 : Int32)), (.int (4 : Int32)), (.int (0 : Int32))] 9))
  rw [ef_5 m a1 a2 (0 : Int32) (4 : Int32) (0 : Int32)]
  refine own_st (fun t k => XS.iconst X0.here hx rfl (hb hby d5_0) k) ?_
  refine own_st (fun t k => XS.istore X0.here hx rfl (hb hby d5_1) rfl (l' := #[rv a1, rv a2, iv 0, iv 4, iv 0, iv 0, .unset, .unset, .unset]) rfl k) ?_
  show own_Fin _ _ _ _ _ _ _ (s₁.setTop (mkF m 3 #[rv a1, rv a2, iv 0, iv 4, iv 0, iv 0, .unset, .unset, .unset] []))
  refine own_st (fun t k => XS.iconst X0.here hx rfl (hb hby d5_3) k) ?_
  refine own_st (fun t k => XS.istore X0.here hx rfl (hb hby d5_4) rfl (l' := #[rv a1, rv a2, iv 0, iv 4, iv 0, iv 0, iv 0, .unset, .unset]) rfl k) ?_
  refine own_st (fun t k => XS.iloadN X0.here hx rfl (hb hby d5_6) rfl k) ?_
  show own_Fin _ _ _ _ _ _ _ (s₁.setTop (mkF m 7 #[rv a1, rv a2, iv 0, iv 4, iv 0, iv 0, iv 0, .unset, .unset] [(.int (4 : Int32))]))
  refine own_st (fun t k => XS.iloadN X0.here hx rfl (hb hby d5_7) rfl k) ?_
  refine own_st (fun t k => XS.isub X0.here hx rfl (hb hby d5_8) rfl k) ?_
  refine own_st (fun t k => XS.iload X0.here hx rfl (hb hby d5_9) rfl k) ?_
  show own_Fin _ _ _ _ _ _ _ (s₁.setTop (mkF m 11 #[rv a1, rv a2, iv 0, iv 4, iv 0, iv 0, iv 0, .unset, .unset] [(.int (0 : Int32)), (.int (4 : Int32))]))
  refine own_st (fun t k => XS.ifYes X0.here hx rfl (pc0 := 11) (pc' := 18) rfl (hb hby d5_11) rfl ((if0 _ _).trans (teq (by decide : (0 : Int32) = (0 : Int32))).1) (by decide) (by decide) k) ?_
  refine own_st (fun t k => XS.iconst X0.here hx rfl (hb hby d5_18) k) ?_
  refine own_st (fun t k => XS.iadd X0.here hx rfl (hb hby d5_19) rfl k) ?_
  show own_Fin _ _ _ _ _ _ _ (s₁.setTop (mkF m 20 #[rv a1, rv a2, iv 0, iv 4, iv 0, iv 0, iv 0, .unset, .unset] [(.int (4 : Int32))]))
  refine own_st (fun t k => XS.istore X0.here hx rfl (hb hby d5_20) rfl (l' := #[rv a1, rv a2, iv 0, iv 4, iv 0, iv 0, iv 0, iv 4, .unset]) rfl k) ?_
  refine own_st (fun t k => XS.iloadN X0.here hx rfl (hb hby d5_22) rfl k) ?_
  refine own_st (fun t k => XS.istore X0.here hx rfl (hb hby d5_23) rfl (l' := #[rv a1, rv a2, iv 0, iv 4, iv 0, iv 0, iv 0, iv 4, iv 0]) rfl k) ?_
  show own_Fin _ _ _ _ _ _ _ (s₁.setTop (mkF m 25 #[rv a1, rv a2, iv 0, iv 4, iv 0, iv 0, iv 0, iv 4, iv 0] []))
  refine own_st (fun t k => XS.iload X0.here hx rfl (hb hby d5_25) rfl k) ?_
  refine own_st (fun t k => XS.iloadN X0.here hx rfl (hb hby d5_27) rfl k) ?_
  refine own_st (fun t k => XS.iload X0.here hx rfl (hb hby d5_28) rfl k) ?_
  show own_Fin _ _ _ _ _ _ _ (s₁.setTop (mkF m 30 #[rv a1, rv a2, iv 0, iv 4, iv 0, iv 0, iv 0, iv 4, iv 0] [(.int (4 : Int32)), (.int (0 : Int32)), (.int (0 : Int32))]))
  refine own_st (fun t k => XS.iadd X0.here hx rfl (hb hby d5_30) rfl k) ?_
  show own_Fin _ _ _ _ _ _ _ (s₁.setTop (mkF m 31 #[rv a1, rv a2, iv 0, iv 4, iv 0, iv 0, iv 0, iv 4, iv 0] [(.int (4 : Int32)), (.int (0 : Int32))]))
  refine own_st (fun t k => XS.icmpNo X0.here hx rfl (hb hby d5_31) rfl (tlt (by decide : (0 : Int32) < (4 : Int32))).2.1 k) ?_
  refine own_st (fun t k => XS.iload X0.here hx rfl (hb hby d5_34) rfl k) ?_
  refine own_st (fun t k => XS.bipush X0.here hx rfl (hb hby d5_36) k) ?_
  show own_Fin _ _ _ _ _ _ _ (s₁.setTop (mkF m 38 #[rv a1, rv a2, iv 0, iv 4, iv 0, iv 0, iv 0, iv 4, iv 0] [(.int (6 : Int32)), (.int (0 : Int32))]))
  refine own_st (fun t k => XS.ishl X0.here hx rfl (hb hby d5_38) rfl k) ?_
  refine own_st (fun t k => XS.iload X0.here hx rfl (hb hby d5_39) rfl k) ?_
  refine own_st (fun t k => XS.iloadN X0.here hx rfl (hb hby d5_41) rfl k) ?_
  show own_Fin _ _ _ _ _ _ _ (s₁.setTop (mkF m 42 #[rv a1, rv a2, iv 0, iv 4, iv 0, iv 0, iv 0, iv 4, iv 0] [(.int (4 : Int32)), (.int (0 : Int32)), (.int ((0 : Int32) <<< ((6 : Int32) &&& 31)))]))
  refine own_st (fun t k => XS.icmpNo X0.here hx rfl (hb hby d5_42) rfl (tlt (by decide : (0 : Int32) < (4 : Int32))).2.1 k) ?_
  refine own_st (fun t k => XS.aloadN X0.here hx rfl (hb hby d5_45) rfl rfl k) ?_
  refine own_st (fun t k => XS.iload X0.here hx rfl (hb hby d5_46) rfl k) ?_
  show own_Fin _ _ _ _ _ _ _ (s₁.setTop (mkF m 48 #[rv a1, rv a2, iv 0, iv 4, iv 0, iv 0, iv 0, iv 4, iv 0] [(.int (0 : Int32)), (.ref a2), (.int ((0 : Int32) <<< ((6 : Int32) &&& 31)))]))
  obtain ⟨cl1, Ar1, Cq1, Sz1, Mn1, Hs1, Gf1⟩ := id Vc
  have hin1 := inb_of Sz1 (j := (0 : Int32)) ⟨by decide, by decide⟩
  refine own_st (X0.iaload hx (j := (0 : Int32)) (v := (.int w0)) (by rw [e0]; exact Ar1.1) (State.isArrayOf_alike hZ.alike Ar1.2.1) Ar1.2.2 hin1 (Hs1.at hin1 hat0) (g := (mkF m 48 #[rv a1, rv a2, iv 0, iv 4, iv 0, iv 0, iv 0, iv 4, iv 0] [(.int (0 : Int32)), (.ref a2), (.int ((0 : Int32) <<< ((6 : Int32) &&& 31)))])) rfl rfl (hb hby d5_48)) ?_
  refine own_st (fun t k => XS.bipush X0.here hx rfl (hb hby d5_49) k) ?_
  refine own_st (fun t k => XS.iand X0.here hx rfl (hb hby d5_51) rfl k) ?_
  show own_Fin _ _ _ _ _ _ _ (s₁.setTop (mkF m 52 #[rv a1, rv a2, iv 0, iv 4, iv 0, iv 0, iv 0, iv 4, iv 0] [(.int (w0 &&& (63 : Int32))), (.int ((0 : Int32) <<< ((6 : Int32) &&& 31)))]))
  refine own_st (fun t k => XS.goto X0.here hx rfl (pc0 := 52) (pc' := 57) rfl (hb hby d5_52) (by decide) (by decide) k) ?_
  refine own_st (fun t k => XS.ior X0.here hx rfl (hb hby d5_57) rfl k) ?_
  refine own_st (fun t k => XS.istore X0.here hx rfl (hb hby d5_58) rfl (l' := #[rv a1, rv a2, iv 0, iv 4, iv 0, iv (((0 : Int32) <<< ((6 : Int32) &&& 31)) ||| (w0 &&& (63 : Int32))), iv 0, iv 4, iv 0]) rfl k) ?_
  show own_Fin _ _ _ _ _ _ _ (s₁.setTop (mkF m 60 #[rv a1, rv a2, iv 0, iv 4, iv 0, iv (((0 : Int32) <<< ((6 : Int32) &&& 31)) ||| (w0 &&& (63 : Int32))), iv 0, iv 4, iv 0] []))
  obtain ⟨B1, hB1⟩ : ∃ z, z = (((0 : Int32) <<< ((6 : Int32) &&& 31)) ||| (w0 &&& (63 : Int32))) := ⟨_, rfl⟩
  rw [← hB1]
  refine own_st (fun t k => XS.iinc X0.here hx rfl (hb hby d5_60) rfl (l' := #[rv a1, rv a2, iv 0, iv 4, iv 0, iv B1, iv 6, iv 4, iv 0]) rfl k) ?_
  refine own_st (fun t k => XS.iload X0.here hx rfl (hb hby d5_63) rfl k) ?_
  refine own_st (fun t k => XS.bipush X0.here hx rfl (hb hby d5_65) k) ?_
  show own_Fin _ _ _ _ _ _ _ (s₁.setTop (mkF m 67 #[rv a1, rv a2, iv 0, iv 4, iv 0, iv B1, iv 6, iv 4, iv 0] [(.int (8 : Int32)), (.int (6 : Int32))]))
  refine own_st (fun t k => XS.icmpYes X0.here hx rfl (pc0 := 67) (pc' := 101) rfl (hb hby d5_67) rfl (tlt (by decide : (6 : Int32) < (8 : Int32))).1 (by decide) (by decide) k) ?_
  show own_Fin _ _ _ _ _ _ _ (s₁.setTop (mkF m 101 #[rv a1, rv a2, iv 0, iv 4, iv 0, iv B1, iv 6, iv 4, iv 0] []))
  refine own_st (fun t k => XS.iinc X0.here hx rfl (hb hby d5_101) rfl (l' := #[rv a1, rv a2, iv 0, iv 4, iv 0, iv B1, iv 6, iv 4, iv 1]) rfl k) ?_
  refine own_st (fun t k => XS.goto X0.here hx rfl (pc0 := 104) (pc' := 25) rfl (hb hby d5_104) (by decide) (by decide) k) ?_
  refine own_st (fun t k => XS.iload X0.here hx rfl (hb hby d5_25) rfl k) ?_
  show own_Fin _ _ _ _ _ _ _ (s₁.setTop (mkF m 27 #[rv a1, rv a2, iv 0, iv 4, iv 0, iv B1, iv 6, iv 4, iv 1] [(.int (1 : Int32))]))
  refine own_st (fun t k => XS.iloadN X0.here hx rfl (hb hby d5_27) rfl k) ?_
  refine own_st (fun t k => XS.iload X0.here hx rfl (hb hby d5_28) rfl k) ?_
  refine own_st (fun t k => XS.iadd X0.here hx rfl (hb hby d5_30) rfl k) ?_
  show own_Fin _ _ _ _ _ _ _ (s₁.setTop (mkF m 31 #[rv a1, rv a2, iv 0, iv 4, iv 0, iv B1, iv 6, iv 4, iv 1] [(.int (4 : Int32)), (.int (1 : Int32))]))
  refine own_st (fun t k => XS.icmpNo X0.here hx rfl (hb hby d5_31) rfl (tlt (by decide : (1 : Int32) < (4 : Int32))).2.1 k) ?_
  refine own_st (fun t k => XS.iload X0.here hx rfl (hb hby d5_34) rfl k) ?_
  refine own_st (fun t k => XS.bipush X0.here hx rfl (hb hby d5_36) k) ?_
  show own_Fin _ _ _ _ _ _ _ (s₁.setTop (mkF m 38 #[rv a1, rv a2, iv 0, iv 4, iv 0, iv B1, iv 6, iv 4, iv 1] [(.int (6 : Int32)), (.int B1)]))
  refine own_st (fun t k => XS.ishl X0.here hx rfl (hb hby d5_38) rfl k) ?_
  refine own_st (fun t k => XS.iload X0.here hx rfl (hb hby d5_39) rfl k) ?_
  refine own_st (fun t k => XS.iloadN X0.here hx rfl (hb hby d5_41) rfl k) ?_
  show own_Fin _ _ _ _ _ _ _ (s₁.setTop (mkF m 42 #[rv a1, rv a2, iv 0, iv 4, iv 0, iv B1, iv 6, iv 4, iv 1] [(.int (4 : Int32)), (.int (1 : Int32)), (.int (B1 <<< ((6 : Int32) &&& 31)))]))
  refine own_st (fun t k => XS.icmpNo X0.here hx rfl (hb hby d5_42) rfl (tlt (by decide : (1 : Int32) < (4 : Int32))).2.1 k) ?_
  refine own_st (fun t k => XS.aloadN X0.here hx rfl (hb hby d5_45) rfl rfl k) ?_
  refine own_st (fun t k => XS.iload X0.here hx rfl (hb hby d5_46) rfl k) ?_
  show own_Fin _ _ _ _ _ _ _ (s₁.setTop (mkF m 48 #[rv a1, rv a2, iv 0, iv 4, iv 0, iv B1, iv 6, iv 4, iv 1] [(.int (1 : Int32)), (.ref a2), (.int (B1 <<< ((6 : Int32) &&& 31)))]))
  obtain ⟨cl2, Ar2, Cq2, Sz2, Mn2, Hs2, Gf2⟩ := id Vc
  have hin2 := inb_of Sz2 (j := (1 : Int32)) ⟨by decide, by decide⟩
  refine own_st (X0.iaload hx (j := (1 : Int32)) (v := (.int w1)) (by rw [e0]; exact Ar2.1) (State.isArrayOf_alike hZ.alike Ar2.2.1) Ar2.2.2 hin2 (Hs2.at hin2 hat1) (g := (mkF m 48 #[rv a1, rv a2, iv 0, iv 4, iv 0, iv B1, iv 6, iv 4, iv 1] [(.int (1 : Int32)), (.ref a2), (.int (B1 <<< ((6 : Int32) &&& 31)))])) rfl rfl (hb hby d5_48)) ?_
  refine own_st (fun t k => XS.bipush X0.here hx rfl (hb hby d5_49) k) ?_
  refine own_st (fun t k => XS.iand X0.here hx rfl (hb hby d5_51) rfl k) ?_
  show own_Fin _ _ _ _ _ _ _ (s₁.setTop (mkF m 52 #[rv a1, rv a2, iv 0, iv 4, iv 0, iv B1, iv 6, iv 4, iv 1] [(.int (w1 &&& (63 : Int32))), (.int (B1 <<< ((6 : Int32) &&& 31)))]))
  refine own_st (fun t k => XS.goto X0.here hx rfl (pc0 := 52) (pc' := 57) rfl (hb hby d5_52) (by decide) (by decide) k) ?_
  refine own_st (fun t k => XS.ior X0.here hx rfl (hb hby d5_57) rfl k) ?_
  refine own_st (fun t k => XS.istore X0.here hx rfl (hb hby d5_58) rfl (l' := #[rv a1, rv a2, iv 0, iv 4, iv 0, iv ((B1 <<< ((6 : Int32) &&& 31)) ||| (w1 &&& (63 : Int32))), iv 6, iv 4, iv 1]) rfl k) ?_
  show own_Fin _ _ _ _ _ _ _ (s₁.setTop (mkF m 60 #[rv a1, rv a2, iv 0, iv 4, iv 0, iv ((B1 <<< ((6 : Int32) &&& 31)) ||| (w1 &&& (63 : Int32))), iv 6, iv 4, iv 1] []))
  obtain ⟨B2, hB2⟩ : ∃ z, z = ((B1 <<< ((6 : Int32) &&& 31)) ||| (w1 &&& (63 : Int32))) := ⟨_, rfl⟩
  rw [← hB2]
  refine own_st (fun t k => XS.iinc X0.here hx rfl (hb hby d5_60) rfl (l' := #[rv a1, rv a2, iv 0, iv 4, iv 0, iv B2, iv 12, iv 4, iv 1]) rfl k) ?_
  refine own_st (fun t k => XS.iload X0.here hx rfl (hb hby d5_63) rfl k) ?_
  refine own_st (fun t k => XS.bipush X0.here hx rfl (hb hby d5_65) k) ?_
  show own_Fin _ _ _ _ _ _ _ (s₁.setTop (mkF m 67 #[rv a1, rv a2, iv 0, iv 4, iv 0, iv B2, iv 12, iv 4, iv 1] [(.int (8 : Int32)), (.int (12 : Int32))]))
  refine own_st (fun t k => XS.icmpNo X0.here hx rfl (hb hby d5_67) rfl (flt (by decide : ¬ ((12 : Int32) < (8 : Int32)))).1 k) ?_
  show own_Fin _ _ _ _ _ _ _ (s₁.setTop (mkF m 70 #[rv a1, rv a2, iv 0, iv 4, iv 0, iv B2, iv 12, iv 4, iv 1] []))
  refine own_st (fun t k => XS.iinc X0.here hx rfl (hb hby d5_70) rfl (l' := #[rv a1, rv a2, iv 0, iv 4, iv 0, iv B2, iv 4, iv 4, iv 1]) rfl k) ?_
  refine own_st (fun t k => XS.aloadN X0.here hx rfl (hb hby d5_73) rfl rfl k) ?_
  show own_Fin _ _ _ _ _ _ _ (s₁.setTop (mkF m 74 #[rv a1, rv a2, iv 0, iv 4, iv 0, iv B2, iv 4, iv 4, iv 1] [(.ref a1)]))
  obtain ⟨T3, X3, e3, st3⟩ := getF X0 hx hZ hown (host := "") (Or.inl (hw _ (List.mem_of_getElem? (i := 22) rfl))) Via.refl e0 Fw (g := (mkF m 74 #[rv a1, rv a2, iv 0, iv 4, iv 0, iv B2, iv 4, iv 4, iv 1] [(.ref a1)])) rfl rfl (hb hby d5_74)
  refine own_st st3 ?_
  refine own_st (fun t k => XS.aloadN X3.here hx rfl (hb hby d5_77) rfl rfl k) ?_
  refine own_st (fun t k => XS.dup X3.here hx rfl (hb hby d5_78) rfl rfl k) ?_
  show own_Fin _ _ _ _ _ _ _ (T3.setTop (mkF m 79 #[rv a1, rv a2, iv 0, iv 4, iv 0, iv B2, iv 4, iv 4, iv 1] [(.ref a1), (.ref a1), (.ref t)]))
  obtain ⟨T4, X4, e4, st4⟩ := getF X3 hx hZ hown (host := "") (Or.inl (hw _ (List.mem_of_getElem? (i := 29) rfl))) Via.refl e3 Fc (g := (mkF m 79 #[rv a1, rv a2, iv 0, iv 4, iv 0, iv B2, iv 4, iv 4, iv 1] [(.ref a1), (.ref a1), (.ref t)])) rfl rfl (hb hby d5_79)
  refine own_st st4 ?_
  show own_Fin _ _ _ _ _ _ _ (T4.setTop (mkF m 82 #[rv a1, rv a2, iv 0, iv 4, iv 0, iv B2, iv 4, iv 4, iv 1] [(.int cn), (.ref a1), (.ref t)]))
  refine own_st (fun t k => XS.dupX1 X4.here hx rfl (hb hby d5_82) rfl rfl rfl k) ?_
  refine own_st (fun t k => XS.iconst X4.here hx rfl (hb hby d5_83) k) ?_
  refine own_st (fun t k => XS.iadd X4.here hx rfl (hb hby d5_84) rfl k) ?_
  show own_Fin _ _ _ _ _ _ _ (T4.setTop (mkF m 85 #[rv a1, rv a2, iv 0, iv 4, iv 0, iv B2, iv 4, iv 4, iv 1] [(.int (cn + (1 : Int32))), (.ref a1), (.int cn), (.ref t)]))
  obtain ⟨T5, h5, X5, e5, W5, st5⟩ := putF X4 hx hZ hown (host := "") (Or.inl (hw _ (List.mem_of_getElem? (i := 29) rfl))) Via.refl e4 Fc Ei (Or.inl (hw _ (List.mem_of_getElem? (i := 30) rfl))) (hw _ (List.mem_of_getElem? (i := 10) rfl)) (ty := .int) (by decide) rfl rfl (g := (mkF m 85 #[rv a1, rv a2, iv 0, iv 4, iv 0, iv B2, iv 4, iv 4, iv 1] [(.int (cn + (1 : Int32))), (.ref a1), (.int cn), (.ref t)])) rfl rfl (hb hby d5_85)
  have f5_0 := Ei.wr W5
  have f5_1 := Fw.other W5 (Or.inr (slot_ne (Or.inr (hw _ (List.mem_of_getElem? (i := 23) rfl))) (Or.inl (hw _ (List.mem_of_getElem? (i := 30) rfl))) (by decide) (t := (.array .int)) (t' := .int) (by decide) (by decide)))
  have f5_2 := Vt.other W5 (Ne.symm nat)
  have f5_3 := Vc.other W5 nac
  have Fw5 : Fld Z h5 a1 "com/example/quietzone/quietzone/datamatrix/CodewordWriter" "count" "I" (.int (cn + (1 : Int32))) := Fc.same W5
  have N5 := Fr.snoc X5 N0 gi
  have Z5 : n0 ≤ h5.size := Nat.le_trans Z0 (Keep.of_wr W5).1
  have K5 : Keep h0 h5 [a1, t] := KR.wr W5 (Or.inl (List.mem_of_getElem? (i := 0) rfl))
  refine own_st st5 ?_
  refine own_st (fun t k => XS.iload X5.here hx rfl (hb hby d5_88) rfl k) ?_
  refine own_st (fun t k => XS.iload X5.here hx rfl (hb hby d5_90) rfl k) ?_
  show own_Fin _ _ _ _ _ _ _ (T5.setTop (mkF m 92 #[rv a1, rv a2, iv 0, iv 4, iv 0, iv B2, iv 4, iv 4, iv 1] [(.int (4 : Int32)), (.int B2), (.int cn), (.ref t)]))
  refine own_st (fun t k => XS.ishr X5.here hx rfl (hb hby d5_92) rfl k) ?_
  refine own_st (fun t k => XS.sipush X5.here hx rfl (hb hby d5_93) k) ?_
  refine own_st (fun t k => XS.iand X5.here hx rfl (hb hby d5_96) rfl k) ?_
  show own_Fin _ _ _ _ _ _ _ (T5.setTop (mkF m 97 #[rv a1, rv a2, iv 0, iv 4, iv 0, iv B2, iv 4, iv 4, iv 1] [(.int ((B2 >>> ((4 : Int32) &&& 31)) &&& (255 : Int32))), (.int cn), (.ref t)]))
  obtain ⟨cl6, Ar6, Cq6, Sz6, Mn6, Hs6, Gf6⟩ := id f5_2
  obtain ⟨T6, h6, X6, e6, W6, st6⟩ := stI X5 hx hZ e5 Ar6 (j := cn) (inb_of Sz6 (own_cn hcn hlen).1) (g := (mkF m 97 #[rv a1, rv a2, iv 0, iv 4, iv 0, iv B2, iv 4, iv 4, iv 1] [(.int ((B2 >>> ((4 : Int32) &&& 31)) &&& (255 : Int32))), (.int cn), (.ref t)])) rfl rfl (hb hby d5_97)
  have f6_0 := f5_0.wr W6
  have f6_1 := f5_1.other W6 (Or.inl nat)
  have f6_2 := f5_3.other W6 nct
  have f6_3 := Fw5.other W6 (Or.inl nat)
  have V6 : Arv Z h6 t kt .int (8 : Int32) (vs.set (cn).toNatClampNeg (.int ((B2 >>> ((4 : Int32) &&& 31)) &&& (255 : Int32)))) (.int (0 : Int32)) := Arv.set Ar6 Cq6 Sz6 Mn6 Hs6 Gf6 rfl W6 (cn).toNatClampNeg rfl (own_cn hcn hlen).2.2.2.2.1
  have N6 := Fr.snoc X6 N5 gt
  have Z6 : n0 ≤ h6.size := Nat.le_trans Z5 (Keep.of_wr W6).1
  have K6 : Keep h0 h6 [a1, t] := K5.wr W6 (Or.inl (List.mem_of_getElem? (i := 1) rfl))
  refine own_st st6 ?_
  refine own_st (fun t k => XS.goto X6.here hx rfl (pc0 := 98) (pc' := 63) rfl (hb hby d5_98) (by decide) (by decide) k) ?_
  refine own_st (fun t k => XS.iload X6.here hx rfl (hb hby d5_63) rfl k) ?_
  show own_Fin _ _ _ _ _ _ _ (T6.setTop (mkF m 65 #[rv a1, rv a2, iv 0, iv 4, iv 0, iv B2, iv 4, iv 4, iv 1] [(.int (4 : Int32))]))
  refine own_st (fun t k => XS.bipush X6.here hx rfl (hb hby d5_65) k) ?_
  show own_Fin _ _ _ _ _ _ _ (T6.setTop (mkF m 67 #[rv a1, rv a2, iv 0, iv 4, iv 0, iv B2, iv 4, iv 4, iv 1] [(.int (8 : Int32)), (.int (4 : Int32))]))
  refine own_st (fun t k => XS.icmpYes X6.here hx rfl (pc0 := 67) (pc' := 101) rfl (hb hby d5_67) rfl (tlt (by decide : (4 : Int32) < (8 : Int32))).1 (by decide) (by decide) k) ?_
  show own_Fin _ _ _ _ _ _ _ (T6.setTop (mkF m 101 #[rv a1, rv a2, iv 0, iv 4, iv 0, iv B2, iv 4, iv 4, iv 1] []))
  refine own_st (fun t k => XS.iinc X6.here hx rfl (hb hby d5_101) rfl (l' := #[rv a1, rv a2, iv 0, iv 4, iv 0, iv B2, iv 4, iv 4, iv 2]) rfl k) ?_
  refine own_st (fun t k => XS.goto X6.here hx rfl (pc0 := 104) (pc' := 25) rfl (hb hby d5_104) (by decide) (by decide) k) ?_
  refine own_st (fun t k => XS.iload X6.here hx rfl (hb hby d5_25) rfl k) ?_
  show own_Fin _ _ _ _ _ _ _ (T6.setTop (mkF m 27 #[rv a1, rv a2, iv 0, iv 4, iv 0, iv B2, iv 4, iv 4, iv 2] [(.int (2 : Int32))]))
  refine own_st (fun t k => XS.iloadN X6.here hx rfl (hb hby d5_27) rfl k) ?_
  refine own_st (fun t k => XS.iload X6.here hx rfl (hb hby d5_28) rfl k) ?_
  refine own_st (fun t k => XS.iadd X6.here hx rfl (hb hby d5_30) rfl k) ?_
  show own_Fin _ _ _ _ _ _ _ (T6.setTop (mkF m 31 #[rv a1, rv a2, iv 0, iv 4, iv 0, iv B2, iv 4, iv 4, iv 2] [(.int (4 : Int32)), (.int (2 : Int32))]))
  refine own_st (fun t k => XS.icmpNo X6.here hx rfl (hb hby d5_31) rfl (tlt (by decide : (2 : Int32) < (4 : Int32))).2.1 k) ?_
  refine own_st (fun t k => XS.iload X6.here hx rfl (hb hby d5_34) rfl k) ?_
  refine own_st (fun t k => XS.bipush X6.here hx rfl (hb hby d5_36) k) ?_
  show own_Fin _ _ _ _ _ _ _ (T6.setTop (mkF m 38 #[rv a1, rv a2, iv 0, iv 4, iv 0, iv B2, iv 4, iv 4, iv 2] [(.int (6 : Int32)), (.int B2)]))
  refine own_st (fun t k => XS.ishl X6.here hx rfl (hb hby d5_38) rfl k) ?_
  refine own_st (fun t k => XS.iload X6.here hx rfl (hb hby d5_39) rfl k) ?_
  refine own_st (fun t k => XS.iloadN X6.here hx rfl (hb hby d5_41) rfl k) ?_
  show own_Fin _ _ _ _ _ _ _ (T6.setTop (mkF m 42 #[rv a1, rv a2, iv 0, iv 4, iv 0, iv B2, iv 4, iv 4, iv 2] [(.int (4 : Int32)), (.int (2 : Int32)), (.int (B2 <<< ((6 : Int32) &&& 31)))]))
  refine own_st (fun t k => XS.icmpNo X6.here hx rfl (hb hby d5_42) rfl (tlt (by decide : (2 : Int32) < (4 : Int32))).2.1 k) ?_
  refine own_st (fun t k => XS.aloadN X6.here hx rfl (hb hby d5_45) rfl rfl k) ?_
  refine own_st (fun t k => XS.iload X6.here hx rfl (hb hby d5_46) rfl k) ?_
  show own_Fin _ _ _ _ _ _ _ (T6.setTop (mkF m 48 #[rv a1, rv a2, iv 0, iv 4, iv 0, iv B2, iv 4, iv 4, iv 2] [(.int (2 : Int32)), (.ref a2), (.int (B2 <<< ((6 : Int32) &&& 31)))]))
  obtain ⟨cl7, Ar7, Cq7, Sz7, Mn7, Hs7, Gf7⟩ := id f6_2
  have hin7 := inb_of Sz7 (j := (2 : Int32)) ⟨by decide, by decide⟩
  refine own_st (X6.iaload hx (j := (2 : Int32)) (v := (.int w2)) (by rw [e6]; exact Ar7.1) (State.isArrayOf_alike hZ.alike Ar7.2.1) Ar7.2.2 hin7 (Hs7.at hin7 hat2) (g := (mkF m 48 #[rv a1, rv a2, iv 0, iv 4, iv 0, iv B2, iv 4, iv 4, iv 2] [(.int (2 : Int32)), (.ref a2), (.int (B2 <<< ((6 : Int32) &&& 31)))])) rfl rfl (hb hby d5_48)) ?_
  refine own_st (fun t k => XS.bipush X6.here hx rfl (hb hby d5_49) k) ?_
  refine own_st (fun t k => XS.iand X6.here hx rfl (hb hby d5_51) rfl k) ?_
  show own_Fin _ _ _ _ _ _ _ (T6.setTop (mkF m 52 #[rv a1, rv a2, iv 0, iv 4, iv 0, iv B2, iv 4, iv 4, iv 2] [(.int (w2 &&& (63 : Int32))), (.int (B2 <<< ((6 : Int32) &&& 31)))]))
  refine own_st (fun t k => XS.goto X6.here hx rfl (pc0 := 52) (pc' := 57) rfl (hb hby d5_52) (by decide) (by decide) k) ?_
  refine own_st (fun t k => XS.ior X6.here hx rfl (hb hby d5_57) rfl k) ?_
  refine own_st (fun t k => XS.istore X6.here hx rfl (hb hby d5_58) rfl (l' := #[rv a1, rv a2, iv 0, iv 4, iv 0, iv ((B2 <<< ((6 : Int32) &&& 31)) ||| (w2 &&& (63 : Int32))), iv 4, iv 4, iv 2]) rfl k) ?_
  show own_Fin _ _ _ _ _ _ _ (T6.setTop (mkF m 60 #[rv a1, rv a2, iv 0, iv 4, iv 0, iv ((B2 <<< ((6 : Int32) &&& 31)) ||| (w2 &&& (63 : Int32))), iv 4, iv 4, iv 2] []))
  obtain ⟨B3, hB3⟩ : ∃ z, z = ((B2 <<< ((6 : Int32) &&& 31)) ||| (w2 &&& (63 : Int32))) := ⟨_, rfl⟩
  rw [← hB3]
  refine own_st (fun t k => XS.iinc X6.here hx rfl (hb hby d5_60) rfl (l' := #[rv a1, rv a2, iv 0, iv 4, iv 0, iv B3, iv 10, iv 4, iv 2]) rfl k) ?_
  refine own_st (fun t k => XS.iload X6.here hx rfl (hb hby d5_63) rfl k) ?_
  refine own_st (fun t k => XS.bipush X6.here hx rfl (hb hby d5_65) k) ?_
  show own_Fin _ _ _ _ _ _ _ (T6.setTop (mkF m 67 #[rv a1, rv a2, iv 0, iv 4, iv 0, iv B3, iv 10, iv 4, iv 2] [(.int (8 : Int32)), (.int (10 : Int32))]))
  refine own_st (fun t k => XS.icmpNo X6.here hx rfl (hb hby d5_67) rfl (flt (by decide : ¬ ((10 : Int32) < (8 : Int32)))).1 k) ?_
  show own_Fin _ _ _ _ _ _ _ (T6.setTop (mkF m 70 #[rv a1, rv a2, iv 0, iv 4, iv 0, iv B3, iv 10, iv 4, iv 2] []))
  refine own_st (fun t k => XS.iinc X6.here hx rfl (hb hby d5_70) rfl (l' := #[rv a1, rv a2, iv 0, iv 4, iv 0, iv B3, iv 2, iv 4, iv 2]) rfl k) ?_
  refine own_st (fun t k => XS.aloadN X6.here hx rfl (hb hby d5_73) rfl rfl k) ?_
  show own_Fin _ _ _ _ _ _ _ (T6.setTop (mkF m 74 #[rv a1, rv a2, iv 0, iv 4, iv 0, iv B3, iv 2, iv 4, iv 2] [(.ref a1)]))
  obtain ⟨T8, X8, e8, st8⟩ := getF X6 hx hZ hown (host := "") (Or.inl (hw _ (List.mem_of_getElem? (i := 22) rfl))) Via.refl e6 f6_1 (g := (mkF m 74 #[rv a1, rv a2, iv 0, iv 4, iv 0, iv B3, iv 2, iv 4, iv 2] [(.ref a1)])) rfl rfl (hb hby d5_74)
  refine own_st st8 ?_
  refine own_st (fun t k => XS.aloadN X8.here hx rfl (hb hby d5_77) rfl rfl k) ?_
  refine own_st (fun t k => XS.dup X8.here hx rfl (hb hby d5_78) rfl rfl k) ?_
  show own_Fin _ _ _ _ _ _ _ (T8.setTop (mkF m 79 #[rv a1, rv a2, iv 0, iv 4, iv 0, iv B3, iv 2, iv 4, iv 2] [(.ref a1), (.ref a1), (.ref t)]))
  obtain ⟨T9, X9, e9, st9⟩ := getF X8 hx hZ hown (host := "") (Or.inl (hw _ (List.mem_of_getElem? (i := 29) rfl))) Via.refl e8 f6_3 (g := (mkF m 79 #[rv a1, rv a2, iv 0, iv 4, iv 0, iv B3, iv 2, iv 4, iv 2] [(.ref a1), (.ref a1), (.ref t)])) rfl rfl (hb hby d5_79)
  refine own_st st9 ?_
  show own_Fin _ _ _ _ _ _ _ (T9.setTop (mkF m 82 #[rv a1, rv a2, iv 0, iv 4, iv 0, iv B3, iv 2, iv 4, iv 2] [(.int (cn + (1 : Int32))), (.ref a1), (.ref t)]))
  refine own_st (fun t k => XS.dupX1 X9.here hx rfl (hb hby d5_82) rfl rfl rfl k) ?_
  refine own_st (fun t k => XS.iconst X9.here hx rfl (hb hby d5_83) k) ?_
  refine own_st (fun t k => XS.iadd X9.here hx rfl (hb hby d5_84) rfl k) ?_
  show own_Fin _ _ _ _ _ _ _ (T9.setTop (mkF m 85 #[rv a1, rv a2, iv 0, iv 4, iv 0, iv B3, iv 2, iv 4, iv 2] [(.int ((cn + (1 : Int32)) + (1 : Int32))), (.ref a1), (.int (cn + (1 : Int32))), (.ref t)]))
  obtain ⟨T10, h10, X10, e10, W10, st10⟩ := putF X9 hx hZ hown (host := "") (Or.inl (hw _ (List.mem_of_getElem? (i := 29) rfl))) Via.refl e9 f6_3 f6_0 (Or.inl (hw _ (List.mem_of_getElem? (i := 30) rfl))) (hw _ (List.mem_of_getElem? (i := 10) rfl)) (ty := .int) (by decide) rfl rfl (g := (mkF m 85 #[rv a1, rv a2, iv 0, iv 4, iv 0, iv B3, iv 2, iv 4, iv 2] [(.int ((cn + (1 : Int32)) + (1 : Int32))), (.ref a1), (.int (cn + (1 : Int32))), (.ref t)])) rfl rfl (hb hby d5_85)
  have f10_0 := f6_0.wr W10
  have f10_1 := f6_1.other W10 (Or.inr (slot_ne (Or.inr (hw _ (List.mem_of_getElem? (i := 23) rfl))) (Or.inl (hw _ (List.mem_of_getElem? (i := 30) rfl))) (by decide) (t := (.array .int)) (t' := .int) (by decide) (by decide)))
  have f10_2 := f6_2.other W10 nac
  have f10_3 := V6.other W10 (Ne.symm nat)
  have Fw10 : Fld Z h10 a1 "com/example/quietzone/quietzone/datamatrix/CodewordWriter" "count" "I" (.int ((cn + (1 : Int32)) + (1 : Int32))) := f6_3.same W10
  have N10 := Fr.snoc X10 N6 gi
  have Z10 : n0 ≤ h10.size := Nat.le_trans Z6 (Keep.of_wr W10).1
  have K10 : Keep h0 h10 [a1, t] := K6.wr W10 (Or.inl (List.mem_of_getElem? (i := 0) rfl))
  refine own_st st10 ?_
  refine own_st (fun t k => XS.iload X10.here hx rfl (hb hby d5_88) rfl k) ?_
  refine own_st (fun t k => XS.iload X10.here hx rfl (hb hby d5_90) rfl k) ?_
  show own_Fin _ _ _ _ _ _ _ (T10.setTop (mkF m 92 #[rv a1, rv a2, iv 0, iv 4, iv 0, iv B3, iv 2, iv 4, iv 2] [(.int (2 : Int32)), (.int B3), (.int (cn + (1 : Int32))), (.ref t)]))
  refine own_st (fun t k => XS.ishr X10.here hx rfl (hb hby d5_92) rfl k) ?_
  refine own_st (fun t k => XS.sipush X10.here hx rfl (hb hby d5_93) k) ?_
  refine own_st (fun t k => XS.iand X10.here hx rfl (hb hby d5_96) rfl k) ?_
  show own_Fin _ _ _ _ _ _ _ (T10.setTop (mkF m 97 #[rv a1, rv a2, iv 0, iv 4, iv 0, iv B3, iv 2, iv 4, iv 2] [(.int ((B3 >>> ((2 : Int32) &&& 31)) &&& (255 : Int32))), (.int (cn + (1 : Int32))), (.ref t)]))
  obtain ⟨cl11, Ar11, Cq11, Sz11, Mn11, Hs11, Gf11⟩ := id f10_3
  obtain ⟨T11, h11, X11, e11, W11, st11⟩ := stI X10 hx hZ e10 Ar11 (j := (cn + (1 : Int32))) (inb_of Sz11 (own_cn hcn hlen).2.1) (g := (mkF m 97 #[rv a1, rv a2, iv 0, iv 4, iv 0, iv B3, iv 2, iv 4, iv 2] [(.int ((B3 >>> ((2 : Int32) &&& 31)) &&& (255 : Int32))), (.int (cn + (1 : Int32))), (.ref t)])) rfl rfl (hb hby d5_97)
  have f11_0 := f10_0.wr W11
  have f11_1 := f10_1.other W11 (Or.inl nat)
  have f11_2 := f10_2.other W11 nct
  have f11_3 := Fw10.other W11 (Or.inl nat)
  have V11 : Arv Z h11 t kt .int (8 : Int32) ((vs.set (cn).toNatClampNeg (.int ((B2 >>> ((4 : Int32) &&& 31)) &&& (255 : Int32)))).set ((cn + (1 : Int32))).toNatClampNeg (.int ((B3 >>> ((2 : Int32) &&& 31)) &&& (255 : Int32)))) (.int (0 : Int32)) := Arv.set Ar11 Cq11 Sz11 Mn11 Hs11 Gf11 rfl W11 ((cn + (1 : Int32))).toNatClampNeg rfl (by simp only [List.length_set]; exact (own_cn hcn hlen).2.2.2.2.2.1)
  have N11 := Fr.snoc X11 N10 gt
  have Z11 : n0 ≤ h11.size := Nat.le_trans Z10 (Keep.of_wr W11).1
  have K11 : Keep h0 h11 [a1, t] := K10.wr W11 (Or.inl (List.mem_of_getElem? (i := 1) rfl))
  refine own_st st11 ?_
  refine own_st (fun t k => XS.goto X11.here hx rfl (pc0 := 98) (pc' := 63) rfl (hb hby d5_98) (by decide) (by decide) k) ?_
  refine own_st (fun t k => XS.iload X11.here hx rfl (hb hby d5_63) rfl k) ?_
  show own_Fin _ _ _ _ _ _ _ (T11.setTop (mkF m 65 #[rv a1, rv a2, iv 0, iv 4, iv 0, iv B3, iv 2, iv 4, iv 2] [(.int (2 : Int32))]))
  refine own_st (fun t k => XS.bipush X11.here hx rfl (hb hby d5_65) k) ?_
  show own_Fin _ _ _ _ _ _ _ (T11.setTop (mkF m 67 #[rv a1, rv a2, iv 0, iv 4, iv 0, iv B3, iv 2, iv 4, iv 2] [(.int (8 : Int32)), (.int (2 : Int32))]))
  refine own_st (fun t k => XS.icmpYes X11.here hx rfl (pc0 := 67) (pc' := 101) rfl (hb hby d5_67) rfl (tlt (by decide : (2 : Int32) < (8 : Int32))).1 (by decide) (by decide) k) ?_
  show own_Fin _ _ _ _ _ _ _ (T11.setTop (mkF m 101 #[rv a1, rv a2, iv 0, iv 4, iv 0, iv B3, iv 2, iv 4, iv 2] []))
  refine own_st (fun t k => XS.iinc X11.here hx rfl (hb hby d5_101) rfl (l' := #[rv a1, rv a2, iv 0, iv 4, iv 0, iv B3, iv 2, iv 4, iv 3]) rfl k) ?_
  refine own_st (fun t k => XS.goto X11.here hx rfl (pc0 := 104) (pc' := 25) rfl (hb hby d5_104) (by decide) (by decide) k) ?_
  refine own_st (fun t k => XS.iload X11.here hx rfl (hb hby d5_25) rfl k) ?_
  show own_Fin _ _ _ _ _ _ _ (T11.setTop (mkF m 27 #[rv a1, rv a2, iv 0, iv 4, iv 0, iv B3, iv 2, iv 4, iv 3] [(.int (3 : Int32))]))
  refine own_st (fun t k => XS.iloadN X11.here hx rfl (hb hby d5_27) rfl k) ?_
  refine own_st (fun t k => XS.iload X11.here hx rfl (hb hby d5_28) rfl k) ?_
  refine own_st (fun t k => XS.iadd X11.here hx rfl (hb hby d5_30) rfl k) ?_
  show own_Fin _ _ _ _ _ _ _ (T11.setTop (mkF m 31 #[rv a1, rv a2, iv 0, iv 4, iv 0, iv B3, iv 2, iv 4, iv 3] [(.int (4 : Int32)), (.int (3 : Int32))]))
  refine own_st (fun t k => XS.icmpNo X11.here hx rfl (hb hby d5_31) rfl (tlt (by decide : (3 : Int32) < (4 : Int32))).2.1 k) ?_
  refine own_st (fun t k => XS.iload X11.here hx rfl (hb hby d5_34) rfl k) ?_
  refine own_st (fun t k => XS.bipush X11.here hx rfl (hb hby d5_36) k) ?_
  show own_Fin _ _ _ _ _ _ _ (T11.setTop (mkF m 38 #[rv a1, rv a2, iv 0, iv 4, iv 0, iv B3, iv 2, iv 4, iv 3] [(.int (6 : Int32)), (.int B3)]))
  refine own_st (fun t k => XS.ishl X11.here hx rfl (hb hby d5_38) rfl k) ?_
  refine own_st (fun t k => XS.iload X11.here hx rfl (hb hby d5_39) rfl k) ?_
  refine own_st (fun t k => XS.iloadN X11.here hx rfl (hb hby d5_41) rfl k) ?_
  show own_Fin _ _ _ _ _ _ _ (T11.setTop (mkF m 42 #[rv a1, rv a2, iv 0, iv 4, iv 0, iv B3, iv 2, iv 4, iv 3] [(.int (4 : Int32)), (.int (3 : Int32)), (.int (B3 <<< ((6 : Int32) &&& 31)))]))
  refine own_st (fun t k => XS.icmpNo X11.here hx rfl (hb hby d5_42) rfl (tlt (by decide : (3 : Int32) < (4 : Int32))).2.1 k) ?_
  refine own_st (fun t k => XS.aloadN X11.here hx rfl (hb hby d5_45) rfl rfl k) ?_
  refine own_st (fun t k => XS.iload X11.here hx rfl (hb hby d5_46) rfl k) ?_
  show own_Fin _ _ _ _ _ _ _ (T11.setTop (mkF m 48 #[rv a1, rv a2, iv 0, iv 4, iv 0, iv B3, iv 2, iv 4, iv 3] [(.int (3 : Int32)), (.ref a2), (.int (B3 <<< ((6 : Int32) &&& 31)))]))
  obtain ⟨cl12, Ar12, Cq12, Sz12, Mn12, Hs12, Gf12⟩ := id f11_2
  have hin12 := inb_of Sz12 (j := (3 : Int32)) ⟨by decide, by decide⟩
  refine own_st (X11.iaload hx (j := (3 : Int32)) (v := (.int w3)) (by rw [e11]; exact Ar12.1) (State.isArrayOf_alike hZ.alike Ar12.2.1) Ar12.2.2 hin12 (Hs12.at hin12 hat3) (g := (mkF m 48 #[rv a1, rv a2, iv 0, iv 4, iv 0, iv B3, iv 2, iv 4, iv 3] [(.int (3 : Int32)), (.ref a2), (.int (B3 <<< ((6 : Int32) &&& 31)))])) rfl rfl (hb hby d5_48)) ?_
  refine own_st (fun t k => XS.bipush X11.here hx rfl (hb hby d5_49) k) ?_
  refine own_st (fun t k => XS.iand X11.here hx rfl (hb hby d5_51) rfl k) ?_
  show own_Fin _ _ _ _ _ _ _ (T11.setTop (mkF m 52 #[rv a1, rv a2, iv 0, iv 4, iv 0, iv B3, iv 2, iv 4, iv 3] [(.int (w3 &&& (63 : Int32))), (.int (B3 <<< ((6 : Int32) &&& 31)))]))
  refine own_st (fun t k => XS.goto X11.here hx rfl (pc0 := 52) (pc' := 57) rfl (hb hby d5_52) (by decide) (by decide) k) ?_
  refine own_st (fun t k => XS.ior X11.here hx rfl (hb hby d5_57) rfl k) ?_
  refine own_st (fun t k => XS.istore X11.here hx rfl (hb hby d5_58) rfl (l' := #[rv a1, rv a2, iv 0, iv 4, iv 0, iv ((B3 <<< ((6 : Int32) &&& 31)) ||| (w3 &&& (63 : Int32))), iv 2, iv 4, iv 3]) rfl k) ?_
  show own_Fin _ _ _ _ _ _ _ (T11.setTop (mkF m 60 #[rv a1, rv a2, iv 0, iv 4, iv 0, iv ((B3 <<< ((6 : Int32) &&& 31)) ||| (w3 &&& (63 : Int32))), iv 2, iv 4, iv 3] []))
  obtain ⟨B4, hB4⟩ : ∃ z, z = ((B3 <<< ((6 : Int32) &&& 31)) ||| (w3 &&& (63 : Int32))) := ⟨_, rfl⟩
  rw [← hB4]
  refine own_st (fun t k => XS.iinc X11.here hx rfl (hb hby d5_60) rfl (l' := #[rv a1, rv a2, iv 0, iv 4, iv 0, iv B4, iv 8, iv 4, iv 3]) rfl k) ?_
  refine own_st (fun t k => XS.iload X11.here hx rfl (hb hby d5_63) rfl k) ?_
  refine own_st (fun t k => XS.bipush X11.here hx rfl (hb hby d5_65) k) ?_
  show own_Fin _ _ _ _ _ _ _ (T11.setTop (mkF m 67 #[rv a1, rv a2, iv 0, iv 4, iv 0, iv B4, iv 8, iv 4, iv 3] [(.int (8 : Int32)), (.int (8 : Int32))]))
  refine own_st (fun t k => XS.icmpNo X11.here hx rfl (hb hby d5_67) rfl (flt (by decide : ¬ ((8 : Int32) < (8 : Int32)))).1 k) ?_
  show own_Fin _ _ _ _ _ _ _ (T11.setTop (mkF m 70 #[rv a1, rv a2, iv 0, iv 4, iv 0, iv B4, iv 8, iv 4, iv 3] []))
  refine own_st (fun t k => XS.iinc X11.here hx rfl (hb hby d5_70) rfl (l' := #[rv a1, rv a2, iv 0, iv 4, iv 0, iv B4, iv 0, iv 4, iv 3]) rfl k) ?_
  refine own_st (fun t k => XS.aloadN X11.here hx rfl (hb hby d5_73) rfl rfl k) ?_
  show own_Fin _ _ _ _ _ _ _ (T11.setTop (mkF m 74 #[rv a1, rv a2, iv 0, iv 4, iv 0, iv B4, iv 0, iv 4, iv 3] [(.ref a1)]))
  obtain ⟨T13, X13, e13, st13⟩ := getF X11 hx hZ hown (host := "") (Or.inl (hw _ (List.mem_of_getElem? (i := 22) rfl))) Via.refl e11 f11_1 (g := (mkF m 74 #[rv a1, rv a2, iv 0, iv 4, iv 0, iv B4, iv 0, iv 4, iv 3] [(.ref a1)])) rfl rfl (hb hby d5_74)
  refine own_st st13 ?_
  refine own_st (fun t k => XS.aloadN X13.here hx rfl (hb hby d5_77) rfl rfl k) ?_
  refine own_st (fun t k => XS.dup X13.here hx rfl (hb hby d5_78) rfl rfl k) ?_
  show own_Fin _ _ _ _ _ _ _ (T13.setTop (mkF m 79 #[rv a1, rv a2, iv 0, iv 4, iv 0, iv B4, iv 0, iv 4, iv 3] [(.ref a1), (.ref a1), (.ref t)]))
  obtain ⟨T14, X14, e14, st14⟩ := getF X13 hx hZ hown (host := "") (Or.inl (hw _ (List.mem_of_getElem? (i := 29) rfl))) Via.refl e13 f11_3 (g := (mkF m 79 #[rv a1, rv a2, iv 0, iv 4, iv 0, iv B4, iv 0, iv 4, iv 3] [(.ref a1), (.ref a1), (.ref t)])) rfl rfl (hb hby d5_79)
  refine own_st st14 ?_
  show own_Fin _ _ _ _ _ _ _ (T14.setTop (mkF m 82 #[rv a1, rv a2, iv 0, iv 4, iv 0, iv B4, iv 0, iv 4, iv 3] [(.int ((cn + (1 : Int32)) + (1 : Int32))), (.ref a1), (.ref t)]))
  refine own_st (fun t k => XS.dupX1 X14.here hx rfl (hb hby d5_82) rfl rfl rfl k) ?_
  refine own_st (fun t k => XS.iconst X14.here hx rfl (hb hby d5_83) k) ?_
  refine own_st (fun t k => XS.iadd X14.here hx rfl (hb hby d5_84) rfl k) ?_
  show own_Fin _ _ _ _ _ _ _ (T14.setTop (mkF m 85 #[rv a1, rv a2, iv 0, iv 4, iv 0, iv B4, iv 0, iv 4, iv 3] [(.int (((cn + (1 : Int32)) + (1 : Int32)) + (1 : Int32))), (.ref a1), (.int ((cn + (1 : Int32)) + (1 : Int32))), (.ref t)]))
  obtain ⟨T15, h15, X15, e15, W15, st15⟩ := putF X14 hx hZ hown (host := "") (Or.inl (hw _ (List.mem_of_getElem? (i := 29) rfl))) Via.refl e14 f11_3 f11_0 (Or.inl (hw _ (List.mem_of_getElem? (i := 30) rfl))) (hw _ (List.mem_of_getElem? (i := 10) rfl)) (ty := .int) (by decide) rfl rfl (g := (mkF m 85 #[rv a1, rv a2, iv 0, iv 4, iv 0, iv B4, iv 0, iv 4, iv 3] [(.int (((cn + (1 : Int32)) + (1 : Int32)) + (1 : Int32))), (.ref a1), (.int ((cn + (1 : Int32)) + (1 : Int32))), (.ref t)])) rfl rfl (hb hby d5_85)
  have f15_0 := f11_0.wr W15
  have f15_1 := f11_1.other W15 (Or.inr (slot_ne (Or.inr (hw _ (List.mem_of_getElem? (i := 23) rfl))) (Or.inl (hw _ (List.mem_of_getElem? (i := 30) rfl))) (by decide) (t := (.array .int)) (t' := .int) (by decide) (by decide)))
  have f15_2 := f11_2.other W15 nac
  have f15_3 := V11.other W15 (Ne.symm nat)
  have Fw15 : Fld Z h15 a1 "com/example/quietzone/quietzone/datamatrix/CodewordWriter" "count" "I" (.int (((cn + (1 : Int32)) + (1 : Int32)) + (1 : Int32))) := f11_3.same W15
  have N15 := Fr.snoc X15 N11 gi
  have Z15 : n0 ≤ h15.size := Nat.le_trans Z11 (Keep.of_wr W15).1
  have K15 : Keep h0 h15 [a1, t] := K11.wr W15 (Or.inl (List.mem_of_getElem? (i := 0) rfl))
  refine own_st st15 ?_
  refine own_st (fun t k => XS.iload X15.here hx rfl (hb hby d5_88) rfl k) ?_
  refine own_st (fun t k => XS.iload X15.here hx rfl (hb hby d5_90) rfl k) ?_
  show own_Fin _ _ _ _ _ _ _ (T15.setTop (mkF m 92 #[rv a1, rv a2, iv 0, iv 4, iv 0, iv B4, iv 0, iv 4, iv 3] [(.int (0 : Int32)), (.int B4), (.int ((cn + (1 : Int32)) + (1 : Int32))), (.ref t)]))
  refine own_st (fun t k => XS.ishr X15.here hx rfl (hb hby d5_92) rfl k) ?_
  refine own_st (fun t k => XS.sipush X15.here hx rfl (hb hby d5_93) k) ?_
  refine own_st (fun t k => XS.iand X15.here hx rfl (hb hby d5_96) rfl k) ?_
  show own_Fin _ _ _ _ _ _ _ (T15.setTop (mkF m 97 #[rv a1, rv a2, iv 0, iv 4, iv 0, iv B4, iv 0, iv 4, iv 3] [(.int ((B4 >>> ((0 : Int32) &&& 31)) &&& (255 : Int32))), (.int ((cn + (1 : Int32)) + (1 : Int32))), (.ref t)]))
  obtain ⟨cl16, Ar16, Cq16, Sz16, Mn16, Hs16, Gf16⟩ := id f15_3
  obtain ⟨T16, h16, X16, e16, W16, st16⟩ := stI X15 hx hZ e15 Ar16 (j := ((cn + (1 : Int32)) + (1 : Int32))) (inb_of Sz16 (own_cn hcn hlen).2.2.1) (g := (mkF m 97 #[rv a1, rv a2, iv 0, iv 4, iv 0, iv B4, iv 0, iv 4, iv 3] [(.int ((B4 >>> ((0 : Int32) &&& 31)) &&& (255 : Int32))), (.int ((cn + (1 : Int32)) + (1 : Int32))), (.ref t)])) rfl rfl (hb hby d5_97)
  have f16_0 := f15_0.wr W16
  have f16_1 := f15_1.other W16 (Or.inl nat)
  have f16_2 := f15_2.other W16 nct
  have f16_3 := Fw15.other W16 (Or.inl nat)
  have V16 : Arv Z h16 t kt .int (8 : Int32) (((vs.set (cn).toNatClampNeg (.int ((B2 >>> ((4 : Int32) &&& 31)) &&& (255 : Int32)))).set ((cn + (1 : Int32))).toNatClampNeg (.int ((B3 >>> ((2 : Int32) &&& 31)) &&& (255 : Int32)))).set (((cn + (1 : Int32)) + (1 : Int32))).toNatClampNeg (.int ((B4 >>> ((0 : Int32) &&& 31)) &&& (255 : Int32)))) (.int (0 : Int32)) := Arv.set Ar16 Cq16 Sz16 Mn16 Hs16 Gf16 rfl W16 (((cn + (1 : Int32)) + (1 : Int32))).toNatClampNeg rfl (by simp only [List.length_set]; exact (own_cn hcn hlen).2.2.2.2.2.2.1)
  have N16 := Fr.snoc X16 N15 gt
  have Z16 : n0 ≤ h16.size := Nat.le_trans Z15 (Keep.of_wr W16).1
  have K16 : Keep h0 h16 [a1, t] := K15.wr W16 (Or.inl (List.mem_of_getElem? (i := 1) rfl))
  refine own_st st16 ?_
  refine own_st (fun t k => XS.goto X16.here hx rfl (pc0 := 98) (pc' := 63) rfl (hb hby d5_98) (by decide) (by decide) k) ?_
  refine own_st (fun t k => XS.iload X16.here hx rfl (hb hby d5_63) rfl k) ?_
  show own_Fin _ _ _ _ _ _ _ (T16.setTop (mkF m 65 #[rv a1, rv a2, iv 0, iv 4, iv 0, iv B4, iv 0, iv 4, iv 3] [(.int (0 : Int32))]))
  refine own_st (fun t k => XS.bipush X16.here hx rfl (hb hby d5_65) k) ?_
  show own_Fin _ _ _ _ _ _ _ (T16.setTop (mkF m 67 #[rv a1, rv a2, iv 0, iv 4, iv 0, iv B4, iv 0, iv 4, iv 3] [(.int (8 : Int32)), (.int (0 : Int32))]))
  refine own_st (fun t k => XS.icmpYes X16.here hx rfl (pc0 := 67) (pc' := 101) rfl (hb hby d5_67) rfl (tlt (by decide : (0 : Int32) < (8 : Int32))).1 (by decide) (by decide) k) ?_
  show own_Fin _ _ _ _ _ _ _ (T16.setTop (mkF m 101 #[rv a1, rv a2, iv 0, iv 4, iv 0, iv B4, iv 0, iv 4, iv 3] []))
  refine own_st (fun t k => XS.iinc X16.here hx rfl (hb hby d5_101) rfl (l' := #[rv a1, rv a2, iv 0, iv 4, iv 0, iv B4, iv 0, iv 4, iv 4]) rfl k) ?_
  refine own_st (fun t k => XS.goto X16.here hx rfl (pc0 := 104) (pc' := 25) rfl (hb hby d5_104) (by decide) (by decide) k) ?_
  refine own_st (fun t k => XS.iload X16.here hx rfl (hb hby d5_25) rfl k) ?_
  show own_Fin _ _ _ _ _ _ _ (T16.setTop (mkF m 27 #[rv a1, rv a2, iv 0, iv 4, iv 0, iv B4, iv 0, iv 4, iv 4] [(.int (4 : Int32))]))
  refine own_st (fun t k => XS.iloadN X16.here hx rfl (hb hby d5_27) rfl k) ?_
  refine own_st (fun t k => XS.iload X16.here hx rfl (hb hby d5_28) rfl k) ?_
  refine own_st (fun t k => XS.iadd X16.here hx rfl (hb hby d5_30) rfl k) ?_
  show own_Fin _ _ _ _ _ _ _ (T16.setTop (mkF m 31 #[rv a1, rv a2, iv 0, iv 4, iv 0, iv B4, iv 0, iv 4, iv 4] [(.int (4 : Int32)), (.int (4 : Int32))]))
  refine own_st (fun t k => XS.icmpYes X16.here hx rfl (pc0 := 31) (pc' := 107) rfl (hb hby d5_31) rfl (flt (by decide : ¬ ((4 : Int32) < (4 : Int32)))).2.1 (by decide) (by decide) k) ?_
  refine own_st (fun t k => XS.iload X16.here hx rfl (hb hby d5_107) rfl k) ?_
  show own_Fin _ _ _ _ _ _ _ (T16.setTop (mkF m 109 #[rv a1, rv a2, iv 0, iv 4, iv 0, iv B4, iv 0, iv 4, iv 4] [(.int (0 : Int32))]))
  refine own_st (fun t k => XS.ifYes X16.here hx rfl (pc0 := 109) (pc' := 140) rfl (hb hby d5_109) rfl ((if0 _ _).trans (flt (by decide : ¬ ((0 : Int32) < (0 : Int32)))).2.2.2) (by decide) (by decide) k) ?_
  show own_Fin _ _ _ _ _ _ _ (T16.setTop (mkF m 140 #[rv a1, rv a2, iv 0, iv 4, iv 0, iv B4, iv 0, iv 4, iv 4] []))
  have x0 : 0 ≤ ((w0 &&& (63 : Int32))).toInt ∧ ((w0 &&& (63 : Int32))).toInt < 64 := own_x63 _
  have b1 := own_b1 hB1 x0
  have x1 : 0 ≤ ((w1 &&& (63 : Int32))).toInt ∧ ((w1 &&& (63 : Int32))).toInt < 64 := own_x63 _
  have b2 := own_bS hB2 b1 (by omega) x1
  have x2 : 0 ≤ ((w2 &&& (63 : Int32))).toInt ∧ ((w2 &&& (63 : Int32))).toInt < 64 := own_x63 _
  have b3 := own_bS hB3 b2 (by omega) x2
  have x3 : 0 ≤ ((w3 &&& (63 : Int32))).toInt ∧ ((w3 &&& (63 : Int32))).toInt < 64 := own_x63 _
  have b4 := own_bS hB4 b3 (by omega) x3
  have hks : own_ks 4 0 w0 w1 w2 w3 = [((B2 >>> ((4 : Int32) &&& 31)) &&& (255 : Int32)), ((B3 >>> ((2 : Int32) &&& 31)) &&& (255 : Int32)), ((B4 >>> ((0 : Int32) &&& 31)) &&& (255 : Int32))] := by
    rw [own_ks_40, own_six_mask hw0, own_six_mask hw1, own_six_mask hw2, own_six_mask hw3]
    rw [(own_o0 b2 x0 x1), (own_o1 b3 x0 x1 x2), (own_o2 b4 x0 x1 x2 x3)]
  exact own_retV X16 hx Bd.notSynchronized Bd.returns (hb hby d5_140) (by decide) (by decide) (by rw [e16]; unfold own_Q_rmE_0_4_0; rw [hks]; exact ⟨rfl, N16, K16, f16_0, f16_1, f16_3, V16⟩)
def own_Q_rmE_1_0_1 (Z : State)  (a1 a2 : Addr) (t : Addr) (kt : ClassId) (vs : List Value) (cn : Int32) (kc : ClassId) (vc : List Value) (w0 w1 w2 w3 : Int32) (h0 : Heap) (n0 : Nat) (v : Option Value) (h : Heap) (L : List Loc) : Prop := v = none ∧ Fr n0 L ∧ Keep h0 h [a1, t] ∧ Exa Z h a1 "com/example/quietzone/quietzone/datamatrix/CodewordWriter" ∧ Fld Z h a1 "com/example/quietzone/quietzone/datamatrix/CodewordWriter" "codewords" "[I" (.ref t) ∧ Fld Z h a1 "com/example/quietzone/quietzone/datamatrix/CodewordWriter" "count" "I" (.int (own_cnt cn (own_ks 0 1 w0 w1 w2 w3))) ∧ Arv Z h t kt .int (8 : Int32) (own_app vs cn (own_ks 0 1 w0 w1 w2 w3)) (.int (0 : Int32))
set_option maxRecDepth 65536 in
set_option maxHeartbeats 40000000 in
theorem rmE_1_0_1 (l : Launch) (Z : State) (a0 : Array Value) (hw : ∀ d ∈ tables_1, d.before a0 Z = true) (ws : List Jvm.Cond)  (a1 a2 : Addr) (t : Addr) (kt : ClassId) (vs : List Value) (cn : Int32) (kc : ClassId) (vc : List Value) (w0 w1 w2 w3 : Int32) (h0 : Heap) (n0 : Nat) (Z0 : n0 ≤ h0.size) (Ei : Exa Z h0 a1 "com/example/quietzone/quietzone/datamatrix/CodewordWriter") (Fw : Fld Z h0 a1 "com/example/quietzone/quietzone/datamatrix/CodewordWriter" "codewords" "[I" (.ref t)) (Fc : Fld Z h0 a1 "com/example/quietzone/quietzone/datamatrix/CodewordWriter" "count" "I" (.int cn)) (Vt : Arv Z h0 t kt .int (8 : Int32) vs (.int (0 : Int32))) (gi : n0 ≤ a1) (gt : n0 ≤ t) (nat : a1 ≠ t) (Vc : Arv Z h0 a2 kc .int (5 : Int32) vc (.int (0 : Int32))) (nac : a2 ≠ a1) (nct : a2 ≠ t) (hcn : cn = (0 : Int32) ∨ cn = (1 : Int32)) (hlen : vs.length = 8) :
    MetFree l (⟨"com/example/quietzone/quietzone/datamatrix/CodewordWriter", "edifact", "([IIIZ)V"⟩ : MethodName) (head1 (Jvm.Cond.code (⟨"com/example/quietzone/quietzone/datamatrix/CodewordWriter", "edifact", "([IIIZ)V"⟩ : MethodName) prog_34_method_9_code 9 none :: ws) ({ frames := 0, cells := 0, slots := 0, locals := 0 } : Room)) (fun a U => a = #[(.ref a1), (.ref a2), (.int (1 : Int32)), (.int (1 : Int32)), (.int (1 : Int32))] ∧ Z.Warmed39 U.vm ∧ U.heap = h0) (fun _ _ _ _ _ => True) (fun _ U o U' => ∃ v L, o = .returned v ∧ own_Q_rmE_1_0_1 Z a1 a2 t kt vs cn kc vc w0 w1 w2 w3 h0 n0 v U'.heap L ∧ FrameEnd U o U' L ({ frames := 0, cells := 0, slots := 0, locals := 0 } : Room).cells ({ frames := 0, cells := 0, slots := 0, locals := 0 } : Room).slots) := by
  refine MetFree.of_bodySF pn_5 hisR ?_
  intro p e s m args below meth c s₁ Bd hml0 hP hK
  obtain ⟨rfl, hZ, hh⟩ := hP
  have hx := Bd.exec
  have hby := Bd.bytes
  have hml : c.maxLocals = 9 := hml0
  have hown : s.vm.findClass "com/example/quietzone/quietzone/datamatrix/CodewordWriter" = some m.cls := findClass_of_methodNamed Bd.named
  have hnm := (name_of_methodNamed Bd.named Bd.method).1
  have X0 : Stand p l e ({ frames := 0, cells := 0, slots := 0, locals := 0 } : Room) s m #[(.ref a1), (.ref a2), (.int (1 : Int32)), (.int (1 : Int32)), (.int (1 : Int32))] below meth c s₁ [] 0 0 := Stand.of_body Bd
  have e0 : s₁.heap = h0 := by rw [← hh, Bd.state]; rfl
  have N0 := Fr.nil n0
  have KR : Keep h0 h0 [a1, t] := Keep.refl h0 [a1, t]
  show own_Fin p.tables e below s (({ frames := 0, cells := 0, slots := 0, locals := 0 } : Room).cells) (({ frames := 0, cells := 0, slots := 0, locals := 0 } : Room).slots) (own_Q_rmE_1_0_1 Z a1 a2 t kt vs cn kc vc w0 w1 w2 w3 h0 n0) (s₁.setTop (entryFrame m #[(.ref a1), (.ref a2), (.int (1 : Int32)), (.int (1 : Int32)), (.int (1 : Int32))] 9))
  rw [ef_5 m a1 a2 (1 : Int32) (1 : Int32) (1 : Int32)]
  refine own_st (fun t k => XS.iconst X0.here hx rfl (hb hby d5_0) k) ?_
  refine own_st (fun t k => XS.istore X0.here hx rfl (hb hby d5_1) rfl (l' := #[rv a1, rv a2, iv 1, iv 1, iv 1, iv 0, .unset, .unset, .unset]) rfl k) ?_
  show own_Fin _ _ _ _ _ _ _ (s₁.setTop (mkF m 3 #[rv a1, rv a2, iv 1, iv 1, iv 1, iv 0, .unset, .unset, .unset] []))
  refine own_st (fun t k => XS.iconst X0.here hx rfl (hb hby d5_3) k) ?_
  refine own_st (fun t k => XS.istore X0.here hx rfl (hb hby d5_4) rfl (l' := #[rv a1, rv a2, iv 1, iv 1, iv 1, iv 0, iv 0, .unset, .unset]) rfl k) ?_
  refine own_st (fun t k => XS.iloadN X0.here hx rfl (hb hby d5_6) rfl k) ?_
  show own_Fin _ _ _ _ _ _ _ (s₁.setTop (mkF m 7 #[rv a1, rv a2, iv 1, iv 1, iv 1, iv 0, iv 0, .unset, .unset] [(.int (1 : Int32))]))
  refine own_st (fun t k => XS.iloadN X0.here hx rfl (hb hby d5_7) rfl k) ?_
  refine own_st (fun t k => XS.isub X0.here hx rfl (hb hby d5_8) rfl k) ?_
  refine own_st (fun t k => XS.iload X0.here hx rfl (hb hby d5_9) rfl k) ?_
  show own_Fin _ _ _ _ _ _ _ (s₁.setTop (mkF m 11 #[rv a1, rv a2, iv 1, iv 1, iv 1, iv 0, iv 0, .unset, .unset] [(.int (1 : Int32)), (.int (0 : Int32))]))
  refine own_st (fun t k => XS.ifNo X0.here hx rfl (hb hby d5_11) rfl ((if0 _ _).trans (feq (by decide : ¬ ((1 : Int32) = (0 : Int32)))).1) k) ?_
  refine own_st (fun t k => XS.iconst X0.here hx rfl (hb hby d5_14) k) ?_
  refine own_st (fun t k => XS.goto X0.here hx rfl (pc0 := 15) (pc' := 19) rfl (hb hby d5_15) (by decide) (by decide) k) ?_
  show own_Fin _ _ _ _ _ _ _ (s₁.setTop (mkF m 19 #[rv a1, rv a2, iv 1, iv 1, iv 1, iv 0, iv 0, .unset, .unset] [(.int (1 : Int32)), (.int (0 : Int32))]))
  refine own_st (fun t k => XS.iadd X0.here hx rfl (hb hby d5_19) rfl k) ?_
  refine own_st (fun t k => XS.istore X0.here hx rfl (hb hby d5_20) rfl (l' := #[rv a1, rv a2, iv 1, iv 1, iv 1, iv 0, iv 0, iv 1, .unset]) rfl k) ?_
  refine own_st (fun t k => XS.iloadN X0.here hx rfl (hb hby d5_22) rfl k) ?_
  show own_Fin _ _ _ _ _ _ _ (s₁.setTop (mkF m 23 #[rv a1, rv a2, iv 1, iv 1, iv 1, iv 0, iv 0, iv 1, .unset] [(.int (1 : Int32))]))
  refine own_st (fun t k => XS.istore X0.here hx rfl (hb hby d5_23) rfl (l' := #[rv a1, rv a2, iv 1, iv 1, iv 1, iv 0, iv 0, iv 1, iv 1]) rfl k) ?_
  refine own_st (fun t k => XS.iload X0.here hx rfl (hb hby d5_25) rfl k) ?_
  refine own_st (fun t k => XS.iloadN X0.here hx rfl (hb hby d5_27) rfl k) ?_
  show own_Fin _ _ _ _ _ _ _ (s₁.setTop (mkF m 28 #[rv a1, rv a2, iv 1, iv 1, iv 1, iv 0, iv 0, iv 1, iv 1] [(.int (1 : Int32)), (.int (1 : Int32))]))
  refine own_st (fun t k => XS.iload X0.here hx rfl (hb hby d5_28) rfl k) ?_
  refine own_st (fun t k => XS.iadd X0.here hx rfl (hb hby d5_30) rfl k) ?_
  show own_Fin _ _ _ _ _ _ _ (s₁.setTop (mkF m 31 #[rv a1, rv a2, iv 1, iv 1, iv 1, iv 0, iv 0, iv 1, iv 1] [(.int (2 : Int32)), (.int (1 : Int32))]))
  refine own_st (fun t k => XS.icmpNo X0.here hx rfl (hb hby d5_31) rfl (tlt (by decide : (1 : Int32) < (2 : Int32))).2.1 k) ?_
  refine own_st (fun t k => XS.iload X0.here hx rfl (hb hby d5_34) rfl k) ?_
  refine own_st (fun t k => XS.bipush X0.here hx rfl (hb hby d5_36) k) ?_
  show own_Fin _ _ _ _ _ _ _ (s₁.setTop (mkF m 38 #[rv a1, rv a2, iv 1, iv 1, iv 1, iv 0, iv 0, iv 1, iv 1] [(.int (6 : Int32)), (.int (0 : Int32))]))
  refine own_st (fun t k => XS.ishl X0.here hx rfl (hb hby d5_38) rfl k) ?_
  refine own_st (fun t k => XS.iload X0.here hx rfl (hb hby d5_39) rfl k) ?_
  refine own_st (fun t k => XS.iloadN X0.here hx rfl (hb hby d5_41) rfl k) ?_
  show own_Fin _ _ _ _ _ _ _ (s₁.setTop (mkF m 42 #[rv a1, rv a2, iv 1, iv 1, iv 1, iv 0, iv 0, iv 1, iv 1] [(.int (1 : Int32)), (.int (1 : Int32)), (.int ((0 : Int32) <<< ((6 : Int32) &&& 31)))]))
  refine own_st (fun t k => XS.icmpYes X0.here hx rfl (pc0 := 42) (pc' := 55) rfl (hb hby d5_42) rfl (flt (by decide : ¬ ((1 : Int32) < (1 : Int32)))).2.1 (by decide) (by decide) k) ?_
  refine own_st (fun t k => XS.bipush X0.here hx rfl (hb hby d5_55) k) ?_
  refine own_st (fun t k => XS.ior X0.here hx rfl (hb hby d5_57) rfl k) ?_
  show own_Fin _ _ _ _ _ _ _ (s₁.setTop (mkF m 58 #[rv a1, rv a2, iv 1, iv 1, iv 1, iv 0, iv 0, iv 1, iv 1] [(.int (((0 : Int32) <<< ((6 : Int32) &&& 31)) ||| (31 : Int32)))]))
  refine own_st (fun t k => XS.istore X0.here hx rfl (hb hby d5_58) rfl (l' := #[rv a1, rv a2, iv 1, iv 1, iv 1, iv (((0 : Int32) <<< ((6 : Int32) &&& 31)) ||| (31 : Int32)), iv 0, iv 1, iv 1]) rfl k) ?_
  show own_Fin _ _ _ _ _ _ _ (s₁.setTop (mkF m 60 #[rv a1, rv a2, iv 1, iv 1, iv 1, iv (((0 : Int32) <<< ((6 : Int32) &&& 31)) ||| (31 : Int32)), iv 0, iv 1, iv 1] []))
  obtain ⟨B1, hB1⟩ : ∃ z, z = (((0 : Int32) <<< ((6 : Int32) &&& 31)) ||| (31 : Int32)) := ⟨_, rfl⟩
  rw [← hB1]
  refine own_st (fun t k => XS.iinc X0.here hx rfl (hb hby d5_60) rfl (l' := #[rv a1, rv a2, iv 1, iv 1, iv 1, iv B1, iv 6, iv 1, iv 1]) rfl k) ?_
  refine own_st (fun t k => XS.iload X0.here hx rfl (hb hby d5_63) rfl k) ?_
  refine own_st (fun t k => XS.bipush X0.here hx rfl (hb hby d5_65) k) ?_
  show own_Fin _ _ _ _ _ _ _ (s₁.setTop (mkF m 67 #[rv a1, rv a2, iv 1, iv 1, iv 1, iv B1, iv 6, iv 1, iv 1] [(.int (8 : Int32)), (.int (6 : Int32))]))
  refine own_st (fun t k => XS.icmpYes X0.here hx rfl (pc0 := 67) (pc' := 101) rfl (hb hby d5_67) rfl (tlt (by decide : (6 : Int32) < (8 : Int32))).1 (by decide) (by decide) k) ?_
  show own_Fin _ _ _ _ _ _ _ (s₁.setTop (mkF m 101 #[rv a1, rv a2, iv 1, iv 1, iv 1, iv B1, iv 6, iv 1, iv 1] []))
  refine own_st (fun t k => XS.iinc X0.here hx rfl (hb hby d5_101) rfl (l' := #[rv a1, rv a2, iv 1, iv 1, iv 1, iv B1, iv 6, iv 1, iv 2]) rfl k) ?_
  refine own_st (fun t k => XS.goto X0.here hx rfl (pc0 := 104) (pc' := 25) rfl (hb hby d5_104) (by decide) (by decide) k) ?_
  refine own_st (fun t k => XS.iload X0.here hx rfl (hb hby d5_25) rfl k) ?_
  show own_Fin _ _ _ _ _ _ _ (s₁.setTop (mkF m 27 #[rv a1, rv a2, iv 1, iv 1, iv 1, iv B1, iv 6, iv 1, iv 2] [(.int (2 : Int32))]))
  refine own_st (fun t k => XS.iloadN X0.here hx rfl (hb hby d5_27) rfl k) ?_
  refine own_st (fun t k => XS.iload X0.here hx rfl (hb hby d5_28) rfl k) ?_
  refine own_st (fun t k => XS.iadd X0.here hx rfl (hb hby d5_30) rfl k) ?_
  show own_Fin _ _ _ _ _ _ _ (s₁.setTop (mkF m 31 #[rv a1, rv a2, iv 1, iv 1, iv 1, iv B1, iv 6, iv 1, iv 2] [(.int (2 : Int32)), (.int (2 : Int32))]))
  refine own_st (fun t k => XS.icmpYes X0.here hx rfl (pc0 := 31) (pc' := 107) rfl (hb hby d5_31) rfl (flt (by decide : ¬ ((2 : Int32) < (2 : Int32)))).2.1 (by decide) (by decide) k) ?_
  refine own_st (fun t k => XS.iload X0.here hx rfl (hb hby d5_107) rfl k) ?_
  show own_Fin _ _ _ _ _ _ _ (s₁.setTop (mkF m 109 #[rv a1, rv a2, iv 1, iv 1, iv 1, iv B1, iv 6, iv 1, iv 2] [(.int (6 : Int32))]))
  refine own_st (fun t k => XS.ifNo X0.here hx rfl (hb hby d5_109) rfl ((if0 _ _).trans (tlt (by decide : (0 : Int32) < (6 : Int32))).2.2.2) k) ?_
  refine own_st (fun t k => XS.aloadN X0.here hx rfl (hb hby d5_112) rfl rfl k) ?_
  show own_Fin _ _ _ _ _ _ _ (s₁.setTop (mkF m 113 #[rv a1, rv a2, iv 1, iv 1, iv 1, iv B1, iv 6, iv 1, iv 2] [(.ref a1)]))
  obtain ⟨T1, X1, e1, st1⟩ := getF X0 hx hZ hown (host := "") (Or.inl (hw _ (List.mem_of_getElem? (i := 22) rfl))) Via.refl e0 Fw (g := (mkF m 113 #[rv a1, rv a2, iv 1, iv 1, iv 1, iv B1, iv 6, iv 1, iv 2] [(.ref a1)])) rfl rfl (hb hby d5_113)
  refine own_st st1 ?_
  refine own_st (fun t k => XS.aloadN X1.here hx rfl (hb hby d5_116) rfl rfl k) ?_
  refine own_st (fun t k => XS.dup X1.here hx rfl (hb hby d5_117) rfl rfl k) ?_
  show own_Fin _ _ _ _ _ _ _ (T1.setTop (mkF m 118 #[rv a1, rv a2, iv 1, iv 1, iv 1, iv B1, iv 6, iv 1, iv 2] [(.ref a1), (.ref a1), (.ref t)]))
  obtain ⟨T2, X2, e2, st2⟩ := getF X1 hx hZ hown (host := "") (Or.inl (hw _ (List.mem_of_getElem? (i := 29) rfl))) Via.refl e1 Fc (g := (mkF m 118 #[rv a1, rv a2, iv 1, iv 1, iv 1, iv B1, iv 6, iv 1, iv 2] [(.ref a1), (.ref a1), (.ref t)])) rfl rfl (hb hby d5_118)
  refine own_st st2 ?_
  show own_Fin _ _ _ _ _ _ _ (T2.setTop (mkF m 121 #[rv a1, rv a2, iv 1, iv 1, iv 1, iv B1, iv 6, iv 1, iv 2] [(.int cn), (.ref a1), (.ref t)]))
  refine own_st (fun t k => XS.dupX1 X2.here hx rfl (hb hby d5_121) rfl rfl rfl k) ?_
  refine own_st (fun t k => XS.iconst X2.here hx rfl (hb hby d5_122) k) ?_
  refine own_st (fun t k => XS.iadd X2.here hx rfl (hb hby d5_123) rfl k) ?_
  show own_Fin _ _ _ _ _ _ _ (T2.setTop (mkF m 124 #[rv a1, rv a2, iv 1, iv 1, iv 1, iv B1, iv 6, iv 1, iv 2] [(.int (cn + (1 : Int32))), (.ref a1), (.int cn), (.ref t)]))
  obtain ⟨T3, h3, X3, e3, W3, st3⟩ := putF X2 hx hZ hown (host := "") (Or.inl (hw _ (List.mem_of_getElem? (i := 29) rfl))) Via.refl e2 Fc Ei (Or.inl (hw _ (List.mem_of_getElem? (i := 30) rfl))) (hw _ (List.mem_of_getElem? (i := 10) rfl)) (ty := .int) (by decide) rfl rfl (g := (mkF m 124 #[rv a1, rv a2, iv 1, iv 1, iv 1, iv B1, iv 6, iv 1, iv 2] [(.int (cn + (1 : Int32))), (.ref a1), (.int cn), (.ref t)])) rfl rfl (hb hby d5_124)
  have f3_0 := Ei.wr W3
  have f3_1 := Fw.other W3 (Or.inr (slot_ne (Or.inr (hw _ (List.mem_of_getElem? (i := 23) rfl))) (Or.inl (hw _ (List.mem_of_getElem? (i := 30) rfl))) (by decide) (t := (.array .int)) (t' := .int) (by decide) (by decide)))
  have f3_2 := Vt.other W3 (Ne.symm nat)
  have f3_3 := Vc.other W3 nac
  have Fw3 : Fld Z h3 a1 "com/example/quietzone/quietzone/datamatrix/CodewordWriter" "count" "I" (.int (cn + (1 : Int32))) := Fc.same W3
  have N3 := Fr.snoc X3 N0 gi
  have Z3 : n0 ≤ h3.size := Nat.le_trans Z0 (Keep.of_wr W3).1
  have K3 : Keep h0 h3 [a1, t] := KR.wr W3 (Or.inl (List.mem_of_getElem? (i := 0) rfl))
  refine own_st st3 ?_
  refine own_st (fun t k => XS.iload X3.here hx rfl (hb hby d5_127) rfl k) ?_
  refine own_st (fun t k => XS.bipush X3.here hx rfl (hb hby d5_129) k) ?_
  show own_Fin _ _ _ _ _ _ _ (T3.setTop (mkF m 131 #[rv a1, rv a2, iv 1, iv 1, iv 1, iv B1, iv 6, iv 1, iv 2] [(.int (8 : Int32)), (.int B1), (.int cn), (.ref t)]))
  refine own_st (fun t k => XS.iload X3.here hx rfl (hb hby d5_131) rfl k) ?_
  refine own_st (fun t k => XS.isub X3.here hx rfl (hb hby d5_133) rfl k) ?_
  show own_Fin _ _ _ _ _ _ _ (T3.setTop (mkF m 134 #[rv a1, rv a2, iv 1, iv 1, iv 1, iv B1, iv 6, iv 1, iv 2] [(.int (2 : Int32)), (.int B1), (.int cn), (.ref t)]))
  refine own_st (fun t k => XS.ishl X3.here hx rfl (hb hby d5_134) rfl k) ?_
  refine own_st (fun t k => XS.sipush X3.here hx rfl (hb hby d5_135) k) ?_
  refine own_st (fun t k => XS.iand X3.here hx rfl (hb hby d5_138) rfl k) ?_
  show own_Fin _ _ _ _ _ _ _ (T3.setTop (mkF m 139 #[rv a1, rv a2, iv 1, iv 1, iv 1, iv B1, iv 6, iv 1, iv 2] [(.int ((B1 <<< ((2 : Int32) &&& 31)) &&& (255 : Int32))), (.int cn), (.ref t)]))
  obtain ⟨cl4, Ar4, Cq4, Sz4, Mn4, Hs4, Gf4⟩ := id f3_2
  obtain ⟨T4, h4, X4, e4, W4, st4⟩ := stI X3 hx hZ e3 Ar4 (j := cn) (inb_of Sz4 (own_cn hcn hlen).1) (g := (mkF m 139 #[rv a1, rv a2, iv 1, iv 1, iv 1, iv B1, iv 6, iv 1, iv 2] [(.int ((B1 <<< ((2 : Int32) &&& 31)) &&& (255 : Int32))), (.int cn), (.ref t)])) rfl rfl (hb hby d5_139)
  have f4_0 := f3_0.wr W4
  have f4_1 := f3_1.other W4 (Or.inl nat)
  have f4_2 := f3_3.other W4 nct
  have f4_3 := Fw3.other W4 (Or.inl nat)
  have V4 : Arv Z h4 t kt .int (8 : Int32) (vs.set (cn).toNatClampNeg (.int ((B1 <<< ((2 : Int32) &&& 31)) &&& (255 : Int32)))) (.int (0 : Int32)) := Arv.set Ar4 Cq4 Sz4 Mn4 Hs4 Gf4 rfl W4 (cn).toNatClampNeg rfl (own_cn hcn hlen).2.2.2.2.1
  have N4 := Fr.snoc X4 N3 gt
  have Z4 : n0 ≤ h4.size := Nat.le_trans Z3 (Keep.of_wr W4).1
  have K4 : Keep h0 h4 [a1, t] := K3.wr W4 (Or.inl (List.mem_of_getElem? (i := 1) rfl))
  refine own_st st4 ?_
  show own_Fin _ _ _ _ _ _ _ (T4.setTop (mkF m 140 #[rv a1, rv a2, iv 1, iv 1, iv 1, iv B1, iv 6, iv 1, iv 2] []))
  have x0 : 0 ≤ ((31 : Int32)).toInt ∧ ((31 : Int32)).toInt < 64 := by decide
  have b1 := own_b1 hB1 x0
  have hks : own_ks 0 1 w0 w1 w2 w3 = [((B1 <<< ((2 : Int32) &&& 31)) &&& (255 : Int32))] := by
    rw [own_ks_01]
    rw [(own_f1 b1 x0)]
  exact own_retV X4 hx Bd.notSynchronized Bd.returns (hb hby d5_140) (by decide) (by decide) (by rw [e4]; unfold own_Q_rmE_1_0_1; rw [hks]; exact ⟨rfl, N4, K4, f4_0, f4_1, f4_3, V4⟩)
def own_Q_rmE_1_1_1 (Z : State)  (a1 a2 : Addr) (t : Addr) (kt : ClassId) (vs : List Value) (cn : Int32) (kc : ClassId) (vc : List Value) (w0 w1 w2 w3 : Int32) (h0 : Heap) (n0 : Nat) (v : Option Value) (h : Heap) (L : List Loc) : Prop := v = none ∧ Fr n0 L ∧ Keep h0 h [a1, t] ∧ Exa Z h a1 "com/example/quietzone/quietzone/datamatrix/CodewordWriter" ∧ Fld Z h a1 "com/example/quietzone/quietzone/datamatrix/CodewordWriter" "codewords" "[I" (.ref t) ∧ Fld Z h a1 "com/example/quietzone/quietzone/datamatrix/CodewordWriter" "count" "I" (.int (own_cnt cn (own_ks 1 1 w0 w1 w2 w3))) ∧ Arv Z h t kt .int (8 : Int32) (own_app vs cn (own_ks 1 1 w0 w1 w2 w3)) (.int (0 : Int32))
set_option maxRecDepth 65536 in
set_option maxHeartbeats 40000000 in
theorem rmE_1_1_1 (l : Launch) (Z : State) (a0 : Array Value) (hw : ∀ d ∈ tables_1, d.before a0 Z = true) (ws : List Jvm.Cond)  (a1 a2 : Addr) (t : Addr) (kt : ClassId) (vs : List Value) (cn : Int32) (kc : ClassId) (vc : List Value) (w0 w1 w2 w3 : Int32) (h0 : Heap) (n0 : Nat) (Z0 : n0 ≤ h0.size) (Ei : Exa Z h0 a1 "com/example/quietzone/quietzone/datamatrix/CodewordWriter") (Fw : Fld Z h0 a1 "com/example/quietzone/quietzone/datamatrix/CodewordWriter" "codewords" "[I" (.ref t)) (Fc : Fld Z h0 a1 "com/example/quietzone/quietzone/datamatrix/CodewordWriter" "count" "I" (.int cn)) (Vt : Arv Z h0 t kt .int (8 : Int32) vs (.int (0 : Int32))) (gi : n0 ≤ a1) (gt : n0 ≤ t) (nat : a1 ≠ t) (Vc : Arv Z h0 a2 kc .int (5 : Int32) vc (.int (0 : Int32))) (nac : a2 ≠ a1) (nct : a2 ≠ t) (hcn : cn = (0 : Int32) ∨ cn = (1 : Int32)) (hlen : vs.length = 8) (hat0 : vc.getD (1 : Int32).toNatClampNeg (.int (0 : Int32)) = .int w0) (hw0 : 32 ≤ w0.toInt ∧ w0.toInt ≤ 94) :
    MetFree l (⟨"com/example/quietzone/quietzone/datamatrix/CodewordWriter", "edifact", "([IIIZ)V"⟩ : MethodName) (head1 (Jvm.Cond.code (⟨"com/example/quietzone/quietzone/datamatrix/CodewordWriter", "edifact", "([IIIZ)V"⟩ : MethodName) prog_34_method_9_code 9 none :: ws) ({ frames := 0, cells := 0, slots := 0, locals := 0 } : Room)) (fun a U => a = #[(.ref a1), (.ref a2), (.int (1 : Int32)), (.int (2 : Int32)), (.int (1 : Int32))] ∧ Z.Warmed39 U.vm ∧ U.heap = h0) (fun _ _ _ _ _ => True) (fun _ U o U' => ∃ v L, o = .returned v ∧ own_Q_rmE_1_1_1 Z a1 a2 t kt vs cn kc vc w0 w1 w2 w3 h0 n0 v U'.heap L ∧ FrameEnd U o U' L ({ frames := 0, cells := 0, slots := 0, locals := 0 } : Room).cells ({ frames := 0, cells := 0, slots := 0, locals := 0 } : Room).slots) := by
  refine MetFree.of_bodySF pn_5 hisR ?_
  intro p e s m args below meth c s₁ Bd hml0 hP hK
  obtain ⟨rfl, hZ, hh⟩ := hP
  have hx := Bd.exec
  have hby := Bd.bytes
  have hml : c.maxLocals = 9 := hml0
  have hown : s.vm.findClass "com/example/quietzone/quietzone/datamatrix/CodewordWriter" = some m.cls := findClass_of_methodNamed Bd.named
  have hnm := (name_of_methodNamed Bd.named Bd.method).1
  have X0 : Stand p l e ({ frames := 0, cells := 0, slots := 0, locals := 0 } : Room) s m #[(.ref a1), (.ref a2), (.int (1 : Int32)), (.int (2 : Int32)), (.int (1 : Int32))] below meth c s₁ [] 0 0 := Stand.of_body Bd
  have e0 : s₁.heap = h0 := by rw [← hh, Bd.state]; rfl
  have N0 := Fr.nil n0
  have KR : Keep h0 h0 [a1, t] := Keep.refl h0 [a1, t]
  show own_Fin p.tables e below s (({ frames := 0, cells := 0, slots := 0, locals := 0 } : Room).cells) (({ frames := 0, cells := 0, slots := 0, locals := 0 } : Room).slots) (own_Q_rmE_1_1_1 Z a1 a2 t kt vs cn kc vc w0 w1 w2 w3 h0 n0) (s₁.setTop (entryFrame m #[(.ref a1), (.ref a2), (.int (1 : Int32)), (.int (2 : Int32)), (.int (1 : Int32))] 9))
  rw [ef_5 m a1 a2 (1 : Int32) (2 : Int32) (1 : Int32)]
  refine own_st (fun t k => XS.iconst X0.here hx rfl (hb hby d5_0) k) ?_
  refine own_st (fun t k => XS.istore X0.here hx rfl (hb hby d5_1) rfl (l' := #[rv a1, rv a2, iv 1, iv 2, iv 1, iv 0, .unset, .unset, .unset]) rfl k) ?_
  show own_Fin _ _ _ _ _ _ _ (s₁.setTop (mkF m 3 #[rv a1, rv a2, iv 1, iv 2, iv 1, iv 0, .unset, .unset, .unset] []))
  refine own_st (fun t k => XS.iconst X0.here hx rfl (hb hby d5_3) k) ?_
  refine own_st (fun t k => XS.istore X0.here hx rfl (hb hby d5_4) rfl (l' := #[rv a1, rv a2, iv 1, iv 2, iv 1, iv 0, iv 0, .unset, .unset]) rfl k) ?_
  refine own_st (fun t k => XS.iloadN X0.here hx rfl (hb hby d5_6) rfl k) ?_
  show own_Fin _ _ _ _ _ _ _ (s₁.setTop (mkF m 7 #[rv a1, rv a2, iv 1, iv 2, iv 1, iv 0, iv 0, .unset, .unset] [(.int (2 : Int32))]))
  refine own_st (fun t k => XS.iloadN X0.here hx rfl (hb hby d5_7) rfl k) ?_
  refine own_st (fun t k => XS.isub X0.here hx rfl (hb hby d5_8) rfl k) ?_
  refine own_st (fun t k => XS.iload X0.here hx rfl (hb hby d5_9) rfl k) ?_
  show own_Fin _ _ _ _ _ _ _ (s₁.setTop (mkF m 11 #[rv a1, rv a2, iv 1, iv 2, iv 1, iv 0, iv 0, .unset, .unset] [(.int (1 : Int32)), (.int (1 : Int32))]))
  refine own_st (fun t k => XS.ifNo X0.here hx rfl (hb hby d5_11) rfl ((if0 _ _).trans (feq (by decide : ¬ ((1 : Int32) = (0 : Int32)))).1) k) ?_
  refine own_st (fun t k => XS.iconst X0.here hx rfl (hb hby d5_14) k) ?_
  refine own_st (fun t k => XS.goto X0.here hx rfl (pc0 := 15) (pc' := 19) rfl (hb hby d5_15) (by decide) (by decide) k) ?_
  show own_Fin _ _ _ _ _ _ _ (s₁.setTop (mkF m 19 #[rv a1, rv a2, iv 1, iv 2, iv 1, iv 0, iv 0, .unset, .unset] [(.int (1 : Int32)), (.int (1 : Int32))]))
  refine own_st (fun t k => XS.iadd X0.here hx rfl (hb hby d5_19) rfl k) ?_
  refine own_st (fun t k => XS.istore X0.here hx rfl (hb hby d5_20) rfl (l' := #[rv a1, rv a2, iv 1, iv 2, iv 1, iv 0, iv 0, iv 2, .unset]) rfl k) ?_
  refine own_st (fun t k => XS.iloadN X0.here hx rfl (hb hby d5_22) rfl k) ?_
  show own_Fin _ _ _ _ _ _ _ (s₁.setTop (mkF m 23 #[rv a1, rv a2, iv 1, iv 2, iv 1, iv 0, iv 0, iv 2, .unset] [(.int (1 : Int32))]))
  refine own_st (fun t k => XS.istore X0.here hx rfl (hb hby d5_23) rfl (l' := #[rv a1, rv a2, iv 1, iv 2, iv 1, iv 0, iv 0, iv 2, iv 1]) rfl k) ?_
  refine own_st (fun t k => XS.iload X0.here hx rfl (hb hby d5_25) rfl k) ?_
  refine own_st (fun t k => XS.iloadN X0.here hx rfl (hb hby d5_27) rfl k) ?_
  show own_Fin _ _ _ _ _ _ _ (s₁.setTop (mkF m 28 #[rv a1, rv a2, iv 1, iv 2, iv 1, iv 0, iv 0, iv 2, iv 1] [(.int (1 : Int32)), (.int (1 : Int32))]))
  refine own_st (fun t k => XS.iload X0.here hx rfl (hb hby d5_28) rfl k) ?_
  refine own_st (fun t k => XS.iadd X0.here hx rfl (hb hby d5_30) rfl k) ?_
  show own_Fin _ _ _ _ _ _ _ (s₁.setTop (mkF m 31 #[rv a1, rv a2, iv 1, iv 2, iv 1, iv 0, iv 0, iv 2, iv 1] [(.int (3 : Int32)), (.int (1 : Int32))]))
  refine own_st (fun t k => XS.icmpNo X0.here hx rfl (hb hby d5_31) rfl (tlt (by decide : (1 : Int32) < (3 : Int32))).2.1 k) ?_
  refine own_st (fun t k => XS.iload X0.here hx rfl (hb hby d5_34) rfl k) ?_
  refine own_st (fun t k => XS.bipush X0.here hx rfl (hb hby d5_36) k) ?_
  show own_Fin _ _ _ _ _ _ _ (s₁.setTop (mkF m 38 #[rv a1, rv a2, iv 1, iv 2, iv 1, iv 0, iv 0, iv 2, iv 1] [(.int (6 : Int32)), (.int (0 : Int32))]))
  refine own_st (fun t k => XS.ishl X0.here hx rfl (hb hby d5_38) rfl k) ?_
  refine own_st (fun t k => XS.iload X0.here hx rfl (hb hby d5_39) rfl k) ?_
  refine own_st (fun t k => XS.iloadN X0.here hx rfl (hb hby d5_41) rfl k) ?_
  show own_Fin _ _ _ _ _ _ _ (s₁.setTop (mkF m 42 #[rv a1, rv a2, iv 1, iv 2, iv 1, iv 0, iv 0, iv 2, iv 1] [(.int (2 : Int32)), (.int (1 : Int32)), (.int ((0 : Int32) <<< ((6 : Int32) &&& 31)))]))
  refine own_st (fun t k => XS.icmpNo X0.here hx rfl (hb hby d5_42) rfl (tlt (by decide : (1 : Int32) < (2 : Int32))).2.1 k) ?_
  refine own_st (fun t k => XS.aloadN X0.here hx rfl (hb hby d5_45) rfl rfl k) ?_
  refine own_st (fun t k => XS.iload X0.here hx rfl (hb hby d5_46) rfl k) ?_
  show own_Fin _ _ _ _ _ _ _ (s₁.setTop (mkF m 48 #[rv a1, rv a2, iv 1, iv 2, iv 1, iv 0, iv 0, iv 2, iv 1] [(.int (1 : Int32)), (.ref a2), (.int ((0 : Int32) <<< ((6 : Int32) &&& 31)))]))
  obtain ⟨cl1, Ar1, Cq1, Sz1, Mn1, Hs1, Gf1⟩ := id Vc
  have hin1 := inb_of Sz1 (j := (1 : Int32)) ⟨by decide, by decide⟩
  refine own_st (X0.iaload hx (j := (1 : Int32)) (v := (.int w0)) (by rw [e0]; exact Ar1.1) (State.isArrayOf_alike hZ.alike Ar1.2.1) Ar1.2.2 hin1 (Hs1.at hin1 hat0) (g := (mkF m 48 #[rv a1, rv a2, iv 1, iv 2, iv 1, iv 0, iv 0, iv 2, iv 1] [(.int (1 : Int32)), (.ref a2), (.int ((0 : Int32) <<< ((6 : Int32) &&& 31)))])) rfl rfl (hb hby d5_48)) ?_
  refine own_st (fun t k => XS.bipush X0.here hx rfl (hb hby d5_49) k) ?_
  refine own_st (fun t k => XS.iand X0.here hx rfl (hb hby d5_51) rfl k) ?_
  show own_Fin _ _ _ _ _ _ _ (s₁.setTop (mkF m 52 #[rv a1, rv a2, iv 1, iv 2, iv 1, iv 0, iv 0, iv 2, iv 1] [(.int (w0 &&& (63 : Int32))), (.int ((0 : Int32) <<< ((6 : Int32) &&& 31)))]))
  refine own_st (fun t k => XS.goto X0.here hx rfl (pc0 := 52) (pc' := 57) rfl (hb hby d5_52) (by decide) (by decide) k) ?_
  refine own_st (fun t k => XS.ior X0.here hx rfl (hb hby d5_57) rfl k) ?_
  refine own_st (fun t k => XS.istore X0.here hx rfl (hb hby d5_58) rfl (l' := #[rv a1, rv a2, iv 1, iv 2, iv 1, iv (((0 : Int32) <<< ((6 : Int32) &&& 31)) ||| (w0 &&& (63 : Int32))), iv 0, iv 2, iv 1]) rfl k) ?_
  show own_Fin _ _ _ _ _ _ _ (s₁.setTop (mkF m 60 #[rv a1, rv a2, iv 1, iv 2, iv 1, iv (((0 : Int32) <<< ((6 : Int32) &&& 31)) ||| (w0 &&& (63 : Int32))), iv 0, iv 2, iv 1] []))
  obtain ⟨B1, hB1⟩ : ∃ z, z = (((0 : Int32) <<< ((6 : Int32) &&& 31)) ||| (w0 &&& (63 : Int32))) := ⟨_, rfl⟩
  rw [← hB1]
  refine own_st (fun t k => XS.iinc X0.here hx rfl (hb hby d5_60) rfl (l' := #[rv a1, rv a2, iv 1, iv 2, iv 1, iv B1, iv 6, iv 2, iv 1]) rfl k) ?_
  refine own_st (fun t k => XS.iload X0.here hx rfl (hb hby d5_63) rfl k) ?_
  refine own_st (fun t k => XS.bipush X0.here hx rfl (hb hby d5_65) k) ?_
  show own_Fin _ _ _ _ _ _ _ (s₁.setTop (mkF m 67 #[rv a1, rv a2, iv 1, iv 2, iv 1, iv B1, iv 6, iv 2, iv 1] [(.int (8 : Int32)), (.int (6 : Int32))]))
  refine own_st (fun t k => XS.icmpYes X0.here hx rfl (pc0 := 67) (pc' := 101) rfl (hb hby d5_67) rfl (tlt (by decide : (6 : Int32) < (8 : Int32))).1 (by decide) (by decide) k) ?_
  show own_Fin _ _ _ _ _ _ _ (s₁.setTop (mkF m 101 #[rv a1, rv a2, iv 1, iv 2, iv 1, iv B1, iv 6, iv 2, iv 1] []))
  refine own_st (fun t k => XS.iinc X0.here hx rfl (hb hby d5_101) rfl (l' := #[rv a1, rv a2, iv 1, iv 2, iv 1, iv B1, iv 6, iv 2, iv 2]) rfl k) ?_
  refine own_st (fun t k => XS.goto X0.here hx rfl (pc0 := 104) (pc' := 25) rfl (hb hby d5_104) (by decide) (by decide) k) ?_
  refine own_st (fun t k => XS.iload X0.here hx rfl (hb hby d5_25) rfl k) ?_
  show own_Fin _ _ _ _ _ _ _ (s₁.setTop (mkF m 27 #[rv a1, rv a2, iv 1, iv 2, iv 1, iv B1, iv 6, iv 2, iv 2] [(.int (2 : Int32))]))
  refine own_st (fun t k => XS.iloadN X0.here hx rfl (hb hby d5_27) rfl k) ?_
  refine own_st (fun t k => XS.iload X0.here hx rfl (hb hby d5_28) rfl k) ?_
  refine own_st (fun t k => XS.iadd X0.here hx rfl (hb hby d5_30) rfl k) ?_
  show own_Fin _ _ _ _ _ _ _ (s₁.setTop (mkF m 31 #[rv a1, rv a2, iv 1, iv 2, iv 1, iv B1, iv 6, iv 2, iv 2] [(.int (3 : Int32)), (.int (2 : Int32))]))
  refine own_st (fun t k => XS.icmpNo X0.here hx rfl (hb hby d5_31) rfl (tlt (by decide : (2 : Int32) < (3 : Int32))).2.1 k) ?_
  refine own_st (fun t k => XS.iload X0.here hx rfl (hb hby d5_34) rfl k) ?_
  refine own_st (fun t k => XS.bipush X0.here hx rfl (hb hby d5_36) k) ?_
  show own_Fin _ _ _ _ _ _ _ (s₁.setTop (mkF m 38 #[rv a1, rv a2, iv 1, iv 2, iv 1, iv B1, iv 6, iv 2, iv 2] [(.int (6 : Int32)), (.int B1)]))
  refine own_st (fun t k => XS.ishl X0.here hx rfl (hb hby d5_38) rfl k) ?_
  refine own_st (fun t k => XS.iload X0.here hx rfl (hb hby d5_39) rfl k) ?_
  refine own_st (fun t k => XS.iloadN X0.here hx rfl (hb hby d5_41) rfl k) ?_
  show own_Fin _ _ _ _ _ _ _ (s₁.setTop (mkF m 42 #[rv a1, rv a2, iv 1, iv 2, iv 1, iv B1, iv 6, iv 2, iv 2] [(.int (2 : Int32)), (.int (2 : Int32)), (.int (B1 <<< ((6 : Int32) &&& 31)))]))
  refine own_st (fun t k => XS.icmpYes X0.here hx rfl (pc0 := 42) (pc' := 55) rfl (hb hby d5_42) rfl (flt (by decide : ¬ ((2 : Int32) < (2 : Int32)))).2.1 (by decide) (by decide) k) ?_
  refine own_st (fun t k => XS.bipush X0.here hx rfl (hb hby d5_55) k) ?_
  refine own_st (fun t k => XS.ior X0.here hx rfl (hb hby d5_57) rfl k) ?_
  show own_Fin _ _ _ _ _ _ _ (s₁.setTop (mkF m 58 #[rv a1, rv a2, iv 1, iv 2, iv 1, iv B1, iv 6, iv 2, iv 2] [(.int ((B1 <<< ((6 : Int32) &&& 31)) ||| (31 : Int32)))]))
  refine own_st (fun t k => XS.istore X0.here hx rfl (hb hby d5_58) rfl (l' := #[rv a1, rv a2, iv 1, iv 2, iv 1, iv ((B1 <<< ((6 : Int32) &&& 31)) ||| (31 : Int32)), iv 6, iv 2, iv 2]) rfl k) ?_
  show own_Fin _ _ _ _ _ _ _ (s₁.setTop (mkF m 60 #[rv a1, rv a2, iv 1, iv 2, iv 1, iv ((B1 <<< ((6 : Int32) &&& 31)) ||| (31 : Int32)), iv 6, iv 2, iv 2] []))
  obtain ⟨B2, hB2⟩ : ∃ z, z = ((B1 <<< ((6 : Int32) &&& 31)) ||| (31 : Int32)) := ⟨_, rfl⟩
  rw [← hB2]
  refine own_st (fun t k => XS.iinc X0.here hx rfl (hb hby d5_60) rfl (l' := #[rv a1, rv a2, iv 1, iv 2, iv 1, iv B2, iv 12, iv 2, iv 2]) rfl k) ?_
  refine own_st (fun t k => XS.iload X0.here hx rfl (hb hby d5_63) rfl k) ?_
  refine own_st (fun t k => XS.bipush X0.here hx rfl (hb hby d5_65) k) ?_
  show own_Fin _ _ _ _ _ _ _ (s₁.setTop (mkF m 67 #[rv a1, rv a2, iv 1, iv 2, iv 1, iv B2, iv 12, iv 2, iv 2] [(.int (8 : Int32)), (.int (12 : Int32))]))
  refine own_st (fun t k => XS.icmpNo X0.here hx rfl (hb hby d5_67) rfl (flt (by decide : ¬ ((12 : Int32) < (8 : Int32)))).1 k) ?_
  show own_Fin _ _ _ _ _ _ _ (s₁.setTop (mkF m 70 #[rv a1, rv a2, iv 1, iv 2, iv 1, iv B2, iv 12, iv 2, iv 2] []))
  refine own_st (fun t k => XS.iinc X0.here hx rfl (hb hby d5_70) rfl (l' := #[rv a1, rv a2, iv 1, iv 2, iv 1, iv B2, iv 4, iv 2, iv 2]) rfl k) ?_
  refine own_st (fun t k => XS.aloadN X0.here hx rfl (hb hby d5_73) rfl rfl k) ?_
  show own_Fin _ _ _ _ _ _ _ (s₁.setTop (mkF m 74 #[rv a1, rv a2, iv 1, iv 2, iv 1, iv B2, iv 4, iv 2, iv 2] [(.ref a1)]))
  obtain ⟨T2, X2, e2, st2⟩ := getF X0 hx hZ hown (host := "") (Or.inl (hw _ (List.mem_of_getElem? (i := 22) rfl))) Via.refl e0 Fw (g := (mkF m 74 #[rv a1, rv a2, iv 1, iv 2, iv 1, iv B2, iv 4, iv 2, iv 2] [(.ref a1)])) rfl rfl (hb hby d5_74)
  refine own_st st2 ?_
  refine own_st (fun t k => XS.aloadN X2.here hx rfl (hb hby d5_77) rfl rfl k) ?_
  refine own_st (fun t k => XS.dup X2.here hx rfl (hb hby d5_78) rfl rfl k) ?_
  show own_Fin _ _ _ _ _ _ _ (T2.setTop (mkF m 79 #[rv a1, rv a2, iv 1, iv 2, iv 1, iv B2, iv 4, iv 2, iv 2] [(.ref a1), (.ref a1), (.ref t)]))
  obtain ⟨T3, X3, e3, st3⟩ := getF X2 hx hZ hown (host := "") (Or.inl (hw _ (List.mem_of_getElem? (i := 29) rfl))) Via.refl e2 Fc (g := (mkF m 79 #[rv a1, rv a2, iv 1, iv 2, iv 1, iv B2, iv 4, iv 2, iv 2] [(.ref a1), (.ref a1), (.ref t)])) rfl rfl (hb hby d5_79)
  refine own_st st3 ?_
  show own_Fin _ _ _ _ _ _ _ (T3.setTop (mkF m 82 #[rv a1, rv a2, iv 1, iv 2, iv 1, iv B2, iv 4, iv 2, iv 2] [(.int cn), (.ref a1), (.ref t)]))
  refine own_st (fun t k => XS.dupX1 X3.here hx rfl (hb hby d5_82) rfl rfl rfl k) ?_
  refine own_st (fun t k => XS.iconst X3.here hx rfl (hb hby d5_83) k) ?_
  refine own_st (fun t k => XS.iadd X3.here hx rfl (hb hby d5_84) rfl k) ?_
  show own_Fin _ _ _ _ _ _ _ (T3.setTop (mkF m 85 #[rv a1, rv a2, iv 1, iv 2, iv 1, iv B2, iv 4, iv 2, iv 2] [(.int (cn + (1 : Int32))), (.ref a1), (.int cn), (.ref t)]))
  obtain ⟨T4, h4, X4, e4, W4, st4⟩ := putF X3 hx hZ hown (host := "") (Or.inl (hw _ (List.mem_of_getElem? (i := 29) rfl))) Via.refl e3 Fc Ei (Or.inl (hw _ (List.mem_of_getElem? (i := 30) rfl))) (hw _ (List.mem_of_getElem? (i := 10) rfl)) (ty := .int) (by decide) rfl rfl (g := (mkF m 85 #[rv a1, rv a2, iv 1, iv 2, iv 1, iv B2, iv 4, iv 2, iv 2] [(.int (cn + (1 : Int32))), (.ref a1), (.int cn), (.ref t)])) rfl rfl (hb hby d5_85)
  have f4_0 := Ei.wr W4
  have f4_1 := Fw.other W4 (Or.inr (slot_ne (Or.inr (hw _ (List.mem_of_getElem? (i := 23) rfl))) (Or.inl (hw _ (List.mem_of_getElem? (i := 30) rfl))) (by decide) (t := (.array .int)) (t' := .int) (by decide) (by decide)))
  have f4_2 := Vt.other W4 (Ne.symm nat)
  have f4_3 := Vc.other W4 nac
  have Fw4 : Fld Z h4 a1 "com/example/quietzone/quietzone/datamatrix/CodewordWriter" "count" "I" (.int (cn + (1 : Int32))) := Fc.same W4
  have N4 := Fr.snoc X4 N0 gi
  have Z4 : n0 ≤ h4.size := Nat.le_trans Z0 (Keep.of_wr W4).1
  have K4 : Keep h0 h4 [a1, t] := KR.wr W4 (Or.inl (List.mem_of_getElem? (i := 0) rfl))
  refine own_st st4 ?_
  refine own_st (fun t k => XS.iload X4.here hx rfl (hb hby d5_88) rfl k) ?_
  refine own_st (fun t k => XS.iload X4.here hx rfl (hb hby d5_90) rfl k) ?_
  show own_Fin _ _ _ _ _ _ _ (T4.setTop (mkF m 92 #[rv a1, rv a2, iv 1, iv 2, iv 1, iv B2, iv 4, iv 2, iv 2] [(.int (4 : Int32)), (.int B2), (.int cn), (.ref t)]))
  refine own_st (fun t k => XS.ishr X4.here hx rfl (hb hby d5_92) rfl k) ?_
  refine own_st (fun t k => XS.sipush X4.here hx rfl (hb hby d5_93) k) ?_
  refine own_st (fun t k => XS.iand X4.here hx rfl (hb hby d5_96) rfl k) ?_
  show own_Fin _ _ _ _ _ _ _ (T4.setTop (mkF m 97 #[rv a1, rv a2, iv 1, iv 2, iv 1, iv B2, iv 4, iv 2, iv 2] [(.int ((B2 >>> ((4 : Int32) &&& 31)) &&& (255 : Int32))), (.int cn), (.ref t)]))
  obtain ⟨cl5, Ar5, Cq5, Sz5, Mn5, Hs5, Gf5⟩ := id f4_2
  obtain ⟨T5, h5, X5, e5, W5, st5⟩ := stI X4 hx hZ e4 Ar5 (j := cn) (inb_of Sz5 (own_cn hcn hlen).1) (g := (mkF m 97 #[rv a1, rv a2, iv 1, iv 2, iv 1, iv B2, iv 4, iv 2, iv 2] [(.int ((B2 >>> ((4 : Int32) &&& 31)) &&& (255 : Int32))), (.int cn), (.ref t)])) rfl rfl (hb hby d5_97)
  have f5_0 := f4_0.wr W5
  have f5_1 := f4_1.other W5 (Or.inl nat)
  have f5_2 := f4_3.other W5 nct
  have f5_3 := Fw4.other W5 (Or.inl nat)
  have V5 : Arv Z h5 t kt .int (8 : Int32) (vs.set (cn).toNatClampNeg (.int ((B2 >>> ((4 : Int32) &&& 31)) &&& (255 : Int32)))) (.int (0 : Int32)) := Arv.set Ar5 Cq5 Sz5 Mn5 Hs5 Gf5 rfl W5 (cn).toNatClampNeg rfl (own_cn hcn hlen).2.2.2.2.1
  have N5 := Fr.snoc X5 N4 gt
  have Z5 : n0 ≤ h5.size := Nat.le_trans Z4 (Keep.of_wr W5).1
  have K5 : Keep h0 h5 [a1, t] := K4.wr W5 (Or.inl (List.mem_of_getElem? (i := 1) rfl))
  refine own_st st5 ?_
  refine own_st (fun t k => XS.goto X5.here hx rfl (pc0 := 98) (pc' := 63) rfl (hb hby d5_98) (by decide) (by decide) k) ?_
  refine own_st (fun t k => XS.iload X5.here hx rfl (hb hby d5_63) rfl k) ?_
  show own_Fin _ _ _ _ _ _ _ (T5.setTop (mkF m 65 #[rv a1, rv a2, iv 1, iv 2, iv 1, iv B2, iv 4, iv 2, iv 2] [(.int (4 : Int32))]))
  refine own_st (fun t k => XS.bipush X5.here hx rfl (hb hby d5_65) k) ?_
  show own_Fin _ _ _ _ _ _ _ (T5.setTop (mkF m 67 #[rv a1, rv a2, iv 1, iv 2, iv 1, iv B2, iv 4, iv 2, iv 2] [(.int (8 : Int32)), (.int (4 : Int32))]))
  refine own_st (fun t k => XS.icmpYes X5.here hx rfl (pc0 := 67) (pc' := 101) rfl (hb hby d5_67) rfl (tlt (by decide : (4 : Int32) < (8 : Int32))).1 (by decide) (by decide) k) ?_
  show own_Fin _ _ _ _ _ _ _ (T5.setTop (mkF m 101 #[rv a1, rv a2, iv 1, iv 2, iv 1, iv B2, iv 4, iv 2, iv 2] []))
  refine own_st (fun t k => XS.iinc X5.here hx rfl (hb hby d5_101) rfl (l' := #[rv a1, rv a2, iv 1, iv 2, iv 1, iv B2, iv 4, iv 2, iv 3]) rfl k) ?_
  refine own_st (fun t k => XS.goto X5.here hx rfl (pc0 := 104) (pc' := 25) rfl (hb hby d5_104) (by decide) (by decide) k) ?_
  refine own_st (fun t k => XS.iload X5.here hx rfl (hb hby d5_25) rfl k) ?_
  show own_Fin _ _ _ _ _ _ _ (T5.setTop (mkF m 27 #[rv a1, rv a2, iv 1, iv 2, iv 1, iv B2, iv 4, iv 2, iv 3] [(.int (3 : Int32))]))
  refine own_st (fun t k => XS.iloadN X5.here hx rfl (hb hby d5_27) rfl k) ?_
  refine own_st (fun t k => XS.iload X5.here hx rfl (hb hby d5_28) rfl k) ?_
  refine own_st (fun t k => XS.iadd X5.here hx rfl (hb hby d5_30) rfl k) ?_
  show own_Fin _ _ _ _ _ _ _ (T5.setTop (mkF m 31 #[rv a1, rv a2, iv 1, iv 2, iv 1, iv B2, iv 4, iv 2, iv 3] [(.int (3 : Int32)), (.int (3 : Int32))]))
  refine own_st (fun t k => XS.icmpYes X5.here hx rfl (pc0 := 31) (pc' := 107) rfl (hb hby d5_31) rfl (flt (by decide : ¬ ((3 : Int32) < (3 : Int32)))).2.1 (by decide) (by decide) k) ?_
  refine own_st (fun t k => XS.iload X5.here hx rfl (hb hby d5_107) rfl k) ?_
  show own_Fin _ _ _ _ _ _ _ (T5.setTop (mkF m 109 #[rv a1, rv a2, iv 1, iv 2, iv 1, iv B2, iv 4, iv 2, iv 3] [(.int (4 : Int32))]))
  refine own_st (fun t k => XS.ifNo X5.here hx rfl (hb hby d5_109) rfl ((if0 _ _).trans (tlt (by decide : (0 : Int32) < (4 : Int32))).2.2.2) k) ?_
  refine own_st (fun t k => XS.aloadN X5.here hx rfl (hb hby d5_112) rfl rfl k) ?_
  show own_Fin _ _ _ _ _ _ _ (T5.setTop (mkF m 113 #[rv a1, rv a2, iv 1, iv 2, iv 1, iv B2, iv 4, iv 2, iv 3] [(.ref a1)]))
  obtain ⟨T6, X6, e6, st6⟩ := getF X5 hx hZ hown (host := "") (Or.inl (hw _ (List.mem_of_getElem? (i := 22) rfl))) Via.refl e5 f5_1 (g := (mkF m 113 #[rv a1, rv a2, iv 1, iv 2, iv 1, iv B2, iv 4, iv 2, iv 3] [(.ref a1)])) rfl rfl (hb hby d5_113)
  refine own_st st6 ?_
  refine own_st (fun t k => XS.aloadN X6.here hx rfl (hb hby d5_116) rfl rfl k) ?_
  refine own_st (fun t k => XS.dup X6.here hx rfl (hb hby d5_117) rfl rfl k) ?_
  show own_Fin _ _ _ _ _ _ _ (T6.setTop (mkF m 118 #[rv a1, rv a2, iv 1, iv 2, iv 1, iv B2, iv 4, iv 2, iv 3] [(.ref a1), (.ref a1), (.ref t)]))
  obtain ⟨T7, X7, e7, st7⟩ := getF X6 hx hZ hown (host := "") (Or.inl (hw _ (List.mem_of_getElem? (i := 29) rfl))) Via.refl e6 f5_3 (g := (mkF m 118 #[rv a1, rv a2, iv 1, iv 2, iv 1, iv B2, iv 4, iv 2, iv 3] [(.ref a1), (.ref a1), (.ref t)])) rfl rfl (hb hby d5_118)
  refine own_st st7 ?_
  show own_Fin _ _ _ _ _ _ _ (T7.setTop (mkF m 121 #[rv a1, rv a2, iv 1, iv 2, iv 1, iv B2, iv 4, iv 2, iv 3] [(.int (cn + (1 : Int32))), (.ref a1), (.ref t)]))
  refine own_st (fun t k => XS.dupX1 X7.here hx rfl (hb hby d5_121) rfl rfl rfl k) ?_
  refine own_st (fun t k => XS.iconst X7.here hx rfl (hb hby d5_122) k) ?_
  refine own_st (fun t k => XS.iadd X7.here hx rfl (hb hby d5_123) rfl k) ?_
  show own_Fin _ _ _ _ _ _ _ (T7.setTop (mkF m 124 #[rv a1, rv a2, iv 1, iv 2, iv 1, iv B2, iv 4, iv 2, iv 3] [(.int ((cn + (1 : Int32)) + (1 : Int32))), (.ref a1), (.int (cn + (1 : Int32))), (.ref t)]))
  obtain ⟨T8, h8, X8, e8, W8, st8⟩ := putF X7 hx hZ hown (host := "") (Or.inl (hw _ (List.mem_of_getElem? (i := 29) rfl))) Via.refl e7 f5_3 f5_0 (Or.inl (hw _ (List.mem_of_getElem? (i := 30) rfl))) (hw _ (List.mem_of_getElem? (i := 10) rfl)) (ty := .int) (by decide) rfl rfl (g := (mkF m 124 #[rv a1, rv a2, iv 1, iv 2, iv 1, iv B2, iv 4, iv 2, iv 3] [(.int ((cn + (1 : Int32)) + (1 : Int32))), (.ref a1), (.int (cn + (1 : Int32))), (.ref t)])) rfl rfl (hb hby d5_124)
  have f8_0 := f5_0.wr W8
  have f8_1 := f5_1.other W8 (Or.inr (slot_ne (Or.inr (hw _ (List.mem_of_getElem? (i := 23) rfl))) (Or.inl (hw _ (List.mem_of_getElem? (i := 30) rfl))) (by decide) (t := (.array .int)) (t' := .int) (by decide) (by decide)))
  have f8_2 := f5_2.other W8 nac
  have f8_3 := V5.other W8 (Ne.symm nat)
  have Fw8 : Fld Z h8 a1 "com/example/quietzone/quietzone/datamatrix/CodewordWriter" "count" "I" (.int ((cn + (1 : Int32)) + (1 : Int32))) := f5_3.same W8
  have N8 := Fr.snoc X8 N5 gi
  have Z8 : n0 ≤ h8.size := Nat.le_trans Z5 (Keep.of_wr W8).1
  have K8 : Keep h0 h8 [a1, t] := K5.wr W8 (Or.inl (List.mem_of_getElem? (i := 0) rfl))
  refine own_st st8 ?_
  refine own_st (fun t k => XS.iload X8.here hx rfl (hb hby d5_127) rfl k) ?_
  refine own_st (fun t k => XS.bipush X8.here hx rfl (hb hby d5_129) k) ?_
  show own_Fin _ _ _ _ _ _ _ (T8.setTop (mkF m 131 #[rv a1, rv a2, iv 1, iv 2, iv 1, iv B2, iv 4, iv 2, iv 3] [(.int (8 : Int32)), (.int B2), (.int (cn + (1 : Int32))), (.ref t)]))
  refine own_st (fun t k => XS.iload X8.here hx rfl (hb hby d5_131) rfl k) ?_
  refine own_st (fun t k => XS.isub X8.here hx rfl (hb hby d5_133) rfl k) ?_
  show own_Fin _ _ _ _ _ _ _ (T8.setTop (mkF m 134 #[rv a1, rv a2, iv 1, iv 2, iv 1, iv B2, iv 4, iv 2, iv 3] [(.int (4 : Int32)), (.int B2), (.int (cn + (1 : Int32))), (.ref t)]))
  refine own_st (fun t k => XS.ishl X8.here hx rfl (hb hby d5_134) rfl k) ?_
  refine own_st (fun t k => XS.sipush X8.here hx rfl (hb hby d5_135) k) ?_
  refine own_st (fun t k => XS.iand X8.here hx rfl (hb hby d5_138) rfl k) ?_
  show own_Fin _ _ _ _ _ _ _ (T8.setTop (mkF m 139 #[rv a1, rv a2, iv 1, iv 2, iv 1, iv B2, iv 4, iv 2, iv 3] [(.int ((B2 <<< ((4 : Int32) &&& 31)) &&& (255 : Int32))), (.int (cn + (1 : Int32))), (.ref t)]))
  obtain ⟨cl9, Ar9, Cq9, Sz9, Mn9, Hs9, Gf9⟩ := id f8_3
  obtain ⟨T9, h9, X9, e9, W9, st9⟩ := stI X8 hx hZ e8 Ar9 (j := (cn + (1 : Int32))) (inb_of Sz9 (own_cn hcn hlen).2.1) (g := (mkF m 139 #[rv a1, rv a2, iv 1, iv 2, iv 1, iv B2, iv 4, iv 2, iv 3] [(.int ((B2 <<< ((4 : Int32) &&& 31)) &&& (255 : Int32))), (.int (cn + (1 : Int32))), (.ref t)])) rfl rfl (hb hby d5_139)
  have f9_0 := f8_0.wr W9
  have f9_1 := f8_1.other W9 (Or.inl nat)
  have f9_2 := f8_2.other W9 nct
  have f9_3 := Fw8.other W9 (Or.inl nat)
  have V9 : Arv Z h9 t kt .int (8 : Int32) ((vs.set (cn).toNatClampNeg (.int ((B2 >>> ((4 : Int32) &&& 31)) &&& (255 : Int32)))).set ((cn + (1 : Int32))).toNatClampNeg (.int ((B2 <<< ((4 : Int32) &&& 31)) &&& (255 : Int32)))) (.int (0 : Int32)) := Arv.set Ar9 Cq9 Sz9 Mn9 Hs9 Gf9 rfl W9 ((cn + (1 : Int32))).toNatClampNeg rfl (by simp only [List.length_set]; exact (own_cn hcn hlen).2.2.2.2.2.1)
  have N9 := Fr.snoc X9 N8 gt
  have Z9 : n0 ≤ h9.size := Nat.le_trans Z8 (Keep.of_wr W9).1
  have K9 : Keep h0 h9 [a1, t] := K8.wr W9 (Or.inl (List.mem_of_getElem? (i := 1) rfl))
  refine own_st st9 ?_
  show own_Fin _ _ _ _ _ _ _ (T9.setTop (mkF m 140 #[rv a1, rv a2, iv 1, iv 2, iv 1, iv B2, iv 4, iv 2, iv 3] []))
  have x0 : 0 ≤ ((w0 &&& (63 : Int32))).toInt ∧ ((w0 &&& (63 : Int32))).toInt < 64 := own_x63 _
  have b1 := own_b1 hB1 x0
  have x1 : 0 ≤ ((31 : Int32)).toInt ∧ ((31 : Int32)).toInt < 64 := by decide
  have b2 := own_bS hB2 b1 (by omega) x1
  have hks : own_ks 1 1 w0 w1 w2 w3 = [((B2 >>> ((4 : Int32) &&& 31)) &&& (255 : Int32)), ((B2 <<< ((4 : Int32) &&& 31)) &&& (255 : Int32))] := by
    rw [own_ks_11, own_six_mask hw0]
    rw [(own_o0 b2 x0 x1), (own_f2 b2 x0 x1)]
  exact own_retV X9 hx Bd.notSynchronized Bd.returns (hb hby d5_140) (by decide) (by decide) (by rw [e9]; unfold own_Q_rmE_1_1_1; rw [hks]; exact ⟨rfl, N9, K9, f9_0, f9_1, f9_3, V9⟩)
def own_Q_rmE_1_2_1 (Z : State)  (a1 a2 : Addr) (t : Addr) (kt : ClassId) (vs : List Value) (cn : Int32) (kc : ClassId) (vc : List Value) (w0 w1 w2 w3 : Int32) (h0 : Heap) (n0 : Nat) (v : Option Value) (h : Heap) (L : List Loc) : Prop := v = none ∧ Fr n0 L ∧ Keep h0 h [a1, t] ∧ Exa Z h a1 "com/example/quietzone/quietzone/datamatrix/CodewordWriter" ∧ Fld Z h a1 "com/example/quietzone/quietzone/datamatrix/CodewordWriter" "codewords" "[I" (.ref t) ∧ Fld Z h a1 "com/example/quietzone/quietzone/datamatrix/CodewordWriter" "count" "I" (.int (own_cnt cn (own_ks 2 1 w0 w1 w2 w3))) ∧ Arv Z h t kt .int (8 : Int32) (own_app vs cn (own_ks 2 1 w0 w1 w2 w3)) (.int (0 : Int32))
set_option maxRecDepth 65536 in
set_option maxHeartbeats 40000000 in
theorem rmE_1_2_1 (l : Launch) (Z : State) (a0 : Array Value) (hw : ∀ d ∈ tables_1, d.before a0 Z = true) (ws : List Jvm.Cond)  (a1 a2 : Addr) (t : Addr) (kt : ClassId) (vs : List Value) (cn : Int32) (kc : ClassId) (vc : List Value) (w0 w1 w2 w3 : Int32) (h0 : Heap) (n0 : Nat) (Z0 : n0 ≤ h0.size) (Ei : Exa Z h0 a1 "com/example/quietzone/quietzone/datamatrix/CodewordWriter") (Fw : Fld Z h0 a1 "com/example/quietzone/quietzone/datamatrix/CodewordWriter" "codewords" "[I" (.ref t)) (Fc : Fld Z h0 a1 "com/example/quietzone/quietzone/datamatrix/CodewordWriter" "count" "I" (.int cn)) (Vt : Arv Z h0 t kt .int (8 : Int32) vs (.int (0 : Int32))) (gi : n0 ≤ a1) (gt : n0 ≤ t) (nat : a1 ≠ t) (Vc : Arv Z h0 a2 kc .int (5 : Int32) vc (.int (0 : Int32))) (nac : a2 ≠ a1) (nct : a2 ≠ t) (hcn : cn = (0 : Int32) ∨ cn = (1 : Int32)) (hlen : vs.length = 8) (hat0 : vc.getD (1 : Int32).toNatClampNeg (.int (0 : Int32)) = .int w0) (hw0 : 32 ≤ w0.toInt ∧ w0.toInt ≤ 94) (hat1 : vc.getD (2 : Int32).toNatClampNeg (.int (0 : Int32)) = .int w1) (hw1 : 32 ≤ w1.toInt ∧ w1.toInt ≤ 94) :
    MetFree l (⟨"com/example/quietzone/quietzone/datamatrix/CodewordWriter", "edifact", "([IIIZ)V"⟩ : MethodName) (head1 (Jvm.Cond.code (⟨"com/example/quietzone/quietzone/datamatrix/CodewordWriter", "edifact", "([IIIZ)V"⟩ : MethodName) prog_34_method_9_code 9 none :: ws) ({ frames := 0, cells := 0, slots := 0, locals := 0 } : Room)) (fun a U => a = #[(.ref a1), (.ref a2), (.int (1 : Int32)), (.int (3 : Int32)), (.int (1 : Int32))] ∧ Z.Warmed39 U.vm ∧ U.heap = h0) (fun _ _ _ _ _ => True) (fun _ U o U' => ∃ v L, o = .returned v ∧ own_Q_rmE_1_2_1 Z a1 a2 t kt vs cn kc vc w0 w1 w2 w3 h0 n0 v U'.heap L ∧ FrameEnd U o U' L ({ frames := 0, cells := 0, slots := 0, locals := 0 } : Room).cells ({ frames := 0, cells := 0, slots := 0, locals := 0 } : Room).slots) := by
  refine MetFree.of_bodySF pn_5 hisR ?_
  intro p e s m args below meth c s₁ Bd hml0 hP hK
  obtain ⟨rfl, hZ, hh⟩ := hP
  have hx := Bd.exec
  have hby := Bd.bytes
  have hml : c.maxLocals = 9 := hml0
  have hown : s.vm.findClass "com/example/quietzone/quietzone/datamatrix/CodewordWriter" = some m.cls := findClass_of_methodNamed Bd.named
  have hnm := (name_of_methodNamed Bd.named Bd.method).1
  have X0 : Stand p l e ({ frames := 0, cells := 0, slots := 0, locals := 0 } : Room) s m #[(.ref a1), (.ref a2), (.int (1 : Int32)), (.int (3 : Int32)), (.int (1 : Int32))] below meth c s₁ [] 0 0 := Stand.of_body Bd
  have e0 : s₁.heap = h0 := by rw [← hh, Bd.state]; rfl
  have N0 := Fr.nil n0
  have KR : Keep h0 h0 [a1, t] := Keep.refl h0 [a1, t]
  show own_Fin p.tables e below s (({ frames := 0, cells := 0, slots := 0, locals := 0 } : Room).cells) (({ frames := 0, cells := 0, slots := 0, locals := 0 } : Room).slots) (own_Q_rmE_1_2_1 Z a1 a2 t kt vs cn kc vc w0 w1 w2 w3 h0 n0) (s₁.setTop (entryFrame m #[(.ref a1), (.ref a2), (.int (1 : Int32)), (.int (3 : Int32)), (.int (1 : Int32))] 9))
  rw [ef_5 m a1 a2 (1 : Int32) (3 : Int32) (1 : Int32)]
  refine own_st (fun t k => XS.iconst X0.here hx rfl (hb hby d5_0) k) ?_
  refine own_st (fun t k => XS.istore X0.here hx rfl (hb hby d5_1) rfl (l' := #[rv a1, rv a2, iv 1, iv 3, iv 1, iv 0, .unset, .unset, .unset]) rfl k) ?_
  show own_Fin _ _ _ _ _ _ _ (s₁.setTop (mkF m 3 #[rv a1, rv a2, iv 1, iv 3, iv 1, iv 0, .unset, .unset, .unset] []))
  refine own_st (fun t k => XS.iconst X0.here hx rfl (hb hby d5_3) k) ?_
  refine own_st (fun t k => XS.istore X0.here hx rfl (hb hby d5_4) rfl (l' := #[rv a1, rv a2, iv 1, iv 3, iv 1, iv 0, iv 0, .unset, .unset]) rfl k) ?_
  refine own_st (fun t k => XS.iloadN X0.here hx rfl (hb hby d5_6) rfl k) ?_
  show own_Fin _ _ _ _ _ _ _ (s₁.setTop (mkF m 7 #[rv a1, rv a2, iv 1, iv 3, iv 1, iv 0, iv 0, .unset, .unset] [(.int (3 : Int32))]))
  refine own_st (fun t k => XS.iloadN X0.here hx rfl (hb hby d5_7) rfl k) ?_
  refine own_st (fun t k => XS.isub X0.here hx rfl (hb hby d5_8) rfl k) ?_
  refine own_st (fun t k => XS.iload X0.here hx rfl (hb hby d5_9) rfl k) ?_
  show own_Fin _ _ _ _ _ _ _ (s₁.setTop (mkF m 11 #[rv a1, rv a2, iv 1, iv 3, iv 1, iv 0, iv 0, .unset, .unset] [(.int (1 : Int32)), (.int (2 : Int32))]))
  refine own_st (fun t k => XS.ifNo X0.here hx rfl (hb hby d5_11) rfl ((if0 _ _).trans (feq (by decide : ¬ ((1 : Int32) = (0 : Int32)))).1) k) ?_
  refine own_st (fun t k => XS.iconst X0.here hx rfl (hb hby d5_14) k) ?_
  refine own_st (fun t k => XS.goto X0.here hx rfl (pc0 := 15) (pc' := 19) rfl (hb hby d5_15) (by decide) (by decide) k) ?_
  show own_Fin _ _ _ _ _ _ _ (s₁.setTop (mkF m 19 #[rv a1, rv a2, iv 1, iv 3, iv 1, iv 0, iv 0, .unset, .unset] [(.int (1 : Int32)), (.int (2 : Int32))]))
  refine own_st (fun t k => XS.iadd X0.here hx rfl (hb hby d5_19) rfl k) ?_
  refine own_st (fun t k => XS.istore X0.here hx rfl (hb hby d5_20) rfl (l' := #[rv a1, rv a2, iv 1, iv 3, iv 1, iv 0, iv 0, iv 3, .unset]) rfl k) ?_
  refine own_st (fun t k => XS.iloadN X0.here hx rfl (hb hby d5_22) rfl k) ?_
  show own_Fin _ _ _ _ _ _ _ (s₁.setTop (mkF m 23 #[rv a1, rv a2, iv 1, iv 3, iv 1, iv 0, iv 0, iv 3, .unset] [(.int (1 : Int32))]))
  refine own_st (fun t k => XS.istore X0.here hx rfl (hb hby d5_23) rfl (l' := #[rv a1, rv a2, iv 1, iv 3, iv 1, iv 0, iv 0, iv 3, iv 1]) rfl k) ?_
  refine own_st (fun t k => XS.iload X0.here hx rfl (hb hby d5_25) rfl k) ?_
  refine own_st (fun t k => XS.iloadN X0.here hx rfl (hb hby d5_27) rfl k) ?_
  show own_Fin _ _ _ _ _ _ _ (s₁.setTop (mkF m 28 #[rv a1, rv a2, iv 1, iv 3, iv 1, iv 0, iv 0, iv 3, iv 1] [(.int (1 : Int32)), (.int (1 : Int32))]))
  refine own_st (fun t k => XS.iload X0.here hx rfl (hb hby d5_28) rfl k) ?_
  refine own_st (fun t k => XS.iadd X0.here hx rfl (hb hby d5_30) rfl k) ?_
  show own_Fin _ _ _ _ _ _ _ (s₁.setTop (mkF m 31 #[rv a1, rv a2, iv 1, iv 3, iv 1, iv 0, iv 0, iv 3, iv 1] [(.int (4 : Int32)), (.int (1 : Int32))]))
  refine own_st (fun t k => XS.icmpNo X0.here hx rfl (hb hby d5_31) rfl (tlt (by decide : (1 : Int32) < (4 : Int32))).2.1 k) ?_
  refine own_st (fun t k => XS.iload X0.here hx rfl (hb hby d5_34) rfl k) ?_
  refine own_st (fun t k => XS.bipush X0.here hx rfl (hb hby d5_36) k) ?_
  show own_Fin _ _ _ _ _ _ _ (s₁.setTop (mkF m 38 #[rv a1, rv a2, iv 1, iv 3, iv 1, iv 0, iv 0, iv 3, iv 1] [(.int (6 : Int32)), (.int (0 : Int32))]))
  refine own_st (fun t k => XS.ishl X0.here hx rfl (hb hby d5_38) rfl k) ?_
  refine own_st (fun t k => XS.iload X0.here hx rfl (hb hby d5_39) rfl k) ?_
  refine own_st (fun t k => XS.iloadN X0.here hx rfl (hb hby d5_41) rfl k) ?_
  show own_Fin _ _ _ _ _ _ _ (s₁.setTop (mkF m 42 #[rv a1, rv a2, iv 1, iv 3, iv 1, iv 0, iv 0, iv 3, iv 1] [(.int (3 : Int32)), (.int (1 : Int32)), (.int ((0 : Int32) <<< ((6 : Int32) &&& 31)))]))
  refine own_st (fun t k => XS.icmpNo X0.here hx rfl (hb hby d5_42) rfl (tlt (by decide : (1 : Int32) < (3 : Int32))).2.1 k) ?_
  refine own_st (fun t k => XS.aloadN X0.here hx rfl (hb hby d5_45) rfl rfl k) ?_
  refine own_st (fun t k => XS.iload X0.here hx rfl (hb hby d5_46) rfl k) ?_
  show own_Fin _ _ _ _ _ _ _ (s₁.setTop (mkF m 48 #[rv a1, rv a2, iv 1, iv 3, iv 1, iv 0, iv 0, iv 3, iv 1] [(.int (1 : Int32)), (.ref a2), (.int ((0 : Int32) <<< ((6 : Int32) &&& 31)))]))
  obtain ⟨cl1, Ar1, Cq1, Sz1, Mn1, Hs1, Gf1⟩ := id Vc
  have hin1 := inb_of Sz1 (j := (1 : Int32)) ⟨by decide, by decide⟩
  refine own_st (X0.iaload hx (j := (1 : Int32)) (v := (.int w0)) (by rw [e0]; exact Ar1.1) (State.isArrayOf_alike hZ.alike Ar1.2.1) Ar1.2.2 hin1 (Hs1.at hin1 hat0) (g := (mkF m 48 #[rv a1, rv a2, iv 1, iv 3, iv 1, iv 0, iv 0, iv 3, iv 1] [(.int (1 : Int32)), (.ref a2), (.int ((0 : Int32) <<< ((6 : Int32) &&& 31)))])) rfl rfl (hb hby d5_48)) ?_
  refine own_st (fun t k => XS.bipush X0.here hx rfl (hb hby d5_49) k) ?_
  refine own_st (fun t k => XS.iand X0.here hx rfl (hb hby d5_51) rfl k) ?_
  show own_Fin _ _ _ _ _ _ _ (s₁.setTop (mkF m 52 #[rv a1, rv a2, iv 1, iv 3, iv 1, iv 0, iv 0, iv 3, iv 1] [(.int (w0 &&& (63 : Int32))), (.int ((0 : Int32) <<< ((6 : Int32) &&& 31)))]))
  refine own_st (fun t k => XS.goto X0.here hx rfl (pc0 := 52) (pc' := 57) rfl (hb hby d5_52) (by decide) (by decide) k) ?_
  refine own_st (fun t k => XS.ior X0.here hx rfl (hb hby d5_57) rfl k) ?_
  refine own_st (fun t k => XS.istore X0.here hx rfl (hb hby d5_58) rfl (l' := #[rv a1, rv a2, iv 1, iv 3, iv 1, iv (((0 : Int32) <<< ((6 : Int32) &&& 31)) ||| (w0 &&& (63 : Int32))), iv 0, iv 3, iv 1]) rfl k) ?_
  show own_Fin _ _ _ _ _ _ _ (s₁.setTop (mkF m 60 #[rv a1, rv a2, iv 1, iv 3, iv 1, iv (((0 : Int32) <<< ((6 : Int32) &&& 31)) ||| (w0 &&& (63 : Int32))), iv 0, iv 3, iv 1] []))
  obtain ⟨B1, hB1⟩ : ∃ z, z = (((0 : Int32) <<< ((6 : Int32) &&& 31)) ||| (w0 &&& (63 : Int32))) := ⟨_, rfl⟩
  rw [← hB1]
  refine own_st (fun t k => XS.iinc X0.here hx rfl (hb hby d5_60) rfl (l' := #[rv a1, rv a2, iv 1, iv 3, iv 1, iv B1, iv 6, iv 3, iv 1]) rfl k) ?_
  refine own_st (fun t k => XS.iload X0.here hx rfl (hb hby d5_63) rfl k) ?_
  refine own_st (fun t k => XS.bipush X0.here hx rfl (hb hby d5_65) k) ?_
  show own_Fin _ _ _ _ _ _ _ (s₁.setTop (mkF m 67 #[rv a1, rv a2, iv 1, iv 3, iv 1, iv B1, iv 6, iv 3, iv 1] [(.int (8 : Int32)), (.int (6 : Int32))]))
  refine own_st (fun t k => XS.icmpYes X0.here hx rfl (pc0 := 67) (pc' := 101) rfl (hb hby d5_67) rfl (tlt (by decide : (6 : Int32) < (8 : Int32))).1 (by decide) (by decide) k) ?_
  show own_Fin _ _ _ _ _ _ _ (s₁.setTop (mkF m 101 #[rv a1, rv a2, iv 1, iv 3, iv 1, iv B1, iv 6, iv 3, iv 1] []))
  refine own_st (fun t k => XS.iinc X0.here hx rfl (hb hby d5_101) rfl (l' := #[rv a1, rv a2, iv 1, iv 3, iv 1, iv B1, iv 6, iv 3, iv 2]) rfl k) ?_
  refine own_st (fun t k => XS.goto X0.here hx rfl (pc0 := 104) (pc' := 25) rfl (hb hby d5_104) (by decide) (by decide) k) ?_
  refine own_st (fun t k => XS.iload X0.here hx rfl (hb hby d5_25) rfl k) ?_
  show own_Fin _ _ _ _ _ _ _ (s₁.setTop (mkF m 27 #[rv a1, rv a2, iv 1, iv 3, iv 1, iv B1, iv 6, iv 3, iv 2] [(.int (2 : Int32))]))
  refine own_st (fun t k => XS.iloadN X0.here hx rfl (hb hby d5_27) rfl k) ?_
  refine own_st (fun t k => XS.iload X0.here hx rfl (hb hby d5_28) rfl k) ?_
  refine own_st (fun t k => XS.iadd X0.here hx rfl (hb hby d5_30) rfl k) ?_
  show own_Fin _ _ _ _ _ _ _ (s₁.setTop (mkF m 31 #[rv a1, rv a2, iv 1, iv 3, iv 1, iv B1, iv 6, iv 3, iv 2] [(.int (4 : Int32)), (.int (2 : Int32))]))
  refine own_st (fun t k => XS.icmpNo X0.here hx rfl (hb hby d5_31) rfl (tlt (by decide : (2 : Int32) < (4 : Int32))).2.1 k) ?_
  refine own_st (fun t k => XS.iload X0.here hx rfl (hb hby d5_34) rfl k) ?_
  refine own_st (fun t k => XS.bipush X0.here hx rfl (hb hby d5_36) k) ?_
  show own_Fin _ _ _ _ _ _ _ (s₁.setTop (mkF m 38 #[rv a1, rv a2, iv 1, iv 3, iv 1, iv B1, iv 6, iv 3, iv 2] [(.int (6 : Int32)), (.int B1)]))
  refine own_st (fun t k => XS.ishl X0.here hx rfl (hb hby d5_38) rfl k) ?_
  refine own_st (fun t k => XS.iload X0.here hx rfl (hb hby d5_39) rfl k) ?_
  refine own_st (fun t k => XS.iloadN X0.here hx rfl (hb hby d5_41) rfl k) ?_
  show own_Fin _ _ _ _ _ _ _ (s₁.setTop (mkF m 42 #[rv a1, rv a2, iv 1, iv 3, iv 1, iv B1, iv 6, iv 3, iv 2] [(.int (3 : Int32)), (.int (2 : Int32)), (.int (B1 <<< ((6 : Int32) &&& 31)))]))
  refine own_st (fun t k => XS.icmpNo X0.here hx rfl (hb hby d5_42) rfl (tlt (by decide : (2 : Int32) < (3 : Int32))).2.1 k) ?_
  refine own_st (fun t k => XS.aloadN X0.here hx rfl (hb hby d5_45) rfl rfl k) ?_
  refine own_st (fun t k => XS.iload X0.here hx rfl (hb hby d5_46) rfl k) ?_
  show own_Fin _ _ _ _ _ _ _ (s₁.setTop (mkF m 48 #[rv a1, rv a2, iv 1, iv 3, iv 1, iv B1, iv 6, iv 3, iv 2] [(.int (2 : Int32)), (.ref a2), (.int (B1 <<< ((6 : Int32) &&& 31)))]))
  obtain ⟨cl2, Ar2, Cq2, Sz2, Mn2, Hs2, Gf2⟩ := id Vc
  have hin2 := inb_of Sz2 (j := (2 : Int32)) ⟨by decide, by decide⟩
  refine own_st (X0.iaload hx (j := (2 : Int32)) (v := (.int w1)) (by rw [e0]; exact Ar2.1) (State.isArrayOf_alike hZ.alike Ar2.2.1) Ar2.2.2 hin2 (Hs2.at hin2 hat1) (g := (mkF m 48 #[rv a1, rv a2, iv 1, iv 3, iv 1, iv B1, iv 6, iv 3, iv 2] [(.int (2 : Int32)), (.ref a2), (.int (B1 <<< ((6 : Int32) &&& 31)))])) rfl rfl (hb hby d5_48)) ?_
  refine own_st (fun t k => XS.bipush X0.here hx rfl (hb hby d5_49) k) ?_
  refine own_st (fun t k => XS.iand X0.here hx rfl (hb hby d5_51) rfl k) ?_
  show own_Fin _ _ _ _ _ _ _ (s₁.setTop (mkF m 52 #[rv a1, rv a2, iv 1, iv 3, iv 1, iv B1, iv 6, iv 3, iv 2] [(.int (w1 &&& (63 : Int32))), (.int (B1 <<< ((6 : Int32) &&& 31)))]))
  refine own_st (fun t k => XS.goto X0.here hx rfl (pc0 := 52) (pc' := 57) rfl (hb hby d5_52) (by decide) (by decide) k) ?_
  refine own_st (fun t k => XS.ior X0.here hx rfl (hb hby d5_57) rfl k) ?_
  refine own_st (fun t k => XS.istore X0.here hx rfl (hb hby d5_58) rfl (l' := #[rv a1, rv a2, iv 1, iv 3, iv 1, iv ((B1 <<< ((6 : Int32) &&& 31)) ||| (w1 &&& (63 : Int32))), iv 6, iv 3, iv 2]) rfl k) ?_
  show own_Fin _ _ _ _ _ _ _ (s₁.setTop (mkF m 60 #[rv a1, rv a2, iv 1, iv 3, iv 1, iv ((B1 <<< ((6 : Int32) &&& 31)) ||| (w1 &&& (63 : Int32))), iv 6, iv 3, iv 2] []))
  obtain ⟨B2, hB2⟩ : ∃ z, z = ((B1 <<< ((6 : Int32) &&& 31)) ||| (w1 &&& (63 : Int32))) := ⟨_, rfl⟩
  rw [← hB2]
  refine own_st (fun t k => XS.iinc X0.here hx rfl (hb hby d5_60) rfl (l' := #[rv a1, rv a2, iv 1, iv 3, iv 1, iv B2, iv 12, iv 3, iv 2]) rfl k) ?_
  refine own_st (fun t k => XS.iload X0.here hx rfl (hb hby d5_63) rfl k) ?_
  refine own_st (fun t k => XS.bipush X0.here hx rfl (hb hby d5_65) k) ?_
  show own_Fin _ _ _ _ _ _ _ (s₁.setTop (mkF m 67 #[rv a1, rv a2, iv 1, iv 3, iv 1, iv B2, iv 12, iv 3, iv 2] [(.int (8 : Int32)), (.int (12 : Int32))]))
  refine own_st (fun t k => XS.icmpNo X0.here hx rfl (hb hby d5_67) rfl (flt (by decide : ¬ ((12 : Int32) < (8 : Int32)))).1 k) ?_
  show own_Fin _ _ _ _ _ _ _ (s₁.setTop (mkF m 70 #[rv a1, rv a2, iv 1, iv 3, iv 1, iv B2, iv 12, iv 3, iv 2] []))
  refine own_st (fun t k => XS.iinc X0.here hx rfl (hb hby d5_70) rfl (l' := #[rv a1, rv a2, iv 1, iv 3, iv 1, iv B2, iv 4, iv 3, iv 2]) rfl k) ?_
  refine own_st (fun t k => XS.aloadN X0.here hx rfl (hb hby d5_73) rfl rfl k) ?_
  show own_Fin _ _ _ _ _ _ _ (s₁.setTop (mkF m 74 #[rv a1, rv a2, iv 1, iv 3, iv 1, iv B2, iv 4, iv 3, iv 2] [(.ref a1)]))
  obtain ⟨T3, X3, e3, st3⟩ := getF X0 hx hZ hown (host := "") (Or.inl (hw _ (List.mem_of_getElem? (i := 22) rfl))) Via.refl e0 Fw (g := (mkF m 74 #[rv a1, rv a2, iv 1, iv 3, iv 1, iv B2, iv 4, iv 3, iv 2] [(.ref a1)])) rfl rfl (hb hby d5_74)
  refine own_st st3 ?_
  refine own_st (fun t k => XS.aloadN X3.here hx rfl (hb hby d5_77) rfl rfl k) ?_
  refine own_st (fun t k => XS.dup X3.here hx rfl (hb hby d5_78) rfl rfl k) ?_
  show own_Fin _ _ _ _ _ _ _ (T3.setTop (mkF m 79 #[rv a1, rv a2, iv 1, iv 3, iv 1, iv B2, iv 4, iv 3, iv 2] [(.ref a1), (.ref a1), (.ref t)]))
  obtain ⟨T4, X4, e4, st4⟩ := getF X3 hx hZ hown (host := "") (Or.inl (hw _ (List.mem_of_getElem? (i := 29) rfl))) Via.refl e3 Fc (g := (mkF m 79 #[rv a1, rv a2, iv 1, iv 3, iv 1, iv B2, iv 4, iv 3, iv 2] [(.ref a1), (.ref a1), (.ref t)])) rfl rfl (hb hby d5_79)
  refine own_st st4 ?_
  show own_Fin _ _ _ _ _ _ _ (T4.setTop (mkF m 82 #[rv a1, rv a2, iv 1, iv 3, iv 1, iv B2, iv 4, iv 3, iv 2] [(.int cn), (.ref a1), (.ref t)]))
  refine own_st (fun t k => XS.dupX1 X4.here hx rfl (hb hby d5_82) rfl rfl rfl k) ?_
  refine own_st (fun t k => XS.iconst X4.here hx rfl (hb hby d5_83) k) ?_
  refine own_st (fun t k => XS.iadd X4.here hx rfl (hb hby d5_84) rfl k) ?_
  show own_Fin _ _ _ _ _ _ _ (T4.setTop (mkF m 85 #[rv a1, rv a2, iv 1, iv 3, iv 1, iv B2, iv 4, iv 3, iv 2] [(.int (cn + (1 : Int32))), (.ref a1), (.int cn), (.ref t)]))
  obtain ⟨T5, h5, X5, e5, W5, st5⟩ := putF X4 hx hZ hown (host := "") (Or.inl (hw _ (List.mem_of_getElem? (i := 29) rfl))) Via.refl e4 Fc Ei (Or.inl (hw _ (List.mem_of_getElem? (i := 30) rfl))) (hw _ (List.mem_of_getElem? (i := 10) rfl)) (ty := .int) (by decide) rfl rfl (g := (mkF m 85 #[rv a1, rv a2, iv 1, iv 3, iv 1, iv B2, iv 4, iv 3, iv 2] [(.int (cn + (1 : Int32))), (.ref a1), (.int cn), (.ref t)])) rfl rfl (hb hby d5_85)
  have f5_0 := Ei.wr W5
  have f5_1 := Fw.other W5 (Or.inr (slot_ne (Or.inr (hw _ (List.mem_of_getElem? (i := 23) rfl))) (Or.inl (hw _ (List.mem_of_getElem? (i := 30) rfl))) (by decide) (t := (.array .int)) (t' := .int) (by decide) (by decide)))
  have f5_2 := Vt.other W5 (Ne.symm nat)
  have f5_3 := Vc.other W5 nac
  have Fw5 : Fld Z h5 a1 "com/example/quietzone/quietzone/datamatrix/CodewordWriter" "count" "I" (.int (cn + (1 : Int32))) := Fc.same W5
  have N5 := Fr.snoc X5 N0 gi
  have Z5 : n0 ≤ h5.size := Nat.le_trans Z0 (Keep.of_wr W5).1
  have K5 : Keep h0 h5 [a1, t] := KR.wr W5 (Or.inl (List.mem_of_getElem? (i := 0) rfl))
  refine own_st st5 ?_
  refine own_st (fun t k => XS.iload X5.here hx rfl (hb hby d5_88) rfl k) ?_
  refine own_st (fun t k => XS.iload X5.here hx rfl (hb hby d5_90) rfl k) ?_
  show own_Fin _ _ _ _ _ _ _ (T5.setTop (mkF m 92 #[rv a1, rv a2, iv 1, iv 3, iv 1, iv B2, iv 4, iv 3, iv 2] [(.int (4 : Int32)), (.int B2), (.int cn), (.ref t)]))
  refine own_st (fun t k => XS.ishr X5.here hx rfl (hb hby d5_92) rfl k) ?_
  refine own_st (fun t k => XS.sipush X5.here hx rfl (hb hby d5_93) k) ?_
  refine own_st (fun t k => XS.iand X5.here hx rfl (hb hby d5_96) rfl k) ?_
  show own_Fin _ _ _ _ _ _ _ (T5.setTop (mkF m 97 #[rv a1, rv a2, iv 1, iv 3, iv 1, iv B2, iv 4, iv 3, iv 2] [(.int ((B2 >>> ((4 : Int32) &&& 31)) &&& (255 : Int32))), (.int cn), (.ref t)]))
  obtain ⟨cl6, Ar6, Cq6, Sz6, Mn6, Hs6, Gf6⟩ := id f5_2
  obtain ⟨T6, h6, X6, e6, W6, st6⟩ := stI X5 hx hZ e5 Ar6 (j := cn) (inb_of Sz6 (own_cn hcn hlen).1) (g := (mkF m 97 #[rv a1, rv a2, iv 1, iv 3, iv 1, iv B2, iv 4, iv 3, iv 2] [(.int ((B2 >>> ((4 : Int32) &&& 31)) &&& (255 : Int32))), (.int cn), (.ref t)])) rfl rfl (hb hby d5_97)
  have f6_0 := f5_0.wr W6
  have f6_1 := f5_1.other W6 (Or.inl nat)
  have f6_2 := f5_3.other W6 nct
  have f6_3 := Fw5.other W6 (Or.inl nat)
  have V6 : Arv Z h6 t kt .int (8 : Int32) (vs.set (cn).toNatClampNeg (.int ((B2 >>> ((4 : Int32) &&& 31)) &&& (255 : Int32)))) (.int (0 : Int32)) := Arv.set Ar6 Cq6 Sz6 Mn6 Hs6 Gf6 rfl W6 (cn).toNatClampNeg rfl (own_cn hcn hlen).2.2.2.2.1
  have N6 := Fr.snoc X6 N5 gt
  have Z6 : n0 ≤ h6.size := Nat.le_trans Z5 (Keep.of_wr W6).1
  have K6 : Keep h0 h6 [a1, t] := K5.wr W6 (Or.inl (List.mem_of_getElem? (i := 1) rfl))
  refine own_st st6 ?_
  refine own_st (fun t k => XS.goto X6.here hx rfl (pc0 := 98) (pc' := 63) rfl (hb hby d5_98) (by decide) (by decide) k) ?_
  refine own_st (fun t k => XS.iload X6.here hx rfl (hb hby d5_63) rfl k) ?_
  show own_Fin _ _ _ _ _ _ _ (T6.setTop (mkF m 65 #[rv a1, rv a2, iv 1, iv 3, iv 1, iv B2, iv 4, iv 3, iv 2] [(.int (4 : Int32))]))
  refine own_st (fun t k => XS.bipush X6.here hx rfl (hb hby d5_65) k) ?_
  show own_Fin _ _ _ _ _ _ _ (T6.setTop (mkF m 67 #[rv a1, rv a2, iv 1, iv 3, iv 1, iv B2, iv 4, iv 3, iv 2] [(.int (8 : Int32)), (.int (4 : Int32))]))
  refine own_st (fun t k => XS.icmpYes X6.here hx rfl (pc0 := 67) (pc' := 101) rfl (hb hby d5_67) rfl (tlt (by decide : (4 : Int32) < (8 : Int32))).1 (by decide) (by decide) k) ?_
  show own_Fin _ _ _ _ _ _ _ (T6.setTop (mkF m 101 #[rv a1, rv a2, iv 1, iv 3, iv 1, iv B2, iv 4, iv 3, iv 2] []))
  refine own_st (fun t k => XS.iinc X6.here hx rfl (hb hby d5_101) rfl (l' := #[rv a1, rv a2, iv 1, iv 3, iv 1, iv B2, iv 4, iv 3, iv 3]) rfl k) ?_
  refine own_st (fun t k => XS.goto X6.here hx rfl (pc0 := 104) (pc' := 25) rfl (hb hby d5_104) (by decide) (by decide) k) ?_
  refine own_st (fun t k => XS.iload X6.here hx rfl (hb hby d5_25) rfl k) ?_
  show own_Fin _ _ _ _ _ _ _ (T6.setTop (mkF m 27 #[rv a1, rv a2, iv 1, iv 3, iv 1, iv B2, iv 4, iv 3, iv 3] [(.int (3 : Int32))]))
  refine own_st (fun t k => XS.iloadN X6.here hx rfl (hb hby d5_27) rfl k) ?_
  refine own_st (fun t k => XS.iload X6.here hx rfl (hb hby d5_28) rfl k) ?_
  refine own_st (fun t k => XS.iadd X6.here hx rfl (hb hby d5_30) rfl k) ?_
  show own_Fin _ _ _ _ _ _ _ (T6.setTop (mkF m 31 #[rv a1, rv a2, iv 1, iv 3, iv 1, iv B2, iv 4, iv 3, iv 3] [(.int (4 : Int32)), (.int (3 : Int32))]))
  refine own_st (fun t k => XS.icmpNo X6.here hx rfl (hb hby d5_31) rfl (tlt (by decide : (3 : Int32) < (4 : Int32))).2.1 k) ?_
  refine own_st (fun t k => XS.iload X6.here hx rfl (hb hby d5_34) rfl k) ?_
  refine own_st (fun t k => XS.bipush X6.here hx rfl (hb hby d5_36) k) ?_
  show own_Fin _ _ _ _ _ _ _ (T6.setTop (mkF m 38 #[rv a1, rv a2, iv 1, iv 3, iv 1, iv B2, iv 4, iv 3, iv 3] [(.int (6 : Int32)), (.int B2)]))
  refine own_st (fun t k => XS.ishl X6.here hx rfl (hb hby d5_38) rfl k) ?_
  refine own_st (fun t k => XS.iload X6.here hx rfl (hb hby d5_39) rfl k) ?_
  refine own_st (fun t k => XS.iloadN X6.here hx rfl (hb hby d5_41) rfl k) ?_
  show own_Fin _ _ _ _ _ _ _ (T6.setTop (mkF m 42 #[rv a1, rv a2, iv 1, iv 3, iv 1, iv B2, iv 4, iv 3, iv 3] [(.int (3 : Int32)), (.int (3 : Int32)), (.int (B2 <<< ((6 : Int32) &&& 31)))]))
  refine own_st (fun t k => XS.icmpYes X6.here hx rfl (pc0 := 42) (pc' := 55) rfl (hb hby d5_42) rfl (flt (by decide : ¬ ((3 : Int32) < (3 : Int32)))).2.1 (by decide) (by decide) k) ?_
  refine own_st (fun t k => XS.bipush X6.here hx rfl (hb hby d5_55) k) ?_
  refine own_st (fun t k => XS.ior X6.here hx rfl (hb hby d5_57) rfl k) ?_
  show own_Fin _ _ _ _ _ _ _ (T6.setTop (mkF m 58 #[rv a1, rv a2, iv 1, iv 3, iv 1, iv B2, iv 4, iv 3, iv 3] [(.int ((B2 <<< ((6 : Int32) &&& 31)) ||| (31 : Int32)))]))
  refine own_st (fun t k => XS.istore X6.here hx rfl (hb hby d5_58) rfl (l' := #[rv a1, rv a2, iv 1, iv 3, iv 1, iv ((B2 <<< ((6 : Int32) &&& 31)) ||| (31 : Int32)), iv 4, iv 3, iv 3]) rfl k) ?_
  show own_Fin _ _ _ _ _ _ _ (T6.setTop (mkF m 60 #[rv a1, rv a2, iv 1, iv 3, iv 1, iv ((B2 <<< ((6 : Int32) &&& 31)) ||| (31 : Int32)), iv 4, iv 3, iv 3] []))
  obtain ⟨B3, hB3⟩ : ∃ z, z = ((B2 <<< ((6 : Int32) &&& 31)) ||| (31 : Int32)) := ⟨_, rfl⟩
  rw [← hB3]
  refine own_st (fun t k => XS.iinc X6.here hx rfl (hb hby d5_60) rfl (l' := #[rv a1, rv a2, iv 1, iv 3, iv 1, iv B3, iv 10, iv 3, iv 3]) rfl k) ?_
  refine own_st (fun t k => XS.iload X6.here hx rfl (hb hby d5_63) rfl k) ?_
  refine own_st (fun t k => XS.bipush X6.here hx rfl (hb hby d5_65) k) ?_
  show own_Fin _ _ _ _ _ _ _ (T6.setTop (mkF m 67 #[rv a1, rv a2, iv 1, iv 3, iv 1, iv B3, iv 10, iv 3, iv 3] [(.int (8 : Int32)), (.int (10 : Int32))]))
  refine own_st (fun t k => XS.icmpNo X6.here hx rfl (hb hby d5_67) rfl (flt (by decide : ¬ ((10 : Int32) < (8 : Int32)))).1 k) ?_
  show own_Fin _ _ _ _ _ _ _ (T6.setTop (mkF m 70 #[rv a1, rv a2, iv 1, iv 3, iv 1, iv B3, iv 10, iv 3, iv 3] []))
  refine own_st (fun t k => XS.iinc X6.here hx rfl (hb hby d5_70) rfl (l' := #[rv a1, rv a2, iv 1, iv 3, iv 1, iv B3, iv 2, iv 3, iv 3]) rfl k) ?_
  refine own_st (fun t k => XS.aloadN X6.here hx rfl (hb hby d5_73) rfl rfl k) ?_
  show own_Fin _ _ _ _ _ _ _ (T6.setTop (mkF m 74 #[rv a1, rv a2, iv 1, iv 3, iv 1, iv B3, iv 2, iv 3, iv 3] [(.ref a1)]))
  obtain ⟨T7, X7, e7, st7⟩ := getF X6 hx hZ hown (host := "") (Or.inl (hw _ (List.mem_of_getElem? (i := 22) rfl))) Via.refl e6 f6_1 (g := (mkF m 74 #[rv a1, rv a2, iv 1, iv 3, iv 1, iv B3, iv 2, iv 3, iv 3] [(.ref a1)])) rfl rfl (hb hby d5_74)
  refine own_st st7 ?_
  refine own_st (fun t k => XS.aloadN X7.here hx rfl (hb hby d5_77) rfl rfl k) ?_
  refine own_st (fun t k => XS.dup X7.here hx rfl (hb hby d5_78) rfl rfl k) ?_
  show own_Fin _ _ _ _ _ _ _ (T7.setTop (mkF m 79 #[rv a1, rv a2, iv 1, iv 3, iv 1, iv B3, iv 2, iv 3, iv 3] [(.ref a1), (.ref a1), (.ref t)]))
  obtain ⟨T8, X8, e8, st8⟩ := getF X7 hx hZ hown (host := "") (Or.inl (hw _ (List.mem_of_getElem? (i := 29) rfl))) Via.refl e7 f6_3 (g := (mkF m 79 #[rv a1, rv a2, iv 1, iv 3, iv 1, iv B3, iv 2, iv 3, iv 3] [(.ref a1), (.ref a1), (.ref t)])) rfl rfl (hb hby d5_79)
  refine own_st st8 ?_
  show own_Fin _ _ _ _ _ _ _ (T8.setTop (mkF m 82 #[rv a1, rv a2, iv 1, iv 3, iv 1, iv B3, iv 2, iv 3, iv 3] [(.int (cn + (1 : Int32))), (.ref a1), (.ref t)]))
  refine own_st (fun t k => XS.dupX1 X8.here hx rfl (hb hby d5_82) rfl rfl rfl k) ?_
  refine own_st (fun t k => XS.iconst X8.here hx rfl (hb hby d5_83) k) ?_
  refine own_st (fun t k => XS.iadd X8.here hx rfl (hb hby d5_84) rfl k) ?_
  show own_Fin _ _ _ _ _ _ _ (T8.setTop (mkF m 85 #[rv a1, rv a2, iv 1, iv 3, iv 1, iv B3, iv 2, iv 3, iv 3] [(.int ((cn + (1 : Int32)) + (1 : Int32))), (.ref a1), (.int (cn + (1 : Int32))), (.ref t)]))
  obtain ⟨T9, h9, X9, e9, W9, st9⟩ := putF X8 hx hZ hown (host := "") (Or.inl (hw _ (List.mem_of_getElem? (i := 29) rfl))) Via.refl e8 f6_3 f6_0 (Or.inl (hw _ (List.mem_of_getElem? (i := 30) rfl))) (hw _ (List.mem_of_getElem? (i := 10) rfl)) (ty := .int) (by decide) rfl rfl (g := (mkF m 85 #[rv a1, rv a2, iv 1, iv 3, iv 1, iv B3, iv 2, iv 3, iv 3] [(.int ((cn + (1 : Int32)) + (1 : Int32))), (.ref a1), (.int (cn + (1 : Int32))), (.ref t)])) rfl rfl (hb hby d5_85)
  have f9_0 := f6_0.wr W9
  have f9_1 := f6_1.other W9 (Or.inr (slot_ne (Or.inr (hw _ (List.mem_of_getElem? (i := 23) rfl))) (Or.inl (hw _ (List.mem_of_getElem? (i := 30) rfl))) (by decide) (t := (.array .int)) (t' := .int) (by decide) (by decide)))
  have f9_2 := f6_2.other W9 nac
  have f9_3 := V6.other W9 (Ne.symm nat)
  have Fw9 : Fld Z h9 a1 "com/example/quietzone/quietzone/datamatrix/CodewordWriter" "count" "I" (.int ((cn + (1 : Int32)) + (1 : Int32))) := f6_3.same W9
  have N9 := Fr.snoc X9 N6 gi
  have Z9 : n0 ≤ h9.size := Nat.le_trans Z6 (Keep.of_wr W9).1
  have K9 : Keep h0 h9 [a1, t] := K6.wr W9 (Or.inl (List.mem_of_getElem? (i := 0) rfl))
  refine own_st st9 ?_
  refine own_st (fun t k => XS.iload X9.here hx rfl (hb hby d5_88) rfl k) ?_
  refine own_st (fun t k => XS.iload X9.here hx rfl (hb hby d5_90) rfl k) ?_
  show own_Fin _ _ _ _ _ _ _ (T9.setTop (mkF m 92 #[rv a1, rv a2, iv 1, iv 3, iv 1, iv B3, iv 2, iv 3, iv 3] [(.int (2 : Int32)), (.int B3), (.int (cn + (1 : Int32))), (.ref t)]))
  refine own_st (fun t k => XS.ishr X9.here hx rfl (hb hby d5_92) rfl k) ?_
  refine own_st (fun t k => XS.sipush X9.here hx rfl (hb hby d5_93) k) ?_
  refine own_st (fun t k => XS.iand X9.here hx rfl (hb hby d5_96) rfl k) ?_
  show own_Fin _ _ _ _ _ _ _ (T9.setTop (mkF m 97 #[rv a1, rv a2, iv 1, iv 3, iv 1, iv B3, iv 2, iv 3, iv 3] [(.int ((B3 >>> ((2 : Int32) &&& 31)) &&& (255 : Int32))), (.int (cn + (1 : Int32))), (.ref t)]))
  obtain ⟨cl10, Ar10, Cq10, Sz10, Mn10, Hs10, Gf10⟩ := id f9_3
  obtain ⟨T10, h10, X10, e10, W10, st10⟩ := stI X9 hx hZ e9 Ar10 (j := (cn + (1 : Int32))) (inb_of Sz10 (own_cn hcn hlen).2.1) (g := (mkF m 97 #[rv a1, rv a2, iv 1, iv 3, iv 1, iv B3, iv 2, iv 3, iv 3] [(.int ((B3 >>> ((2 : Int32) &&& 31)) &&& (255 : Int32))), (.int (cn + (1 : Int32))), (.ref t)])) rfl rfl (hb hby d5_97)
  have f10_0 := f9_0.wr W10
  have f10_1 := f9_1.other W10 (Or.inl nat)
  have f10_2 := f9_2.other W10 nct
  have f10_3 := Fw9.other W10 (Or.inl nat)
  have V10 : Arv Z h10 t kt .int (8 : Int32) ((vs.set (cn).toNatClampNeg (.int ((B2 >>> ((4 : Int32) &&& 31)) &&& (255 : Int32)))).set ((cn + (1 : Int32))).toNatClampNeg (.int ((B3 >>> ((2 : Int32) &&& 31)) &&& (255 : Int32)))) (.int (0 : Int32)) := Arv.set Ar10 Cq10 Sz10 Mn10 Hs10 Gf10 rfl W10 ((cn + (1 : Int32))).toNatClampNeg rfl (by simp only [List.length_set]; exact (own_cn hcn hlen).2.2.2.2.2.1)
  have N10 := Fr.snoc X10 N9 gt
  have Z10 : n0 ≤ h10.size := Nat.le_trans Z9 (Keep.of_wr W10).1
  have K10 : Keep h0 h10 [a1, t] := K9.wr W10 (Or.inl (List.mem_of_getElem? (i := 1) rfl))
  refine own_st st10 ?_
  refine own_st (fun t k => XS.goto X10.here hx rfl (pc0 := 98) (pc' := 63) rfl (hb hby d5_98) (by decide) (by decide) k) ?_
  refine own_st (fun t k => XS.iload X10.here hx rfl (hb hby d5_63) rfl k) ?_
  show own_Fin _ _ _ _ _ _ _ (T10.setTop (mkF m 65 #[rv a1, rv a2, iv 1, iv 3, iv 1, iv B3, iv 2, iv 3, iv 3] [(.int (2 : Int32))]))
  refine own_st (fun t k => XS.bipush X10.here hx rfl (hb hby d5_65) k) ?_
  show own_Fin _ _ _ _ _ _ _ (T10.setTop (mkF m 67 #[rv a1, rv a2, iv 1, iv 3, iv 1, iv B3, iv 2, iv 3, iv 3] [(.int (8 : Int32)), (.int (2 : Int32))]))
  refine own_st (fun t k => XS.icmpYes X10.here hx rfl (pc0 := 67) (pc' := 101) rfl (hb hby d5_67) rfl (tlt (by decide : (2 : Int32) < (8 : Int32))).1 (by decide) (by decide) k) ?_
  show own_Fin _ _ _ _ _ _ _ (T10.setTop (mkF m 101 #[rv a1, rv a2, iv 1, iv 3, iv 1, iv B3, iv 2, iv 3, iv 3] []))
  refine own_st (fun t k => XS.iinc X10.here hx rfl (hb hby d5_101) rfl (l' := #[rv a1, rv a2, iv 1, iv 3, iv 1, iv B3, iv 2, iv 3, iv 4]) rfl k) ?_
  refine own_st (fun t k => XS.goto X10.here hx rfl (pc0 := 104) (pc' := 25) rfl (hb hby d5_104) (by decide) (by decide) k) ?_
  refine own_st (fun t k => XS.iload X10.here hx rfl (hb hby d5_25) rfl k) ?_
  show own_Fin _ _ _ _ _ _ _ (T10.setTop (mkF m 27 #[rv a1, rv a2, iv 1, iv 3, iv 1, iv B3, iv 2, iv 3, iv 4] [(.int (4 : Int32))]))
  refine own_st (fun t k => XS.iloadN X10.here hx rfl (hb hby d5_27) rfl k) ?_
  refine own_st (fun t k => XS.iload X10.here hx rfl (hb hby d5_28) rfl k) ?_
  refine own_st (fun t k => XS.iadd X10.here hx rfl (hb hby d5_30) rfl k) ?_
  show own_Fin _ _ _ _ _ _ _ (T10.setTop (mkF m 31 #[rv a1, rv a2, iv 1, iv 3, iv 1, iv B3, iv 2, iv 3, iv 4] [(.int (4 : Int32)), (.int (4 : Int32))]))
  refine own_st (fun t k => XS.icmpYes X10.here hx rfl (pc0 := 31) (pc' := 107) rfl (hb hby d5_31) rfl (flt (by decide : ¬ ((4 : Int32) < (4 : Int32)))).2.1 (by decide) (by decide) k) ?_
  refine own_st (fun t k => XS.iload X10.here hx rfl (hb hby d5_107) rfl k) ?_
  show own_Fin _ _ _ _ _ _ _ (T10.setTop (mkF m 109 #[rv a1, rv a2, iv 1, iv 3, iv 1, iv B3, iv 2, iv 3, iv 4] [(.int (2 : Int32))]))
  refine own_st (fun t k => XS.ifNo X10.here hx rfl (hb hby d5_109) rfl ((if0 _ _).trans (tlt (by decide : (0 : Int32) < (2 : Int32))).2.2.2) k) ?_
  refine own_st (fun t k => XS.aloadN X10.here hx rfl (hb hby d5_112) rfl rfl k) ?_
  show own_Fin _ _ _ _ _ _ _ (T10.setTop (mkF m 113 #[rv a1, rv a2, iv 1, iv 3, iv 1, iv B3, iv 2, iv 3, iv 4] [(.ref a1)]))
  obtain ⟨T11, X11, e11, st11⟩ := getF X10 hx hZ hown (host := "") (Or.inl (hw _ (List.mem_of_getElem? (i := 22) rfl))) Via.refl e10 f10_1 (g := (mkF m 113 #[rv a1, rv a2, iv 1, iv 3, iv 1, iv B3, iv 2, iv 3, iv 4] [(.ref a1)])) rfl rfl (hb hby d5_113)
  refine own_st st11 ?_
  refine own_st (fun t k => XS.aloadN X11.here hx rfl (hb hby d5_116) rfl rfl k) ?_
  refine own_st (fun t k => XS.dup X11.here hx rfl (hb hby d5_117) rfl rfl k) ?_
  show own_Fin _ _ _ _ _ _ _ (T11.setTop (mkF m 118 #[rv a1, rv a2, iv 1, iv 3, iv 1, iv B3, iv 2, iv 3, iv 4] [(.ref a1), (.ref a1), (.ref t)]))
  obtain ⟨T12, X12, e12, st12⟩ := getF X11 hx hZ hown (host := "") (Or.inl (hw _ (List.mem_of_getElem? (i := 29) rfl))) Via.refl e11 f10_3 (g := (mkF m 118 #[rv a1, rv a2, iv 1, iv 3, iv 1, iv B3, iv 2, iv 3, iv 4] [(.ref a1), (.ref a1), (.ref t)])) rfl rfl (hb hby d5_118)
  refine own_st st12 ?_
  show own_Fin _ _ _ _ _ _ _ (T12.setTop (mkF m 121 #[rv a1, rv a2, iv 1, iv 3, iv 1, iv B3, iv 2, iv 3, iv 4] [(.int ((cn + (1 : Int32)) + (1 : Int32))), (.ref a1), (.ref t)]))
  refine own_st (fun t k => XS.dupX1 X12.here hx rfl (hb hby d5_121) rfl rfl rfl k) ?_
  refine own_st (fun t k => XS.iconst X12.here hx rfl (hb hby d5_122) k) ?_
  refine own_st (fun t k => XS.iadd X12.here hx rfl (hb hby d5_123) rfl k) ?_
  show own_Fin _ _ _ _ _ _ _ (T12.setTop (mkF m 124 #[rv a1, rv a2, iv 1, iv 3, iv 1, iv B3, iv 2, iv 3, iv 4] [(.int (((cn + (1 : Int32)) + (1 : Int32)) + (1 : Int32))), (.ref a1), (.int ((cn + (1 : Int32)) + (1 : Int32))), (.ref t)]))
  obtain ⟨T13, h13, X13, e13, W13, st13⟩ := putF X12 hx hZ hown (host := "") (Or.inl (hw _ (List.mem_of_getElem? (i := 29) rfl))) Via.refl e12 f10_3 f10_0 (Or.inl (hw _ (List.mem_of_getElem? (i := 30) rfl))) (hw _ (List.mem_of_getElem? (i := 10) rfl)) (ty := .int) (by decide) rfl rfl (g := (mkF m 124 #[rv a1, rv a2, iv 1, iv 3, iv 1, iv B3, iv 2, iv 3, iv 4] [(.int (((cn + (1 : Int32)) + (1 : Int32)) + (1 : Int32))), (.ref a1), (.int ((cn + (1 : Int32)) + (1 : Int32))), (.ref t)])) rfl rfl (hb hby d5_124)
  have f13_0 := f10_0.wr W13
  have f13_1 := f10_1.other W13 (Or.inr (slot_ne (Or.inr (hw _ (List.mem_of_getElem? (i := 23) rfl))) (Or.inl (hw _ (List.mem_of_getElem? (i := 30) rfl))) (by decide) (t := (.array .int)) (t' := .int) (by decide) (by decide)))
  have f13_2 := f10_2.other W13 nac
  have f13_3 := V10.other W13 (Ne.symm nat)
  have Fw13 : Fld Z h13 a1 "com/example/quietzone/quietzone/datamatrix/CodewordWriter" "count" "I" (.int (((cn + (1 : Int32)) + (1 : Int32)) + (1 : Int32))) := f10_3.same W13
  have N13 := Fr.snoc X13 N10 gi
  have Z13 : n0 ≤ h13.size := Nat.le_trans Z10 (Keep.of_wr W13).1
  have K13 : Keep h0 h13 [a1, t] := K10.wr W13 (Or.inl (List.mem_of_getElem? (i := 0) rfl))
  refine own_st st13 ?_
  refine own_st (fun t k => XS.iload X13.here hx rfl (hb hby d5_127) rfl k) ?_
  refine own_st (fun t k => XS.bipush X13.here hx rfl (hb hby d5_129) k) ?_
  show own_Fin _ _ _ _ _ _ _ (T13.setTop (mkF m 131 #[rv a1, rv a2, iv 1, iv 3, iv 1, iv B3, iv 2, iv 3, iv 4] [(.int (8 : Int32)), (.int B3), (.int ((cn + (1 : Int32)) + (1 : Int32))), (.ref t)]))
  refine own_st (fun t k => XS.iload X13.here hx rfl (hb hby d5_131) rfl k) ?_
  refine own_st (fun t k => XS.isub X13.here hx rfl (hb hby d5_133) rfl k) ?_
  show own_Fin _ _ _ _ _ _ _ (T13.setTop (mkF m 134 #[rv a1, rv a2, iv 1, iv 3, iv 1, iv B3, iv 2, iv 3, iv 4] [(.int (6 : Int32)), (.int B3), (.int ((cn + (1 : Int32)) + (1 : Int32))), (.ref t)]))
  refine own_st (fun t k => XS.ishl X13.here hx rfl (hb hby d5_134) rfl k) ?_
  refine own_st (fun t k => XS.sipush X13.here hx rfl (hb hby d5_135) k) ?_
  refine own_st (fun t k => XS.iand X13.here hx rfl (hb hby d5_138) rfl k) ?_
  show own_Fin _ _ _ _ _ _ _ (T13.setTop (mkF m 139 #[rv a1, rv a2, iv 1, iv 3, iv 1, iv B3, iv 2, iv 3, iv 4] [(.int ((B3 <<< ((6 : Int32) &&& 31)) &&& (255 : Int32))), (.int ((cn + (1 : Int32)) + (1 : Int32))), (.ref t)]))
  obtain ⟨cl14, Ar14, Cq14, Sz14, Mn14, Hs14, Gf14⟩ := id f13_3
  obtain ⟨T14, h14, X14, e14, W14, st14⟩ := stI X13 hx hZ e13 Ar14 (j := ((cn + (1 : Int32)) + (1 : Int32))) (inb_of Sz14 (own_cn hcn hlen).2.2.1) (g := (mkF m 139 #[rv a1, rv a2, iv 1, iv 3, iv 1, iv B3, iv 2, iv 3, iv 4] [(.int ((B3 <<< ((6 : Int32) &&& 31)) &&& (255 : Int32))), (.int ((cn + (1 : Int32)) + (1 : Int32))), (.ref t)])) rfl rfl (hb hby d5_139)
  have f14_0 := f13_0.wr W14
  have f14_1 := f13_1.other W14 (Or.inl nat)
  have f14_2 := f13_2.other W14 nct
  have f14_3 := Fw13.other W14 (Or.inl nat)
  have V14 : Arv Z h14 t kt .int (8 : Int32) (((vs.set (cn).toNatClampNeg (.int ((B2 >>> ((4 : Int32) &&& 31)) &&& (255 : Int32)))).set ((cn + (1 : Int32))).toNatClampNeg (.int ((B3 >>> ((2 : Int32) &&& 31)) &&& (255 : Int32)))).set (((cn + (1 : Int32)) + (1 : Int32))).toNatClampNeg (.int ((B3 <<< ((6 : Int32) &&& 31)) &&& (255 : Int32)))) (.int (0 : Int32)) := Arv.set Ar14 Cq14 Sz14 Mn14 Hs14 Gf14 rfl W14 (((cn + (1 : Int32)) + (1 : Int32))).toNatClampNeg rfl (by simp only [List.length_set]; exact (own_cn hcn hlen).2.2.2.2.2.2.1)
  have N14 := Fr.snoc X14 N13 gt
  have Z14 : n0 ≤ h14.size := Nat.le_trans Z13 (Keep.of_wr W14).1
  have K14 : Keep h0 h14 [a1, t] := K13.wr W14 (Or.inl (List.mem_of_getElem? (i := 1) rfl))
  refine own_st st14 ?_
  show own_Fin _ _ _ _ _ _ _ (T14.setTop (mkF m 140 #[rv a1, rv a2, iv 1, iv 3, iv 1, iv B3, iv 2, iv 3, iv 4] []))
  have x0 : 0 ≤ ((w0 &&& (63 : Int32))).toInt ∧ ((w0 &&& (63 : Int32))).toInt < 64 := own_x63 _
  have b1 := own_b1 hB1 x0
  have x1 : 0 ≤ ((w1 &&& (63 : Int32))).toInt ∧ ((w1 &&& (63 : Int32))).toInt < 64 := own_x63 _
  have b2 := own_bS hB2 b1 (by omega) x1
  have x2 : 0 ≤ ((31 : Int32)).toInt ∧ ((31 : Int32)).toInt < 64 := by decide
  have b3 := own_bS hB3 b2 (by omega) x2
  have hks : own_ks 2 1 w0 w1 w2 w3 = [((B2 >>> ((4 : Int32) &&& 31)) &&& (255 : Int32)), ((B3 >>> ((2 : Int32) &&& 31)) &&& (255 : Int32)), ((B3 <<< ((6 : Int32) &&& 31)) &&& (255 : Int32))] := by
    rw [own_ks_21, own_six_mask hw0, own_six_mask hw1]
    rw [(own_o0 b2 x0 x1), (own_o1 b3 x0 x1 x2), (own_f3 b3 x0 x1 x2)]
  exact own_retV X14 hx Bd.notSynchronized Bd.returns (hb hby d5_140) (by decide) (by decide) (by rw [e14]; unfold own_Q_rmE_1_2_1; rw [hks]; exact ⟨rfl, N14, K14, f14_0, f14_1, f14_3, V14⟩)
def own_Q_rmE_1_3_1 (Z : State)  (a1 a2 : Addr) (t : Addr) (kt : ClassId) (vs : List Value) (cn : Int32) (kc : ClassId) (vc : List Value) (w0 w1 w2 w3 : Int32) (h0 : Heap) (n0 : Nat) (v : Option Value) (h : Heap) (L : List Loc) : Prop := v = none ∧ Fr n0 L ∧ Keep h0 h [a1, t] ∧ Exa Z h a1 "com/example/quietzone/quietzone/datamatrix/CodewordWriter" ∧ Fld Z h a1 "com/example/quietzone/quietzone/datamatrix/CodewordWriter" "codewords" "[I" (.ref t) ∧ Fld Z h a1 "com/example/quietzone/quietzone/datamatrix/CodewordWriter" "count" "I" (.int (own_cnt cn (own_ks 3 1 w0 w1 w2 w3))) ∧ Arv Z h t kt .int (8 : Int32) (own_app vs cn (own_ks 3 1 w0 w1 w2 w3)) (.int (0 : Int32))
set_option maxRecDepth 65536 in
set_option maxHeartbeats 40000000 in
theorem rmE_1_3_1 (l : Launch) (Z : State) (a0 : Array Value) (hw : ∀ d ∈ tables_1, d.before a0 Z = true) (ws : List Jvm.Cond)  (a1 a2 : Addr) (t : Addr) (kt : ClassId) (vs : List Value) (cn : Int32) (kc : ClassId) (vc : List Value) (w0 w1 w2 w3 : Int32) (h0 : Heap) (n0 : Nat) (Z0 : n0 ≤ h0.size) (Ei : Exa Z h0 a1 "com/example/quietzone/quietzone/datamatrix/CodewordWriter") (Fw : Fld Z h0 a1 "com/example/quietzone/quietzone/datamatrix/CodewordWriter" "codewords" "[I" (.ref t)) (Fc : Fld Z h0 a1 "com/example/quietzone/quietzone/datamatrix/CodewordWriter" "count" "I" (.int cn)) (Vt : Arv Z h0 t kt .int (8 : Int32) vs (.int (0 : Int32))) (gi : n0 ≤ a1) (gt : n0 ≤ t) (nat : a1 ≠ t) (Vc : Arv Z h0 a2 kc .int (5 : Int32) vc (.int (0 : Int32))) (nac : a2 ≠ a1) (nct : a2 ≠ t) (hcn : cn = (0 : Int32) ∨ cn = (1 : Int32)) (hlen : vs.length = 8) (hat0 : vc.getD (1 : Int32).toNatClampNeg (.int (0 : Int32)) = .int w0) (hw0 : 32 ≤ w0.toInt ∧ w0.toInt ≤ 94) (hat1 : vc.getD (2 : Int32).toNatClampNeg (.int (0 : Int32)) = .int w1) (hw1 : 32 ≤ w1.toInt ∧ w1.toInt ≤ 94) (hat2 : vc.getD (3 : Int32).toNatClampNeg (.int (0 : Int32)) = .int w2) (hw2 : 32 ≤ w2.toInt ∧ w2.toInt ≤ 94) :
    MetFree l (⟨"com/example/quietzone/quietzone/datamatrix/CodewordWriter", "edifact", "([IIIZ)V"⟩ : MethodName) (head1 (Jvm.Cond.code (⟨"com/example/quietzone/quietzone/datamatrix/CodewordWriter", "edifact", "([IIIZ)V"⟩ : MethodName) prog_34_method_9_code 9 none :: ws) ({ frames := 0, cells := 0, slots := 0, locals := 0 } : Room)) (fun a U => a = #[(.ref a1), (.ref a2), (.int (1 : Int32)), (.int (4 : Int32)), (.int (1 : Int32))] ∧ Z.Warmed39 U.vm ∧ U.heap = h0) (fun _ _ _ _ _ => True) (fun _ U o U' => ∃ v L, o = .returned v ∧ own_Q_rmE_1_3_1 Z a1 a2 t kt vs cn kc vc w0 w1 w2 w3 h0 n0 v U'.heap L ∧ FrameEnd U o U' L ({ frames := 0, cells := 0, slots := 0, locals := 0 } : Room).cells ({ frames := 0, cells := 0, slots := 0, locals := 0 } : Room).slots) := by
  refine MetFree.of_bodySF pn_5 hisR ?_
  intro p e s m args below meth c s₁ Bd hml0 hP hK
  obtain ⟨rfl, hZ, hh⟩ := hP
  have hx := Bd.exec
  have hby := Bd.bytes
  have hml : c.maxLocals = 9 := hml0
  have hown : s.vm.findClass "com/example/quietzone/quietzone/datamatrix/CodewordWriter" = some m.cls := findClass_of_methodNamed Bd.named
  have hnm := (name_of_methodNamed Bd.named Bd.method).1
  have X0 : Stand p l e ({ frames := 0, cells := 0, slots := 0, locals := 0 } : Room) s m #[(.ref a1), (.ref a2), (.int (1 : Int32)), (.int (4 : Int32)), (.int (1 : Int32))] below meth c s₁ [] 0 0 := Stand.of_body Bd
  have e0 : s₁.heap = h0 := by rw [← hh, Bd.state]; rfl
  have N0 := Fr.nil n0
  have KR : Keep h0 h0 [a1, t] := Keep.refl h0 [a1, t]
  show own_Fin p.tables e below s (({ frames := 0, cells := 0, slots := 0, locals := 0 } : Room).cells) (({ frames := 0, cells := 0, slots := 0, locals := 0 } : Room).slots) (own_Q_rmE_1_3_1 Z a1 a2 t kt vs cn kc vc w0 w1 w2 w3 h0 n0) (s₁.setTop (entryFrame m #[(.ref a1), (.ref a2), (.int (1 : Int32)), (.int (4 : Int32)), (.int (1 : Int32))] 9))
  rw [ef_5 m a1 a2 (1 : Int32) (4 : Int32) (1 : Int32)]
  refine own_st (fun t k => XS.iconst X0.here hx rfl (hb hby d5_0) k) ?_
  refine own_st (fun t k => XS.istore X0.here hx rfl (hb hby d5_1) rfl (l' := #[rv a1, rv a2, iv 1, iv 4, iv 1, iv 0, .unset, .unset, .unset]) rfl k) ?_
  show own_Fin _ _ _ _ _ _ _ (s₁.setTop (mkF m 3 #[rv a1, rv a2, iv 1, iv 4, iv 1, iv 0, .unset, .unset, .unset] []))
  refine own_st (fun t k => XS.iconst X0.here hx rfl (hb hby d5_3) k) ?_
  refine own_st (fun t k => XS.istore X0.here hx rfl (hb hby d5_4) rfl (l' := #[rv a1, rv a2, iv 1, iv 4, iv 1, iv 0, iv 0, .unset, .unset]) rfl k) ?_
  refine own_st (fun t k => XS.iloadN X0.here hx rfl (hb hby d5_6) rfl k) ?_
  show own_Fin _ _ _ _ _ _ _ (s₁.setTop (mkF m 7 #[rv a1, rv a2, iv 1, iv 4, iv 1, iv 0, iv 0, .unset, .unset] [(.int (4 : Int32))]))
  refine own_st (fun t k => XS.iloadN X0.here hx rfl (hb hby d5_7) rfl k) ?_
  refine own_st (fun t k => XS.isub X0.here hx rfl (hb hby d5_8) rfl k) ?_
  refine own_st (fun t k => XS.iload X0.here hx rfl (hb hby d5_9) rfl k) ?_
  show own_Fin _ _ _ _ _ _ _ (s₁.setTop (mkF m 11 #[rv a1, rv a2, iv 1, iv 4, iv 1, iv 0, iv 0, .unset, .unset] [(.int (1 : Int32)), (.int (3 : Int32))]))
  refine own_st (fun t k => XS.ifNo X0.here hx rfl (hb hby d5_11) rfl ((if0 _ _).trans (feq (by decide : ¬ ((1 : Int32) = (0 : Int32)))).1) k) ?_
  refine own_st (fun t k => XS.iconst X0.here hx rfl (hb hby d5_14) k) ?_
  refine own_st (fun t k => XS.goto X0.here hx rfl (pc0 := 15) (pc' := 19) rfl (hb hby d5_15) (by decide) (by decide) k) ?_
  show own_Fin _ _ _ _ _ _ _ (s₁.setTop (mkF m 19 #[rv a1, rv a2, iv 1, iv 4, iv 1, iv 0, iv 0, .unset, .unset] [(.int (1 : Int32)), (.int (3 : Int32))]))
  refine own_st (fun t k => XS.iadd X0.here hx rfl (hb hby d5_19) rfl k) ?_
  refine own_st (fun t k => XS.istore X0.here hx rfl (hb hby d5_20) rfl (l' := #[rv a1, rv a2, iv 1, iv 4, iv 1, iv 0, iv 0, iv 4, .unset]) rfl k) ?_
  refine own_st (fun t k => XS.iloadN X0.here hx rfl (hb hby d5_22) rfl k) ?_
  show own_Fin _ _ _ _ _ _ _ (s₁.setTop (mkF m 23 #[rv a1, rv a2, iv 1, iv 4, iv 1, iv 0, iv 0, iv 4, .unset] [(.int (1 : Int32))]))
  refine own_st (fun t k => XS.istore X0.here hx rfl (hb hby d5_23) rfl (l' := #[rv a1, rv a2, iv 1, iv 4, iv 1, iv 0, iv 0, iv 4, iv 1]) rfl k) ?_
  refine own_st (fun t k => XS.iload X0.here hx rfl (hb hby d5_25) rfl k) ?_
  refine own_st (fun t k => XS.iloadN X0.here hx rfl (hb hby d5_27) rfl k) ?_
  show own_Fin _ _ _ _ _ _ _ (s₁.setTop (mkF m 28 #[rv a1, rv a2, iv 1, iv 4, iv 1, iv 0, iv 0, iv 4, iv 1] [(.int (1 : Int32)), (.int (1 : Int32))]))
  refine own_st (fun t k => XS.iload X0.here hx rfl (hb hby d5_28) rfl k) ?_
  refine own_st (fun t k => XS.iadd X0.here hx rfl (hb hby d5_30) rfl k) ?_
  show own_Fin _ _ _ _ _ _ _ (s₁.setTop (mkF m 31 #[rv a1, rv a2, iv 1, iv 4, iv 1, iv 0, iv 0, iv 4, iv 1] [(.int (5 : Int32)), (.int (1 : Int32))]))
  refine own_st (fun t k => XS.icmpNo X0.here hx rfl (hb hby d5_31) rfl (tlt (by decide : (1 : Int32) < (5 : Int32))).2.1 k) ?_
  refine own_st (fun t k => XS.iload X0.here hx rfl (hb hby d5_34) rfl k) ?_
  refine own_st (fun t k => XS.bipush X0.here hx rfl (hb hby d5_36) k) ?_
  show own_Fin _ _ _ _ _ _ _ (s₁.setTop (mkF m 38 #[rv a1, rv a2, iv 1, iv 4, iv 1, iv 0, iv 0, iv 4, iv 1] [(.int (6 : Int32)), (.int (0 : Int32))]))
  refine own_st (fun t k => XS.ishl X0.here hx rfl (hb hby d5_38) rfl k) ?_
  refine own_st (fun t k => XS.iload X0.here hx rfl (hb hby d5_39) rfl k) ?_
  refine own_st (fun t k => XS.iloadN X0.here hx rfl (hb hby d5_41) rfl k) ?_
  show own_Fin _ _ _ _ _ _ _ (s₁.setTop (mkF m 42 #[rv a1, rv a2, iv 1, iv 4, iv 1, iv 0, iv 0, iv 4, iv 1] [(.int (4 : Int32)), (.int (1 : Int32)), (.int ((0 : Int32) <<< ((6 : Int32) &&& 31)))]))
  refine own_st (fun t k => XS.icmpNo X0.here hx rfl (hb hby d5_42) rfl (tlt (by decide : (1 : Int32) < (4 : Int32))).2.1 k) ?_
  refine own_st (fun t k => XS.aloadN X0.here hx rfl (hb hby d5_45) rfl rfl k) ?_
  refine own_st (fun t k => XS.iload X0.here hx rfl (hb hby d5_46) rfl k) ?_
  show own_Fin _ _ _ _ _ _ _ (s₁.setTop (mkF m 48 #[rv a1, rv a2, iv 1, iv 4, iv 1, iv 0, iv 0, iv 4, iv 1] [(.int (1 : Int32)), (.ref a2), (.int ((0 : Int32) <<< ((6 : Int32) &&& 31)))]))
  obtain ⟨cl1, Ar1, Cq1, Sz1, Mn1, Hs1, Gf1⟩ := id Vc
  have hin1 := inb_of Sz1 (j := (1 : Int32)) ⟨by decide, by decide⟩
  refine own_st (X0.iaload hx (j := (1 : Int32)) (v := (.int w0)) (by rw [e0]; exact Ar1.1) (State.isArrayOf_alike hZ.alike Ar1.2.1) Ar1.2.2 hin1 (Hs1.at hin1 hat0) (g := (mkF m 48 #[rv a1, rv a2, iv 1, iv 4, iv 1, iv 0, iv 0, iv 4, iv 1] [(.int (1 : Int32)), (.ref a2), (.int ((0 : Int32) <<< ((6 : Int32) &&& 31)))])) rfl rfl (hb hby d5_48)) ?_
  refine own_st (fun t k => XS.bipush X0.here hx rfl (hb hby d5_49) k) ?_
  refine own_st (fun t k => XS.iand X0.here hx rfl (hb hby d5_51) rfl k) ?_
  show own_Fin _ _ _ _ _ _ _ (s₁.setTop (mkF m 52 #[rv a1, rv a2, iv 1, iv 4, iv 1, iv 0, iv 0, iv 4, iv 1] [(.int (w0 &&& (63 : Int32))), (.int ((0 : Int32) <<< ((6 : Int32) &&& 31)))]))
  refine own_st (fun t k => XS.goto X0.here hx rfl (pc0 := 52) (pc' := 57) rfl (hb hby d5_52) (by decide) (by decide) k) ?_
  refine own_st (fun t k => XS.ior X0.here hx rfl (hb hby d5_57) rfl k) ?_
  refine own_st (fun t k => XS.istore X0.here hx rfl (hb hby d5_58) rfl (l' := #[rv a1, rv a2, iv 1, iv 4, iv 1, iv (((0 : Int32) <<< ((6 : Int32) &&& 31)) ||| (w0 &&& (63 : Int32))), iv 0, iv 4, iv 1]) rfl k) ?_
  show own_Fin _ _ _ _ _ _ _ (s₁.setTop (mkF m 60 #[rv a1, rv a2, iv 1, iv 4, iv 1, iv (((0 : Int32) <<< ((6 : Int32) &&& 31)) ||| (w0 &&& (63 : Int32))), iv 0, iv 4, iv 1] []))
  obtain ⟨B1, hB1⟩ : ∃ z, z = (((0 : Int32) <<< ((6 : Int32) &&& 31)) ||| (w0 &&& (63 : Int32))) := ⟨_, rfl⟩
  rw [← hB1]
  refine own_st (fun t k => XS.iinc X0.here hx rfl (hb hby d5_60) rfl (l' := #[rv a1, rv a2, iv 1, iv 4, iv 1, iv B1, iv 6, iv 4, iv 1]) rfl k) ?_
  refine own_st (fun t k => XS.iload X0.here hx rfl (hb hby d5_63) rfl k) ?_
  refine own_st (fun t k => XS.bipush X0.here hx rfl (hb hby d5_65) k) ?_
  show own_Fin _ _ _ _ _ _ _ (s₁.setTop (mkF m 67 #[rv a1, rv a2, iv 1, iv 4, iv 1, iv B1, iv 6, iv 4, iv 1] [(.int (8 : Int32)), (.int (6 : Int32))]))
  refine own_st (fun t k => XS.icmpYes X0.here hx rfl (pc0 := 67) (pc' := 101) rfl (hb hby d5_67) rfl (tlt (by decide : (6 : Int32) < (8 : Int32))).1 (by decide) (by decide) k) ?_
  show own_Fin _ _ _ _ _ _ _ (s₁.setTop (mkF m 101 #[rv a1, rv a2, iv 1, iv 4, iv 1, iv B1, iv 6, iv 4, iv 1] []))
  refine own_st (fun t k => XS.iinc X0.here hx rfl (hb hby d5_101) rfl (l' := #[rv a1, rv a2, iv 1, iv 4, iv 1, iv B1, iv 6, iv 4, iv 2]) rfl k) ?_
  refine own_st (fun t k => XS.goto X0.here hx rfl (pc0 := 104) (pc' := 25) rfl (hb hby d5_104) (by decide) (by decide) k) ?_
  refine own_st (fun t k => XS.iload X0.here hx rfl (hb hby d5_25) rfl k) ?_
  show own_Fin _ _ _ _ _ _ _ (s₁.setTop (mkF m 27 #[rv a1, rv a2, iv 1, iv 4, iv 1, iv B1, iv 6, iv 4, iv 2] [(.int (2 : Int32))]))
  refine own_st (fun t k => XS.iloadN X0.here hx rfl (hb hby d5_27) rfl k) ?_
  refine own_st (fun t k => XS.iload X0.here hx rfl (hb hby d5_28) rfl k) ?_
  refine own_st (fun t k => XS.iadd X0.here hx rfl (hb hby d5_30) rfl k) ?_
  show own_Fin _ _ _ _ _ _ _ (s₁.setTop (mkF m 31 #[rv a1, rv a2, iv 1, iv 4, iv 1, iv B1, iv 6, iv 4, iv 2] [(.int (5 : Int32)), (.int (2 : Int32))]))
  refine own_st (fun t k => XS.icmpNo X0.here hx rfl (hb hby d5_31) rfl (tlt (by decide : (2 : Int32) < (5 : Int32))).2.1 k) ?_
  refine own_st (fun t k => XS.iload X0.here hx rfl (hb hby d5_34) rfl k) ?_
  refine own_st (fun t k => XS.bipush X0.here hx rfl (hb hby d5_36) k) ?_
  show own_Fin _ _ _ _ _ _ _ (s₁.setTop (mkF m 38 #[rv a1, rv a2, iv 1, iv 4, iv 1, iv B1, iv 6, iv 4, iv 2] [(.int (6 : Int32)), (.int B1)]))
  refine own_st (fun t k => XS.ishl X0.here hx rfl (hb hby d5_38) rfl k) ?_
  refine own_st (fun t k => XS.iload X0.here hx rfl (hb hby d5_39) rfl k) ?_
  refine own_st (fun t k => XS.iloadN X0.here hx rfl (hb hby d5_41) rfl k) ?_
  show own_Fin _ _ _ _ _ _ _ (s₁.setTop (mkF m 42 #[rv a1, rv a2, iv 1, iv 4, iv 1, iv B1, iv 6, iv 4, iv 2] [(.int (4 : Int32)), (.int (2 : Int32)), (.int (B1 <<< ((6 : Int32) &&& 31)))]))
  refine own_st (fun t k => XS.icmpNo X0.here hx rfl (hb hby d5_42) rfl (tlt (by decide : (2 : Int32) < (4 : Int32))).2.1 k) ?_
  refine own_st (fun t k => XS.aloadN X0.here hx rfl (hb hby d5_45) rfl rfl k) ?_
  refine own_st (fun t k => XS.iload X0.here hx rfl (hb hby d5_46) rfl k) ?_
  show own_Fin _ _ _ _ _ _ _ (s₁.setTop (mkF m 48 #[rv a1, rv a2, iv 1, iv 4, iv 1, iv B1, iv 6, iv 4, iv 2] [(.int (2 : Int32)), (.ref a2), (.int (B1 <<< ((6 : Int32) &&& 31)))]))
  obtain ⟨cl2, Ar2, Cq2, Sz2, Mn2, Hs2, Gf2⟩ := id Vc
  have hin2 := inb_of Sz2 (j := (2 : Int32)) ⟨by decide, by decide⟩
  refine own_st (X0.iaload hx (j := (2 : Int32)) (v := (.int w1)) (by rw [e0]; exact Ar2.1) (State.isArrayOf_alike hZ.alike Ar2.2.1) Ar2.2.2 hin2 (Hs2.at hin2 hat1) (g := (mkF m 48 #[rv a1, rv a2, iv 1, iv 4, iv 1, iv B1, iv 6, iv 4, iv 2] [(.int (2 : Int32)), (.ref a2), (.int (B1 <<< ((6 : Int32) &&& 31)))])) rfl rfl (hb hby d5_48)) ?_
  refine own_st (fun t k => XS.bipush X0.here hx rfl (hb hby d5_49) k) ?_
  refine own_st (fun t k => XS.iand X0.here hx rfl (hb hby d5_51) rfl k) ?_
  show own_Fin _ _ _ _ _ _ _ (s₁.setTop (mkF m 52 #[rv a1, rv a2, iv 1, iv 4, iv 1, iv B1, iv 6, iv 4, iv 2] [(.int (w1 &&& (63 : Int32))), (.int (B1 <<< ((6 : Int32) &&& 31)))]))
  refine own_st (fun t k => XS.goto X0.here hx rfl (pc0 := 52) (pc' := 57) rfl (hb hby d5_52) (by decide) (by decide) k) ?_
  refine own_st (fun t k => XS.ior X0.here hx rfl (hb hby d5_57) rfl k) ?_
  refine own_st (fun t k => XS.istore X0.here hx rfl (hb hby d5_58) rfl (l' := #[rv a1, rv a2, iv 1, iv 4, iv 1, iv ((B1 <<< ((6 : Int32) &&& 31)) ||| (w1 &&& (63 : Int32))), iv 6, iv 4, iv 2]) rfl k) ?_
  show own_Fin _ _ _ _ _ _ _ (s₁.setTop (mkF m 60 #[rv a1, rv a2, iv 1, iv 4, iv 1, iv ((B1 <<< ((6 : Int32) &&& 31)) ||| (w1 &&& (63 : Int32))), iv 6, iv 4, iv 2] []))
  obtain ⟨B2, hB2⟩ : ∃ z, z = ((B1 <<< ((6 : Int32) &&& 31)) ||| (w1 &&& (63 : Int32))) := ⟨_, rfl⟩
  rw [← hB2]
  refine own_st (fun t k => XS.iinc X0.here hx rfl (hb hby d5_60) rfl (l' := #[rv a1, rv a2, iv 1, iv 4, iv 1, iv B2, iv 12, iv 4, iv 2]) rfl k) ?_
  refine own_st (fun t k => XS.iload X0.here hx rfl (hb hby d5_63) rfl k) ?_
  refine own_st (fun t k => XS.bipush X0.here hx rfl (hb hby d5_65) k) ?_
  show own_Fin _ _ _ _ _ _ _ (s₁.setTop (mkF m 67 #[rv a1, rv a2, iv 1, iv 4, iv 1, iv B2, iv 12, iv 4, iv 2] [(.int (8 : Int32)), (.int (12 : Int32))]))
  refine own_st (fun t k => XS.icmpNo X0.here hx rfl (hb hby d5_67) rfl (flt (by decide : ¬ ((12 : Int32) < (8 : Int32)))).1 k) ?_
  show own_Fin _ _ _ _ _ _ _ (s₁.setTop (mkF m 70 #[rv a1, rv a2, iv 1, iv 4, iv 1, iv B2, iv 12, iv 4, iv 2] []))
  refine own_st (fun t k => XS.iinc X0.here hx rfl (hb hby d5_70) rfl (l' := #[rv a1, rv a2, iv 1, iv 4, iv 1, iv B2, iv 4, iv 4, iv 2]) rfl k) ?_
  refine own_st (fun t k => XS.aloadN X0.here hx rfl (hb hby d5_73) rfl rfl k) ?_
  show own_Fin _ _ _ _ _ _ _ (s₁.setTop (mkF m 74 #[rv a1, rv a2, iv 1, iv 4, iv 1, iv B2, iv 4, iv 4, iv 2] [(.ref a1)]))
  obtain ⟨T3, X3, e3, st3⟩ := getF X0 hx hZ hown (host := "") (Or.inl (hw _ (List.mem_of_getElem? (i := 22) rfl))) Via.refl e0 Fw (g := (mkF m 74 #[rv a1, rv a2, iv 1, iv 4, iv 1, iv B2, iv 4, iv 4, iv 2] [(.ref a1)])) rfl rfl (hb hby d5_74)
  refine own_st st3 ?_
  refine own_st (fun t k => XS.aloadN X3.here hx rfl (hb hby d5_77) rfl rfl k) ?_
  refine own_st (fun t k => XS.dup X3.here hx rfl (hb hby d5_78) rfl rfl k) ?_
  show own_Fin _ _ _ _ _ _ _ (T3.setTop (mkF m 79 #[rv a1, rv a2, iv 1, iv 4, iv 1, iv B2, iv 4, iv 4, iv 2] [(.ref a1), (.ref a1), (.ref t)]))
  obtain ⟨T4, X4, e4, st4⟩ := getF X3 hx hZ hown (host := "") (Or.inl (hw _ (List.mem_of_getElem? (i := 29) rfl))) Via.refl e3 Fc (g := (mkF m 79 #[rv a1, rv a2, iv 1, iv 4, iv 1, iv B2, iv 4, iv 4, iv 2] [(.ref a1), (.ref a1), (.ref t)])) rfl rfl (hb hby d5_79)
  refine own_st st4 ?_
  show own_Fin _ _ _ _ _ _ _ (T4.setTop (mkF m 82 #[rv a1, rv a2, iv 1, iv 4, iv 1, iv B2, iv 4, iv 4, iv 2] [(.int cn), (.ref a1), (.ref t)]))
  refine own_st (fun t k => XS.dupX1 X4.here hx rfl (hb hby d5_82) rfl rfl rfl k) ?_
  refine own_st (fun t k => XS.iconst X4.here hx rfl (hb hby d5_83) k) ?_
  refine own_st (fun t k => XS.iadd X4.here hx rfl (hb hby d5_84) rfl k) ?_
  show own_Fin _ _ _ _ _ _ _ (T4.setTop (mkF m 85 #[rv a1, rv a2, iv 1, iv 4, iv 1, iv B2, iv 4, iv 4, iv 2] [(.int (cn + (1 : Int32))), (.ref a1), (.int cn), (.ref t)]))
  obtain ⟨T5, h5, X5, e5, W5, st5⟩ := putF X4 hx hZ hown (host := "") (Or.inl (hw _ (List.mem_of_getElem? (i := 29) rfl))) Via.refl e4 Fc Ei (Or.inl (hw _ (List.mem_of_getElem? (i := 30) rfl))) (hw _ (List.mem_of_getElem? (i := 10) rfl)) (ty := .int) (by decide) rfl rfl (g := (mkF m 85 #[rv a1, rv a2, iv 1, iv 4, iv 1, iv B2, iv 4, iv 4, iv 2] [(.int (cn + (1 : Int32))), (.ref a1), (.int cn), (.ref t)])) rfl rfl (hb hby d5_85)
  have f5_0 := Ei.wr W5
  have f5_1 := Fw.other W5 (Or.inr (slot_ne (Or.inr (hw _ (List.mem_of_getElem? (i := 23) rfl))) (Or.inl (hw _ (List.mem_of_getElem? (i := 30) rfl))) (by decide) (t := (.array .int)) (t' := .int) (by decide) (by decide)))
  have f5_2 := Vt.other W5 (Ne.symm nat)
  have f5_3 := Vc.other W5 nac
  have Fw5 : Fld Z h5 a1 "com/example/quietzone/quietzone/datamatrix/CodewordWriter" "count" "I" (.int (cn + (1 : Int32))) := Fc.same W5
  have N5 := Fr.snoc X5 N0 gi
  have Z5 : n0 ≤ h5.size := Nat.le_trans Z0 (Keep.of_wr W5).1
  have K5 : Keep h0 h5 [a1, t] := KR.wr W5 (Or.inl (List.mem_of_getElem? (i := 0) rfl))
  refine own_st st5 ?_
  refine own_st (fun t k => XS.iload X5.here hx rfl (hb hby d5_88) rfl k) ?_
  refine own_st (fun t k => XS.iload X5.here hx rfl (hb hby d5_90) rfl k) ?_
  show own_Fin _ _ _ _ _ _ _ (T5.setTop (mkF m 92 #[rv a1, rv a2, iv 1, iv 4, iv 1, iv B2, iv 4, iv 4, iv 2] [(.int (4 : Int32)), (.int B2), (.int cn), (.ref t)]))
  refine own_st (fun t k => XS.ishr X5.here hx rfl (hb hby d5_92) rfl k) ?_
  refine own_st (fun t k => XS.sipush X5.here hx rfl (hb hby d5_93) k) ?_
  refine own_st (fun t k => XS.iand X5.here hx rfl (hb hby d5_96) rfl k) ?_
  show own_Fin _ _ _ _ _ _ _ (T5.setTop (mkF m 97 #[rv a1, rv a2, iv 1, iv 4, iv 1, iv B2, iv 4, iv 4, iv 2] [(.int ((B2 >>> ((4 : Int32) &&& 31)) &&& (255 : Int32))), (.int cn), (.ref t)]))
  obtain ⟨cl6, Ar6, Cq6, Sz6, Mn6, Hs6, Gf6⟩ := id f5_2
  obtain ⟨T6, h6, X6, e6, W6, st6⟩ := stI X5 hx hZ e5 Ar6 (j := cn) (inb_of Sz6 (own_cn hcn hlen).1) (g := (mkF m 97 #[rv a1, rv a2, iv 1, iv 4, iv 1, iv B2, iv 4, iv 4, iv 2] [(.int ((B2 >>> ((4 : Int32) &&& 31)) &&& (255 : Int32))), (.int cn), (.ref t)])) rfl rfl (hb hby d5_97)
  have f6_0 := f5_0.wr W6
  have f6_1 := f5_1.other W6 (Or.inl nat)
  have f6_2 := f5_3.other W6 nct
  have f6_3 := Fw5.other W6 (Or.inl nat)
  have V6 : Arv Z h6 t kt .int (8 : Int32) (vs.set (cn).toNatClampNeg (.int ((B2 >>> ((4 : Int32) &&& 31)) &&& (255 : Int32)))) (.int (0 : Int32)) := Arv.set Ar6 Cq6 Sz6 Mn6 Hs6 Gf6 rfl W6 (cn).toNatClampNeg rfl (own_cn hcn hlen).2.2.2.2.1
  have N6 := Fr.snoc X6 N5 gt
  have Z6 : n0 ≤ h6.size := Nat.le_trans Z5 (Keep.of_wr W6).1
  have K6 : Keep h0 h6 [a1, t] := K5.wr W6 (Or.inl (List.mem_of_getElem? (i := 1) rfl))
  refine own_st st6 ?_
  refine own_st (fun t k => XS.goto X6.here hx rfl (pc0 := 98) (pc' := 63) rfl (hb hby d5_98) (by decide) (by decide) k) ?_
  refine own_st (fun t k => XS.iload X6.here hx rfl (hb hby d5_63) rfl k) ?_
  show own_Fin _ _ _ _ _ _ _ (T6.setTop (mkF m 65 #[rv a1, rv a2, iv 1, iv 4, iv 1, iv B2, iv 4, iv 4, iv 2] [(.int (4 : Int32))]))
  refine own_st (fun t k => XS.bipush X6.here hx rfl (hb hby d5_65) k) ?_
  show own_Fin _ _ _ _ _ _ _ (T6.setTop (mkF m 67 #[rv a1, rv a2, iv 1, iv 4, iv 1, iv B2, iv 4, iv 4, iv 2] [(.int (8 : Int32)), (.int (4 : Int32))]))
  refine own_st (fun t k => XS.icmpYes X6.here hx rfl (pc0 := 67) (pc' := 101) rfl (hb hby d5_67) rfl (tlt (by decide : (4 : Int32) < (8 : Int32))).1 (by decide) (by decide) k) ?_
  show own_Fin _ _ _ _ _ _ _ (T6.setTop (mkF m 101 #[rv a1, rv a2, iv 1, iv 4, iv 1, iv B2, iv 4, iv 4, iv 2] []))
  refine own_st (fun t k => XS.iinc X6.here hx rfl (hb hby d5_101) rfl (l' := #[rv a1, rv a2, iv 1, iv 4, iv 1, iv B2, iv 4, iv 4, iv 3]) rfl k) ?_
  refine own_st (fun t k => XS.goto X6.here hx rfl (pc0 := 104) (pc' := 25) rfl (hb hby d5_104) (by decide) (by decide) k) ?_
  refine own_st (fun t k => XS.iload X6.here hx rfl (hb hby d5_25) rfl k) ?_
  show own_Fin _ _ _ _ _ _ _ (T6.setTop (mkF m 27 #[rv a1, rv a2, iv 1, iv 4, iv 1, iv B2, iv 4, iv 4, iv 3] [(.int (3 : Int32))]))
  refine own_st (fun t k => XS.iloadN X6.here hx rfl (hb hby d5_27) rfl k) ?_
  refine own_st (fun t k => XS.iload X6.here hx rfl (hb hby d5_28) rfl k) ?_
  refine own_st (fun t k => XS.iadd X6.here hx rfl (hb hby d5_30) rfl k) ?_
  show own_Fin _ _ _ _ _ _ _ (T6.setTop (mkF m 31 #[rv a1, rv a2, iv 1, iv 4, iv 1, iv B2, iv 4, iv 4, iv 3] [(.int (5 : Int32)), (.int (3 : Int32))]))
  refine own_st (fun t k => XS.icmpNo X6.here hx rfl (hb hby d5_31) rfl (tlt (by decide : (3 : Int32) < (5 : Int32))).2.1 k) ?_
  refine own_st (fun t k => XS.iload X6.here hx rfl (hb hby d5_34) rfl k) ?_
  refine own_st (fun t k => XS.bipush X6.here hx rfl (hb hby d5_36) k) ?_
  show own_Fin _ _ _ _ _ _ _ (T6.setTop (mkF m 38 #[rv a1, rv a2, iv 1, iv 4, iv 1, iv B2, iv 4, iv 4, iv 3] [(.int (6 : Int32)), (.int B2)]))
  refine own_st (fun t k => XS.ishl X6.here hx rfl (hb hby d5_38) rfl k) ?_
  refine own_st (fun t k => XS.iload X6.here hx rfl (hb hby d5_39) rfl k) ?_
  refine own_st (fun t k => XS.iloadN X6.here hx rfl (hb hby d5_41) rfl k) ?_
  show own_Fin _ _ _ _ _ _ _ (T6.setTop (mkF m 42 #[rv a1, rv a2, iv 1, iv 4, iv 1, iv B2, iv 4, iv 4, iv 3] [(.int (4 : Int32)), (.int (3 : Int32)), (.int (B2 <<< ((6 : Int32) &&& 31)))]))
  refine own_st (fun t k => XS.icmpNo X6.here hx rfl (hb hby d5_42) rfl (tlt (by decide : (3 : Int32) < (4 : Int32))).2.1 k) ?_
  refine own_st (fun t k => XS.aloadN X6.here hx rfl (hb hby d5_45) rfl rfl k) ?_
  refine own_st (fun t k => XS.iload X6.here hx rfl (hb hby d5_46) rfl k) ?_
  show own_Fin _ _ _ _ _ _ _ (T6.setTop (mkF m 48 #[rv a1, rv a2, iv 1, iv 4, iv 1, iv B2, iv 4, iv 4, iv 3] [(.int (3 : Int32)), (.ref a2), (.int (B2 <<< ((6 : Int32) &&& 31)))]))
  obtain ⟨cl7, Ar7, Cq7, Sz7, Mn7, Hs7, Gf7⟩ := id f6_2
  have hin7 := inb_of Sz7 (j := (3 : Int32)) ⟨by decide, by decide⟩
  refine own_st (X6.iaload hx (j := (3 : Int32)) (v := (.int w2)) (by rw [e6]; exact Ar7.1) (State.isArrayOf_alike hZ.alike Ar7.2.1) Ar7.2.2 hin7 (Hs7.at hin7 hat2) (g := (mkF m 48 #[rv a1, rv a2, iv 1, iv 4, iv 1, iv B2, iv 4, iv 4, iv 3] [(.int (3 : Int32)), (.ref a2), (.int (B2 <<< ((6 : Int32) &&& 31)))])) rfl rfl (hb hby d5_48)) ?_
  refine own_st (fun t k => XS.bipush X6.here hx rfl (hb hby d5_49) k) ?_
  refine own_st (fun t k => XS.iand X6.here hx rfl (hb hby d5_51) rfl k) ?_
  show own_Fin _ _ _ _ _ _ _ (T6.setTop (mkF m 52 #[rv a1, rv a2, iv 1, iv 4, iv 1, iv B2, iv 4, iv 4, iv 3] [(.int (w2 &&& (63 : Int32))), (.int (B2 <<< ((6 : Int32) &&& 31)))]))
  refine own_st (fun t k => XS.goto X6.here hx rfl (pc0 := 52) (pc' := 57) rfl (hb hby d5_52) (by decide) (by decide) k) ?_
  refine own_st (fun t k => XS.ior X6.here hx rfl (hb hby d5_57) rfl k) ?_
  refine own_st (fun t k => XS.istore X6.here hx rfl (hb hby d5_58) rfl (l' := #[rv a1, rv a2, iv 1, iv 4, iv 1, iv ((B2 <<< ((6 : Int32) &&& 31)) ||| (w2 &&& (63 : Int32))), iv 4, iv 4, iv 3]) rfl k) ?_
  show own_Fin _ _ _ _ _ _ _ (T6.setTop (mkF m 60 #[rv a1, rv a2, iv 1, iv 4, iv 1, iv ((B2 <<< ((6 : Int32) &&& 31)) ||| (w2 &&& (63 : Int32))), iv 4, iv 4, iv 3] []))
  obtain ⟨B3, hB3⟩ : ∃ z, z = ((B2 <<< ((6 : Int32) &&& 31)) ||| (w2 &&& (63 : Int32))) := ⟨_, rfl⟩
  rw [← hB3]
  refine own_st (fun t k => XS.iinc X6.here hx rfl (hb hby d5_60) rfl (l' := #[rv a1, rv a2, iv 1, iv 4, iv 1, iv B3, iv 10, iv 4, iv 3]) rfl k) ?_
  refine own_st (fun t k => XS.iload X6.here hx rfl (hb hby d5_63) rfl k) ?_
  refine own_st (fun t k => XS.bipush X6.here hx rfl (hb hby d5_65) k) ?_
  show own_Fin _ _ _ _ _ _ _ (T6.setTop (mkF m 67 #[rv a1, rv a2, iv 1, iv 4, iv 1, iv B3, iv 10, iv 4, iv 3] [(.int (8 : Int32)), (.int (10 : Int32))]))
  refine own_st (fun t k => XS.icmpNo X6.here hx rfl (hb hby d5_67) rfl (flt (by decide : ¬ ((10 : Int32) < (8 : Int32)))).1 k) ?_
  show own_Fin _ _ _ _ _ _ _ (T6.setTop (mkF m 70 #[rv a1, rv a2, iv 1, iv 4, iv 1, iv B3, iv 10, iv 4, iv 3] []))
  refine own_st (fun t k => XS.iinc X6.here hx rfl (hb hby d5_70) rfl (l' := #[rv a1, rv a2, iv 1, iv 4, iv 1, iv B3, iv 2, iv 4, iv 3]) rfl k) ?_
  refine own_st (fun t k => XS.aloadN X6.here hx rfl (hb hby d5_73) rfl rfl k) ?_
  show own_Fin _ _ _ _ _ _ _ (T6.setTop (mkF m 74 #[rv a1, rv a2, iv 1, iv 4, iv 1, iv B3, iv 2, iv 4, iv 3] [(.ref a1)]))
  obtain ⟨T8, X8, e8, st8⟩ := getF X6 hx hZ hown (host := "") (Or.inl (hw _ (List.mem_of_getElem? (i := 22) rfl))) Via.refl e6 f6_1 (g := (mkF m 74 #[rv a1, rv a2, iv 1, iv 4, iv 1, iv B3, iv 2, iv 4, iv 3] [(.ref a1)])) rfl rfl (hb hby d5_74)
  refine own_st st8 ?_
  refine own_st (fun t k => XS.aloadN X8.here hx rfl (hb hby d5_77) rfl rfl k) ?_
  refine own_st (fun t k => XS.dup X8.here hx rfl (hb hby d5_78) rfl rfl k) ?_
  show own_Fin _ _ _ _ _ _ _ (T8.setTop (mkF m 79 #[rv a1, rv a2, iv 1, iv 4, iv 1, iv B3, iv 2, iv 4, iv 3] [(.ref a1), (.ref a1), (.ref t)]))
  obtain ⟨T9, X9, e9, st9⟩ := getF X8 hx hZ hown (host := "") (Or.inl (hw _ (List.mem_of_getElem? (i := 29) rfl))) Via.refl e8 f6_3 (g := (mkF m 79 #[rv a1, rv a2, iv 1, iv 4, iv 1, iv B3, iv 2, iv 4, iv 3] [(.ref a1), (.ref a1), (.ref t)])) rfl rfl (hb hby d5_79)
  refine own_st st9 ?_
  show own_Fin _ _ _ _ _ _ _ (T9.setTop (mkF m 82 #[rv a1, rv a2, iv 1, iv 4, iv 1, iv B3, iv 2, iv 4, iv 3] [(.int (cn + (1 : Int32))), (.ref a1), (.ref t)]))
  refine own_st (fun t k => XS.dupX1 X9.here hx rfl (hb hby d5_82) rfl rfl rfl k) ?_
  refine own_st (fun t k => XS.iconst X9.here hx rfl (hb hby d5_83) k) ?_
  refine own_st (fun t k => XS.iadd X9.here hx rfl (hb hby d5_84) rfl k) ?_
  show own_Fin _ _ _ _ _ _ _ (T9.setTop (mkF m 85 #[rv a1, rv a2, iv 1, iv 4, iv 1, iv B3, iv 2, iv 4, iv 3] [(.int ((cn + (1 : Int32)) + (1 : Int32))), (.ref a1), (.int (cn + (1 : Int32))), (.ref t)]))
  obtain ⟨T10, h10, X10, e10, W10, st10⟩ := putF X9 hx hZ hown (host := "") (Or.inl (hw _ (List.mem_of_getElem? (i := 29) rfl))) Via.refl e9 f6_3 f6_0 (Or.inl (hw _ (List.mem_of_getElem? (i := 30) rfl))) (hw _ (List.mem_of_getElem? (i := 10) rfl)) (ty := .int) (by decide) rfl rfl (g := (mkF m 85 #[rv a1, rv a2, iv 1, iv 4, iv 1, iv B3, iv 2, iv 4, iv 3] [(.int ((cn + (1 : Int32)) + (1 : Int32))), (.ref a1), (.int (cn + (1 : Int32))), (.ref t)])) rfl rfl (hb hby d5_85)
  have f10_0 := f6_0.wr W10
  have f10_1 := f6_1.other W10 (Or.inr (slot_ne (Or.inr (hw _ (List.mem_of_getElem? (i := 23) rfl))) (Or.inl (hw _ (List.mem_of_getElem? (i := 30) rfl))) (by decide) (t := (.array .int)) (t' := .int) (by decide) (by decide)))
  have f10_2 := f6_2.other W10 nac
  have f10_3 := V6.other W10 (Ne.symm nat)
  have Fw10 : Fld Z h10 a1 "com/example/quietzone/quietzone/datamatrix/CodewordWriter" "count" "I" (.int ((cn + (1 : Int32)) + (1 : Int32))) := f6_3.same W10
  have N10 := Fr.snoc X10 N6 gi
  have Z10 : n0 ≤ h10.size := Nat.le_trans Z6 (Keep.of_wr W10).1
  have K10 : Keep h0 h10 [a1, t] := K6.wr W10 (Or.inl (List.mem_of_getElem? (i := 0) rfl))
  refine own_st st10 ?_
  refine own_st (fun t k => XS.iload X10.here hx rfl (hb hby d5_88) rfl k) ?_
  refine own_st (fun t k => XS.iload X10.here hx rfl (hb hby d5_90) rfl k) ?_
  show own_Fin _ _ _ _ _ _ _ (T10.setTop (mkF m 92 #[rv a1, rv a2, iv 1, iv 4, iv 1, iv B3, iv 2, iv 4, iv 3] [(.int (2 : Int32)), (.int B3), (.int (cn + (1 : Int32))), (.ref t)]))
  refine own_st (fun t k => XS.ishr X10.here hx rfl (hb hby d5_92) rfl k) ?_
  refine own_st (fun t k => XS.sipush X10.here hx rfl (hb hby d5_93) k) ?_
  refine own_st (fun t k => XS.iand X10.here hx rfl (hb hby d5_96) rfl k) ?_
  show own_Fin _ _ _ _ _ _ _ (T10.setTop (mkF m 97 #[rv a1, rv a2, iv 1, iv 4, iv 1, iv B3, iv 2, iv 4, iv 3] [(.int ((B3 >>> ((2 : Int32) &&& 31)) &&& (255 : Int32))), (.int (cn + (1 : Int32))), (.ref t)]))
  obtain ⟨cl11, Ar11, Cq11, Sz11, Mn11, Hs11, Gf11⟩ := id f10_3
  obtain ⟨T11, h11, X11, e11, W11, st11⟩ := stI X10 hx hZ e10 Ar11 (j := (cn + (1 : Int32))) (inb_of Sz11 (own_cn hcn hlen).2.1) (g := (mkF m 97 #[rv a1, rv a2, iv 1, iv 4, iv 1, iv B3, iv 2, iv 4, iv 3] [(.int ((B3 >>> ((2 : Int32) &&& 31)) &&& (255 : Int32))), (.int (cn + (1 : Int32))), (.ref t)])) rfl rfl (hb hby d5_97)
  have f11_0 := f10_0.wr W11
  have f11_1 := f10_1.other W11 (Or.inl nat)
  have f11_2 := f10_2.other W11 nct
  have f11_3 := Fw10.other W11 (Or.inl nat)
  have V11 : Arv Z h11 t kt .int (8 : Int32) ((vs.set (cn).toNatClampNeg (.int ((B2 >>> ((4 : Int32) &&& 31)) &&& (255 : Int32)))).set ((cn + (1 : Int32))).toNatClampNeg (.int ((B3 >>> ((2 : Int32) &&& 31)) &&& (255 : Int32)))) (.int (0 : Int32)) := Arv.set Ar11 Cq11 Sz11 Mn11 Hs11 Gf11 rfl W11 ((cn + (1 : Int32))).toNatClampNeg rfl (by simp only [List.length_set]; exact (own_cn hcn hlen).2.2.2.2.2.1)
  have N11 := Fr.snoc X11 N10 gt
  have Z11 : n0 ≤ h11.size := Nat.le_trans Z10 (Keep.of_wr W11).1
  have K11 : Keep h0 h11 [a1, t] := K10.wr W11 (Or.inl (List.mem_of_getElem? (i := 1) rfl))
  refine own_st st11 ?_
  refine own_st (fun t k => XS.goto X11.here hx rfl (pc0 := 98) (pc' := 63) rfl (hb hby d5_98) (by decide) (by decide) k) ?_
  refine own_st (fun t k => XS.iload X11.here hx rfl (hb hby d5_63) rfl k) ?_
  show own_Fin _ _ _ _ _ _ _ (T11.setTop (mkF m 65 #[rv a1, rv a2, iv 1, iv 4, iv 1, iv B3, iv 2, iv 4, iv 3] [(.int (2 : Int32))]))
  refine own_st (fun t k => XS.bipush X11.here hx rfl (hb hby d5_65) k) ?_
  show own_Fin _ _ _ _ _ _ _ (T11.setTop (mkF m 67 #[rv a1, rv a2, iv 1, iv 4, iv 1, iv B3, iv 2, iv 4, iv 3] [(.int (8 : Int32)), (.int (2 : Int32))]))
  refine own_st (fun t k => XS.icmpYes X11.here hx rfl (pc0 := 67) (pc' := 101) rfl (hb hby d5_67) rfl (tlt (by decide : (2 : Int32) < (8 : Int32))).1 (by decide) (by decide) k) ?_
  show own_Fin _ _ _ _ _ _ _ (T11.setTop (mkF m 101 #[rv a1, rv a2, iv 1, iv 4, iv 1, iv B3, iv 2, iv 4, iv 3] []))
  refine own_st (fun t k => XS.iinc X11.here hx rfl (hb hby d5_101) rfl (l' := #[rv a1, rv a2, iv 1, iv 4, iv 1, iv B3, iv 2, iv 4, iv 4]) rfl k) ?_
  refine own_st (fun t k => XS.goto X11.here hx rfl (pc0 := 104) (pc' := 25) rfl (hb hby d5_104) (by decide) (by decide) k) ?_
  refine own_st (fun t k => XS.iload X11.here hx rfl (hb hby d5_25) rfl k) ?_
  show own_Fin _ _ _ _ _ _ _ (T11.setTop (mkF m 27 #[rv a1, rv a2, iv 1, iv 4, iv 1, iv B3, iv 2, iv 4, iv 4] [(.int (4 : Int32))]))
  refine own_st (fun t k => XS.iloadN X11.here hx rfl (hb hby d5_27) rfl k) ?_
  refine own_st (fun t k => XS.iload X11.here hx rfl (hb hby d5_28) rfl k) ?_
  refine own_st (fun t k => XS.iadd X11.here hx rfl (hb hby d5_30) rfl k) ?_
  show own_Fin _ _ _ _ _ _ _ (T11.setTop (mkF m 31 #[rv a1, rv a2, iv 1, iv 4, iv 1, iv B3, iv 2, iv 4, iv 4] [(.int (5 : Int32)), (.int (4 : Int32))]))
  refine own_st (fun t k => XS.icmpNo X11.here hx rfl (hb hby d5_31) rfl (tlt (by decide : (4 : Int32) < (5 : Int32))).2.1 k) ?_
  refine own_st (fun t k => XS.iload X11.here hx rfl (hb hby d5_34) rfl k) ?_
  refine own_st (fun t k => XS.bipush X11.here hx rfl (hb hby d5_36) k) ?_
  show own_Fin _ _ _ _ _ _ _ (T11.setTop (mkF m 38 #[rv a1, rv a2, iv 1, iv 4, iv 1, iv B3, iv 2, iv 4, iv 4] [(.int (6 : Int32)), (.int B3)]))
  refine own_st (fun t k => XS.ishl X11.here hx rfl (hb hby d5_38) rfl k) ?_
  refine own_st (fun t k => XS.iload X11.here hx rfl (hb hby d5_39) rfl k) ?_
  refine own_st (fun t k => XS.iloadN X11.here hx rfl (hb hby d5_41) rfl k) ?_
  show own_Fin _ _ _ _ _ _ _ (T11.setTop (mkF m 42 #[rv a1, rv a2, iv 1, iv 4, iv 1, iv B3, iv 2, iv 4, iv 4] [(.int (4 : Int32)), (.int (4 : Int32)), (.int (B3 <<< ((6 : Int32) &&& 31)))]))
  refine own_st (fun t k => XS.icmpYes X11.here hx rfl (pc0 := 42) (pc' := 55) rfl (hb hby d5_42) rfl (flt (by decide : ¬ ((4 : Int32) < (4 : Int32)))).2.1 (by decide) (by decide) k) ?_
  refine own_st (fun t k => XS.bipush X11.here hx rfl (hb hby d5_55) k) ?_
  refine own_st (fun t k => XS.ior X11.here hx rfl (hb hby d5_57) rfl k) ?_
  show own_Fin _ _ _ _ _ _ _ (T11.setTop (mkF m 58 #[rv a1, rv a2, iv 1, iv 4, iv 1, iv B3, iv 2, iv 4, iv 4] [(.int ((B3 <<< ((6 : Int32) &&& 31)) ||| (31 : Int32)))]))
  refine own_st (fun t k => XS.istore X11.here hx rfl (hb hby d5_58) rfl (l' := #[rv a1, rv a2, iv 1, iv 4, iv 1, iv ((B3 <<< ((6 : Int32) &&& 31)) ||| (31 : Int32)), iv 2, iv 4, iv 4]) rfl k) ?_
  show own_Fin _ _ _ _ _ _ _ (T11.setTop (mkF m 60 #[rv a1, rv a2, iv 1, iv 4, iv 1, iv ((B3 <<< ((6 : Int32) &&& 31)) ||| (31 : Int32)), iv 2, iv 4, iv 4] []))
  obtain ⟨B4, hB4⟩ : ∃ z, z = ((B3 <<< ((6 : Int32) &&& 31)) ||| (31 : Int32)) := ⟨_, rfl⟩
  rw [← hB4]
  refine own_st (fun t k => XS.iinc X11.here hx rfl (hb hby d5_60) rfl (l' := #[rv a1, rv a2, iv 1, iv 4, iv 1, iv B4, iv 8, iv 4, iv 4]) rfl k) ?_
  refine own_st (fun t k => XS.iload X11.here hx rfl (hb hby d5_63) rfl k) ?_
  refine own_st (fun t k => XS.bipush X11.here hx rfl (hb hby d5_65) k) ?_
  show own_Fin _ _ _ _ _ _ _ (T11.setTop (mkF m 67 #[rv a1, rv a2, iv 1, iv 4, iv 1, iv B4, iv 8, iv 4, iv 4] [(.int (8 : Int32)), (.int (8 : Int32))]))
  refine own_st (fun t k => XS.icmpNo X11.here hx rfl (hb hby d5_67) rfl (flt (by decide : ¬ ((8 : Int32) < (8 : Int32)))).1 k) ?_
  show own_Fin _ _ _ _ _ _ _ (T11.setTop (mkF m 70 #[rv a1, rv a2, iv 1, iv 4, iv 1, iv B4, iv 8, iv 4, iv 4] []))
  refine own_st (fun t k => XS.iinc X11.here hx rfl (hb hby d5_70) rfl (l' := #[rv a1, rv a2, iv 1, iv 4, iv 1, iv B4, iv 0, iv 4, iv 4]) rfl k) ?_
  refine own_st (fun t k => XS.aloadN X11.here hx rfl (hb hby d5_73) rfl rfl k) ?_
  show own_Fin _ _ _ _ _ _ _ (T11.setTop (mkF m 74 #[rv a1, rv a2, iv 1, iv 4, iv 1, iv B4, iv 0, iv 4, iv 4] [(.ref a1)]))
  obtain ⟨T12, X12, e12, st12⟩ := getF X11 hx hZ hown (host := "") (Or.inl (hw _ (List.mem_of_getElem? (i := 22) rfl))) Via.refl e11 f11_1 (g := (mkF m 74 #[rv a1, rv a2, iv 1, iv 4, iv 1, iv B4, iv 0, iv 4, iv 4] [(.ref a1)])) rfl rfl (hb hby d5_74)
  refine own_st st12 ?_
  refine own_st (fun t k => XS.aloadN X12.here hx rfl (hb hby d5_77) rfl rfl k) ?_
  refine own_st (fun t k => XS.dup X12.here hx rfl (hb hby d5_78) rfl rfl k) ?_
  show own_Fin _ _ _ _ _ _ _ (T12.setTop (mkF m 79 #[rv a1, rv a2, iv 1, iv 4, iv 1, iv B4, iv 0, iv 4, iv 4] [(.ref a1), (.ref a1), (.ref t)]))
  obtain ⟨T13, X13, e13, st13⟩ := getF X12 hx hZ hown (host := "") (Or.inl (hw _ (List.mem_of_getElem? (i := 29) rfl))) Via.refl e12 f11_3 (g := (mkF m 79 #[rv a1, rv a2, iv 1, iv 4, iv 1, iv B4, iv 0, iv 4, iv 4] [(.ref a1), (.ref a1), (.ref t)])) rfl rfl (hb hby d5_79)
  refine own_st st13 ?_
  show own_Fin _ _ _ _ _ _ _ (T13.setTop (mkF m 82 #[rv a1, rv a2, iv 1, iv 4, iv 1, iv B4, iv 0, iv 4, iv 4] [(.int ((cn + (1 : Int32)) + (1 : Int32))), (.ref a1), (.ref t)]))
  refine own_st (fun t k => XS.dupX1 X13.here hx rfl (hb hby d5_82) rfl rfl rfl k) ?_
  refine own_st (fun t k => XS.iconst X13.here hx rfl (hb hby d5_83) k) ?_
  refine own_st (fun t k => XS.iadd X13.here hx rfl (hb hby d5_84) rfl k) ?_
  show own_Fin _ _ _ _ _ _ _ (T13.setTop (mkF m 85 #[rv a1, rv a2, iv 1, iv 4, iv 1, iv B4, iv 0, iv 4, iv 4] [(.int (((cn + (1 : Int32)) + (1 : Int32)) + (1 : Int32))), (.ref a1), (.int ((cn + (1 : Int32)) + (1 : Int32))), (.ref t)]))
  obtain ⟨T14, h14, X14, e14, W14, st14⟩ := putF X13 hx hZ hown (host := "") (Or.inl (hw _ (List.mem_of_getElem? (i := 29) rfl))) Via.refl e13 f11_3 f11_0 (Or.inl (hw _ (List.mem_of_getElem? (i := 30) rfl))) (hw _ (List.mem_of_getElem? (i := 10) rfl)) (ty := .int) (by decide) rfl rfl (g := (mkF m 85 #[rv a1, rv a2, iv 1, iv 4, iv 1, iv B4, iv 0, iv 4, iv 4] [(.int (((cn + (1 : Int32)) + (1 : Int32)) + (1 : Int32))), (.ref a1), (.int ((cn + (1 : Int32)) + (1 : Int32))), (.ref t)])) rfl rfl (hb hby d5_85)
  have f14_0 := f11_0.wr W14
  have f14_1 := f11_1.other W14 (Or.inr (slot_ne (Or.inr (hw _ (List.mem_of_getElem? (i := 23) rfl))) (Or.inl (hw _ (List.mem_of_getElem? (i := 30) rfl))) (by decide) (t := (.array .int)) (t' := .int) (by decide) (by decide)))
  have f14_2 := f11_2.other W14 nac
  have f14_3 := V11.other W14 (Ne.symm nat)
  have Fw14 : Fld Z h14 a1 "com/example/quietzone/quietzone/datamatrix/CodewordWriter" "count" "I" (.int (((cn + (1 : Int32)) + (1 : Int32)) + (1 : Int32))) := f11_3.same W14
  have N14 := Fr.snoc X14 N11 gi
  have Z14 : n0 ≤ h14.size := Nat.le_trans Z11 (Keep.of_wr W14).1
  have K14 : Keep h0 h14 [a1, t] := K11.wr W14 (Or.inl (List.mem_of_getElem? (i := 0) rfl))
  refine own_st st14 ?_
  refine own_st (fun t k => XS.iload X14.here hx rfl (hb hby d5_88) rfl k) ?_
  refine own_st (fun t k => XS.iload X14.here hx rfl (hb hby d5_90) rfl k) ?_
  show own_Fin _ _ _ _ _ _ _ (T14.setTop (mkF m 92 #[rv a1, rv a2, iv 1, iv 4, iv 1, iv B4, iv 0, iv 4, iv 4] [(.int (0 : Int32)), (.int B4), (.int ((cn + (1 : Int32)) + (1 : Int32))), (.ref t)]))
  refine own_st (fun t k => XS.ishr X14.here hx rfl (hb hby d5_92) rfl k) ?_
  refine own_st (fun t k => XS.sipush X14.here hx rfl (hb hby d5_93) k) ?_
  refine own_st (fun t k => XS.iand X14.here hx rfl (hb hby d5_96) rfl k) ?_
  show own_Fin _ _ _ _ _ _ _ (T14.setTop (mkF m 97 #[rv a1, rv a2, iv 1, iv 4, iv 1, iv B4, iv 0, iv 4, iv 4] [(.int ((B4 >>> ((0 : Int32) &&& 31)) &&& (255 : Int32))), (.int ((cn + (1 : Int32)) + (1 : Int32))), (.ref t)]))
  obtain ⟨cl15, Ar15, Cq15, Sz15, Mn15, Hs15, Gf15⟩ := id f14_3
  obtain ⟨T15, h15, X15, e15, W15, st15⟩ := stI X14 hx hZ e14 Ar15 (j := ((cn + (1 : Int32)) + (1 : Int32))) (inb_of Sz15 (own_cn hcn hlen).2.2.1) (g := (mkF m 97 #[rv a1, rv a2, iv 1, iv 4, iv 1, iv B4, iv 0, iv 4, iv 4] [(.int ((B4 >>> ((0 : Int32) &&& 31)) &&& (255 : Int32))), (.int ((cn + (1 : Int32)) + (1 : Int32))), (.ref t)])) rfl rfl (hb hby d5_97)
  have f15_0 := f14_0.wr W15
  have f15_1 := f14_1.other W15 (Or.inl nat)
  have f15_2 := f14_2.other W15 nct
  have f15_3 := Fw14.other W15 (Or.inl nat)
  have V15 : Arv Z h15 t kt .int (8 : Int32) (((vs.set (cn).toNatClampNeg (.int ((B2 >>> ((4 : Int32) &&& 31)) &&& (255 : Int32)))).set ((cn + (1 : Int32))).toNatClampNeg (.int ((B3 >>> ((2 : Int32) &&& 31)) &&& (255 : Int32)))).set (((cn + (1 : Int32)) + (1 : Int32))).toNatClampNeg (.int ((B4 >>> ((0 : Int32) &&& 31)) &&& (255 : Int32)))) (.int (0 : Int32)) := Arv.set Ar15 Cq15 Sz15 Mn15 Hs15 Gf15 rfl W15 (((cn + (1 : Int32)) + (1 : Int32))).toNatClampNeg rfl (by simp only [List.length_set]; exact (own_cn hcn hlen).2.2.2.2.2.2.1)
  have N15 := Fr.snoc X15 N14 gt
  have Z15 : n0 ≤ h15.size := Nat.le_trans Z14 (Keep.of_wr W15).1
  have K15 : Keep h0 h15 [a1, t] := K14.wr W15 (Or.inl (List.mem_of_getElem? (i := 1) rfl))
  refine own_st st15 ?_
  refine own_st (fun t k => XS.goto X15.here hx rfl (pc0 := 98) (pc' := 63) rfl (hb hby d5_98) (by decide) (by decide) k) ?_
  refine own_st (fun t k => XS.iload X15.here hx rfl (hb hby d5_63) rfl k) ?_
  show own_Fin _ _ _ _ _ _ _ (T15.setTop (mkF m 65 #[rv a1, rv a2, iv 1, iv 4, iv 1, iv B4, iv 0, iv 4, iv 4] [(.int (0 : Int32))]))
  refine own_st (fun t k => XS.bipush X15.here hx rfl (hb hby d5_65) k) ?_
  show own_Fin _ _ _ _ _ _ _ (T15.setTop (mkF m 67 #[rv a1, rv a2, iv 1, iv 4, iv 1, iv B4, iv 0, iv 4, iv 4] [(.int (8 : Int32)), (.int (0 : Int32))]))
  refine own_st (fun t k => XS.icmpYes X15.here hx rfl (pc0 := 67) (pc' := 101) rfl (hb hby d5_67) rfl (tlt (by decide : (0 : Int32) < (8 : Int32))).1 (by decide) (by decide) k) ?_
  show own_Fin _ _ _ _ _ _ _ (T15.setTop (mkF m 101 #[rv a1, rv a2, iv 1, iv 4, iv 1, iv B4, iv 0, iv 4, iv 4] []))
  refine own_st (fun t k => XS.iinc X15.here hx rfl (hb hby d5_101) rfl (l' := #[rv a1, rv a2, iv 1, iv 4, iv 1, iv B4, iv 0, iv 4, iv 5]) rfl k) ?_
  refine own_st (fun t k => XS.goto X15.here hx rfl (pc0 := 104) (pc' := 25) rfl (hb hby d5_104) (by decide) (by decide) k) ?_
  refine own_st (fun t k => XS.iload X15.here hx rfl (hb hby d5_25) rfl k) ?_
  show own_Fin _ _ _ _ _ _ _ (T15.setTop (mkF m 27 #[rv a1, rv a2, iv 1, iv 4, iv 1, iv B4, iv 0, iv 4, iv 5] [(.int (5 : Int32))]))
  refine own_st (fun t k => XS.iloadN X15.here hx rfl (hb hby d5_27) rfl k) ?_
  refine own_st (fun t k => XS.iload X15.here hx rfl (hb hby d5_28) rfl k) ?_
  refine own_st (fun t k => XS.iadd X15.here hx rfl (hb hby d5_30) rfl k) ?_
  show own_Fin _ _ _ _ _ _ _ (T15.setTop (mkF m 31 #[rv a1, rv a2, iv 1, iv 4, iv 1, iv B4, iv 0, iv 4, iv 5] [(.int (5 : Int32)), (.int (5 : Int32))]))
  refine own_st (fun t k => XS.icmpYes X15.here hx rfl (pc0 := 31) (pc' := 107) rfl (hb hby d5_31) rfl (flt (by decide : ¬ ((5 : Int32) < (5 : Int32)))).2.1 (by decide) (by decide) k) ?_
  refine own_st (fun t k => XS.iload X15.here hx rfl (hb hby d5_107) rfl k) ?_
  show own_Fin _ _ _ _ _ _ _ (T15.setTop (mkF m 109 #[rv a1, rv a2, iv 1, iv 4, iv 1, iv B4, iv 0, iv 4, iv 5] [(.int (0 : Int32))]))
  refine own_st (fun t k => XS.ifYes X15.here hx rfl (pc0 := 109) (pc' := 140) rfl (hb hby d5_109) rfl ((if0 _ _).trans (flt (by decide : ¬ ((0 : Int32) < (0 : Int32)))).2.2.2) (by decide) (by decide) k) ?_
  show own_Fin _ _ _ _ _ _ _ (T15.setTop (mkF m 140 #[rv a1, rv a2, iv 1, iv 4, iv 1, iv B4, iv 0, iv 4, iv 5] []))
  have x0 : 0 ≤ ((w0 &&& (63 : Int32))).toInt ∧ ((w0 &&& (63 : Int32))).toInt < 64 := own_x63 _
  have b1 := own_b1 hB1 x0
  have x1 : 0 ≤ ((w1 &&& (63 : Int32))).toInt ∧ ((w1 &&& (63 : Int32))).toInt < 64 := own_x63 _
  have b2 := own_bS hB2 b1 (by omega) x1
  have x2 : 0 ≤ ((w2 &&& (63 : Int32))).toInt ∧ ((w2 &&& (63 : Int32))).toInt < 64 := own_x63 _
  have b3 := own_bS hB3 b2 (by omega) x2
  have x3 : 0 ≤ ((31 : Int32)).toInt ∧ ((31 : Int32)).toInt < 64 := by decide
  have b4 := own_bS hB4 b3 (by omega) x3
  have hks : own_ks 3 1 w0 w1 w2 w3 = [((B2 >>> ((4 : Int32) &&& 31)) &&& (255 : Int32)), ((B3 >>> ((2 : Int32) &&& 31)) &&& (255 : Int32)), ((B4 >>> ((0 : Int32) &&& 31)) &&& (255 : Int32))] := by
    rw [own_ks_31, own_six_mask hw0, own_six_mask hw1, own_six_mask hw2]
    rw [(own_o0 b2 x0 x1), (own_o1 b3 x0 x1 x2), (own_o2 b4 x0 x1 x2 x3)]
  exact own_retV X15 hx Bd.notSynchronized Bd.returns (hb hby d5_140) (by decide) (by decide) (by rw [e15]; unfold own_Q_rmE_1_3_1; rw [hks]; exact ⟨rfl, N15, K15, f15_0, f15_1, f15_3, V15⟩)
def own_Q_rmE_1_4_1 (Z : State)  (a1 a2 : Addr) (t : Addr) (kt : ClassId) (vs : List Value) (cn : Int32) (kc : ClassId) (vc : List Value) (w0 w1 w2 w3 : Int32) (h0 : Heap) (n0 : Nat) (v : Option Value) (h : Heap) (L : List Loc) : Prop := v = none ∧ Fr n0 L ∧ Keep h0 h [a1, t] ∧ Exa Z h a1 "com/example/quietzone/quietzone/datamatrix/CodewordWriter" ∧ Fld Z h a1 "com/example/quietzone/quietzone/datamatrix/CodewordWriter" "codewords" "[I" (.ref t) ∧ Fld Z h a1 "com/example/quietzone/quietzone/datamatrix/CodewordWriter" "count" "I" (.int (own_cnt cn (own_ks 4 1 w0 w1 w2 w3))) ∧ Arv Z h t kt .int (8 : Int32) (own_app vs cn (own_ks 4 1 w0 w1 w2 w3)) (.int (0 : Int32))
set_option maxRecDepth 65536 in
set_option maxHeartbeats 40000000 in
theorem rmE_1_4_1 (l : Launch) (Z : State) (a0 : Array Value) (hw : ∀ d ∈ tables_1, d.before a0 Z = true) (ws : List Jvm.Cond)  (a1 a2 : Addr) (t : Addr) (kt : ClassId) (vs : List Value) (cn : Int32) (kc : ClassId) (vc : List Value) (w0 w1 w2 w3 : Int32) (h0 : Heap) (n0 : Nat) (Z0 : n0 ≤ h0.size) (Ei : Exa Z h0 a1 "com/example/quietzone/quietzone/datamatrix/CodewordWriter") (Fw : Fld Z h0 a1 "com/example/quietzone/quietzone/datamatrix/CodewordWriter" "codewords" "[I" (.ref t)) (Fc : Fld Z h0 a1 "com/example/quietzone/quietzone/datamatrix/CodewordWriter" "count" "I" (.int cn)) (Vt : Arv Z h0 t kt .int (8 : Int32) vs (.int (0 : Int32))) (gi : n0 ≤ a1) (gt : n0 ≤ t) (nat : a1 ≠ t) (Vc : Arv Z h0 a2 kc .int (5 : Int32) vc (.int (0 : Int32))) (nac : a2 ≠ a1) (nct : a2 ≠ t) (hcn : cn = (0 : Int32) ∨ cn = (1 : Int32)) (hlen : vs.length = 8) (hat0 : vc.getD (1 : Int32).toNatClampNeg (.int (0 : Int32)) = .int w0) (hw0 : 32 ≤ w0.toInt ∧ w0.toInt ≤ 94) (hat1 : vc.getD (2 : Int32).toNatClampNeg (.int (0 : Int32)) = .int w1) (hw1 : 32 ≤ w1.toInt ∧ w1.toInt ≤ 94) (hat2 : vc.getD (3 : Int32).toNatClampNeg (.int (0 : Int32)) = .int w2) (hw2 : 32 ≤ w2.toInt ∧ w2.toInt ≤ 94) (hat3 : vc.getD (4 : Int32).toNatClampNeg (.int (0 : Int32)) = .int w3) (hw3 : 32 ≤ w3.toInt ∧ w3.toInt ≤ 94) :
    MetFree l (⟨"com/example/quietzone/quietzone/datamatrix/CodewordWriter", "edifact", "([IIIZ)V"⟩ : MethodName) (head1 (Jvm.Cond.code (⟨"com/example/quietzone/quietzone/datamatrix/CodewordWriter", "edifact", "([IIIZ)V"⟩ : MethodName) prog_34_method_9_code 9 none :: ws) ({ frames := 0, cells := 0, slots := 0, locals := 0 } : Room)) (fun a U => a = #[(.ref a1), (.ref a2), (.int (1 : Int32)), (.int (5 : Int32)), (.int (1 : Int32))] ∧ Z.Warmed39 U.vm ∧ U.heap = h0) (fun _ _ _ _ _ => True) (fun _ U o U' => ∃ v L, o = .returned v ∧ own_Q_rmE_1_4_1 Z a1 a2 t kt vs cn kc vc w0 w1 w2 w3 h0 n0 v U'.heap L ∧ FrameEnd U o U' L ({ frames := 0, cells := 0, slots := 0, locals := 0 } : Room).cells ({ frames := 0, cells := 0, slots := 0, locals := 0 } : Room).slots) := by
  refine MetFree.of_bodySF pn_5 hisR ?_
  intro p e s m args below meth c s₁ Bd hml0 hP hK
  obtain ⟨rfl, hZ, hh⟩ := hP
  have hx := Bd.exec
  have hby := Bd.bytes
  have hml : c.maxLocals = 9 := hml0
  have hown : s.vm.findClass "com/example/quietzone/quietzone/datamatrix/CodewordWriter" = some m.cls := findClass_of_methodNamed Bd.named
  have hnm := (name_of_methodNamed Bd.named Bd.method).1
  have X0 : Stand p l e ({ frames := 0, cells := 0, slots := 0, locals := 0 } : Room) s m #[(.ref a1), (.ref a2), (.int (1 : Int32)), (.int (5 : Int32)), (.int (1 : Int32))] below meth c s₁ [] 0 0 := Stand.of_body Bd
  have e0 : s₁.heap = h0 := by rw [← hh, Bd.state]; rfl
  have N0 := Fr.nil n0
  have KR : Keep h0 h0 [a1, t] := Keep.refl h0 [a1, t]
  show own_Fin p.tables e below s (({ frames := 0, cells := 0, slots := 0, locals := 0 } : Room).cells) (({ frames := 0, cells := 0, slots := 0, locals := 0 } : Room).slots) (own_Q_rmE_1_4_1 Z a1 a2 t kt vs cn kc vc w0 w1 w2 w3 h0 n0) (s₁.setTop (entryFrame m #[(.ref a1), (.ref a2), (.int (1 : Int32)), (.int (5 : Int32)), (.int (1 : Int32))] 9))
  rw [ef_5 m a1 a2 (1 : Int32) (5 : Int32) (1 : Int32)]
  refine own_st (fun t k => XS.iconst X0.here hx rfl (hb hby d5_0) k) ?_
  refine own_st (fun t k => XS.istore X0.here hx rfl (hb hby d5_1) rfl (l' := #[rv a1, rv a2, iv 1, iv 5, iv 1, iv 0, .unset, .unset, .unset]) rfl k) ?_
  show own_Fin _ _ _ _ _ _ _ (s₁.setTop (mkF m 3 #[rv a1, rv a2, iv 1, iv 5, iv 1, iv 0, .unset, .unset, .unset] []))
  refine own_st (fun t k => XS.iconst X0.here hx rfl (hb hby d5_3) k) ?_
  refine own_st (fun t k => XS.istore X0.here hx rfl (hb hby d5_4) rfl (l' := #[rv a1, rv a2, iv 1, iv 5, iv 1, iv 0, iv 0, .unset, .unset]) rfl k) ?_
  refine own_st (fun t k => XS.iloadN X0.here hx rfl (hb hby d5_6) rfl k) ?_
  show own_Fin _ _ _ _ _ _ _ (s₁.setTop (mkF m 7 #[rv a1, rv a2, iv 1, iv 5, iv 1, iv 0, iv 0, .unset, .unset] [(.int (5 : Int32))]))
  refine own_st (fun t k => XS.iloadN X0.here hx rfl (hb hby d5_7) rfl k) ?_
  refine own_st (fun t k => XS.isub X0.here hx rfl (hb hby d5_8) rfl k) ?_
  refine own_st (fun t k => XS.iload X0.here hx rfl (hb hby d5_9) rfl k) ?_
  show own_Fin _ _ _ _ _ _ _ (s₁.setTop (mkF m 11 #[rv a1, rv a2, iv 1, iv 5, iv 1, iv 0, iv 0, .unset, .unset] [(.int (1 : Int32)), (.int (4 : Int32))]))
  refine own_st (fun t k => XS.ifNo X0.here hx rfl (hb hby d5_11) rfl ((if0 _ _).trans (feq (by decide : ¬ ((1 : Int32) = (0 : Int32)))).1) k) ?_
  refine own_st (fun t k => XS.iconst X0.here hx rfl (hb hby d5_14) k) ?_
  refine own_st (fun t k => XS.goto X0.here hx rfl (pc0 := 15) (pc' := 19) rfl (hb hby d5_15) (by decide) (by decide) k) ?_
  show own_Fin _ _ _ _ _ _ _ (s₁.setTop (mkF m 19 #[rv a1, rv a2, iv 1, iv 5, iv 1, iv 0, iv 0, .unset, .unset] [(.int (1 : Int32)), (.int (4 : Int32))]))
  refine own_st (fun t k => XS.iadd X0.here hx rfl (hb hby d5_19) rfl k) ?_
  refine own_st (fun t k => XS.istore X0.here hx rfl (hb hby d5_20) rfl (l' := #[rv a1, rv a2, iv 1, iv 5, iv 1, iv 0, iv 0, iv 5, .unset]) rfl k) ?_
  refine own_st (fun t k => XS.iloadN X0.here hx rfl (hb hby d5_22) rfl k) ?_
  show own_Fin _ _ _ _ _ _ _ (s₁.setTop (mkF m 23 #[rv a1, rv a2, iv 1, iv 5, iv 1, iv 0, iv 0, iv 5, .unset] [(.int (1 : Int32))]))
  refine own_st (fun t k => XS.istore X0.here hx rfl (hb hby d5_23) rfl (l' := #[rv a1, rv a2, iv 1, iv 5, iv 1, iv 0, iv 0, iv 5, iv 1]) rfl k) ?_
  refine own_st (fun t k => XS.iload X0.here hx rfl (hb hby d5_25) rfl k) ?_
  refine own_st (fun t k => XS.iloadN X0.here hx rfl (hb hby d5_27) rfl k) ?_
  show own_Fin _ _ _ _ _ _ _ (s₁.setTop (mkF m 28 #[rv a1, rv a2, iv 1, iv 5, iv 1, iv 0, iv 0, iv 5, iv 1] [(.int (1 : Int32)), (.int (1 : Int32))]))
  refine own_st (fun t k => XS.iload X0.here hx rfl (hb hby d5_28) rfl k) ?_
  refine own_st (fun t k => XS.iadd X0.here hx rfl (hb hby d5_30) rfl k) ?_
  show own_Fin _ _ _ _ _ _ _ (s₁.setTop (mkF m 31 #[rv a1, rv a2, iv 1, iv 5, iv 1, iv 0, iv 0, iv 5, iv 1] [(.int (6 : Int32)), (.int (1 : Int32))]))
  refine own_st (fun t k => XS.icmpNo X0.here hx rfl (hb hby d5_31) rfl (tlt (by decide : (1 : Int32) < (6 : Int32))).2.1 k) ?_
  refine own_st (fun t k => XS.iload X0.here hx rfl (hb hby d5_34) rfl k) ?_
  refine own_st (fun t k => XS.bipush X0.here hx rfl (hb hby d5_36) k) ?_
  show own_Fin _ _ _ _ _ _ _ (s₁.setTop (mkF m 38 #[rv a1, rv a2, iv 1, iv 5, iv 1, iv 0, iv 0, iv 5, iv 1] [(.int (6 : Int32)), (.int (0 : Int32))]))
  refine own_st (fun t k => XS.ishl X0.here hx rfl (hb hby d5_38) rfl k) ?_
  refine own_st (fun t k => XS.iload X0.here hx rfl (hb hby d5_39) rfl k) ?_
  refine own_st (fun t k => XS.iloadN X0.here hx rfl (hb hby d5_41) rfl k) ?_
  show own_Fin _ _ _ _ _ _ _ (s₁.setTop (mkF m 42 #[rv a1, rv a2, iv 1, iv 5, iv 1, iv 0, iv 0, iv 5, iv 1] [(.int (5 : Int32)), (.int (1 : Int32)), (.int ((0 : Int32) <<< ((6 : Int32) &&& 31)))]))
  refine own_st (fun t k => XS.icmpNo X0.here hx rfl (hb hby d5_42) rfl (tlt (by decide : (1 : Int32) < (5 : Int32))).2.1 k) ?_
  refine own_st (fun t k => XS.aloadN X0.here hx rfl (hb hby d5_45) rfl rfl k) ?_
  refine own_st (fun t k => XS.iload X0.here hx rfl (hb hby d5_46) rfl k) ?_
  show own_Fin _ _ _ _ _ _ _ (s₁.setTop (mkF m 48 #[rv a1, rv a2, iv 1, iv 5, iv 1, iv 0, iv 0, iv 5, iv 1] [(.int (1 : Int32)), (.ref a2), (.int ((0 : Int32) <<< ((6 : Int32) &&& 31)))]))
  obtain ⟨cl1, Ar1, Cq1, Sz1, Mn1, Hs1, Gf1⟩ := id Vc
  have hin1 := inb_of Sz1 (j := (1 : Int32)) ⟨by decide, by decide⟩
  refine own_st (X0.iaload hx (j := (1 : Int32)) (v := (.int w0)) (by rw [e0]; exact Ar1.1) (State.isArrayOf_alike hZ.alike Ar1.2.1) Ar1.2.2 hin1 (Hs1.at hin1 hat0) (g := (mkF m 48 #[rv a1, rv a2, iv 1, iv 5, iv 1, iv 0, iv 0, iv 5, iv 1] [(.int (1 : Int32)), (.ref a2), (.int ((0 : Int32) <<< ((6 : Int32) &&& 31)))])) rfl rfl (hb hby d5_48)) ?_
  refine own_st (fun t k => XS.bipush X0.here hx rfl (hb hby d5_49) k) ?_
  refine own_st (fun t k => XS.iand X0.here hx rfl (hb hby d5_51) rfl k) ?_
  show own_Fin _ _ _ _ _ _ _ (s₁.setTop (mkF m 52 #[rv a1, rv a2, iv 1, iv 5, iv 1, iv 0, iv 0, iv 5, iv 1] [(.int (w0 &&& (63 : Int32))), (.int ((0 : Int32) <<< ((6 : Int32) &&& 31)))]))
  refine own_st (fun t k => XS.goto X0.here hx rfl (pc0 := 52) (pc' := 57) rfl (hb hby d5_52) (by decide) (by decide) k) ?_
  refine own_st (fun t k => XS.ior X0.here hx rfl (hb hby d5_57) rfl k) ?_
  refine own_st (fun t k => XS.istore X0.here hx rfl (hb hby d5_58) rfl (l' := #[rv a1, rv a2, iv 1, iv 5, iv 1, iv (((0 : Int32) <<< ((6 : Int32) &&& 31)) ||| (w0 &&& (63 : Int32))), iv 0, iv 5, iv 1]) rfl k) ?_
  show own_Fin _ _ _ _ _ _ _ (s₁.setTop (mkF m 60 #[rv a1, rv a2, iv 1, iv 5, iv 1, iv (((0 : Int32) <<< ((6 : Int32) &&& 31)) ||| (w0 &&& (63 : Int32))), iv 0, iv 5, iv 1] []))
  obtain ⟨B1, hB1⟩ : ∃ z, z = (((0 : Int32) <<< ((6 : Int32) &&& 31)) ||| (w0 &&& (63 : Int32))) := ⟨_, rfl⟩
  rw [← hB1]
  refine own_st (fun t k => XS.iinc X0.here hx rfl (hb hby d5_60) rfl (l' := #[rv a1, rv a2, iv 1, iv 5, iv 1, iv B1, iv 6, iv 5, iv 1]) rfl k) ?_
  refine own_st (fun t k => XS.iload X0.here hx rfl (hb hby d5_63) rfl k) ?_
  refine own_st (fun t k => XS.bipush X0.here hx rfl (hb hby d5_65) k) ?_
  show own_Fin _ _ _ _ _ _ _ (s₁.setTop (mkF m 67 #[rv a1, rv a2, iv 1, iv 5, iv 1, iv B1, iv 6, iv 5, iv 1] [(.int (8 : Int32)), (.int (6 : Int32))]))
  refine own_st (fun t k => XS.icmpYes X0.here hx rfl (pc0 := 67) (pc' := 101) rfl (hb hby d5_67) rfl (tlt (by decide : (6 : Int32) < (8 : Int32))).1 (by decide) (by decide) k) ?_
  show own_Fin _ _ _ _ _ _ _ (s₁.setTop (mkF m 101 #[rv a1, rv a2, iv 1, iv 5, iv 1, iv B1, iv 6, iv 5, iv 1] []))
  refine own_st (fun t k => XS.iinc X0.here hx rfl (hb hby d5_101) rfl (l' := #[rv a1, rv a2, iv 1, iv 5, iv 1, iv B1, iv 6, iv 5, iv 2]) rfl k) ?_
  refine own_st (fun t k => XS.goto X0.here hx rfl (pc0 := 104) (pc' := 25) rfl (hb hby d5_104) (by decide) (by decide) k) ?_
  refine own_st (fun t k => XS.iload X0.here hx rfl (hb hby d5_25) rfl k) ?_
  show own_Fin _ _ _ _ _ _ _ (s₁.setTop (mkF m 27 #[rv a1, rv a2, iv 1, iv 5, iv 1, iv B1, iv 6, iv 5, iv 2] [(.int (2 : Int32))]))
  refine own_st (fun t k => XS.iloadN X0.here hx rfl (hb hby d5_27) rfl k) ?_
  refine own_st (fun t k => XS.iload X0.here hx rfl (hb hby d5_28) rfl k) ?_
  refine own_st (fun t k => XS.iadd X0.here hx rfl (hb hby d5_30) rfl k) ?_
  show own_Fin _ _ _ _ _ _ _ (s₁.setTop (mkF m 31 #[rv a1, rv a2, iv 1, iv 5, iv 1, iv B1, iv 6, iv 5, iv 2] [(.int (6 : Int32)), (.int (2 : Int32))]))
  refine own_st (fun t k => XS.icmpNo X0.here hx rfl (hb hby d5_31) rfl (tlt (by decide : (2 : Int32) < (6 : Int32))).2.1 k) ?_
  refine own_st (fun t k => XS.iload X0.here hx rfl (hb hby d5_34) rfl k) ?_
  refine own_st (fun t k => XS.bipush X0.here hx rfl (hb hby d5_36) k) ?_
  show own_Fin _ _ _ _ _ _ _ (s₁.setTop (mkF m 38 #[rv a1, rv a2, iv 1, iv 5, iv 1, iv B1, iv 6, iv 5, iv 2] [(.int (6 : Int32)), (.int B1)]))
  refine own_st (fun t k => XS.ishl X0.here hx rfl (hb hby d5_38) rfl k) ?_
  refine own_st (fun t k => XS.iload X0.here hx rfl (hb hby d5_39) rfl k) ?_
  refine own_st (fun t k => XS.iloadN X0.here hx rfl (hb hby d5_41) rfl k) ?_
  show own_Fin _ _ _ _ _ _ _ (s₁.setTop (mkF m 42 #[rv a1, rv a2, iv 1, iv 5, iv 1, iv B1, iv 6, iv 5, iv 2] [(.int (5 : Int32)), (.int (2 : Int32)), (.int (B1 <<< ((6 : Int32) &&& 31)))]))
  refine own_st (fun t k => XS.icmpNo X0.here hx rfl (hb hby d5_42) rfl (tlt (by decide : (2 : Int32) < (5 : Int32))).2.1 k) ?_
  refine own_st (fun t k => XS.aloadN X0.here hx rfl (hb hby d5_45) rfl rfl k) ?_
  refine own_st (fun t k => XS.iload X0.here hx rfl (hb hby d5_46) rfl k) ?_
  show own_Fin _ _ _ _ _ _ _ (s₁.setTop (mkF m 48 #[rv a1, rv a2, iv 1, iv 5, iv 1, iv B1, iv 6, iv 5, iv 2] [(.int (2 : Int32)), (.ref a2), (.int (B1 <<< ((6 : Int32) &&& 31)))]))
  obtain ⟨cl2, Ar2, Cq2, Sz2, Mn2, Hs2, Gf2⟩ := id Vc
  have hin2 := inb_of Sz2 (j := (2 : Int32)) ⟨by decide, by decide⟩
  refine own_st (X0.iaload hx (j := (2 : Int32)) (v := (.int w1)) (by rw [e0]; exact Ar2.1) (State.isArrayOf_alike hZ.alike Ar2.2.1) Ar2.2.2 hin2 (Hs2.at hin2 hat1) (g := (mkF m 48 #[rv a1, rv a2, iv 1, iv 5, iv 1, iv B1, iv 6, iv 5, iv 2] [(.int (2 : Int32)), (.ref a2), (.int (B1 <<< ((6 : Int32) &&& 31)))])) rfl rfl (hb hby d5_48)) ?_
  refine own_st (fun t k => XS.bipush X0.here hx rfl (hb hby d5_49) k) ?_
  refine own_st (fun t k => XS.iand X0.here hx rfl (hb hby d5_51) rfl k) ?_
  show own_Fin _ _ _ _ _ _ _ (s₁.setTop (mkF m 52 #[rv a1, rv a2, iv 1, iv 5, iv 1, iv B1, iv 6, iv 5, iv 2] [(.int (w1 &&& (63 : Int32))), (.int (B1 <<< ((6 : Int32) &&& 31)))]))
  refine own_st (fun t k => XS.goto X0.here hx rfl (pc0 := 52) (pc' := 57) rfl (hb hby d5_52) (by decide) (by decide) k) ?_
  refine own_st (fun t k => XS.ior X0.here hx rfl (hb hby d5_57) rfl k) ?_
  refine own_st (fun t k => XS.istore X0.here hx rfl (hb hby d5_58) rfl (l' := #[rv a1, rv a2, iv 1, iv 5, iv 1, iv ((B1 <<< ((6 : Int32) &&& 31)) ||| (w1 &&& (63 : Int32))), iv 6, iv 5, iv 2]) rfl k) ?_
  show own_Fin _ _ _ _ _ _ _ (s₁.setTop (mkF m 60 #[rv a1, rv a2, iv 1, iv 5, iv 1, iv ((B1 <<< ((6 : Int32) &&& 31)) ||| (w1 &&& (63 : Int32))), iv 6, iv 5, iv 2] []))
  obtain ⟨B2, hB2⟩ : ∃ z, z = ((B1 <<< ((6 : Int32) &&& 31)) ||| (w1 &&& (63 : Int32))) := ⟨_, rfl⟩
  rw [← hB2]
  refine own_st (fun t k => XS.iinc X0.here hx rfl (hb hby d5_60) rfl (l' := #[rv a1, rv a2, iv 1, iv 5, iv 1, iv B2, iv 12, iv 5, iv 2]) rfl k) ?_
  refine own_st (fun t k => XS.iload X0.here hx rfl (hb hby d5_63) rfl k) ?_
  refine own_st (fun t k => XS.bipush X0.here hx rfl (hb hby d5_65) k) ?_
  show own_Fin _ _ _ _ _ _ _ (s₁.setTop (mkF m 67 #[rv a1, rv a2, iv 1, iv 5, iv 1, iv B2, iv 12, iv 5, iv 2] [(.int (8 : Int32)), (.int (12 : Int32))]))
  refine own_st (fun t k => XS.icmpNo X0.here hx rfl (hb hby d5_67) rfl (flt (by decide : ¬ ((12 : Int32) < (8 : Int32)))).1 k) ?_
  show own_Fin _ _ _ _ _ _ _ (s₁.setTop (mkF m 70 #[rv a1, rv a2, iv 1, iv 5, iv 1, iv B2, iv 12, iv 5, iv 2] []))
  refine own_st (fun t k => XS.iinc X0.here hx rfl (hb hby d5_70) rfl (l' := #[rv a1, rv a2, iv 1, iv 5, iv 1, iv B2, iv 4, iv 5, iv 2]) rfl k) ?_
  refine own_st (fun t k => XS.aloadN X0.here hx rfl (hb hby d5_73) rfl rfl k) ?_
  show own_Fin _ _ _ _ _ _ _ (s₁.setTop (mkF m 74 #[rv a1, rv a2, iv 1, iv 5, iv 1, iv B2, iv 4, iv 5, iv 2] [(.ref a1)]))
  obtain ⟨T3, X3, e3, st3⟩ := getF X0 hx hZ hown (host := "") (Or.inl (hw _ (List.mem_of_getElem? (i := 22) rfl))) Via.refl e0 Fw (g := (mkF m 74 #[rv a1, rv a2, iv 1, iv 5, iv 1, iv B2, iv 4, iv 5, iv 2] [(.ref a1)])) rfl rfl (hb hby d5_74)
  refine own_st st3 ?_
  refine own_st (fun t k => XS.aloadN X3.here hx rfl (hb hby d5_77) rfl rfl k) ?_
  refine own_st (fun t k => XS.dup X3.here hx rfl (hb hby d5_78) rfl rfl k) ?_
  show own_Fin _ _ _ _ _ _ _ (T3.setTop (mkF m 79 #[rv a1, rv a2, iv 1, iv 5, iv 1, iv B2, iv 4, iv 5, iv 2] [(.ref a1), (.ref a1), (.ref t)]))
  obtain ⟨T4, X4, e4, st4⟩ := getF X3 hx hZ hown (host := "") (Or.inl (hw _ (List.mem_of_getElem? (i := 29) rfl))) Via.refl e3 Fc (g := (mkF m 79 #[rv a1, rv a2, iv 1, iv 5, iv 1, iv B2, iv 4, iv 5, iv 2] [(.ref a1), (.ref a1), (.ref t)])) rfl rfl (hb hby d5_79)
  refine own_st st4 ?_
  show own_Fin _ _ _ _ _ _ _ (T4.setTop (mkF m 82 #[rv a1, rv a2, iv 1, iv 5, iv 1, iv B2, iv 4, iv 5, iv 2] [(.int cn), (.ref a1), (.ref t)]))
  refine own_st (fun t k => XS.dupX1 X4.here hx rfl (hb hby d5_82) rfl rfl rfl k) ?_
  refine own_st (fun t k => XS.iconst X4.here hx rfl (hb hby d5_83) k) ?_
  refine own_st (fun t k => XS.iadd X4.here hx rfl (hb hby d5_84) rfl k) ?_
  show own_Fin _ _ _ _ _ _ _ (T4.setTop (mkF m 85 #[rv a1, rv a2, iv 1, iv 5, iv 1, iv B2, iv 4, iv 5, iv 2] [(.int (cn + (1 : Int32))), (.ref a1), (.int cn), (.ref t)]))
  obtain ⟨T5, h5, X5, e5, W5, st5⟩ := putF X4 hx hZ hown (host := "") (Or.inl (hw _ (List.mem_of_getElem? (i := 29) rfl))) Via.refl e4 Fc Ei (Or.inl (hw _ (List.mem_of_getElem? (i := 30) rfl))) (hw _ (List.mem_of_getElem? (i := 10) rfl)) (ty := .int) (by decide) rfl rfl (g := (mkF m 85 #[rv a1, rv a2, iv 1, iv 5, iv 1, iv B2, iv 4, iv 5, iv 2] [(.int (cn + (1 : Int32))), (.ref a1), (.int cn), (.ref t)])) rfl rfl (hb hby d5_85)
  have f5_0 := Ei.wr W5
  have f5_1 := Fw.other W5 (Or.inr (slot_ne (Or.inr (hw _ (List.mem_of_getElem? (i := 23) rfl))) (Or.inl (hw _ (List.mem_of_getElem? (i := 30) rfl))) (by decide) (t := (.array .int)) (t' := .int) (by decide) (by decide)))
  have f5_2 := Vt.other W5 (Ne.symm nat)
  have f5_3 := Vc.other W5 nac
  have Fw5 : Fld Z h5 a1 "com/example/quietzone/quietzone/datamatrix/CodewordWriter" "count" "I" (.int (cn + (1 : Int32))) := Fc.same W5
  have N5 := Fr.snoc X5 N0 gi
  have Z5 : n0 ≤ h5.size := Nat.le_trans Z0 (Keep.of_wr W5).1
  have K5 : Keep h0 h5 [a1, t] := KR.wr W5 (Or.inl (List.mem_of_getElem? (i := 0) rfl))
  refine own_st st5 ?_
  refine own_st (fun t k => XS.iload X5.here hx rfl (hb hby d5_88) rfl k) ?_
  refine own_st (fun t k => XS.iload X5.here hx rfl (hb hby d5_90) rfl k) ?_
  show own_Fin _ _ _ _ _ _ _ (T5.setTop (mkF m 92 #[rv a1, rv a2, iv 1, iv 5, iv 1, iv B2, iv 4, iv 5, iv 2] [(.int (4 : Int32)), (.int B2), (.int cn), (.ref t)]))
  refine own_st (fun t k => XS.ishr X5.here hx rfl (hb hby d5_92) rfl k) ?_
  refine own_st (fun t k => XS.sipush X5.here hx rfl (hb hby d5_93) k) ?_
  refine own_st (fun t k => XS.iand X5.here hx rfl (hb hby d5_96) rfl k) ?_
  show own_Fin _ _ _ _ _ _ _ (T5.setTop (mkF m 97 #[rv a1, rv a2, iv 1, iv 5, iv 1, iv B2, iv 4, iv 5, iv 2] [(.int ((B2 >>> ((4 : Int32) &&& 31)) &&& (255 : Int32))), (.int cn), (.ref t)]))
  obtain ⟨cl6, Ar6, Cq6, Sz6, Mn6, Hs6, Gf6⟩ := id f5_2
  obtain ⟨T6, h6, X6, e6, W6, st6⟩ := stI X5 hx hZ e5 Ar6 (j := cn) (inb_of Sz6 (own_cn hcn hlen).1) (g := (mkF m 97 #[rv a1, rv a2, iv 1, iv 5, iv 1, iv B2, iv 4, iv 5, iv 2] [(.int ((B2 >>> ((4 : Int32) &&& 31)) &&& (255 : Int32))), (.int cn), (.ref t)])) rfl rfl (hb hby d5_97)
  have f6_0 := f5_0.wr W6
  have f6_1 := f5_1.other W6 (Or.inl nat)
  have f6_2 := f5_3.other W6 nct
  have f6_3 := Fw5.other W6 (Or.inl nat)
  have V6 : Arv Z h6 t kt .int (8 : Int32) (vs.set (cn).toNatClampNeg (.int ((B2 >>> ((4 : Int32) &&& 31)) &&& (255 : Int32)))) (.int (0 : Int32)) := Arv.set Ar6 Cq6 Sz6 Mn6 Hs6 Gf6 rfl W6 (cn).toNatClampNeg rfl (own_cn hcn hlen).2.2.2.2.1
  have N6 := Fr.snoc X6 N5 gt
  have Z6 : n0 ≤ h6.size := Nat.le_trans Z5 (Keep.of_wr W6).1
  have K6 : Keep h0 h6 [a1, t] := K5.wr W6 (Or.inl (List.mem_of_getElem? (i := 1) rfl))
  refine own_st st6 ?_
  refine own_st (fun t k => XS.goto X6.here hx rfl (pc0 := 98) (pc' := 63) rfl (hb hby d5_98) (by decide) (by decide) k) ?_
  refine own_st (fun t k => XS.iload X6.here hx rfl (hb hby d5_63) rfl k) ?_
  show own_Fin _ _ _ _ _ _ _ (T6.setTop (mkF m 65 #[rv a1, rv a2, iv 1, iv 5, iv 1, iv B2, iv 4, iv 5, iv 2] [(.int (4 : Int32))]))
  refine own_st (fun t k => XS.bipush X6.here hx rfl (hb hby d5_65) k) ?_
  show own_Fin _ _ _ _ _ _ _ (T6.setTop (mkF m 67 #[rv a1, rv a2, iv 1, iv 5, iv 1, iv B2, iv 4, iv 5, iv 2] [(.int (8 : Int32)), (.int (4 : Int32))]))
  refine own_st (fun t k => XS.icmpYes X6.here hx rfl (pc0 := 67) (pc' := 101) rfl (hb hby d5_67) rfl (tlt (by decide : (4 : Int32) < (8 : Int32))).1 (by decide) (by decide) k) ?_
  show own_Fin _ _ _ _ _ _ _ (T6.setTop (mkF m 101 #[rv a1, rv a2, iv 1, iv 5, iv 1, iv B2, iv 4, iv 5, iv 2] []))
  refine own_st (fun t k => XS.iinc X6.here hx rfl (hb hby d5_101) rfl (l' := #[rv a1, rv a2, iv 1, iv 5, iv 1, iv B2, iv 4, iv 5, iv 3]) rfl k) ?_
  refine own_st (fun t k => XS.goto X6.here hx rfl (pc0 := 104) (pc' := 25) rfl (hb hby d5_104) (by decide) (by decide) k) ?_
  refine own_st (fun t k => XS.iload X6.here hx rfl (hb hby d5_25) rfl k) ?_
  show own_Fin _ _ _ _ _ _ _ (T6.setTop (mkF m 27 #[rv a1, rv a2, iv 1, iv 5, iv 1, iv B2, iv 4, iv 5, iv 3] [(.int (3 : Int32))]))
  refine own_st (fun t k => XS.iloadN X6.here hx rfl (hb hby d5_27) rfl k) ?_
  refine own_st (fun t k => XS.iload X6.here hx rfl (hb hby d5_28) rfl k) ?_
  refine own_st (fun t k => XS.iadd X6.here hx rfl (hb hby d5_30) rfl k) ?_
  show own_Fin _ _ _ _ _ _ _ (T6.setTop (mkF m 31 #[rv a1, rv a2, iv 1, iv 5, iv 1, iv B2, iv 4, iv 5, iv 3] [(.int (6 : Int32)), (.int (3 : Int32))]))
  refine own_st (fun t k => XS.icmpNo X6.here hx rfl (hb hby d5_31) rfl (tlt (by decide : (3 : Int32) < (6 : Int32))).2.1 k) ?_
  refine own_st (fun t k => XS.iload X6.here hx rfl (hb hby d5_34) rfl k) ?_
  refine own_st (fun t k => XS.bipush X6.here hx rfl (hb hby d5_36) k) ?_
  show own_Fin _ _ _ _ _ _ _ (T6.setTop (mkF m 38 #[rv a1, rv a2, iv 1, iv 5, iv 1, iv B2, iv 4, iv 5, iv 3] [(.int (6 : Int32)), (.int B2)]))
  refine own_st (fun t k => XS.ishl X6.here hx rfl (hb hby d5_38) rfl k) ?_
  refine own_st (fun t k => XS.iload X6.here hx rfl (hb hby d5_39) rfl k) ?_
  refine own_st (fun t k => XS.iloadN X6.here hx rfl (hb hby d5_41) rfl k) ?_
  show own_Fin _ _ _ _ _ _ _ (T6.setTop (mkF m 42 #[rv a1, rv a2, iv 1, iv 5, iv 1, iv B2, iv 4, iv 5, iv 3] [(.int (5 : Int32)), (.int (3 : Int32)), (.int (B2 <<< ((6 : Int32) &&& 31)))]))
  refine own_st (fun t k => XS.icmpNo X6.here hx rfl (hb hby d5_42) rfl (tlt (by decide : (3 : Int32) < (5 : Int32))).2.1 k) ?_
  refine own_st (fun t k => XS.aloadN X6.here hx rfl (hb hby d5_45) rfl rfl k) ?_
  refine own_st (fun t k => XS.iload X6.here hx rfl (hb hby d5_46) rfl k) ?_
  show own_Fin _ _ _ _ _ _ _ (T6.setTop (mkF m 48 #[rv a1, rv a2, iv 1, iv 5, iv 1, iv B2, iv 4, iv 5, iv 3] [(.int (3 : Int32)), (.ref a2), (.int (B2 <<< ((6 : Int32) &&& 31)))]))
  obtain ⟨cl7, Ar7, Cq7, Sz7, Mn7, Hs7, Gf7⟩ := id f6_2
  have hin7 := inb_of Sz7 (j := (3 : Int32)) ⟨by decide, by decide⟩
  refine own_st (X6.iaload hx (j := (3 : Int32)) (v := (.int w2)) (by rw [e6]; exact Ar7.1) (State.isArrayOf_alike hZ.alike Ar7.2.1) Ar7.2.2 hin7 (Hs7.at hin7 hat2) (g := (mkF m 48 #[rv a1, rv a2, iv 1, iv 5, iv 1, iv B2, iv 4, iv 5, iv 3] [(.int (3 : Int32)), (.ref a2), (.int (B2 <<< ((6 : Int32) &&& 31)))])) rfl rfl (hb hby d5_48)) ?_
  refine own_st (fun t k => XS.bipush X6.here hx rfl (hb hby d5_49) k) ?_
  refine own_st (fun t k => XS.iand X6.here hx rfl (hb hby d5_51) rfl k) ?_
  show own_Fin _ _ _ _ _ _ _ (T6.setTop (mkF m 52 #[rv a1, rv a2, iv 1, iv 5, iv 1, iv B2, iv 4, iv 5, iv 3] [(.int (w2 &&& (63 : Int32))), (.int (B2 <<< ((6 : Int32) &&& 31)))]))
  refine own_st (fun t k => XS.goto X6.here hx rfl (pc0 := 52) (pc' := 57) rfl (hb hby d5_52) (by decide) (by decide) k) ?_
  refine own_st (fun t k => XS.ior X6.here hx rfl (hb hby d5_57) rfl k) ?_
  refine own_st (fun t k => XS.istore X6.here hx rfl (hb hby d5_58) rfl (l' := #[rv a1, rv a2, iv 1, iv 5, iv 1, iv ((B2 <<< ((6 : Int32) &&& 31)) ||| (w2 &&& (63 : Int32))), iv 4, iv 5, iv 3]) rfl k) ?_
  show own_Fin _ _ _ _ _ _ _ (T6.setTop (mkF m 60 #[rv a1, rv a2, iv 1, iv 5, iv 1, iv ((B2 <<< ((6 : Int32) &&& 31)) ||| (w2 &&& (63 : Int32))), iv 4, iv 5, iv 3] []))
  obtain ⟨B3, hB3⟩ : ∃ z, z = ((B2 <<< ((6 : Int32) &&& 31)) ||| (w2 &&& (63 : Int32))) := ⟨_, rfl⟩
  rw [← hB3]
  refine own_st (fun t k => XS.iinc X6.here hx rfl (hb hby d5_60) rfl (l' := #[rv a1, rv a2, iv 1, iv 5, iv 1, iv B3, iv 10, iv 5, iv 3]) rfl k) ?_
  refine own_st (fun t k => XS.iload X6.here hx rfl (hb hby d5_63) rfl k) ?_
  refine own_st (fun t k => XS.bipush X6.here hx rfl (hb hby d5_65) k) ?_
  show own_Fin _ _ _ _ _ _ _ (T6.setTop (mkF m 67 #[rv a1, rv a2, iv 1, iv 5, iv 1, iv B3, iv 10, iv 5, iv 3] [(.int (8 : Int32)), (.int (10 : Int32))]))
  refine own_st (fun t k => XS.icmpNo X6.here hx rfl (hb hby d5_67) rfl (flt (by decide : ¬ ((10 : Int32) < (8 : Int32)))).1 k) ?_
  show own_Fin _ _ _ _ _ _ _ (T6.setTop (mkF m 70 #[rv a1, rv a2, iv 1, iv 5, iv 1, iv B3, iv 10, iv 5, iv 3] []))
  refine own_st (fun t k => XS.iinc X6.here hx rfl (hb hby d5_70) rfl (l' := #[rv a1, rv a2, iv 1, iv 5, iv 1, iv B3, iv 2, iv 5, iv 3]) rfl k) ?_
  refine own_st (fun t k => XS.aloadN X6.here hx rfl (hb hby d5_73) rfl rfl k) ?_
  show own_Fin _ _ _ _ _ _ _ (T6.setTop (mkF m 74 #[rv a1, rv a2, iv 1, iv 5, iv 1, iv B3, iv 2, iv 5, iv 3] [(.ref a1)]))
  obtain ⟨T8, X8, e8, st8⟩ := getF X6 hx hZ hown (host := "") (Or.inl (hw _ (List.mem_of_getElem? (i := 22) rfl))) Via.refl e6 f6_1 (g := (mkF m 74 #[rv a1, rv a2, iv 1, iv 5, iv 1, iv B3, iv 2, iv 5, iv 3] [(.ref a1)])) rfl rfl (hb hby d5_74)
  refine own_st st8 ?_
  refine own_st (fun t k => XS.aloadN X8.here hx rfl (hb hby d5_77) rfl rfl k) ?_
  refine own_st (fun t k => XS.dup X8.here hx rfl (hb hby d5_78) rfl rfl k) ?_
  show own_Fin _ _ _ _ _ _ _ (T8.setTop (mkF m 79 #[rv a1, rv a2, iv 1, iv 5, iv 1, iv B3, iv 2, iv 5, iv 3] [(.ref a1), (.ref a1), (.ref t)]))
  obtain ⟨T9, X9, e9, st9⟩ := getF X8 hx hZ hown (host := "") (Or.inl (hw _ (List.mem_of_getElem? (i := 29) rfl))) Via.refl e8 f6_3 (g := (mkF m 79 #[rv a1, rv a2, iv 1, iv 5, iv 1, iv B3, iv 2, iv 5, iv 3] [(.ref a1), (.ref a1), (.ref t)])) rfl rfl (hb hby d5_79)
  refine own_st st9 ?_
  show own_Fin _ _ _ _ _ _ _ (T9.setTop (mkF m 82 #[rv a1, rv a2, iv 1, iv 5, iv 1, iv B3, iv 2, iv 5, iv 3] [(.int (cn + (1 : Int32))), (.ref a1), (.ref t)]))
  refine own_st (fun t k => XS.dupX1 X9.here hx rfl (hb hby d5_82) rfl rfl rfl k) ?_
  refine own_st (fun t k => XS.iconst X9.here hx rfl (hb hby d5_83) k) ?_
  refine own_st (fun t k => XS.iadd X9.here hx rfl (hb hby d5_84) rfl k) ?_
  show own_Fin _ _ _ _ _ _ _ (T9.setTop (mkF m 85 #[rv a1, rv a2, iv 1, iv 5, iv 1, iv B3, iv 2, iv 5, iv 3] [(.int ((cn + (1 : Int32)) + (1 : Int32))), (.ref a1), (.int (cn + (1 : Int32))), (.ref t)]))
  obtain ⟨T10, h10, X10, e10, W10, st10⟩ := putF X9 hx hZ hown (host := "") (Or.inl (hw _ (List.mem_of_getElem? (i := 29) rfl))) Via.refl e9 f6_3 f6_0 (Or.inl (hw _ (List.mem_of_getElem? (i := 30) rfl))) (hw _ (List.mem_of_getElem? (i := 10) rfl)) (ty := .int) (by decide) rfl rfl (g := (mkF m 85 #[rv a1, rv a2, iv 1, iv 5, iv 1, iv B3, iv 2, iv 5, iv 3] [(.int ((cn + (1 : Int32)) + (1 : Int32))), (.ref a1), (.int (cn + (1 : Int32))), (.ref t)])) rfl rfl (hb hby d5_85)
  have f10_0 := f6_0.wr W10
  have f10_1 := f6_1.other W10 (Or.inr (slot_ne (Or.inr (hw _ (List.mem_of_getElem? (i := 23) rfl))) (Or.inl (hw _ (List.mem_of_getElem? (i := 30) rfl))) (by decide) (t := (.array .int)) (t' := .int) (by decide) (by decide)))
  have f10_2 := f6_2.other W10 nac
  have f10_3 := V6.other W10 (Ne.symm nat)
  have Fw10 : Fld Z h10 a1 "com/example/quietzone/quietzone/datamatrix/CodewordWriter" "count" "I" (.int ((cn + (1 : Int32)) + (1 : Int32))) := f6_3.same W10
  have N10 := Fr.snoc X10 N6 gi
  have Z10 : n0 ≤ h10.size := Nat.le_trans Z6 (Keep.of_wr W10).1
  have K10 : Keep h0 h10 [a1, t] := K6.wr W10 (Or.inl (List.mem_of_getElem? (i := 0) rfl))
  refine own_st st10 ?_
  refine own_st (fun t k => XS.iload X10.here hx rfl (hb hby d5_88) rfl k) ?_
  refine own_st (fun t k => XS.iload X10.here hx rfl (hb hby d5_90) rfl k) ?_
  show own_Fin _ _ _ _ _ _ _ (T10.setTop (mkF m 92 #[rv a1, rv a2, iv 1, iv 5, iv 1, iv B3, iv 2, iv 5, iv 3] [(.int (2 : Int32)), (.int B3), (.int (cn + (1 : Int32))), (.ref t)]))
  refine own_st (fun t k => XS.ishr X10.here hx rfl (hb hby d5_92) rfl k) ?_
  refine own_st (fun t k => XS.sipush X10.here hx rfl (hb hby d5_93) k) ?_
  refine own_st (fun t k => XS.iand X10.here hx rfl (hb hby d5_96) rfl k) ?_
  show own_Fin _ _ _ _ _ _ _ (T10.setTop (mkF m 97 #[rv a1, rv a2, iv 1, iv 5, iv 1, iv B3, iv 2, iv 5, iv 3] [(.int ((B3 >>> ((2 : Int32) &&& 31)) &&& (255 : Int32))), (.int (cn + (1 : Int32))), (.ref t)]))
  obtain ⟨cl11, Ar11, Cq11, Sz11, Mn11, Hs11, Gf11⟩ := id f10_3
  obtain ⟨T11, h11, X11, e11, W11, st11⟩ := stI X10 hx hZ e10 Ar11 (j := (cn + (1 : Int32))) (inb_of Sz11 (own_cn hcn hlen).2.1) (g := (mkF m 97 #[rv a1, rv a2, iv 1, iv 5, iv 1, iv B3, iv 2, iv 5, iv 3] [(.int ((B3 >>> ((2 : Int32) &&& 31)) &&& (255 : Int32))), (.int (cn + (1 : Int32))), (.ref t)])) rfl rfl (hb hby d5_97)
  have f11_0 := f10_0.wr W11
  have f11_1 := f10_1.other W11 (Or.inl nat)
  have f11_2 := f10_2.other W11 nct
  have f11_3 := Fw10.other W11 (Or.inl nat)
  have V11 : Arv Z h11 t kt .int (8 : Int32) ((vs.set (cn).toNatClampNeg (.int ((B2 >>> ((4 : Int32) &&& 31)) &&& (255 : Int32)))).set ((cn + (1 : Int32))).toNatClampNeg (.int ((B3 >>> ((2 : Int32) &&& 31)) &&& (255 : Int32)))) (.int (0 : Int32)) := Arv.set Ar11 Cq11 Sz11 Mn11 Hs11 Gf11 rfl W11 ((cn + (1 : Int32))).toNatClampNeg rfl (by simp only [List.length_set]; exact (own_cn hcn hlen).2.2.2.2.2.1)
  have N11 := Fr.snoc X11 N10 gt
  have Z11 : n0 ≤ h11.size := Nat.le_trans Z10 (Keep.of_wr W11).1
  have K11 : Keep h0 h11 [a1, t] := K10.wr W11 (Or.inl (List.mem_of_getElem? (i := 1) rfl))
  refine own_st st11 ?_
  refine own_st (fun t k => XS.goto X11.here hx rfl (pc0 := 98) (pc' := 63) rfl (hb hby d5_98) (by decide) (by decide) k) ?_
  refine own_st (fun t k => XS.iload X11.here hx rfl (hb hby d5_63) rfl k) ?_
  show own_Fin _ _ _ _ _ _ _ (T11.setTop (mkF m 65 #[rv a1, rv a2, iv 1, iv 5, iv 1, iv B3, iv 2, iv 5, iv 3] [(.int (2 : Int32))]))
  refine own_st (fun t k => XS.bipush X11.here hx rfl (hb hby d5_65) k) ?_
  show own_Fin _ _ _ _ _ _ _ (T11.setTop (mkF m 67 #[rv a1, rv a2, iv 1, iv 5, iv 1, iv B3, iv 2, iv 5, iv 3] [(.int (8 : Int32)), (.int (2 : Int32))]))
  refine own_st (fun t k => XS.icmpYes X11.here hx rfl (pc0 := 67) (pc' := 101) rfl (hb hby d5_67) rfl (tlt (by decide : (2 : Int32) < (8 : Int32))).1 (by decide) (by decide) k) ?_
  show own_Fin _ _ _ _ _ _ _ (T11.setTop (mkF m 101 #[rv a1, rv a2, iv 1, iv 5, iv 1, iv B3, iv 2, iv 5, iv 3] []))
  refine own_st (fun t k => XS.iinc X11.here hx rfl (hb hby d5_101) rfl (l' := #[rv a1, rv a2, iv 1, iv 5, iv 1, iv B3, iv 2, iv 5, iv 4]) rfl k) ?_
  refine own_st (fun t k => XS.goto X11.here hx rfl (pc0 := 104) (pc' := 25) rfl (hb hby d5_104) (by decide) (by decide) k) ?_
  refine own_st (fun t k => XS.iload X11.here hx rfl (hb hby d5_25) rfl k) ?_
  show own_Fin _ _ _ _ _ _ _ (T11.setTop (mkF m 27 #[rv a1, rv a2, iv 1, iv 5, iv 1, iv B3, iv 2, iv 5, iv 4] [(.int (4 : Int32))]))
  refine own_st (fun t k => XS.iloadN X11.here hx rfl (hb hby d5_27) rfl k) ?_
  refine own_st (fun t k => XS.iload X11.here hx rfl (hb hby d5_28) rfl k) ?_
  refine own_st (fun t k => XS.iadd X11.here hx rfl (hb hby d5_30) rfl k) ?_
  show own_Fin _ _ _ _ _ _ _ (T11.setTop (mkF m 31 #[rv a1, rv a2, iv 1, iv 5, iv 1, iv B3, iv 2, iv 5, iv 4] [(.int (6 : Int32)), (.int (4 : Int32))]))
  refine own_st (fun t k => XS.icmpNo X11.here hx rfl (hb hby d5_31) rfl (tlt (by decide : (4 : Int32) < (6 : Int32))).2.1 k) ?_
  refine own_st (fun t k => XS.iload X11.here hx rfl (hb hby d5_34) rfl k) ?_
  refine own_st (fun t k => XS.bipush X11.here hx rfl (hb hby d5_36) k) ?_
  show own_Fin _ _ _ _ _ _ _ (T11.setTop (mkF m 38 #[rv a1, rv a2, iv 1, iv 5, iv 1, iv B3, iv 2, iv 5, iv 4] [(.int (6 : Int32)), (.int B3)]))
  refine own_st (fun t k => XS.ishl X11.here hx rfl (hb hby d5_38) rfl k) ?_
  refine own_st (fun t k => XS.iload X11.here hx rfl (hb hby d5_39) rfl k) ?_
  refine own_st (fun t k => XS.iloadN X11.here hx rfl (hb hby d5_41) rfl k) ?_
  show own_Fin _ _ _ _ _ _ _ (T11.setTop (mkF m 42 #[rv a1, rv a2, iv 1, iv 5, iv 1, iv B3, iv 2, iv 5, iv 4] [(.int (5 : Int32)), (.int (4 : Int32)), (.int (B3 <<< ((6 : Int32) &&& 31)))]))
  refine own_st (fun t k => XS.icmpNo X11.here hx rfl (hb hby d5_42) rfl (tlt (by decide : (4 : Int32) < (5 : Int32))).2.1 k) ?_
  refine own_st (fun t k => XS.aloadN X11.here hx rfl (hb hby d5_45) rfl rfl k) ?_
  refine own_st (fun t k => XS.iload X11.here hx rfl (hb hby d5_46) rfl k) ?_
  show own_Fin _ _ _ _ _ _ _ (T11.setTop (mkF m 48 #[rv a1, rv a2, iv 1, iv 5, iv 1, iv B3, iv 2, iv 5, iv 4] [(.int (4 : Int32)), (.ref a2), (.int (B3 <<< ((6 : Int32) &&& 31)))]))
  obtain ⟨cl12, Ar12, Cq12, Sz12, Mn12, Hs12, Gf12⟩ := id f11_2
  have hin12 := inb_of Sz12 (j := (4 : Int32)) ⟨by decide, by decide⟩
  refine own_st (X11.iaload hx (j := (4 : Int32)) (v := (.int w3)) (by rw [e11]; exact Ar12.1) (State.isArrayOf_alike hZ.alike Ar12.2.1) Ar12.2.2 hin12 (Hs12.at hin12 hat3) (g := (mkF m 48 #[rv a1, rv a2, iv 1, iv 5, iv 1, iv B3, iv 2, iv 5, iv 4] [(.int (4 : Int32)), (.ref a2), (.int (B3 <<< ((6 : Int32) &&& 31)))])) rfl rfl (hb hby d5_48)) ?_
  refine own_st (fun t k => XS.bipush X11.here hx rfl (hb hby d5_49) k) ?_
  refine own_st (fun t k => XS.iand X11.here hx rfl (hb hby d5_51) rfl k) ?_
  show own_Fin _ _ _ _ _ _ _ (T11.setTop (mkF m 52 #[rv a1, rv a2, iv 1, iv 5, iv 1, iv B3, iv 2, iv 5, iv 4] [(.int (w3 &&& (63 : Int32))), (.int (B3 <<< ((6 : Int32) &&& 31)))]))
  refine own_st (fun t k => XS.goto X11.here hx rfl (pc0 := 52) (pc' := 57) rfl (hb hby d5_52) (by decide) (by decide) k) ?_
  refine own_st (fun t k => XS.ior X11.here hx rfl (hb hby d5_57) rfl k) ?_
  refine own_st (fun t k => XS.istore X11.here hx rfl (hb hby d5_58) rfl (l' := #[rv a1, rv a2, iv 1, iv 5, iv 1, iv ((B3 <<< ((6 : Int32) &&& 31)) ||| (w3 &&& (63 : Int32))), iv 2, iv 5, iv 4]) rfl k) ?_
  show own_Fin _ _ _ _ _ _ _ (T11.setTop (mkF m 60 #[rv a1, rv a2, iv 1, iv 5, iv 1, iv ((B3 <<< ((6 : Int32) &&& 31)) ||| (w3 &&& (63 : Int32))), iv 2, iv 5, iv 4] []))
  obtain ⟨B4, hB4⟩ : ∃ z, z = ((B3 <<< ((6 : Int32) &&& 31)) ||| (w3 &&& (63 : Int32))) := ⟨_, rfl⟩
  rw [← hB4]
  refine own_st (fun t k => XS.iinc X11.here hx rfl (hb hby d5_60) rfl (l' := #[rv a1, rv a2, iv 1, iv 5, iv 1, iv B4, iv 8, iv 5, iv 4]) rfl k) ?_
  refine own_st (fun t k => XS.iload X11.here hx rfl (hb hby d5_63) rfl k) ?_
  refine own_st (fun t k => XS.bipush X11.here hx rfl (hb hby d5_65) k) ?_
  show own_Fin _ _ _ _ _ _ _ (T11.setTop (mkF m 67 #[rv a1, rv a2, iv 1, iv 5, iv 1, iv B4, iv 8, iv 5, iv 4] [(.int (8 : Int32)), (.int (8 : Int32))]))
  refine own_st (fun t k => XS.icmpNo X11.here hx rfl (hb hby d5_67) rfl (flt (by decide : ¬ ((8 : Int32) < (8 : Int32)))).1 k) ?_
  show own_Fin _ _ _ _ _ _ _ (T11.setTop (mkF m 70 #[rv a1, rv a2, iv 1, iv 5, iv 1, iv B4, iv 8, iv 5, iv 4] []))
  refine own_st (fun t k => XS.iinc X11.here hx rfl (hb hby d5_70) rfl (l' := #[rv a1, rv a2, iv 1, iv 5, iv 1, iv B4, iv 0, iv 5, iv 4]) rfl k) ?_
  refine own_st (fun t k => XS.aloadN X11.here hx rfl (hb hby d5_73) rfl rfl k) ?_
  show own_Fin _ _ _ _ _ _ _ (T11.setTop (mkF m 74 #[rv a1, rv a2, iv 1, iv 5, iv 1, iv B4, iv 0, iv 5, iv 4] [(.ref a1)]))
  obtain ⟨T13, X13, e13, st13⟩ := getF X11 hx hZ hown (host := "") (Or.inl (hw _ (List.mem_of_getElem? (i := 22) rfl))) Via.refl e11 f11_1 (g := (mkF m 74 #[rv a1, rv a2, iv 1, iv 5, iv 1, iv B4, iv 0, iv 5, iv 4] [(.ref a1)])) rfl rfl (hb hby d5_74)
  refine own_st st13 ?_
  refine own_st (fun t k => XS.aloadN X13.here hx rfl (hb hby d5_77) rfl rfl k) ?_
  refine own_st (fun t k => XS.dup X13.here hx rfl (hb hby d5_78) rfl rfl k) ?_
  show own_Fin _ _ _ _ _ _ _ (T13.setTop (mkF m 79 #[rv a1, rv a2, iv 1, iv 5, iv 1, iv B4, iv 0, iv 5, iv 4] [(.ref a1), (.ref a1), (.ref t)]))
  obtain ⟨T14, X14, e14, st14⟩ := getF X13 hx hZ hown (host := "") (Or.inl (hw _ (List.mem_of_getElem? (i := 29) rfl))) Via.refl e13 f11_3 (g := (mkF m 79 #[rv a1, rv a2, iv 1, iv 5, iv 1, iv B4, iv 0, iv 5, iv 4] [(.ref a1), (.ref a1), (.ref t)])) rfl rfl (hb hby d5_79)
  refine own_st st14 ?_
  show own_Fin _ _ _ _ _ _ _ (T14.setTop (mkF m 82 #[rv a1, rv a2, iv 1, iv 5, iv 1, iv B4, iv 0, iv 5, iv 4] [(.int ((cn + (1 : Int32)) + (1 : Int32))), (.ref a1), (.ref t)]))
  refine own_st (fun t k => XS.dupX1 X14.here hx rfl (hb hby d5_82) rfl rfl rfl k) ?_
  refine own_st (fun t k => XS.iconst X14.here hx rfl (hb hby d5_83) k) ?_
  refine own_st (fun t k => XS.iadd X14.here hx rfl (hb hby d5_84) rfl k) ?_
  show own_Fin _ _ _ _ _ _ _ (T14.setTop (mkF m 85 #[rv a1, rv a2, iv 1, iv 5, iv 1, iv B4, iv 0, iv 5, iv 4] [(.int (((cn + (1 : Int32)) + (1 : Int32)) + (1 : Int32))), (.ref a1), (.int ((cn + (1 : Int32)) + (1 : Int32))), (.ref t)]))
  obtain ⟨T15, h15, X15, e15, W15, st15⟩ := putF X14 hx hZ hown (host := "") (Or.inl (hw _ (List.mem_of_getElem? (i := 29) rfl))) Via.refl e14 f11_3 f11_0 (Or.inl (hw _ (List.mem_of_getElem? (i := 30) rfl))) (hw _ (List.mem_of_getElem? (i := 10) rfl)) (ty := .int) (by decide) rfl rfl (g := (mkF m 85 #[rv a1, rv a2, iv 1, iv 5, iv 1, iv B4, iv 0, iv 5, iv 4] [(.int (((cn + (1 : Int32)) + (1 : Int32)) + (1 : Int32))), (.ref a1), (.int ((cn + (1 : Int32)) + (1 : Int32))), (.ref t)])) rfl rfl (hb hby d5_85)
  have f15_0 := f11_0.wr W15
  have f15_1 := f11_1.other W15 (Or.inr (slot_ne (Or.inr (hw _ (List.mem_of_getElem? (i := 23) rfl))) (Or.inl (hw _ (List.mem_of_getElem? (i := 30) rfl))) (by decide) (t := (.array .int)) (t' := .int) (by decide) (by decide)))
  have f15_2 := f11_2.other W15 nac
  have f15_3 := V11.other W15 (Ne.symm nat)
  have Fw15 : Fld Z h15 a1 "com/example/quietzone/quietzone/datamatrix/CodewordWriter" "count" "I" (.int (((cn + (1 : Int32)) + (1 : Int32)) + (1 : Int32))) := f11_3.same W15
  have N15 := Fr.snoc X15 N11 gi
  have Z15 : n0 ≤ h15.size := Nat.le_trans Z11 (Keep.of_wr W15).1
  have K15 : Keep h0 h15 [a1, t] := K11.wr W15 (Or.inl (List.mem_of_getElem? (i := 0) rfl))
  refine own_st st15 ?_
  refine own_st (fun t k => XS.iload X15.here hx rfl (hb hby d5_88) rfl k) ?_
  refine own_st (fun t k => XS.iload X15.here hx rfl (hb hby d5_90) rfl k) ?_
  show own_Fin _ _ _ _ _ _ _ (T15.setTop (mkF m 92 #[rv a1, rv a2, iv 1, iv 5, iv 1, iv B4, iv 0, iv 5, iv 4] [(.int (0 : Int32)), (.int B4), (.int ((cn + (1 : Int32)) + (1 : Int32))), (.ref t)]))
  refine own_st (fun t k => XS.ishr X15.here hx rfl (hb hby d5_92) rfl k) ?_
  refine own_st (fun t k => XS.sipush X15.here hx rfl (hb hby d5_93) k) ?_
  refine own_st (fun t k => XS.iand X15.here hx rfl (hb hby d5_96) rfl k) ?_
  show own_Fin _ _ _ _ _ _ _ (T15.setTop (mkF m 97 #[rv a1, rv a2, iv 1, iv 5, iv 1, iv B4, iv 0, iv 5, iv 4] [(.int ((B4 >>> ((0 : Int32) &&& 31)) &&& (255 : Int32))), (.int ((cn + (1 : Int32)) + (1 : Int32))), (.ref t)]))
  obtain ⟨cl16, Ar16, Cq16, Sz16, Mn16, Hs16, Gf16⟩ := id f15_3
  obtain ⟨T16, h16, X16, e16, W16, st16⟩ := stI X15 hx hZ e15 Ar16 (j := ((cn + (1 : Int32)) + (1 : Int32))) (inb_of Sz16 (own_cn hcn hlen).2.2.1) (g := (mkF m 97 #[rv a1, rv a2, iv 1, iv 5, iv 1, iv B4, iv 0, iv 5, iv 4] [(.int ((B4 >>> ((0 : Int32) &&& 31)) &&& (255 : Int32))), (.int ((cn + (1 : Int32)) + (1 : Int32))), (.ref t)])) rfl rfl (hb hby d5_97)
  have f16_0 := f15_0.wr W16
  have f16_1 := f15_1.other W16 (Or.inl nat)
  have f16_2 := f15_2.other W16 nct
  have f16_3 := Fw15.other W16 (Or.inl nat)
  have V16 : Arv Z h16 t kt .int (8 : Int32) (((vs.set (cn).toNatClampNeg (.int ((B2 >>> ((4 : Int32) &&& 31)) &&& (255 : Int32)))).set ((cn + (1 : Int32))).toNatClampNeg (.int ((B3 >>> ((2 : Int32) &&& 31)) &&& (255 : Int32)))).set (((cn + (1 : Int32)) + (1 : Int32))).toNatClampNeg (.int ((B4 >>> ((0 : Int32) &&& 31)) &&& (255 : Int32)))) (.int (0 : Int32)) := Arv.set Ar16 Cq16 Sz16 Mn16 Hs16 Gf16 rfl W16 (((cn + (1 : Int32)) + (1 : Int32))).toNatClampNeg rfl (by simp only [List.length_set]; exact (own_cn hcn hlen).2.2.2.2.2.2.1)
  have N16 := Fr.snoc X16 N15 gt
  have Z16 : n0 ≤ h16.size := Nat.le_trans Z15 (Keep.of_wr W16).1
  have K16 : Keep h0 h16 [a1, t] := K15.wr W16 (Or.inl (List.mem_of_getElem? (i := 1) rfl))
  refine own_st st16 ?_
  refine own_st (fun t k => XS.goto X16.here hx rfl (pc0 := 98) (pc' := 63) rfl (hb hby d5_98) (by decide) (by decide) k) ?_
  refine own_st (fun t k => XS.iload X16.here hx rfl (hb hby d5_63) rfl k) ?_
  show own_Fin _ _ _ _ _ _ _ (T16.setTop (mkF m 65 #[rv a1, rv a2, iv 1, iv 5, iv 1, iv B4, iv 0, iv 5, iv 4] [(.int (0 : Int32))]))
  refine own_st (fun t k => XS.bipush X16.here hx rfl (hb hby d5_65) k) ?_
  show own_Fin _ _ _ _ _ _ _ (T16.setTop (mkF m 67 #[rv a1, rv a2, iv 1, iv 5, iv 1, iv B4, iv 0, iv 5, iv 4] [(.int (8 : Int32)), (.int (0 : Int32))]))
  refine own_st (fun t k => XS.icmpYes X16.here hx rfl (pc0 := 67) (pc' := 101) rfl (hb hby d5_67) rfl (tlt (by decide : (0 : Int32) < (8 : Int32))).1 (by decide) (by decide) k) ?_
  show own_Fin _ _ _ _ _ _ _ (T16.setTop (mkF m 101 #[rv a1, rv a2, iv 1, iv 5, iv 1, iv B4, iv 0, iv 5, iv 4] []))
  refine own_st (fun t k => XS.iinc X16.here hx rfl (hb hby d5_101) rfl (l' := #[rv a1, rv a2, iv 1, iv 5, iv 1, iv B4, iv 0, iv 5, iv 5]) rfl k) ?_
  refine own_st (fun t k => XS.goto X16.here hx rfl (pc0 := 104) (pc' := 25) rfl (hb hby d5_104) (by decide) (by decide) k) ?_
  refine own_st (fun t k => XS.iload X16.here hx rfl (hb hby d5_25) rfl k) ?_
  show own_Fin _ _ _ _ _ _ _ (T16.setTop (mkF m 27 #[rv a1, rv a2, iv 1, iv 5, iv 1, iv B4, iv 0, iv 5, iv 5] [(.int (5 : Int32))]))
  refine own_st (fun t k => XS.iloadN X16.here hx rfl (hb hby d5_27) rfl k) ?_
  refine own_st (fun t k => XS.iload X16.here hx rfl (hb hby d5_28) rfl k) ?_
  refine own_st (fun t k => XS.iadd X16.here hx rfl (hb hby d5_30) rfl k) ?_
  show own_Fin _ _ _ _ _ _ _ (T16.setTop (mkF m 31 #[rv a1, rv a2, iv 1, iv 5, iv 1, iv B4, iv 0, iv 5, iv 5] [(.int (6 : Int32)), (.int (5 : Int32))]))
  refine own_st (fun t k => XS.icmpNo X16.here hx rfl (hb hby d5_31) rfl (tlt (by decide : (5 : Int32) < (6 : Int32))).2.1 k) ?_
  refine own_st (fun t k => XS.iload X16.here hx rfl (hb hby d5_34) rfl k) ?_
  refine own_st (fun t k => XS.bipush X16.here hx rfl (hb hby d5_36) k) ?_
  show own_Fin _ _ _ _ _ _ _ (T16.setTop (mkF m 38 #[rv a1, rv a2, iv 1, iv 5, iv 1, iv B4, iv 0, iv 5, iv 5] [(.int (6 : Int32)), (.int B4)]))
  refine own_st (fun t k => XS.ishl X16.here hx rfl (hb hby d5_38) rfl k) ?_
  refine own_st (fun t k => XS.iload X16.here hx rfl (hb hby d5_39) rfl k) ?_
  refine own_st (fun t k => XS.iloadN X16.here hx rfl (hb hby d5_41) rfl k) ?_
  show own_Fin _ _ _ _ _ _ _ (T16.setTop (mkF m 42 #[rv a1, rv a2, iv 1, iv 5, iv 1, iv B4, iv 0, iv 5, iv 5] [(.int (5 : Int32)), (.int (5 : Int32)), (.int (B4 <<< ((6 : Int32) &&& 31)))]))
  refine own_st (fun t k => XS.icmpYes X16.here hx rfl (pc0 := 42) (pc' := 55) rfl (hb hby d5_42) rfl (flt (by decide : ¬ ((5 : Int32) < (5 : Int32)))).2.1 (by decide) (by decide) k) ?_
  refine own_st (fun t k => XS.bipush X16.here hx rfl (hb hby d5_55) k) ?_
  refine own_st (fun t k => XS.ior X16.here hx rfl (hb hby d5_57) rfl k) ?_
  show own_Fin _ _ _ _ _ _ _ (T16.setTop (mkF m 58 #[rv a1, rv a2, iv 1, iv 5, iv 1, iv B4, iv 0, iv 5, iv 5] [(.int ((B4 <<< ((6 : Int32) &&& 31)) ||| (31 : Int32)))]))
  refine own_st (fun t k => XS.istore X16.here hx rfl (hb hby d5_58) rfl (l' := #[rv a1, rv a2, iv 1, iv 5, iv 1, iv ((B4 <<< ((6 : Int32) &&& 31)) ||| (31 : Int32)), iv 0, iv 5, iv 5]) rfl k) ?_
  show own_Fin _ _ _ _ _ _ _ (T16.setTop (mkF m 60 #[rv a1, rv a2, iv 1, iv 5, iv 1, iv ((B4 <<< ((6 : Int32) &&& 31)) ||| (31 : Int32)), iv 0, iv 5, iv 5] []))
  obtain ⟨B5, hB5⟩ : ∃ z, z = ((B4 <<< ((6 : Int32) &&& 31)) ||| (31 : Int32)) := ⟨_, rfl⟩
  rw [← hB5]
  refine own_st (fun t k => XS.iinc X16.here hx rfl (hb hby d5_60) rfl (l' := #[rv a1, rv a2, iv 1, iv 5, iv 1, iv B5, iv 6, iv 5, iv 5]) rfl k) ?_
  refine own_st (fun t k => XS.iload X16.here hx rfl (hb hby d5_63) rfl k) ?_
  refine own_st (fun t k => XS.bipush X16.here hx rfl (hb hby d5_65) k) ?_
  show own_Fin _ _ _ _ _ _ _ (T16.setTop (mkF m 67 #[rv a1, rv a2, iv 1, iv 5, iv 1, iv B5, iv 6, iv 5, iv 5] [(.int (8 : Int32)), (.int (6 : Int32))]))
  refine own_st (fun t k => XS.icmpYes X16.here hx rfl (pc0 := 67) (pc' := 101) rfl (hb hby d5_67) rfl (tlt (by decide : (6 : Int32) < (8 : Int32))).1 (by decide) (by decide) k) ?_
  show own_Fin _ _ _ _ _ _ _ (T16.setTop (mkF m 101 #[rv a1, rv a2, iv 1, iv 5, iv 1, iv B5, iv 6, iv 5, iv 5] []))
  refine own_st (fun t k => XS.iinc X16.here hx rfl (hb hby d5_101) rfl (l' := #[rv a1, rv a2, iv 1, iv 5, iv 1, iv B5, iv 6, iv 5, iv 6]) rfl k) ?_
  refine own_st (fun t k => XS.goto X16.here hx rfl (pc0 := 104) (pc' := 25) rfl (hb hby d5_104) (by decide) (by decide) k) ?_
  refine own_st (fun t k => XS.iload X16.here hx rfl (hb hby d5_25) rfl k) ?_
  show own_Fin _ _ _ _ _ _ _ (T16.setTop (mkF m 27 #[rv a1, rv a2, iv 1, iv 5, iv 1, iv B5, iv 6, iv 5, iv 6] [(.int (6 : Int32))]))
  refine own_st (fun t k => XS.iloadN X16.here hx rfl (hb hby d5_27) rfl k) ?_
  refine own_st (fun t k => XS.iload X16.here hx rfl (hb hby d5_28) rfl k) ?_
  refine own_st (fun t k => XS.iadd X16.here hx rfl (hb hby d5_30) rfl k) ?_
  show own_Fin _ _ _ _ _ _ _ (T16.setTop (mkF m 31 #[rv a1, rv a2, iv 1, iv 5, iv 1, iv B5, iv 6, iv 5, iv 6] [(.int (6 : Int32)), (.int (6 : Int32))]))
  refine own_st (fun t k => XS.icmpYes X16.here hx rfl (pc0 := 31) (pc' := 107) rfl (hb hby d5_31) rfl (flt (by decide : ¬ ((6 : Int32) < (6 : Int32)))).2.1 (by decide) (by decide) k) ?_
  refine own_st (fun t k => XS.iload X16.here hx rfl (hb hby d5_107) rfl k) ?_
  show own_Fin _ _ _ _ _ _ _ (T16.setTop (mkF m 109 #[rv a1, rv a2, iv 1, iv 5, iv 1, iv B5, iv 6, iv 5, iv 6] [(.int (6 : Int32))]))
  refine own_st (fun t k => XS.ifNo X16.here hx rfl (hb hby d5_109) rfl ((if0 _ _).trans (tlt (by decide : (0 : Int32) < (6 : Int32))).2.2.2) k) ?_
  refine own_st (fun t k => XS.aloadN X16.here hx rfl (hb hby d5_112) rfl rfl k) ?_
  show own_Fin _ _ _ _ _ _ _ (T16.setTop (mkF m 113 #[rv a1, rv a2, iv 1, iv 5, iv 1, iv B5, iv 6, iv 5, iv 6] [(.ref a1)]))
  obtain ⟨T17, X17, e17, st17⟩ := getF X16 hx hZ hown (host := "") (Or.inl (hw _ (List.mem_of_getElem? (i := 22) rfl))) Via.refl e16 f16_1 (g := (mkF m 113 #[rv a1, rv a2, iv 1, iv 5, iv 1, iv B5, iv 6, iv 5, iv 6] [(.ref a1)])) rfl rfl (hb hby d5_113)
  refine own_st st17 ?_
  refine own_st (fun t k => XS.aloadN X17.here hx rfl (hb hby d5_116) rfl rfl k) ?_
  refine own_st (fun t k => XS.dup X17.here hx rfl (hb hby d5_117) rfl rfl k) ?_
  show own_Fin _ _ _ _ _ _ _ (T17.setTop (mkF m 118 #[rv a1, rv a2, iv 1, iv 5, iv 1, iv B5, iv 6, iv 5, iv 6] [(.ref a1), (.ref a1), (.ref t)]))
  obtain ⟨T18, X18, e18, st18⟩ := getF X17 hx hZ hown (host := "") (Or.inl (hw _ (List.mem_of_getElem? (i := 29) rfl))) Via.refl e17 f16_3 (g := (mkF m 118 #[rv a1, rv a2, iv 1, iv 5, iv 1, iv B5, iv 6, iv 5, iv 6] [(.ref a1), (.ref a1), (.ref t)])) rfl rfl (hb hby d5_118)
  refine own_st st18 ?_
  show own_Fin _ _ _ _ _ _ _ (T18.setTop (mkF m 121 #[rv a1, rv a2, iv 1, iv 5, iv 1, iv B5, iv 6, iv 5, iv 6] [(.int (((cn + (1 : Int32)) + (1 : Int32)) + (1 : Int32))), (.ref a1), (.ref t)]))
  refine own_st (fun t k => XS.dupX1 X18.here hx rfl (hb hby d5_121) rfl rfl rfl k) ?_
  refine own_st (fun t k => XS.iconst X18.here hx rfl (hb hby d5_122) k) ?_
  refine own_st (fun t k => XS.iadd X18.here hx rfl (hb hby d5_123) rfl k) ?_
  show own_Fin _ _ _ _ _ _ _ (T18.setTop (mkF m 124 #[rv a1, rv a2, iv 1, iv 5, iv 1, iv B5, iv 6, iv 5, iv 6] [(.int ((((cn + (1 : Int32)) + (1 : Int32)) + (1 : Int32)) + (1 : Int32))), (.ref a1), (.int (((cn + (1 : Int32)) + (1 : Int32)) + (1 : Int32))), (.ref t)]))
  obtain ⟨T19, h19, X19, e19, W19, st19⟩ := putF X18 hx hZ hown (host := "") (Or.inl (hw _ (List.mem_of_getElem? (i := 29) rfl))) Via.refl e18 f16_3 f16_0 (Or.inl (hw _ (List.mem_of_getElem? (i := 30) rfl))) (hw _ (List.mem_of_getElem? (i := 10) rfl)) (ty := .int) (by decide) rfl rfl (g := (mkF m 124 #[rv a1, rv a2, iv 1, iv 5, iv 1, iv B5, iv 6, iv 5, iv 6] [(.int ((((cn + (1 : Int32)) + (1 : Int32)) + (1 : Int32)) + (1 : Int32))), (.ref a1), (.int (((cn + (1 : Int32)) + (1 : Int32)) + (1 : Int32))), (.ref t)])) rfl rfl (hb hby d5_124)
  have f19_0 := f16_0.wr W19
  have f19_1 := f16_1.other W19 (Or.inr (slot_ne (Or.inr (hw _ (List.mem_of_getElem? (i := 23) rfl))) (Or.inl (hw _ (List.mem_of_getElem? (i := 30) rfl))) (by decide) (t := (.array .int)) (t' := .int) (by decide) (by decide)))
  have f19_2 := f16_2.other W19 nac
  have f19_3 := V16.other W19 (Ne.symm nat)
  have Fw19 : Fld Z h19 a1 "com/example/quietzone/quietzone/datamatrix/CodewordWriter" "count" "I" (.int ((((cn + (1 : Int32)) + (1 : Int32)) + (1 : Int32)) + (1 : Int32))) := f16_3.same W19
  have N19 := Fr.snoc X19 N16 gi
  have Z19 : n0 ≤ h19.size := Nat.le_trans Z16 (Keep.of_wr W19).1
  have K19 : Keep h0 h19 [a1, t] := K16.wr W19 (Or.inl (List.mem_of_getElem? (i := 0) rfl))
  refine own_st st19 ?_
  refine own_st (fun t k => XS.iload X19.here hx rfl (hb hby d5_127) rfl k) ?_
  refine own_st (fun t k => XS.bipush X19.here hx rfl (hb hby d5_129) k) ?_
  show own_Fin _ _ _ _ _ _ _ (T19.setTop (mkF m 131 #[rv a1, rv a2, iv 1, iv 5, iv 1, iv B5, iv 6, iv 5, iv 6] [(.int (8 : Int32)), (.int B5), (.int (((cn + (1 : Int32)) + (1 : Int32)) + (1 : Int32))), (.ref t)]))
  refine own_st (fun t k => XS.iload X19.here hx rfl (hb hby d5_131) rfl k) ?_
  refine own_st (fun t k => XS.isub X19.here hx rfl (hb hby d5_133) rfl k) ?_
  show own_Fin _ _ _ _ _ _ _ (T19.setTop (mkF m 134 #[rv a1, rv a2, iv 1, iv 5, iv 1, iv B5, iv 6, iv 5, iv 6] [(.int (2 : Int32)), (.int B5), (.int (((cn + (1 : Int32)) + (1 : Int32)) + (1 : Int32))), (.ref t)]))
  refine own_st (fun t k => XS.ishl X19.here hx rfl (hb hby d5_134) rfl k) ?_
  refine own_st (fun t k => XS.sipush X19.here hx rfl (hb hby d5_135) k) ?_
  refine own_st (fun t k => XS.iand X19.here hx rfl (hb hby d5_138) rfl k) ?_
  show own_Fin _ _ _ _ _ _ _ (T19.setTop (mkF m 139 #[rv a1, rv a2, iv 1, iv 5, iv 1, iv B5, iv 6, iv 5, iv 6] [(.int ((B5 <<< ((2 : Int32) &&& 31)) &&& (255 : Int32))), (.int (((cn + (1 : Int32)) + (1 : Int32)) + (1 : Int32))), (.ref t)]))
  obtain ⟨cl20, Ar20, Cq20, Sz20, Mn20, Hs20, Gf20⟩ := id f19_3
  obtain ⟨T20, h20, X20, e20, W20, st20⟩ := stI X19 hx hZ e19 Ar20 (j := (((cn + (1 : Int32)) + (1 : Int32)) + (1 : Int32))) (inb_of Sz20 (own_cn hcn hlen).2.2.2.1) (g := (mkF m 139 #[rv a1, rv a2, iv 1, iv 5, iv 1, iv B5, iv 6, iv 5, iv 6] [(.int ((B5 <<< ((2 : Int32) &&& 31)) &&& (255 : Int32))), (.int (((cn + (1 : Int32)) + (1 : Int32)) + (1 : Int32))), (.ref t)])) rfl rfl (hb hby d5_139)
  have f20_0 := f19_0.wr W20
  have f20_1 := f19_1.other W20 (Or.inl nat)
  have f20_2 := f19_2.other W20 nct
  have f20_3 := Fw19.other W20 (Or.inl nat)
  have V20 : Arv Z h20 t kt .int (8 : Int32) ((((vs.set (cn).toNatClampNeg (.int ((B2 >>> ((4 : Int32) &&& 31)) &&& (255 : Int32)))).set ((cn + (1 : Int32))).toNatClampNeg (.int ((B3 >>> ((2 : Int32) &&& 31)) &&& (255 : Int32)))).set (((cn + (1 : Int32)) + (1 : Int32))).toNatClampNeg (.int ((B4 >>> ((0 : Int32) &&& 31)) &&& (255 : Int32)))).set ((((cn + (1 : Int32)) + (1 : Int32)) + (1 : Int32))).toNatClampNeg (.int ((B5 <<< ((2 : Int32) &&& 31)) &&& (255 : Int32)))) (.int (0 : Int32)) := Arv.set Ar20 Cq20 Sz20 Mn20 Hs20 Gf20 rfl W20 ((((cn + (1 : Int32)) + (1 : Int32)) + (1 : Int32))).toNatClampNeg rfl (by simp only [List.length_set]; exact (own_cn hcn hlen).2.2.2.2.2.2.2)
  have N20 := Fr.snoc X20 N19 gt
  have Z20 : n0 ≤ h20.size := Nat.le_trans Z19 (Keep.of_wr W20).1
  have K20 : Keep h0 h20 [a1, t] := K19.wr W20 (Or.inl (List.mem_of_getElem? (i := 1) rfl))
  refine own_st st20 ?_
  show own_Fin _ _ _ _ _ _ _ (T20.setTop (mkF m 140 #[rv a1, rv a2, iv 1, iv 5, iv 1, iv B5, iv 6, iv 5, iv 6] []))
  have x0 : 0 ≤ ((w0 &&& (63 : Int32))).toInt ∧ ((w0 &&& (63 : Int32))).toInt < 64 := own_x63 _
  have b1 := own_b1 hB1 x0
  have x1 : 0 ≤ ((w1 &&& (63 : Int32))).toInt ∧ ((w1 &&& (63 : Int32))).toInt < 64 := own_x63 _
  have b2 := own_bS hB2 b1 (by omega) x1
  have x2 : 0 ≤ ((w2 &&& (63 : Int32))).toInt ∧ ((w2 &&& (63 : Int32))).toInt < 64 := own_x63 _
  have b3 := own_bS hB3 b2 (by omega) x2
  have x3 : 0 ≤ ((w3 &&& (63 : Int32))).toInt ∧ ((w3 &&& (63 : Int32))).toInt < 64 := own_x63 _
  have b4 := own_bS hB4 b3 (by omega) x3
  have x4 : 0 ≤ ((31 : Int32)).toInt ∧ ((31 : Int32)).toInt < 64 := by decide
  have b5 := own_bS hB5 b4 (by omega) x4
  have hks : own_ks 4 1 w0 w1 w2 w3 = [((B2 >>> ((4 : Int32) &&& 31)) &&& (255 : Int32)), ((B3 >>> ((2 : Int32) &&& 31)) &&& (255 : Int32)), ((B4 >>> ((0 : Int32) &&& 31)) &&& (255 : Int32)), ((B5 <<< ((2 : Int32) &&& 31)) &&& (255 : Int32))] := by
    rw [own_ks_41, own_six_mask hw0, own_six_mask hw1, own_six_mask hw2, own_six_mask hw3]
    rw [(own_o0 b2 x0 x1), (own_o1 b3 x0 x1 x2), (own_o2 b4 x0 x1 x2 x3), (own_o3 b5 x0 x1 x2 x3 x4)]
  exact own_retV X20 hx Bd.notSynchronized Bd.returns (hb hby d5_140) (by decide) (by decide) (by rw [e20]; unfold own_Q_rmE_1_4_1; rw [hks]; exact ⟨rfl, N20, K20, f20_0, f20_1, f20_3, V20⟩)
def own_Q_rmE_1_0_0 (Z : State)  (a1 a2 : Addr) (t : Addr) (kt : ClassId) (vs : List Value) (cn : Int32) (kc : ClassId) (vc : List Value) (w0 w1 w2 w3 : Int32) (h0 : Heap) (n0 : Nat) (v : Option Value) (h : Heap) (L : List Loc) : Prop := v = none ∧ Fr n0 L ∧ Keep h0 h [a1, t] ∧ Exa Z h a1 "com/example/quietzone/quietzone/datamatrix/CodewordWriter" ∧ Fld Z h a1 "com/example/quietzone/quietzone/datamatrix/CodewordWriter" "codewords" "[I" (.ref t) ∧ Fld Z h a1 "com/example/quietzone/quietzone/datamatrix/CodewordWriter" "count" "I" (.int (own_cnt cn (own_ks 0 0 w0 w1 w2 w3))) ∧ Arv Z h t kt .int (8 : Int32) (own_app vs cn (own_ks 0 0 w0 w1 w2 w3)) (.int (0 : Int32))
set_option maxRecDepth 65536 in
set_option maxHeartbeats 40000000 in
theorem rmE_1_0_0 (l : Launch) (Z : State) (a0 : Array Value) (hw : ∀ d ∈ tables_1, d.before a0 Z = true) (ws : List Jvm.Cond)  (a1 a2 : Addr) (t : Addr) (kt : ClassId) (vs : List Value) (cn : Int32) (kc : ClassId) (vc : List Value) (w0 w1 w2 w3 : Int32) (h0 : Heap) (n0 : Nat) (Z0 : n0 ≤ h0.size) (Ei : Exa Z h0 a1 "com/example/quietzone/quietzone/datamatrix/CodewordWriter") (Fw : Fld Z h0 a1 "com/example/quietzone/quietzone/datamatrix/CodewordWriter" "codewords" "[I" (.ref t)) (Fc : Fld Z h0 a1 "com/example/quietzone/quietzone/datamatrix/CodewordWriter" "count" "I" (.int cn)) (Vt : Arv Z h0 t kt .int (8 : Int32) vs (.int (0 : Int32))) (gi : n0 ≤ a1) (gt : n0 ≤ t) (nat : a1 ≠ t) (Vc : Arv Z h0 a2 kc .int (5 : Int32) vc (.int (0 : Int32))) (nac : a2 ≠ a1) (nct : a2 ≠ t) (hcn : cn = (0 : Int32) ∨ cn = (1 : Int32)) (hlen : vs.length = 8) :
    MetFree l (⟨"com/example/quietzone/quietzone/datamatrix/CodewordWriter", "edifact", "([IIIZ)V"⟩ : MethodName) (head1 (Jvm.Cond.code (⟨"com/example/quietzone/quietzone/datamatrix/CodewordWriter", "edifact", "([IIIZ)V"⟩ : MethodName) prog_34_method_9_code 9 none :: ws) ({ frames := 0, cells := 0, slots := 0, locals := 0 } : Room)) (fun a U => a = #[(.ref a1), (.ref a2), (.int (1 : Int32)), (.int (1 : Int32)), (.int (0 : Int32))] ∧ Z.Warmed39 U.vm ∧ U.heap = h0) (fun _ _ _ _ _ => True) (fun _ U o U' => ∃ v L, o = .returned v ∧ own_Q_rmE_1_0_0 Z a1 a2 t kt vs cn kc vc w0 w1 w2 w3 h0 n0 v U'.heap L ∧ FrameEnd U o U' L ({ frames := 0, cells := 0, slots := 0, locals := 0 } : Room).cells ({ frames := 0, cells := 0, slots := 0, locals := 0 } : Room).slots) := by
  refine MetFree.of_bodySF pn_5 hisR ?_
  intro p e s m args below meth c s₁ Bd hml0 hP hK
  obtain ⟨rfl, hZ, hh⟩ := hP
  have hx := Bd.exec
  have hby := Bd.bytes
  have hml : c.maxLocals = 9 := hml0
  have hown : s.vm.findClass "com/example/quietzone/quietzone/datamatrix/CodewordWriter" = some m.cls := findClass_of_methodNamed Bd.named
  have hnm := (name_of_methodNamed Bd.named Bd.method).1
  have X0 : Stand p l e ({ frames := 0, cells := 0, slots := 0, locals := 0 } : Room) s m #[(.ref a1), (.ref a2), (.int (1 : Int32)), (.int (1 : Int32)), (.int (0 : Int32))] below meth c s₁ [] 0 0 := Stand.of_body Bd
  have e0 : s₁.heap = h0 := by rw [← hh, Bd.state]; rfl
  have N0 := Fr.nil n0
  have KR : Keep h0 h0 [a1, t] := Keep.refl h0 [a1, t]
  show own_Fin p.tables e below s (({ frames := 0, cells := 0, slots := 0, locals := 0 } : Room).cells) (({ frames := 0, cells := 0, slots := 0, locals := 0 } : Room).slots) (own_Q_rmE_1_0_0 Z a1 a2 t kt vs cn kc vc w0 w1 w2 w3 h0 n0) (s₁.setTop (entryFrame m #[(.ref a1), (.ref a2), (.int (1 : Int32)), (.int (1 : Int32)), (.int (0 : Int32))] 9))
  rw [ef_5 m a1 a2 (1 : Int32) (1 : Int32) (0 : Int32)]
  refine own_st (fun t k => XS.iconst X0.here hx rfl (hb hby d5_0) k) ?_
  refine own_st (fun t k => XS.istore X0.here hx rfl (hb hby d5_1) rfl (l' := #[rv a1, rv a2, iv 1, iv 1, iv 0, iv 0, .unset, .unset, .unset]) rfl k) ?_
  show own_Fin _ _ _ _ _ _ _ (s₁.setTop (mkF m 3 #[rv a1, rv a2, iv 1, iv 1, iv 0, iv 0, .unset, .unset, .unset] []))
  refine own_st (fun t k => XS.iconst X0.here hx rfl (hb hby d5_3) k) ?_
  refine own_st (fun t k => XS.istore X0.here hx rfl (hb hby d5_4) rfl (l' := #[rv a1, rv a2, iv 1, iv 1, iv 0, iv 0, iv 0, .unset, .unset]) rfl k) ?_
  refine own_st (fun t k => XS.iloadN X0.here hx rfl (hb hby d5_6) rfl k) ?_
  show own_Fin _ _ _ _ _ _ _ (s₁.setTop (mkF m 7 #[rv a1, rv a2, iv 1, iv 1, iv 0, iv 0, iv 0, .unset, .unset] [(.int (1 : Int32))]))
  refine own_st (fun t k => XS.iloadN X0.here hx rfl (hb hby d5_7) rfl k) ?_
  refine own_st (fun t k => XS.isub X0.here hx rfl (hb hby d5_8) rfl k) ?_
  refine own_st (fun t k => XS.iload X0.here hx rfl (hb hby d5_9) rfl k) ?_
  show own_Fin _ _ _ _ _ _ _ (s₁.setTop (mkF m 11 #[rv a1, rv a2, iv 1, iv 1, iv 0, iv 0, iv 0, .unset, .unset] [(.int (0 : Int32)), (.int (0 : Int32))]))
  refine own_st (fun t k => XS.ifYes X0.here hx rfl (pc0 := 11) (pc' := 18) rfl (hb hby d5_11) rfl ((if0 _ _).trans (teq (by decide : (0 : Int32) = (0 : Int32))).1) (by decide) (by decide) k) ?_
  refine own_st (fun t k => XS.iconst X0.here hx rfl (hb hby d5_18) k) ?_
  refine own_st (fun t k => XS.iadd X0.here hx rfl (hb hby d5_19) rfl k) ?_
  show own_Fin _ _ _ _ _ _ _ (s₁.setTop (mkF m 20 #[rv a1, rv a2, iv 1, iv 1, iv 0, iv 0, iv 0, .unset, .unset] [(.int (0 : Int32))]))
  refine own_st (fun t k => XS.istore X0.here hx rfl (hb hby d5_20) rfl (l' := #[rv a1, rv a2, iv 1, iv 1, iv 0, iv 0, iv 0, iv 0, .unset]) rfl k) ?_
  refine own_st (fun t k => XS.iloadN X0.here hx rfl (hb hby d5_22) rfl k) ?_
  refine own_st (fun t k => XS.istore X0.here hx rfl (hb hby d5_23) rfl (l' := #[rv a1, rv a2, iv 1, iv 1, iv 0, iv 0, iv 0, iv 0, iv 1]) rfl k) ?_
  show own_Fin _ _ _ _ _ _ _ (s₁.setTop (mkF m 25 #[rv a1, rv a2, iv 1, iv 1, iv 0, iv 0, iv 0, iv 0, iv 1] []))
  refine own_st (fun t k => XS.iload X0.here hx rfl (hb hby d5_25) rfl k) ?_
  refine own_st (fun t k => XS.iloadN X0.here hx rfl (hb hby d5_27) rfl k) ?_
  refine own_st (fun t k => XS.iload X0.here hx rfl (hb hby d5_28) rfl k) ?_
  show own_Fin _ _ _ _ _ _ _ (s₁.setTop (mkF m 30 #[rv a1, rv a2, iv 1, iv 1, iv 0, iv 0, iv 0, iv 0, iv 1] [(.int (0 : Int32)), (.int (1 : Int32)), (.int (1 : Int32))]))
  refine own_st (fun t k => XS.iadd X0.here hx rfl (hb hby d5_30) rfl k) ?_
  show own_Fin _ _ _ _ _ _ _ (s₁.setTop (mkF m 31 #[rv a1, rv a2, iv 1, iv 1, iv 0, iv 0, iv 0, iv 0, iv 1] [(.int (1 : Int32)), (.int (1 : Int32))]))
  refine own_st (fun t k => XS.icmpYes X0.here hx rfl (pc0 := 31) (pc' := 107) rfl (hb hby d5_31) rfl (flt (by decide : ¬ ((1 : Int32) < (1 : Int32)))).2.1 (by decide) (by decide) k) ?_
  refine own_st (fun t k => XS.iload X0.here hx rfl (hb hby d5_107) rfl k) ?_
  show own_Fin _ _ _ _ _ _ _ (s₁.setTop (mkF m 109 #[rv a1, rv a2, iv 1, iv 1, iv 0, iv 0, iv 0, iv 0, iv 1] [(.int (0 : Int32))]))
  refine own_st (fun t k => XS.ifYes X0.here hx rfl (pc0 := 109) (pc' := 140) rfl (hb hby d5_109) rfl ((if0 _ _).trans (flt (by decide : ¬ ((0 : Int32) < (0 : Int32)))).2.2.2) (by decide) (by decide) k) ?_
  show own_Fin _ _ _ _ _ _ _ (s₁.setTop (mkF m 140 #[rv a1, rv a2, iv 1, iv 1, iv 0, iv 0, iv 0, iv 0, iv 1] []))
  have hks : own_ks 0 0 w0 w1 w2 w3 = [] := by
    rw [own_ks_00]
  exact own_retV X0 hx Bd.notSynchronized Bd.returns (hb hby d5_140) (by decide) (by decide) (by rw [e0]; unfold own_Q_rmE_1_0_0; rw [hks]; exact ⟨rfl, N0, KR, Ei, Fw, Fc, Vt⟩)
def own_Q_rmE_1_4_0 (Z : State)  (a1 a2 : Addr) (t : Addr) (kt : ClassId) (vs : List Value) (cn : Int32) (kc : ClassId) (vc : List Value) (w0 w1 w2 w3 : Int32) (h0 : Heap) (n0 : Nat) (v : Option Value) (h : Heap) (L : List Loc) : Prop := v = none ∧ Fr n0 L ∧ Keep h0 h [a1, t] ∧ Exa Z h a1 "com/example/quietzone/quietzone/datamatrix/CodewordWriter" ∧ Fld Z h a1 "com/example/quietzone/quietzone/datamatrix/CodewordWriter" "codewords" "[I" (.ref t) ∧ Fld Z h a1 "com/example/quietzone/quietzone/datamatrix/CodewordWriter" "count" "I" (.int (own_cnt cn (own_ks 4 0 w0 w1 w2 w3))) ∧ Arv Z h t kt .int (8 : Int32) (own_app vs cn (own_ks 4 0 w0 w1 w2 w3)) (.int (0 : Int32))
set_option maxRecDepth 65536 in
set_option maxHeartbeats 40000000 in
theorem rmE_1_4_0 (l : Launch) (Z : State) (a0 : Array Value) (hw : ∀ d ∈ tables_1, d.before a0 Z = true) (ws : List Jvm.Cond)  (a1 a2 : Addr) (t : Addr) (kt : ClassId) (vs : List Value) (cn : Int32) (kc : ClassId) (vc : List Value) (w0 w1 w2 w3 : Int32) (h0 : Heap) (n0 : Nat) (Z0 : n0 ≤ h0.size) (Ei : Exa Z h0 a1 "com/example/quietzone/quietzone/datamatrix/CodewordWriter") (Fw : Fld Z h0 a1 "com/example/quietzone/quietzone/datamatrix/CodewordWriter" "codewords" "[I" (.ref t)) (Fc : Fld Z h0 a1 "com/example/quietzone/quietzone/datamatrix/CodewordWriter" "count" "I" (.int cn)) (Vt : Arv Z h0 t kt .int (8 : Int32) vs (.int (0 : Int32))) (gi : n0 ≤ a1) (gt : n0 ≤ t) (nat : a1 ≠ t) (Vc : Arv Z h0 a2 kc .int (5 : Int32) vc (.int (0 : Int32))) (nac : a2 ≠ a1) (nct : a2 ≠ t) (hcn : cn = (0 : Int32) ∨ cn = (1 : Int32)) (hlen : vs.length = 8) (hat0 : vc.getD (1 : Int32).toNatClampNeg (.int (0 : Int32)) = .int w0) (hw0 : 32 ≤ w0.toInt ∧ w0.toInt ≤ 94) (hat1 : vc.getD (2 : Int32).toNatClampNeg (.int (0 : Int32)) = .int w1) (hw1 : 32 ≤ w1.toInt ∧ w1.toInt ≤ 94) (hat2 : vc.getD (3 : Int32).toNatClampNeg (.int (0 : Int32)) = .int w2) (hw2 : 32 ≤ w2.toInt ∧ w2.toInt ≤ 94) (hat3 : vc.getD (4 : Int32).toNatClampNeg (.int (0 : Int32)) = .int w3) (hw3 : 32 ≤ w3.toInt ∧ w3.toInt ≤ 94) :
    MetFree l (⟨"com/example/quietzone/quietzone/datamatrix/CodewordWriter", "edifact", "([IIIZ)V"⟩ : MethodName) (head1 (Jvm.Cond.code (⟨"com/example/quietzone/quietzone/datamatrix/CodewordWriter", "edifact", "([IIIZ)V"⟩ : MethodName) prog_34_method_9_code 9 none :: ws) ({ frames := 0, cells := 0, slots := 0, locals := 0 } : Room)) (fun a U => a = #[(.ref a1), (.ref a2), (.int (1 : Int32)), (.int (5 : Int32)), (.int (0 : Int32))] ∧ Z.Warmed39 U.vm ∧ U.heap = h0) (fun _ _ _ _ _ => True) (fun _ U o U' => ∃ v L, o = .returned v ∧ own_Q_rmE_1_4_0 Z a1 a2 t kt vs cn kc vc w0 w1 w2 w3 h0 n0 v U'.heap L ∧ FrameEnd U o U' L ({ frames := 0, cells := 0, slots := 0, locals := 0 } : Room).cells ({ frames := 0, cells := 0, slots := 0, locals := 0 } : Room).slots) := by
  refine MetFree.of_bodySF pn_5 hisR ?_
  intro p e s m args below meth c s₁ Bd hml0 hP hK
  obtain ⟨rfl, hZ, hh⟩ := hP
  have hx := Bd.exec
  have hby := Bd.bytes
  have hml : c.maxLocals = 9 := hml0
  have hown : s.vm.findClass "com/example/quietzone/quietzone/datamatrix/CodewordWriter" = some m.cls := findClass_of_methodNamed Bd.named
  have hnm := (name_of_methodNamed Bd.named Bd.method).1
  have X0 : Stand p l e ({ frames := 0, cells := 0, slots := 0, locals := 0 } : Room) s m #[(.ref a1), (.ref a2), (.int (1 : Int32)), (.int (5 : Int32)), (.int (0 : Int32))] below meth c s₁ [] 0 0 := Stand.of_body Bd
  have e0 : s₁.heap = h0 := by rw [← hh, Bd.state]; rfl
  have N0 := Fr.nil n0
  have KR : Keep h0 h0 [a1, t] := Keep.refl h0 [a1, t]
  show own_Fin p.tables e below s (({ frames := 0, cells := 0, slots := 0, locals := 0 } : Room).cells) (({ frames := 0, cells := 0, slots := 0, locals := 0 } : Room).slots) (own_Q_rmE_1_4_0 Z a1 a2 t kt vs cn kc vc w0 w1 w2 w3 h0 n0) (s₁.setTop (entryFrame m #[(.ref a1), (.ref a2), (.int (1 : Int32)), (.int (5 : Int32)), (.int (0 : Int32))] 9))
  rw [ef_5 m a1 a2 (1 : Int32) (5 : Int32) (0 : Int32)]
  refine own_st (fun t k => XS.iconst X0.here hx rfl (hb hby d5_0) k) ?_
  refine own_st (fun t k => XS.istore X0.here hx rfl (hb hby d5_1) rfl (l' := #[rv a1, rv a2, iv 1, iv 5, iv 0, iv 0, .unset, .unset, .unset]) rfl k) ?_
  show own_Fin _ _ _ _ _ _ _ (s₁.setTop (mkF m 3 #[rv a1, rv a2, iv 1, iv 5, iv 0, iv 0, .unset, .unset, .unset] []))
  refine own_st (fun t k => XS.iconst X0.here hx rfl (hb hby d5_3) k) ?_
  refine own_st (fun t k => XS.istore X0.here hx rfl (hb hby d5_4) rfl (l' := #[rv a1, rv a2, iv 1, iv 5, iv 0, iv 0, iv 0, .unset, .unset]) rfl k) ?_
  refine own_st (fun t k => XS.iloadN X0.here hx rfl (hb hby d5_6) rfl k) ?_
  show own_Fin _ _ _ _ _ _ _ (s₁.setTop (mkF m 7 #[rv a1, rv a2, iv 1, iv 5, iv 0, iv 0, iv 0, .unset, .unset] [(.int (5 : Int32))]))
  refine own_st (fun t k => XS.iloadN X0.here hx rfl (hb hby d5_7) rfl k) ?_
  refine own_st (fun t k => XS.isub X0.here hx rfl (hb hby d5_8) rfl k) ?_
  refine own_st (fun t k => XS.iload X0.here hx rfl (hb hby d5_9) rfl k) ?_
  show own_Fin _ _ _ _ _ _ _ (s₁.setTop (mkF m 11 #[rv a1, rv a2, iv 1, iv 5, iv 0, iv 0, iv 0, .unset, .unset] [(.int (0 : Int32)), (.int (4 : Int32))]))
  refine own_st (fun t k => XS.ifYes X0.here hx rfl (pc0 := 11) (pc' := 18) rfl (hb hby d5_11) rfl ((if0 _ _).trans (teq (by decide : (0 : Int32) = (0 : Int32))).1) (by decide) (by decide) k) ?_
  refine own_st (fun t k => XS.iconst X0.here hx rfl (hb hby d5_18) k) ?_
  refine own_st (fun t k => XS.iadd X0.here hx rfl (hb hby d5_19) rfl k) ?_
  show own_Fin _ _ _ _ _ _ _ (s₁.setTop (mkF m 20 #[rv a1, rv a2, iv 1, iv 5, iv 0, iv 0, iv 0, .unset, .unset] [(.int (4 : Int32))]))
  refine own_st (fun t k => XS.istore X0.here hx rfl (hb hby d5_20) rfl (l' := #[rv a1, rv a2, iv 1, iv 5, iv 0, iv 0, iv 0, iv 4, .unset]) rfl k) ?_
  refine own_st (fun t k => XS.iloadN X0.here hx rfl (hb hby d5_22) rfl k) ?_
  refine own_st (fun t k => XS.istore X0.here hx rfl (hb hby d5_23) rfl (l' := #[rv a1, rv a2, iv 1, iv 5, iv 0, iv 0, iv 0, iv 4, iv 1]) rfl k) ?_
  show own_Fin _ _ _ _ _ _ _ (s₁.setTop (mkF m 25 #[rv a1, rv a2, iv 1, iv 5, iv 0, iv 0, iv 0, iv 4, iv 1] []))
  refine own_st (fun t k => XS.iload X0.here hx rfl (hb hby d5_25) rfl k) ?_
  refine own_st (fun t k => XS.iloadN X0.here hx rfl (hb hby d5_27) rfl k) ?_
  refine own_st (fun t k => XS.iload X0.here hx rfl (hb hby d5_28) rfl k) ?_
  show own_Fin _ _ _ _ _ _ _ (s₁.setTop (mkF m 30 #[rv a1, rv a2, iv 1, iv 5, iv 0, iv 0, iv 0, iv 4, iv 1] [(.int (4 : Int32)), (.int (1 : Int32)), (.int (1 : Int32))]))
  refine own_st (fun t k => XS.iadd X0.here hx rfl (hb hby d5_30) rfl k) ?_
  show own_Fin _ _ _ _ _ _ _ (s₁.setTop (mkF m 31 #[rv a1, rv a2, iv 1, iv 5, iv 0, iv 0, iv 0, iv 4, iv 1] [(.int (5 : Int32)), (.int (1 : Int32))]))
  refine own_st (fun t k => XS.icmpNo X0.here hx rfl (hb hby d5_31) rfl (tlt (by decide : (1 : Int32) < (5 : Int32))).2.1 k) ?_
  refine own_st (fun t k => XS.iload X0.here hx rfl (hb hby d5_34) rfl k) ?_
  refine own_st (fun t k => XS.bipush X0.here hx rfl (hb hby d5_36) k) ?_
  show own_Fin _ _ _ _ _ _ _ (s₁.setTop (mkF m 38 #[rv a1, rv a2, iv 1, iv 5, iv 0, iv 0, iv 0, iv 4, iv 1] [(.int (6 : Int32)), (.int (0 : Int32))]))
  refine own_st (fun t k => XS.ishl X0.here hx rfl (hb hby d5_38) rfl k) ?_
  refine own_st (fun t k => XS.iload X0.here hx rfl (hb hby d5_39) rfl k) ?_
  refine own_st (fun t k => XS.iloadN X0.here hx rfl (hb hby d5_41) rfl k) ?_
  show own_Fin _ _ _ _ _ _ _ (s₁.setTop (mkF m 42 #[rv a1, rv a2, iv 1, iv 5, iv 0, iv 0, iv 0, iv 4, iv 1] [(.int (5 : Int32)), (.int (1 : Int32)), (.int ((0 : Int32) <<< ((6 : Int32) &&& 31)))]))
  refine own_st (fun t k => XS.icmpNo X0.here hx rfl (hb hby d5_42) rfl (tlt (by decide : (1 : Int32) < (5 : Int32))).2.1 k) ?_
  refine own_st (fun t k => XS.aloadN X0.here hx rfl (hb hby d5_45) rfl rfl k) ?_
  refine own_st (fun t k => XS.iload X0.here hx rfl (hb hby d5_46) rfl k) ?_
  show own_Fin _ _ _ _ _ _ _ (s₁.setTop (mkF m 48 #[rv a1, rv a2, iv 1, iv 5, iv 0, iv 0, iv 0, iv 4, iv 1] [(.int (1 : Int32)), (.ref a2), (.int ((0 : Int32) <<< ((6 : Int32) &&& 31)))]))
  obtain ⟨cl1, Ar1, Cq1, Sz1, Mn1, Hs1, Gf1⟩ := id Vc
  have hin1 := inb_of Sz1 (j := (1 : Int32)) ⟨by decide, by decide⟩
  refine own_st (X0.iaload hx (j := (1 : Int32)) (v := (.int w0)) (by rw [e0]; exact Ar1.1) (State.isArrayOf_alike hZ.alike Ar1.2.1) Ar1.2.2 hin1 (Hs1.at hin1 hat0) (g := (mkF m 48 #[rv a1, rv a2, iv 1, iv 5, iv 0, iv 0, iv 0, iv 4, iv 1] [(.int (1 : Int32)), (.ref a2), (.int ((0 : Int32) <<< ((6 : Int32) &&& 31)))])) rfl rfl (hb hby d5_48)) ?_
  refine own_st (fun t k => XS.bipush X0.here hx rfl (hb hby d5_49) k) ?_
  refine own_st (fun t k => XS.iand X0.here hx rfl (hb hby d5_51) rfl k) ?_
  show own_Fin _ _ _ _ _ _ _ (s₁.setTop (mkF m 52 #[rv a1, rv a2, iv 1, iv 5, iv 0, iv 0, iv 0, iv 4, iv 1] [(.int (w0 &&& (63 : Int32))), (.int ((0 : Int32) <<< ((6 : Int32) &&& 31)))]))
  refine own_st (fun t k => XS.goto X0.here hx rfl (pc0 := 52) (pc' := 57) rfl (hb hby d5_52) (by decide) (by decide) k) ?_
  refine own_st (fun t k => XS.ior X0.here hx rfl (hb hby d5_57) rfl k) ?_
  refine own_st (fun t k => XS.istore X0.here hx rfl (hb hby d5_58) rfl (l' := #[rv a1, rv a2, iv 1, iv 5, iv 0, iv (((0 : Int32) <<< ((6 : Int32) &&& 31)) ||| (w0 &&& (63 : Int32))), iv 0, iv 4, iv 1]) rfl k) ?_
  show own_Fin _ _ _ _ _ _ _ (s₁.setTop (mkF m 60 #[rv a1, rv a2, iv 1, iv 5, iv 0, iv (((0 : Int32) <<< ((6 : Int32) &&& 31)) ||| (w0 &&& (63 : Int32))), iv 0, iv 4, iv 1] []))
  obtain ⟨B1, hB1⟩ : ∃ z, z = (((0 : Int32) <<< ((6 : Int32) &&& 31)) ||| (w0 &&& (63 : Int32))) := ⟨_, rfl⟩
  rw [← hB1]
  refine own_st (fun t k => XS.iinc X0.here hx rfl (hb hby d5_60) rfl (l' := #[rv a1, rv a2, iv 1, iv 5, iv 0, iv B1, iv 6, iv 4, iv 1]) rfl k) ?_
  refine own_st (fun t k => XS.iload X0.here hx rfl (hb hby d5_63) rfl k) ?_
  refine own_st (fun t k => XS.bipush X0.here hx rfl (hb hby d5_65) k) ?_
  show own_Fin _ _ _ _ _ _ _ (s₁.setTop (mkF m 67 #[rv a1, rv a2, iv 1, iv 5, iv 0, iv B1, iv 6, iv 4, iv 1] [(.int (8 : Int32)), (.int (6 : Int32))]))
  refine own_st (fun t k => XS.icmpYes X0.here hx rfl (pc0 := 67) (pc' := 101) rfl (hb hby d5_67) rfl (tlt (by decide : (6 : Int32) < (8 : Int32))).1 (by decide) (by decide) k) ?_
  show own_Fin _ _ _ _ _ _ _ (s₁.setTop (mkF m 101 #[rv a1, rv a2, iv 1, iv 5, iv 0, iv B1, iv 6, iv 4, iv 1] []))
  refine own_st (fun t k => XS.iinc X0.here hx rfl (hb hby d5_101) rfl (l' := #[rv a1, rv a2, iv 1, iv 5, iv 0, iv B1, iv 6, iv 4, iv 2]) rfl k) ?_
  refine own_st (fun t k => XS.goto X0.here hx rfl (pc0 := 104) (pc' := 25) rfl (hb hby d5_104) (by decide) (by decide) k) ?_
  refine own_st (fun t k => XS.iload X0.here hx rfl (hb hby d5_25) rfl k) ?_
  show own_Fin _ _ _ _ _ _ _ (s₁.setTop (mkF m 27 #[rv a1, rv a2, iv 1, iv 5, iv 0, iv B1, iv 6, iv 4, iv 2] [(.int (2 : Int32))]))
  refine own_st (fun t k => XS.iloadN X0.here hx rfl (hb hby d5_27) rfl k) ?_
  refine own_st (fun t k => XS.iload X0.here hx rfl (hb hby d5_28) rfl k) ?_
  refine own_st (fun t k => XS.iadd X0.here hx rfl (hb hby d5_30) rfl k) ?_
  show own_Fin _ _ _ _ _ _ _ (s₁.setTop (mkF m 31 #[rv a1, rv a2, iv 1, iv 5, iv 0, iv B1, iv 6, iv 4, iv 2] [(.int (5 : Int32)), (.int (2 : Int32))]))
  refine own_st (fun t k => XS.icmpNo X0.here hx rfl (hb hby d5_31) rfl (tlt (by decide : (2 : Int32) < (5 : Int32))).2.1 k) ?_
  refine own_st (fun t k => XS.iload X0.here hx rfl (hb hby d5_34) rfl k) ?_
  refine own_st (fun t k => XS.bipush X0.here hx rfl (hb hby d5_36) k) ?_
  show own_Fin _ _ _ _ _ _ _ (s₁.setTop (mkF m 38 #[rv a1, rv a2, iv 1, iv 5, iv 0, iv B1, iv 6, iv 4, iv 2] [(.int (6 : Int32)), (.int B1)]))
  refine own_st (fun t k => XS.ishl X0.here hx rfl (hb hby d5_38) rfl k) ?_
  refine own_st (fun t k => XS.iload X0.here hx rfl (hb hby d5_39) rfl k) ?_
  refine own_st (fun t k => XS.iloadN X0.here hx rfl (hb hby d5_41) rfl k) ?_
  show own_Fin _ _ _ _ _ _ _ (s₁.setTop (mkF m 42 #[rv a1, rv a2, iv 1, iv 5, iv 0, iv B1, iv 6, iv 4, iv 2] [(.int (5 : Int32)), (.int (2 : Int32)), (.int (B1 <<< ((6 : Int32) &&& 31)))]))
  refine own_st (fun t k => XS.icmpNo X0.here hx rfl (hb hby d5_42) rfl (tlt (by decide : (2 : Int32) < (5 : Int32))).2.1 k) ?_
  refine own_st (fun t k => XS.aloadN X0.here hx rfl (hb hby d5_45) rfl rfl k) ?_
  refine own_st (fun t k => XS.iload X0.here hx rfl (hb hby d5_46) rfl k) ?_
  show own_Fin _ _ _ _ _ _ _ (s₁.setTop (mkF m 48 #[rv a1, rv a2, iv 1, iv 5, iv 0, iv B1, iv 6, iv 4, iv 2] [(.int (2 : Int32)), (.ref a2), (.int (B1 <<< ((6 : Int32) &&& 31)))]))
  obtain ⟨cl2, Ar2, Cq2, Sz2, Mn2, Hs2, Gf2⟩ := id Vc
  have hin2 := inb_of Sz2 (j := (2 : Int32)) ⟨by decide, by decide⟩
  refine own_st (X0.iaload hx (j := (2 : Int32)) (v := (.int w1)) (by rw [e0]; exact Ar2.1) (State.isArrayOf_alike hZ.alike Ar2.2.1) Ar2.2.2 hin2 (Hs2.at hin2 hat1) (g := (mkF m 48 #[rv a1, rv a2, iv 1, iv 5, iv 0, iv B1, iv 6, iv 4, iv 2] [(.int (2 : Int32)), (.ref a2), (.int (B1 <<< ((6 : Int32) &&& 31)))])) rfl rfl (hb hby d5_48)) ?_
  refine own_st (fun t k => XS.bipush X0.here hx rfl (hb hby d5_49) k) ?_
  refine own_st (fun t k => XS.iand X0.here hx rfl (hb hby d5_51) rfl k) ?_
  show own_Fin _ _ _ _ _ _ _ (s₁.setTop (mkF m 52 #[rv a1, rv a2, iv 1, iv 5, iv 0, iv B1, iv 6, iv 4, iv 2] [(.int (w1 &&& (63 : Int32))), (.int (B1 <<< ((6 : Int32) &&& 31)))]))
  refine own_st (fun t k => XS.goto X0.here hx rfl (pc0 := 52) (pc' := 57) rfl (hb hby d5_52) (by decide) (by decide) k) ?_
  refine own_st (fun t k => XS.ior X0.here hx rfl (hb hby d5_57) rfl k) ?_
  refine own_st (fun t k => XS.istore X0.here hx rfl (hb hby d5_58) rfl (l' := #[rv a1, rv a2, iv 1, iv 5, iv 0, iv ((B1 <<< ((6 : Int32) &&& 31)) ||| (w1 &&& (63 : Int32))), iv 6, iv 4, iv 2]) rfl k) ?_
  show own_Fin _ _ _ _ _ _ _ (s₁.setTop (mkF m 60 #[rv a1, rv a2, iv 1, iv 5, iv 0, iv ((B1 <<< ((6 : Int32) &&& 31)) ||| (w1 &&& (63 : Int32))), iv 6, iv 4, iv 2] []))
  obtain ⟨B2, hB2⟩ : ∃ z, z = ((B1 <<< ((6 : Int32) &&& 31)) ||| (w1 &&& (63 : Int32))) := ⟨_, rfl⟩
  rw [← hB2]
  refine own_st (fun t k => XS.iinc X0.here hx rfl (hb hby d5_60) rfl (l' := #[rv a1, rv a2, iv 1, iv 5, iv 0, iv B2, iv 12, iv 4, iv 2]) rfl k) ?_
  refine own_st (fun t k => XS.iload X0.here hx rfl (hb hby d5_63) rfl k) ?_
  refine own_st (fun t k => XS.bipush X0.here hx rfl (hb hby d5_65) k) ?_
  show own_Fin _ _ _ _ _ _ _ (s₁.setTop (mkF m 67 #[rv a1, rv a2, iv 1, iv 5, iv 0, iv B2, iv 12, iv 4, iv 2] [(.int (8 : Int32)), (.int (12 : Int32))]))
  refine own_st (fun t k => XS.icmpNo X0.here hx rfl (hb hby d5_67) rfl (flt (by decide : ¬ ((12 : Int32) < (8 : Int32)))).1 k) ?_
  show own_Fin _ _ _ _ _ _ _ (s₁.setTop (mkF m 70 #[rv a1, rv a2, iv 1, iv 5, iv 0, iv B2, iv 12, iv 4, iv 2] []))
  refine own_st (fun t k => XS.iinc X0.here hx rfl (hb hby d5_70) rfl (l' := #[rv a1, rv a2, iv 1, iv 5, iv 0, iv B2, iv 4, iv 4, iv 2]) rfl k) ?_
  refine own_st (fun t k => XS.aloadN X0.here hx rfl (hb hby d5_73) rfl rfl k) ?_
  show own_Fin _ _ _ _ _ _ _ (s₁.setTop (mkF m 74 #[rv a1, rv a2, iv 1, iv 5, iv 0, iv B2, iv 4, iv 4, iv 2] [(.ref a1)]))
  obtain ⟨T3, X3, e3, st3⟩ := getF X0 hx hZ hown (host := "") (Or.inl (hw _ (List.mem_of_getElem? (i := 22) rfl))) Via.refl e0 Fw (g := (mkF m 74 #[rv a1, rv a2, iv 1, iv 5, iv 0, iv B2, iv 4, iv 4, iv 2] [(.ref a1)])) rfl rfl (hb hby d5_74)
  refine own_st st3 ?_
  refine own_st (fun t k => XS.aloadN X3.here hx rfl (hb hby d5_77) rfl rfl k) ?_
  refine own_st (fun t k => XS.dup X3.here hx rfl (hb hby d5_78) rfl rfl k) ?_
  show own_Fin _ _ _ _ _ _ _ (T3.setTop (mkF m 79 #[rv a1, rv a2, iv 1, iv 5, iv 0, iv B2, iv 4, iv 4, iv 2] [(.ref a1), (.ref a1), (.ref t)]))
  obtain ⟨T4, X4, e4, st4⟩ := getF X3 hx hZ hown (host := "") (Or.inl (hw _ (List.mem_of_getElem? (i := 29) rfl))) Via.refl e3 Fc (g := (mkF m 79 #[rv a1, rv a2, iv 1, iv 5, iv 0, iv B2, iv 4, iv 4, iv 2] [(.ref a1), (.ref a1), (.ref t)])) rfl rfl (hb hby d5_79)
  refine own_st st4 ?_
  show own_Fin _ _ _ _ _ _ _ (T4.setTop (mkF m 82 #[rv a1, rv a2, iv 1, iv 5, iv 0, iv B2, iv 4, iv 4, iv 2] [(.int cn), (.ref a1), (.ref t)]))
  refine own_st (fun t k => XS.dupX1 X4.here hx rfl (hb hby d5_82) rfl rfl rfl k) ?_
  refine own_st (fun t k => XS.iconst X4.here hx rfl (hb hby d5_83) k) ?_
  refine own_st (fun t k => XS.iadd X4.here hx rfl (hb hby d5_84) rfl k) ?_
  show own_Fin _ _ _ _ _ _ _ (T4.setTop (mkF m 85 #[rv a1, rv a2, iv 1, iv 5, iv 0, iv B2, iv 4, iv 4, iv 2] [(.int (cn + (1 : Int32))), (.ref a1), (.int cn), (.ref t)]))
  obtain ⟨T5, h5, X5, e5, W5, st5⟩ := putF X4 hx hZ hown (host := "") (Or.inl (hw _ (List.mem_of_getElem? (i := 29) rfl))) Via.refl e4 Fc Ei (Or.inl (hw _ (List.mem_of_getElem? (i := 30) rfl))) (hw _ (List.mem_of_getElem? (i := 10) rfl)) (ty := .int) (by decide) rfl rfl (g := (mkF m 85 #[rv a1, rv a2, iv 1, iv 5, iv 0, iv B2, iv 4, iv 4, iv 2] [(.int (cn + (1 : Int32))), (.ref a1), (.int cn), (.ref t)])) rfl rfl (hb hby d5_85)
  have f5_0 := Ei.wr W5
  have f5_1 := Fw.other W5 (Or.inr (slot_ne (Or.inr (hw _ (List.mem_of_getElem? (i := 23) rfl))) (Or.inl (hw _ (List.mem_of_getElem? (i := 30) rfl))) (by decide) (t := (.array .int)) (t' := .int) (by decide) (by decide)))
  have f5_2 := Vt.other W5 (Ne.symm nat)
  have f5_3 := Vc.other W5 nac
  have Fw5 : Fld Z h5 a1 "com/example/quietzone/quietzone/datamatrix/CodewordWriter" "count" "I" (.int (cn + (1 : Int32))) := Fc.same W5
  have N5 := Fr.snoc X5 N0 gi
  have Z5 : n0 ≤ h5.size := Nat.le_trans Z0 (Keep.of_wr W5).1
  have K5 : Keep h0 h5 [a1, t] := KR.wr W5 (Or.inl (List.mem_of_getElem? (i := 0) rfl))
  refine own_st st5 ?_
  refine own_st (fun t k => XS.iload X5.here hx rfl (hb hby d5_88) rfl k) ?_
  refine own_st (fun t k => XS.iload X5.here hx rfl (hb hby d5_90) rfl k) ?_
  show own_Fin _ _ _ _ _ _ _ (T5.setTop (mkF m 92 #[rv a1, rv a2, iv 1, iv 5, iv 0, iv B2, iv 4, iv 4, iv 2] [(.int (4 : Int32)), (.int B2), (.int cn), (.ref t)]))
  refine own_st (fun t k => XS.ishr X5.here hx rfl (hb hby d5_92) rfl k) ?_
  refine own_st (fun t k => XS.sipush X5.here hx rfl (hb hby d5_93) k) ?_
  refine own_st (fun t k => XS.iand X5.here hx rfl (hb hby d5_96) rfl k) ?_
  show own_Fin _ _ _ _ _ _ _ (T5.setTop (mkF m 97 #[rv a1, rv a2, iv 1, iv 5, iv 0, iv B2, iv 4, iv 4, iv 2] [(.int ((B2 >>> ((4 : Int32) &&& 31)) &&& (255 : Int32))), (.int cn), (.ref t)]))
  obtain ⟨cl6, Ar6, Cq6, Sz6, Mn6, Hs6, Gf6⟩ := id f5_2
  obtain ⟨T6, h6, X6, e6, W6, st6⟩ := stI X5 hx hZ e5 Ar6 (j := cn) (inb_of Sz6 (own_cn hcn hlen).1) (g := (mkF m 97 #[rv a1, rv a2, iv 1, iv 5, iv 0, iv B2, iv 4, iv 4, iv 2] [(.int ((B2 >>> ((4 : Int32) &&& 31)) &&& (255 : Int32))), (.int cn), (.ref t)])) rfl rfl (hb hby d5_97)
  have f6_0 := f5_0.wr W6
  have f6_1 := f5_1.other W6 (Or.inl nat)
  have f6_2 := f5_3.other W6 nct
  have f6_3 := Fw5.other W6 (Or.inl nat)
  have V6 : Arv Z h6 t kt .int (8 : Int32) (vs.set (cn).toNatClampNeg (.int ((B2 >>> ((4 : Int32) &&& 31)) &&& (255 : Int32)))) (.int (0 : Int32)) := Arv.set Ar6 Cq6 Sz6 Mn6 Hs6 Gf6 rfl W6 (cn).toNatClampNeg rfl (own_cn hcn hlen).2.2.2.2.1
  have N6 := Fr.snoc X6 N5 gt
  have Z6 : n0 ≤ h6.size := Nat.le_trans Z5 (Keep.of_wr W6).1
  have K6 : Keep h0 h6 [a1, t] := K5.wr W6 (Or.inl (List.mem_of_getElem? (i := 1) rfl))
  refine own_st st6 ?_
  refine own_st (fun t k => XS.goto X6.here hx rfl (pc0 := 98) (pc' := 63) rfl (hb hby d5_98) (by decide) (by decide) k) ?_
  refine own_st (fun t k => XS.iload X6.here hx rfl (hb hby d5_63) rfl k) ?_
  show own_Fin _ _ _ _ _ _ _ (T6.setTop (mkF m 65 #[rv a1, rv a2, iv 1, iv 5, iv 0, iv B2, iv 4, iv 4, iv 2] [(.int (4 : Int32))]))
  refine own_st (fun t k => XS.bipush X6.here hx rfl (hb hby d5_65) k) ?_
  show own_Fin _ _ _ _ _ _ _ (T6.setTop (mkF m 67 #[rv a1, rv a2, iv 1, iv 5, iv 0, iv B2, iv 4, iv 4, iv 2] [(.int (8 : Int32)), (.int (4 : Int32))]))
  refine own_st (fun t k => XS.icmpYes X6.here hx rfl (pc0 := 67) (pc' := 101) rfl (hb hby d5_67) rfl (tlt (by decide : (4 : Int32) < (8 : Int32))).1 (by decide) (by decide) k) ?_
  show own_Fin _ _ _ _ _ _ _ (T6.setTop (mkF m 101 #[rv a1, rv a2, iv 1, iv 5, iv 0, iv B2, iv 4, iv 4, iv 2] []))
  refine own_st (fun t k => XS.iinc X6.here hx rfl (hb hby d5_101) rfl (l' := #[rv a1, rv a2, iv 1, iv 5, iv 0, iv B2, iv 4, iv 4, iv 3]) rfl k) ?_
  refine own_st (fun t k => XS.goto X6.here hx rfl (pc0 := 104) (pc' := 25) rfl (hb hby d5_104) (by decide) (by decide) k) ?_
  refine own_st (fun t k => XS.iload X6.here hx rfl (hb hby d5_25) rfl k) ?_
  show own_Fin _ _ _ _ _ _ _ (T6.setTop (mkF m 27 #[rv a1, rv a2, iv 1, iv 5, iv 0, iv B2, iv 4, iv 4, iv 3] [(.int (3 : Int32))]))
  refine own_st (fun t k => XS.iloadN X6.here hx rfl (hb hby d5_27) rfl k) ?_
  refine own_st (fun t k => XS.iload X6.here hx rfl (hb hby d5_28) rfl k) ?_
  refine own_st (fun t k => XS.iadd X6.here hx rfl (hb hby d5_30) rfl k) ?_
  show own_Fin _ _ _ _ _ _ _ (T6.setTop (mkF m 31 #[rv a1, rv a2, iv 1, iv 5, iv 0, iv B2, iv 4, iv 4, iv 3] [(.int (5 : Int32)), (.int (3 : Int32))]))
  refine own_st (fun t k => XS.icmpNo X6.here hx rfl (hb hby d5_31) rfl (tlt (by decide : (3 : Int32) < (5 : Int32))).2.1 k) ?_
  refine own_st (fun t k => XS.iload X6.here hx rfl (hb hby d5_34) rfl k) ?_
  refine own_st (fun t k => XS.bipush X6.here hx rfl (hb hby d5_36) k) ?_
  show own_Fin _ _ _ _ _ _ _ (T6.setTop (mkF m 38 #[rv a1, rv a2, iv 1, iv 5, iv 0, iv B2, iv 4, iv 4, iv 3] [(.int (6 : Int32)), (.int B2)]))
  refine own_st (fun t k => XS.ishl X6.here hx rfl (hb hby d5_38) rfl k) ?_
  refine own_st (fun t k => XS.iload X6.here hx rfl (hb hby d5_39) rfl k) ?_
  refine own_st (fun t k => XS.iloadN X6.here hx rfl (hb hby d5_41) rfl k) ?_
  show own_Fin _ _ _ _ _ _ _ (T6.setTop (mkF m 42 #[rv a1, rv a2, iv 1, iv 5, iv 0, iv B2, iv 4, iv 4, iv 3] [(.int (5 : Int32)), (.int (3 : Int32)), (.int (B2 <<< ((6 : Int32) &&& 31)))]))
  refine own_st (fun t k => XS.icmpNo X6.here hx rfl (hb hby d5_42) rfl (tlt (by decide : (3 : Int32) < (5 : Int32))).2.1 k) ?_
  refine own_st (fun t k => XS.aloadN X6.here hx rfl (hb hby d5_45) rfl rfl k) ?_
  refine own_st (fun t k => XS.iload X6.here hx rfl (hb hby d5_46) rfl k) ?_
  show own_Fin _ _ _ _ _ _ _ (T6.setTop (mkF m 48 #[rv a1, rv a2, iv 1, iv 5, iv 0, iv B2, iv 4, iv 4, iv 3] [(.int (3 : Int32)), (.ref a2), (.int (B2 <<< ((6 : Int32) &&& 31)))]))
  obtain ⟨cl7, Ar7, Cq7, Sz7, Mn7, Hs7, Gf7⟩ := id f6_2
  have hin7 := inb_of Sz7 (j := (3 : Int32)) ⟨by decide, by decide⟩
  refine own_st (X6.iaload hx (j := (3 : Int32)) (v := (.int w2)) (by rw [e6]; exact Ar7.1) (State.isArrayOf_alike hZ.alike Ar7.2.1) Ar7.2.2 hin7 (Hs7.at hin7 hat2) (g := (mkF m 48 #[rv a1, rv a2, iv 1, iv 5, iv 0, iv B2, iv 4, iv 4, iv 3] [(.int (3 : Int32)), (.ref a2), (.int (B2 <<< ((6 : Int32) &&& 31)))])) rfl rfl (hb hby d5_48)) ?_
  refine own_st (fun t k => XS.bipush X6.here hx rfl (hb hby d5_49) k) ?_
  refine own_st (fun t k => XS.iand X6.here hx rfl (hb hby d5_51) rfl k) ?_
  show own_Fin _ _ _ _ _ _ _ (T6.setTop (mkF m 52 #[rv a1, rv a2, iv 1, iv 5, iv 0, iv B2, iv 4, iv 4, iv 3] [(.int (w2 &&& (63 : Int32))), (.int (B2 <<< ((6 : Int32) &&& 31)))]))
  refine own_st (fun t k => XS.goto X6.here hx rfl (pc0 := 52) (pc' := 57) rfl (hb hby d5_52) (by decide) (by decide) k) ?_
  refine own_st (fun t k => XS.ior X6.here hx rfl (hb hby d5_57) rfl k) ?_
  refine own_st (fun t k => XS.istore X6.here hx rfl (hb hby d5_58) rfl (l' := #[rv a1, rv a2, iv 1, iv 5, iv 0, iv ((B2 <<< ((6 : Int32) &&& 31)) ||| (w2 &&& (63 : Int32))), iv 4, iv 4, iv 3]) rfl k) ?_
  show own_Fin _ _ _ _ _ _ _ (T6.setTop (mkF m 60 #[rv a1, rv a2, iv 1, iv 5, iv 0, iv ((B2 <<< ((6 : Int32) &&& 31)) ||| (w2 &&& (63 : Int32))), iv 4, iv 4, iv 3] []))
  obtain ⟨B3, hB3⟩ : ∃ z, z = ((B2 <<< ((6 : Int32) &&& 31)) ||| (w2 &&& (63 : Int32))) := ⟨_, rfl⟩
  rw [← hB3]
  refine own_st (fun t k => XS.iinc X6.here hx rfl (hb hby d5_60) rfl (l' := #[rv a1, rv a2, iv 1, iv 5, iv 0, iv B3, iv 10, iv 4, iv 3]) rfl k) ?_
  refine own_st (fun t k => XS.iload X6.here hx rfl (hb hby d5_63) rfl k) ?_
  refine own_st (fun t k => XS.bipush X6.here hx rfl (hb hby d5_65) k) ?_
  show own_Fin _ _ _ _ _ _ _ (T6.setTop (mkF m 67 #[rv a1, rv a2, iv 1, iv 5, iv 0, iv B3, iv 10, iv 4, iv 3] [(.int (8 : Int32)), (.int (10 : Int32))]))
  refine own_st (fun t k => XS.icmpNo X6.here hx rfl (hb hby d5_67) rfl (flt (by decide : ¬ ((10 : Int32) < (8 : Int32)))).1 k) ?_
  show own_Fin _ _ _ _ _ _ _ (T6.setTop (mkF m 70 #[rv a1, rv a2, iv 1, iv 5, iv 0, iv B3, iv 10, iv 4, iv 3] []))
  refine own_st (fun t k => XS.iinc X6.here hx rfl (hb hby d5_70) rfl (l' := #[rv a1, rv a2, iv 1, iv 5, iv 0, iv B3, iv 2, iv 4, iv 3]) rfl k) ?_
  refine own_st (fun t k => XS.aloadN X6.here hx rfl (hb hby d5_73) rfl rfl k) ?_
  show own_Fin _ _ _ _ _ _ _ (T6.setTop (mkF m 74 #[rv a1, rv a2, iv 1, iv 5, iv 0, iv B3, iv 2, iv 4, iv 3] [(.ref a1)]))
  obtain ⟨T8, X8, e8, st8⟩ := getF X6 hx hZ hown (host := "") (Or.inl (hw _ (List.mem_of_getElem? (i := 22) rfl))) Via.refl e6 f6_1 (g := (mkF m 74 #[rv a1, rv a2, iv 1, iv 5, iv 0, iv B3, iv 2, iv 4, iv 3] [(.ref a1)])) rfl rfl (hb hby d5_74)
  refine own_st st8 ?_
  refine own_st (fun t k => XS.aloadN X8.here hx rfl (hb hby d5_77) rfl rfl k) ?_
  refine own_st (fun t k => XS.dup X8.here hx rfl (hb hby d5_78) rfl rfl k) ?_
  show own_Fin _ _ _ _ _ _ _ (T8.setTop (mkF m 79 #[rv a1, rv a2, iv 1, iv 5, iv 0, iv B3, iv 2, iv 4, iv 3] [(.ref a1), (.ref a1), (.ref t)]))
  obtain ⟨T9, X9, e9, st9⟩ := getF X8 hx hZ hown (host := "") (Or.inl (hw _ (List.mem_of_getElem? (i := 29) rfl))) Via.refl e8 f6_3 (g := (mkF m 79 #[rv a1, rv a2, iv 1, iv 5, iv 0, iv B3, iv 2, iv 4, iv 3] [(.ref a1), (.ref a1), (.ref t)])) rfl rfl (hb hby d5_79)
  refine own_st st9 ?_
  show own_Fin _ _ _ _ _ _ _ (T9.setTop (mkF m 82 #[rv a1, rv a2, iv 1, iv 5, iv 0, iv B3, iv 2, iv 4, iv 3] [(.int (cn + (1 : Int32))), (.ref a1), (.ref t)]))
  refine own_st (fun t k => XS.dupX1 X9.here hx rfl (hb hby d5_82) rfl rfl rfl k) ?_
  refine own_st (fun t k => XS.iconst X9.here hx rfl (hb hby d5_83) k) ?_
  refine own_st (fun t k => XS.iadd X9.here hx rfl (hb hby d5_84) rfl k) ?_
  show own_Fin _ _ _ _ _ _ _ (T9.setTop (mkF m 85 #[rv a1, rv a2, iv 1, iv 5, iv 0, iv B3, iv 2, iv 4, iv 3] [(.int ((cn + (1 : Int32)) + (1 : Int32))), (.ref a1), (.int (cn + (1 : Int32))), (.ref t)]))
  obtain ⟨T10, h10, X10, e10, W10, st10⟩ := putF X9 hx hZ hown (host := "") (Or.inl (hw _ (List.mem_of_getElem? (i := 29) rfl))) Via.refl e9 f6_3 f6_0 (Or.inl (hw _ (List.mem_of_getElem? (i := 30) rfl))) (hw _ (List.mem_of_getElem? (i := 10) rfl)) (ty := .int) (by decide) rfl rfl (g := (mkF m 85 #[rv a1, rv a2, iv 1, iv 5, iv 0, iv B3, iv 2, iv 4, iv 3] [(.int ((cn + (1 : Int32)) + (1 : Int32))), (.ref a1), (.int (cn + (1 : Int32))), (.ref t)])) rfl rfl (hb hby d5_85)
  have f10_0 := f6_0.wr W10
  have f10_1 := f6_1.other W10 (Or.inr (slot_ne (Or.inr (hw _ (List.mem_of_getElem? (i := 23) rfl))) (Or.inl (hw _ (List.mem_of_getElem? (i := 30) rfl))) (by decide) (t := (.array .int)) (t' := .int) (by decide) (by decide)))
  have f10_2 := f6_2.other W10 nac
  have f10_3 := V6.other W10 (Ne.symm nat)
  have Fw10 : Fld Z h10 a1 "com/example/quietzone/quietzone/datamatrix/CodewordWriter" "count" "I" (.int ((cn + (1 : Int32)) + (1 : Int32))) := f6_3.same W10
  have N10 := Fr.snoc X10 N6 gi
  have Z10 : n0 ≤ h10.size := Nat.le_trans Z6 (Keep.of_wr W10).1
  have K10 : Keep h0 h10 [a1, t] := K6.wr W10 (Or.inl (List.mem_of_getElem? (i := 0) rfl))
  refine own_st st10 ?_
  refine own_st (fun t k => XS.iload X10.here hx rfl (hb hby d5_88) rfl k) ?_
  refine own_st (fun t k => XS.iload X10.here hx rfl (hb hby d5_90) rfl k) ?_
  show own_Fin _ _ _ _ _ _ _ (T10.setTop (mkF m 92 #[rv a1, rv a2, iv 1, iv 5, iv 0, iv B3, iv 2, iv 4, iv 3] [(.int (2 : Int32)), (.int B3), (.int (cn + (1 : Int32))), (.ref t)]))
  refine own_st (fun t k => XS.ishr X10.here hx rfl (hb hby d5_92) rfl k) ?_
  refine own_st (fun t k => XS.sipush X10.here hx rfl (hb hby d5_93) k) ?_
  refine own_st (fun t k => XS.iand X10.here hx rfl (hb hby d5_96) rfl k) ?_
  show own_Fin _ _ _ _ _ _ _ (T10.setTop (mkF m 97 #[rv a1, rv a2, iv 1, iv 5, iv 0, iv B3, iv 2, iv 4, iv 3] [(.int ((B3 >>> ((2 : Int32) &&& 31)) &&& (255 : Int32))), (.int (cn + (1 : Int32))), (.ref t)]))
  obtain ⟨cl11, Ar11, Cq11, Sz11, Mn11, Hs11, Gf11⟩ := id f10_3
  obtain ⟨T11, h11, X11, e11, W11, st11⟩ := stI X10 hx hZ e10 Ar11 (j := (cn + (1 : Int32))) (inb_of Sz11 (own_cn hcn hlen).2.1) (g := (mkF m 97 #[rv a1, rv a2, iv 1, iv 5, iv 0, iv B3, iv 2, iv 4, iv 3] [(.int ((B3 >>> ((2 : Int32) &&& 31)) &&& (255 : Int32))), (.int (cn + (1 : Int32))), (.ref t)])) rfl rfl (hb hby d5_97)
  have f11_0 := f10_0.wr W11
  have f11_1 := f10_1.other W11 (Or.inl nat)
  have f11_2 := f10_2.other W11 nct
  have f11_3 := Fw10.other W11 (Or.inl nat)
  have V11 : Arv Z h11 t kt .int (8 : Int32) ((vs.set (cn).toNatClampNeg (.int ((B2 >>> ((4 : Int32) &&& 31)) &&& (255 : Int32)))).set ((cn + (1 : Int32))).toNatClampNeg (.int ((B3 >>> ((2 : Int32) &&& 31)) &&& (255 : Int32)))) (.int (0 : Int32)) := Arv.set Ar11 Cq11 Sz11 Mn11 Hs11 Gf11 rfl W11 ((cn + (1 : Int32))).toNatClampNeg rfl (by simp only [List.length_set]; exact (own_cn hcn hlen).2.2.2.2.2.1)
  have N11 := Fr.snoc X11 N10 gt
  have Z11 : n0 ≤ h11.size := Nat.le_trans Z10 (Keep.of_wr W11).1
  have K11 : Keep h0 h11 [a1, t] := K10.wr W11 (Or.inl (List.mem_of_getElem? (i := 1) rfl))
  refine own_st st11 ?_
  refine own_st (fun t k => XS.goto X11.here hx rfl (pc0 := 98) (pc' := 63) rfl (hb hby d5_98) (by decide) (by decide) k) ?_
  refine own_st (fun t k => XS.iload X11.here hx rfl (hb hby d5_63) rfl k) ?_
  show own_Fin _ _ _ _ _ _ _ (T11.setTop (mkF m 65 #[rv a1, rv a2, iv 1, iv 5, iv 0, iv B3, iv 2, iv 4, iv 3] [(.int (2 : Int32))]))
  refine own_st (fun t k => XS.bipush X11.here hx rfl (hb hby d5_65) k) ?_
  show own_Fin _ _ _ _ _ _ _ (T11.setTop (mkF m 67 #[rv a1, rv a2, iv 1, iv 5, iv 0, iv B3, iv 2, iv 4, iv 3] [(.int (8 : Int32)), (.int (2 : Int32))]))
  refine own_st (fun t k => XS.icmpYes X11.here hx rfl (pc0 := 67) (pc' := 101) rfl (hb hby d5_67) rfl (tlt (by decide : (2 : Int32) < (8 : Int32))).1 (by decide) (by decide) k) ?_
  show own_Fin _ _ _ _ _ _ _ (T11.setTop (mkF m 101 #[rv a1, rv a2, iv 1, iv 5, iv 0, iv B3, iv 2, iv 4, iv 3] []))
  refine own_st (fun t k => XS.iinc X11.here hx rfl (hb hby d5_101) rfl (l' := #[rv a1, rv a2, iv 1, iv 5, iv 0, iv B3, iv 2, iv 4, iv 4]) rfl k) ?_
  refine own_st (fun t k => XS.goto X11.here hx rfl (pc0 := 104) (pc' := 25) rfl (hb hby d5_104) (by decide) (by decide) k) ?_
  refine own_st (fun t k => XS.iload X11.here hx rfl (hb hby d5_25) rfl k) ?_
  show own_Fin _ _ _ _ _ _ _ (T11.setTop (mkF m 27 #[rv a1, rv a2, iv 1, iv 5, iv 0, iv B3, iv 2, iv 4, iv 4] [(.int (4 : Int32))]))
  refine own_st (fun t k => XS.iloadN X11.here hx rfl (hb hby d5_27) rfl k) ?_
  refine own_st (fun t k => XS.iload X11.here hx rfl (hb hby d5_28) rfl k) ?_
  refine own_st (fun t k => XS.iadd X11.here hx rfl (hb hby d5_30) rfl k) ?_
  show own_Fin _ _ _ _ _ _ _ (T11.setTop (mkF m 31 #[rv a1, rv a2, iv 1, iv 5, iv 0, iv B3, iv 2, iv 4, iv 4] [(.int (5 : Int32)), (.int (4 : Int32))]))
  refine own_st (fun t k => XS.icmpNo X11.here hx rfl (hb hby d5_31) rfl (tlt (by decide : (4 : Int32) < (5 : Int32))).2.1 k) ?_
  refine own_st (fun t k => XS.iload X11.here hx rfl (hb hby d5_34) rfl k) ?_
  refine own_st (fun t k => XS.bipush X11.here hx rfl (hb hby d5_36) k) ?_
  show own_Fin _ _ _ _ _ _ _ (T11.setTop (mkF m 38 #[rv a1, rv a2, iv 1, iv 5, iv 0, iv B3, iv 2, iv 4, iv 4] [(.int (6 : Int32)), (.int B3)]))
  refine own_st (fun t k => XS.ishl X11.here hx rfl (hb hby d5_38) rfl k) ?_
  refine own_st (fun t k => XS.iload X11.here hx rfl (hb hby d5_39) rfl k) ?_
  refine own_st (fun t k => XS.iloadN X11.here hx rfl (hb hby d5_41) rfl k) ?_
  show own_Fin _ _ _ _ _ _ _ (T11.setTop (mkF m 42 #[rv a1, rv a2, iv 1, iv 5, iv 0, iv B3, iv 2, iv 4, iv 4] [(.int (5 : Int32)), (.int (4 : Int32)), (.int (B3 <<< ((6 : Int32) &&& 31)))]))
  refine own_st (fun t k => XS.icmpNo X11.here hx rfl (hb hby d5_42) rfl (tlt (by decide : (4 : Int32) < (5 : Int32))).2.1 k) ?_
  refine own_st (fun t k => XS.aloadN X11.here hx rfl (hb hby d5_45) rfl rfl k) ?_
  refine own_st (fun t k => XS.iload X11.here hx rfl (hb hby d5_46) rfl k) ?_
  show own_Fin _ _ _ _ _ _ _ (T11.setTop (mkF m 48 #[rv a1, rv a2, iv 1, iv 5, iv 0, iv B3, iv 2, iv 4, iv 4] [(.int (4 : Int32)), (.ref a2), (.int (B3 <<< ((6 : Int32) &&& 31)))]))
  obtain ⟨cl12, Ar12, Cq12, Sz12, Mn12, Hs12, Gf12⟩ := id f11_2
  have hin12 := inb_of Sz12 (j := (4 : Int32)) ⟨by decide, by decide⟩
  refine own_st (X11.iaload hx (j := (4 : Int32)) (v := (.int w3)) (by rw [e11]; exact Ar12.1) (State.isArrayOf_alike hZ.alike Ar12.2.1) Ar12.2.2 hin12 (Hs12.at hin12 hat3) (g := (mkF m 48 #[rv a1, rv a2, iv 1, iv 5, iv 0, iv B3, iv 2, iv 4, iv 4] [(.int (4 : Int32)), (.ref a2), (.int (B3 <<< ((6 : Int32) &&& 31)))])) rfl rfl (hb hby d5_48)) ?_
  refine own_st (fun t k => XS.bipush X11.here hx rfl (hb hby d5_49) k) ?_
  refine own_st (fun t k => XS.iand X11.here hx rfl (hb hby d5_51) rfl k) ?_
  show own_Fin _ _ _ _ _ _ _ (T11.setTop (mkF m 52 #[rv a1, rv a2, iv 1, iv 5, iv 0, iv B3, iv 2, iv 4, iv 4] [(.int (w3 &&& (63 : Int32))), (.int (B3 <<< ((6 : Int32) &&& 31)))]))
  refine own_st (fun t k => XS.goto X11.here hx rfl (pc0 := 52) (pc' := 57) rfl (hb hby d5_52) (by decide) (by decide) k) ?_
  refine own_st (fun t k => XS.ior X11.here hx rfl (hb hby d5_57) rfl k) ?_
  refine own_st (fun t k => XS.istore X11.here hx rfl (hb hby d5_58) rfl (l' := #[rv a1, rv a2, iv 1, iv 5, iv 0, iv ((B3 <<< ((6 : Int32) &&& 31)) ||| (w3 &&& (63 : Int32))), iv 2, iv 4, iv 4]) rfl k) ?_
  show own_Fin _ _ _ _ _ _ _ (T11.setTop (mkF m 60 #[rv a1, rv a2, iv 1, iv 5, iv 0, iv ((B3 <<< ((6 : Int32) &&& 31)) ||| (w3 &&& (63 : Int32))), iv 2, iv 4, iv 4] []))
  obtain ⟨B4, hB4⟩ : ∃ z, z = ((B3 <<< ((6 : Int32) &&& 31)) ||| (w3 &&& (63 : Int32))) := ⟨_, rfl⟩
  rw [← hB4]
  refine own_st (fun t k => XS.iinc X11.here hx rfl (hb hby d5_60) rfl (l' := #[rv a1, rv a2, iv 1, iv 5, iv 0, iv B4, iv 8, iv 4, iv 4]) rfl k) ?_
  refine own_st (fun t k => XS.iload X11.here hx rfl (hb hby d5_63) rfl k) ?_
  refine own_st (fun t k => XS.bipush X11.here hx rfl (hb hby d5_65) k) ?_
  show own_Fin _ _ _ _ _ _ _ (T11.setTop (mkF m 67 #[rv a1, rv a2, iv 1, iv 5, iv 0, iv B4, iv 8, iv 4, iv 4] [(.int (8 : Int32)), (.int (8 : Int32))]))
  refine own_st (fun t k => XS.icmpNo X11.here hx rfl (hb hby d5_67) rfl (flt (by decide : ¬ ((8 : Int32) < (8 : Int32)))).1 k) ?_
  show own_Fin _ _ _ _ _ _ _ (T11.setTop (mkF m 70 #[rv a1, rv a2, iv 1, iv 5, iv 0, iv B4, iv 8, iv 4, iv 4] []))
  refine own_st (fun t k => XS.iinc X11.here hx rfl (hb hby d5_70) rfl (l' := #[rv a1, rv a2, iv 1, iv 5, iv 0, iv B4, iv 0, iv 4, iv 4]) rfl k) ?_
  refine own_st (fun t k => XS.aloadN X11.here hx rfl (hb hby d5_73) rfl rfl k) ?_
  show own_Fin _ _ _ _ _ _ _ (T11.setTop (mkF m 74 #[rv a1, rv a2, iv 1, iv 5, iv 0, iv B4, iv 0, iv 4, iv 4] [(.ref a1)]))
  obtain ⟨T13, X13, e13, st13⟩ := getF X11 hx hZ hown (host := "") (Or.inl (hw _ (List.mem_of_getElem? (i := 22) rfl))) Via.refl e11 f11_1 (g := (mkF m 74 #[rv a1, rv a2, iv 1, iv 5, iv 0, iv B4, iv 0, iv 4, iv 4] [(.ref a1)])) rfl rfl (hb hby d5_74)
  refine own_st st13 ?_
  refine own_st (fun t k => XS.aloadN X13.here hx rfl (hb hby d5_77) rfl rfl k) ?_
  refine own_st (fun t k => XS.dup X13.here hx rfl (hb hby d5_78) rfl rfl k) ?_
  show own_Fin _ _ _ _ _ _ _ (T13.setTop (mkF m 79 #[rv a1, rv a2, iv 1, iv 5, iv 0, iv B4, iv 0, iv 4, iv 4] [(.ref a1), (.ref a1), (.ref t)]))
  obtain ⟨T14, X14, e14, st14⟩ := getF X13 hx hZ hown (host := "") (Or.inl (hw _ (List.mem_of_getElem? (i := 29) rfl))) Via.refl e13 f11_3 (g := (mkF m 79 #[rv a1, rv a2, iv 1, iv 5, iv 0, iv B4, iv 0, iv 4, iv 4] [(.ref a1), (.ref a1), (.ref t)])) rfl rfl (hb hby d5_79)
  refine own_st st14 ?_
  show own_Fin _ _ _ _ _ _ _ (T14.setTop (mkF m 82 #[rv a1, rv a2, iv 1, iv 5, iv 0, iv B4, iv 0, iv 4, iv 4] [(.int ((cn + (1 : Int32)) + (1 : Int32))), (.ref a1), (.ref t)]))
  refine own_st (fun t k => XS.dupX1 X14.here hx rfl (hb hby d5_82) rfl rfl rfl k) ?_
  refine own_st (fun t k => XS.iconst X14.here hx rfl (hb hby d5_83) k) ?_
  refine own_st (fun t k => XS.iadd X14.here hx rfl (hb hby d5_84) rfl k) ?_
  show own_Fin _ _ _ _ _ _ _ (T14.setTop (mkF m 85 #[rv a1, rv a2, iv 1, iv 5, iv 0, iv B4, iv 0, iv 4, iv 4] [(.int (((cn + (1 : Int32)) + (1 : Int32)) + (1 : Int32))), (.ref a1), (.int ((cn + (1 : Int32)) + (1 : Int32))), (.ref t)]))
  obtain ⟨T15, h15, X15, e15, W15, st15⟩ := putF X14 hx hZ hown (host := "") (Or.inl (hw _ (List.mem_of_getElem? (i := 29) rfl))) Via.refl e14 f11_3 f11_0 (Or.inl (hw _ (List.mem_of_getElem? (i := 30) rfl))) (hw _ (List.mem_of_getElem? (i := 10) rfl)) (ty := .int) (by decide) rfl rfl (g := (mkF m 85 #[rv a1, rv a2, iv 1, iv 5, iv 0, iv B4, iv 0, iv 4, iv 4] [(.int (((cn + (1 : Int32)) + (1 : Int32)) + (1 : Int32))), (.ref a1), (.int ((cn + (1 : Int32)) + (1 : Int32))), (.ref t)])) rfl rfl (hb hby d5_85)
  have f15_0 := f11_0.wr W15
  have f15_1 := f11_1.other W15 (Or.inr (slot_ne (Or.inr (hw _ (List.mem_of_getElem? (i := 23) rfl))) (Or.inl (hw _ (List.mem_of_getElem? (i := 30) rfl))) (by decide) (t := (.array .int)) (t' := .int) (by decide) (by decide)))
  have f15_2 := f11_2.other W15 nac
  have f15_3 := V11.other W15 (Ne.symm nat)
  have Fw15 : Fld Z h15 a1 "com/example/quietzone/quietzone/datamatrix/CodewordWriter" "count" "I" (.int (((cn + (1 : Int32)) + (1 : Int32)) + (1 : Int32))) := f11_3.same W15
  have N15 := Fr.snoc X15 N11 gi
  have Z15 : n0 ≤ h15.size := Nat.le_trans Z11 (Keep.of_wr W15).1
  have K15 : Keep h0 h15 [a1, t] := K11.wr W15 (Or.inl (List.mem_of_getElem? (i := 0) rfl))
  refine own_st st15 ?_
  refine own_st (fun t k => XS.iload X15.here hx rfl (hb hby d5_88) rfl k) ?_
  refine own_st (fun t k => XS.iload X15.here hx rfl (hb hby d5_90) rfl k) ?_
  show own_Fin _ _ _ _ _ _ _ (T15.setTop (mkF m 92 #[rv a1, rv a2, iv 1, iv 5, iv 0, iv B4, iv 0, iv 4, iv 4] [(.int (0 : Int32)), (.int B4), (.int ((cn + (1 : Int32)) + (1 : Int32))), (.ref t)]))
  refine own_st (fun t k => XS.ishr X15.here hx rfl (hb hby d5_92) rfl k) ?_
  refine own_st (fun t k => XS.sipush X15.here hx rfl (hb hby d5_93) k) ?_
  refine own_st (fun t k => XS.iand X15.here hx rfl (hb hby d5_96) rfl k) ?_
  show own_Fin _ _ _ _ _ _ _ (T15.setTop (mkF m 97 #[rv a1, rv a2, iv 1, iv 5, iv 0, iv B4, iv 0, iv 4, iv 4] [(.int ((B4 >>> ((0 : Int32) &&& 31)) &&& (255 : Int32))), (.int ((cn + (1 : Int32)) + (1 : Int32))), (.ref t)]))
  obtain ⟨cl16, Ar16, Cq16, Sz16, Mn16, Hs16, Gf16⟩ := id f15_3
  obtain ⟨T16, h16, X16, e16, W16, st16⟩ := stI X15 hx hZ e15 Ar16 (j := ((cn + (1 : Int32)) + (1 : Int32))) (inb_of Sz16 (own_cn hcn hlen).2.2.1) (g := (mkF m 97 #[rv a1, rv a2, iv 1, iv 5, iv 0, iv B4, iv 0, iv 4, iv 4] [(.int ((B4 >>> ((0 : Int32) &&& 31)) &&& (255 : Int32))), (.int ((cn + (1 : Int32)) + (1 : Int32))), (.ref t)])) rfl rfl (hb hby d5_97)
  have f16_0 := f15_0.wr W16
  have f16_1 := f15_1.other W16 (Or.inl nat)
  have f16_2 := f15_2.other W16 nct
  have f16_3 := Fw15.other W16 (Or.inl nat)
  have V16 : Arv Z h16 t kt .int (8 : Int32) (((vs.set (cn).toNatClampNeg (.int ((B2 >>> ((4 : Int32) &&& 31)) &&& (255 : Int32)))).set ((cn + (1 : Int32))).toNatClampNeg (.int ((B3 >>> ((2 : Int32) &&& 31)) &&& (255 : Int32)))).set (((cn + (1 : Int32)) + (1 : Int32))).toNatClampNeg (.int ((B4 >>> ((0 : Int32) &&& 31)) &&& (255 : Int32)))) (.int (0 : Int32)) := Arv.set Ar16 Cq16 Sz16 Mn16 Hs16 Gf16 rfl W16 (((cn + (1 : Int32)) + (1 : Int32))).toNatClampNeg rfl (by simp only [List.length_set]; exact (own_cn hcn hlen).2.2.2.2.2.2.1)
  have N16 := Fr.snoc X16 N15 gt
  have Z16 : n0 ≤ h16.size := Nat.le_trans Z15 (Keep.of_wr W16).1
  have K16 : Keep h0 h16 [a1, t] := K15.wr W16 (Or.inl (List.mem_of_getElem? (i := 1) rfl))
  refine own_st st16 ?_
  refine own_st (fun t k => XS.goto X16.here hx rfl (pc0 := 98) (pc' := 63) rfl (hb hby d5_98) (by decide) (by decide) k) ?_
  refine own_st (fun t k => XS.iload X16.here hx rfl (hb hby d5_63) rfl k) ?_
  show own_Fin _ _ _ _ _ _ _ (T16.setTop (mkF m 65 #[rv a1, rv a2, iv 1, iv 5, iv 0, iv B4, iv 0, iv 4, iv 4] [(.int (0 : Int32))]))
  refine own_st (fun t k => XS.bipush X16.here hx rfl (hb hby d5_65) k) ?_
  show own_Fin _ _ _ _ _ _ _ (T16.setTop (mkF m 67 #[rv a1, rv a2, iv 1, iv 5, iv 0, iv B4, iv 0, iv 4, iv 4] [(.int (8 : Int32)), (.int (0 : Int32))]))
  refine own_st (fun t k => XS.icmpYes X16.here hx rfl (pc0 := 67) (pc' := 101) rfl (hb hby d5_67) rfl (tlt (by decide : (0 : Int32) < (8 : Int32))).1 (by decide) (by decide) k) ?_
  show own_Fin _ _ _ _ _ _ _ (T16.setTop (mkF m 101 #[rv a1, rv a2, iv 1, iv 5, iv 0, iv B4, iv 0, iv 4, iv 4] []))
  refine own_st (fun t k => XS.iinc X16.here hx rfl (hb hby d5_101) rfl (l' := #[rv a1, rv a2, iv 1, iv 5, iv 0, iv B4, iv 0, iv 4, iv 5]) rfl k) ?_
  refine own_st (fun t k => XS.goto X16.here hx rfl (pc0 := 104) (pc' := 25) rfl (hb hby d5_104) (by decide) (by decide) k) ?_
  refine own_st (fun t k => XS.iload X16.here hx rfl (hb hby d5_25) rfl k) ?_
  show own_Fin _ _ _ _ _ _ _ (T16.setTop (mkF m 27 #[rv a1, rv a2, iv 1, iv 5, iv 0, iv B4, iv 0, iv 4, iv 5] [(.int (5 : Int32))]))
  refine own_st (fun t k => XS.iloadN X16.here hx rfl (hb hby d5_27) rfl k) ?_
  refine own_st (fun t k => XS.iload X16.here hx rfl (hb hby d5_28) rfl k) ?_
  refine own_st (fun t k => XS.iadd X16.here hx rfl (hb hby d5_30) rfl k) ?_
  show own_Fin _ _ _ _ _ _ _ (T16.setTop (mkF m 31 #[rv a1, rv a2, iv 1, iv 5, iv 0, iv B4, iv 0, iv 4, iv 5] [(.int (5 : Int32)), (.int (5 : Int32))]))
  refine own_st (fun t k => XS.icmpYes X16.here hx rfl (pc0 := 31) (pc' := 107) rfl (hb hby d5_31) rfl (flt (by decide : ¬ ((5 : Int32) < (5 : Int32)))).2.1 (by decide) (by decide) k) ?_
  refine own_st (fun t k => XS.iload X16.here hx rfl (hb hby d5_107) rfl k) ?_
  show own_Fin _ _ _ _ _ _ _ (T16.setTop (mkF m 109 #[rv a1, rv a2, iv 1, iv 5, iv 0, iv B4, iv 0, iv 4, iv 5] [(.int (0 : Int32))]))
  refine own_st (fun t k => XS.ifYes X16.here hx rfl (pc0 := 109) (pc' := 140) rfl (hb hby d5_109) rfl ((if0 _ _).trans (flt (by decide : ¬ ((0 : Int32) < (0 : Int32)))).2.2.2) (by decide) (by decide) k) ?_
  show own_Fin _ _ _ _ _ _ _ (T16.setTop (mkF m 140 #[rv a1, rv a2, iv 1, iv 5, iv 0, iv B4, iv 0, iv 4, iv 5] []))
  have x0 : 0 ≤ ((w0 &&& (63 : Int32))).toInt ∧ ((w0 &&& (63 : Int32))).toInt < 64 := own_x63 _
  have b1 := own_b1 hB1 x0
  have x1 : 0 ≤ ((w1 &&& (63 : Int32))).toInt ∧ ((w1 &&& (63 : Int32))).toInt < 64 := own_x63 _
  have b2 := own_bS hB2 b1 (by omega) x1
  have x2 : 0 ≤ ((w2 &&& (63 : Int32))).toInt ∧ ((w2 &&& (63 : Int32))).toInt < 64 := own_x63 _
  have b3 := own_bS hB3 b2 (by omega) x2
  have x3 : 0 ≤ ((w3 &&& (63 : Int32))).toInt ∧ ((w3 &&& (63 : Int32))).toInt < 64 := own_x63 _
  have b4 := own_bS hB4 b3 (by omega) x3
  have hks : own_ks 4 0 w0 w1 w2 w3 = [((B2 >>> ((4 : Int32) &&& 31)) &&& (255 : Int32)), ((B3 >>> ((2 : Int32) &&& 31)) &&& (255 : Int32)), ((B4 >>> ((0 : Int32) &&& 31)) &&& (255 : Int32))] := by
    rw [own_ks_40, own_six_mask hw0, own_six_mask hw1, own_six_mask hw2, own_six_mask hw3]
    rw [(own_o0 b2 x0 x1), (own_o1 b3 x0 x1 x2), (own_o2 b4 x0 x1 x2 x3)]
  exact own_retV X16 hx Bd.notSynchronized Bd.returns (hb hby d5_140) (by decide) (by decide) (by rw [e16]; unfold own_Q_rmE_1_4_0; rw [hks]; exact ⟨rfl, N16, K16, f16_0, f16_1, f16_3, V16⟩)
def own_case (n u : Int32) : Prop := (n = 0 ∧ u = 1) ∨ (n = 1 ∧ u = 1) ∨ (n = 2 ∧ u = 1) ∨ (n = 3 ∧ u = 1) ∨ (n = 4 ∧ u = 1) ∨ (n = 0 ∧ u = 0) ∨ (n = 4 ∧ u = 0)
def own_Q_rm5 (Z : State) (a1 a2 : Addr) (p3 p4 p5 : Int32) (t : Addr) (kt : ClassId) (vs : List Value) (cn : Int32) (kc : ClassId) (vc : List Value) (w0 w1 w2 w3 : Int32) (nn : Int32) (h0 : Heap) (n0 : Nat) (v : Option Value) (h : Heap) (L : List Loc) : Prop := v = none ∧ Fr n0 L ∧ Keep h0 h [a1, t] ∧ Exa Z h a1 "com/example/quietzone/quietzone/datamatrix/CodewordWriter" ∧ Fld Z h a1 "com/example/quietzone/quietzone/datamatrix/CodewordWriter" "codewords" "[I" (.ref t) ∧ Fld Z h a1 "com/example/quietzone/quietzone/datamatrix/CodewordWriter" "count" "I" (.int (own_cnt cn (own_ks nn p5 w0 w1 w2 w3))) ∧ Arv Z h t kt .int (8 : Int32) (own_app vs cn (own_ks nn p5 w0 w1 w2 w3)) (.int (0 : Int32))
theorem rm5 (l : Launch) (Z : State) (a0 : Array Value) (hw : ∀ d ∈ tables_1, d.before a0 Z = true) (ws : List Jvm.Cond) (a1 a2 : Addr) (p3 p4 p5 : Int32) (t : Addr) (kt : ClassId) (vs : List Value) (cn : Int32) (kc : ClassId) (vc : List Value) (w0 w1 w2 w3 : Int32) (nn : Int32) (h0 : Heap) (n0 : Nat) (Z0 : n0 ≤ h0.size) (Ei : Exa Z h0 a1 "com/example/quietzone/quietzone/datamatrix/CodewordWriter") (Fw : Fld Z h0 a1 "com/example/quietzone/quietzone/datamatrix/CodewordWriter" "codewords" "[I" (.ref t)) (Fc : Fld Z h0 a1 "com/example/quietzone/quietzone/datamatrix/CodewordWriter" "count" "I" (.int cn)) (Vt : Arv Z h0 t kt .int (8 : Int32) vs (.int (0 : Int32))) (gi : n0 ≤ a1) (gt : n0 ≤ t) (nat : a1 ≠ t) (Vc : Arv Z h0 a2 kc .int (5 : Int32) vc (.int (0 : Int32))) (nac : a2 ≠ a1) (nct : a2 ≠ t) (hcn : cn = (0 : Int32) ∨ cn = (1 : Int32)) (hlen : vs.length = 8) (hf : p3 = (0 : Int32) ∨ p3 = (1 : Int32)) (hcase : own_case nn p5) (hp4 : p4 = p3 + nn) (hat0 : (0 : Int32) < nn → vc.getD (p3 + (0 : Int32)).toNatClampNeg (.int (0 : Int32)) = .int w0) (hw0 : 32 ≤ w0.toInt ∧ w0.toInt ≤ 94) (hat1 : (1 : Int32) < nn → vc.getD (p3 + (1 : Int32)).toNatClampNeg (.int (0 : Int32)) = .int w1) (hw1 : 32 ≤ w1.toInt ∧ w1.toInt ≤ 94) (hat2 : (2 : Int32) < nn → vc.getD (p3 + (2 : Int32)).toNatClampNeg (.int (0 : Int32)) = .int w2) (hw2 : 32 ≤ w2.toInt ∧ w2.toInt ≤ 94) (hat3 : (3 : Int32) < nn → vc.getD (p3 + (3 : Int32)).toNatClampNeg (.int (0 : Int32)) = .int w3) (hw3 : 32 ≤ w3.toInt ∧ w3.toInt ≤ 94) :
    MetFree l (⟨"com/example/quietzone/quietzone/datamatrix/CodewordWriter", "edifact", "([IIIZ)V"⟩ : MethodName) (head1 (Jvm.Cond.code (⟨"com/example/quietzone/quietzone/datamatrix/CodewordWriter", "edifact", "([IIIZ)V"⟩ : MethodName) prog_34_method_9_code 9 none :: ws) ({ frames := 0, cells := 0, slots := 0, locals := 0 } : Room)) (fun a U => a = #[(.ref a1), (.ref a2), (.int p3), (.int p4), (.int p5)] ∧ Z.Warmed39 U.vm ∧ U.heap = h0) (fun _ _ _ _ _ => True) (fun _ U o U' => ∃ v L, o = .returned v ∧ own_Q_rm5 Z a1 a2 p3 p4 p5 t kt vs cn kc vc w0 w1 w2 w3 nn h0 n0 v U'.heap L ∧ FrameEnd U o U' L ({ frames := 0, cells := 0, slots := 0, locals := 0 } : Room).cells ({ frames := 0, cells := 0, slots := 0, locals := 0 } : Room).slots) := by
  rcases hf with rfl | rfl
  · rcases hcase with ⟨rfl, rfl⟩ | ⟨rfl, rfl⟩ | ⟨rfl, rfl⟩ | ⟨rfl, rfl⟩ | ⟨rfl, rfl⟩ | ⟨rfl, rfl⟩ | ⟨rfl, rfl⟩
    · obtain rfl : p4 = (0 : Int32) := hp4.trans (by decide)
      exact rmE_0_0_1 l Z a0 hw ws a1 a2 t kt vs cn kc vc w0 w1 w2 w3 h0 n0 Z0 Ei Fw Fc Vt gi gt nat Vc nac nct hcn hlen
    · obtain rfl : p4 = (1 : Int32) := hp4.trans (by decide)
      exact rmE_0_1_1 l Z a0 hw ws a1 a2 t kt vs cn kc vc w0 w1 w2 w3 h0 n0 Z0 Ei Fw Fc Vt gi gt nat Vc nac nct hcn hlen (hat0 (by decide)) hw0
    · obtain rfl : p4 = (2 : Int32) := hp4.trans (by decide)
      exact rmE_0_2_1 l Z a0 hw ws a1 a2 t kt vs cn kc vc w0 w1 w2 w3 h0 n0 Z0 Ei Fw Fc Vt gi gt nat Vc nac nct hcn hlen (hat0 (by decide)) hw0 (hat1 (by decide)) hw1
    · obtain rfl : p4 = (3 : Int32) := hp4.trans (by decide)
      exact rmE_0_3_1 l Z a0 hw ws a1 a2 t kt vs cn kc vc w0 w1 w2 w3 h0 n0 Z0 Ei Fw Fc Vt gi gt nat Vc nac nct hcn hlen (hat0 (by decide)) hw0 (hat1 (by decide)) hw1 (hat2 (by decide)) hw2
    · obtain rfl : p4 = (4 : Int32) := hp4.trans (by decide)
      exact rmE_0_4_1 l Z a0 hw ws a1 a2 t kt vs cn kc vc w0 w1 w2 w3 h0 n0 Z0 Ei Fw Fc Vt gi gt nat Vc nac nct hcn hlen (hat0 (by decide)) hw0 (hat1 (by decide)) hw1 (hat2 (by decide)) hw2 (hat3 (by decide)) hw3
    · obtain rfl : p4 = (0 : Int32) := hp4.trans (by decide)
      exact rmE_0_0_0 l Z a0 hw ws a1 a2 t kt vs cn kc vc w0 w1 w2 w3 h0 n0 Z0 Ei Fw Fc Vt gi gt nat Vc nac nct hcn hlen
    · obtain rfl : p4 = (4 : Int32) := hp4.trans (by decide)
      exact rmE_0_4_0 l Z a0 hw ws a1 a2 t kt vs cn kc vc w0 w1 w2 w3 h0 n0 Z0 Ei Fw Fc Vt gi gt nat Vc nac nct hcn hlen (hat0 (by decide)) hw0 (hat1 (by decide)) hw1 (hat2 (by decide)) hw2 (hat3 (by decide)) hw3
  · rcases hcase with ⟨rfl, rfl⟩ | ⟨rfl, rfl⟩ | ⟨rfl, rfl⟩ | ⟨rfl, rfl⟩ | ⟨rfl, rfl⟩ | ⟨rfl, rfl⟩ | ⟨rfl, rfl⟩
    · obtain rfl : p4 = (1 : Int32) := hp4.trans (by decide)
      exact rmE_1_0_1 l Z a0 hw ws a1 a2 t kt vs cn kc vc w0 w1 w2 w3 h0 n0 Z0 Ei Fw Fc Vt gi gt nat Vc nac nct hcn hlen
    · obtain rfl : p4 = (2 : Int32) := hp4.trans (by decide)
      exact rmE_1_1_1 l Z a0 hw ws a1 a2 t kt vs cn kc vc w0 w1 w2 w3 h0 n0 Z0 Ei Fw Fc Vt gi gt nat Vc nac nct hcn hlen (hat0 (by decide)) hw0
    · obtain rfl : p4 = (3 : Int32) := hp4.trans (by decide)
      exact rmE_1_2_1 l Z a0 hw ws a1 a2 t kt vs cn kc vc w0 w1 w2 w3 h0 n0 Z0 Ei Fw Fc Vt gi gt nat Vc nac nct hcn hlen (hat0 (by decide)) hw0 (hat1 (by decide)) hw1
    · obtain rfl : p4 = (4 : Int32) := hp4.trans (by decide)
      exact rmE_1_3_1 l Z a0 hw ws a1 a2 t kt vs cn kc vc w0 w1 w2 w3 h0 n0 Z0 Ei Fw Fc Vt gi gt nat Vc nac nct hcn hlen (hat0 (by decide)) hw0 (hat1 (by decide)) hw1 (hat2 (by decide)) hw2
    · obtain rfl : p4 = (5 : Int32) := hp4.trans (by decide)
      exact rmE_1_4_1 l Z a0 hw ws a1 a2 t kt vs cn kc vc w0 w1 w2 w3 h0 n0 Z0 Ei Fw Fc Vt gi gt nat Vc nac nct hcn hlen (hat0 (by decide)) hw0 (hat1 (by decide)) hw1 (hat2 (by decide)) hw2 (hat3 (by decide)) hw3
    · obtain rfl : p4 = (1 : Int32) := hp4.trans (by decide)
      exact rmE_1_0_0 l Z a0 hw ws a1 a2 t kt vs cn kc vc w0 w1 w2 w3 h0 n0 Z0 Ei Fw Fc Vt gi gt nat Vc nac nct hcn hlen
    · obtain rfl : p4 = (5 : Int32) := hp4.trans (by decide)
      exact rmE_1_4_0 l Z a0 hw ws a1 a2 t kt vs cn kc vc w0 w1 w2 w3 h0 n0 Z0 Ei Fw Fc Vt gi gt nat Vc nac nct hcn hlen (hat0 (by decide)) hw0 (hat1 (by decide)) hw1 (hat2 (by decide)) hw2 (hat3 (by decide)) hw3
theorem d7_0 : decode jdk_65_method_123_code 0 = .ok (.iload_n 1, 1) := by decide +kernel
theorem d7_1 : decode jdk_65_method_123_code 1 = .ok (.aload_n 0, 1) := by decide +kernel
theorem d7_2 : decode jdk_65_method_123_code 2 = .ok (.arraylength, 1) := by decide +kernel
theorem d7_3 : decode jdk_65_method_123_code 3 = .ok (.if_icmp .ne 11, 3) := by decide +kernel
theorem d7_14 : decode jdk_65_method_123_code 14 = .ok (.iload_n 1, 1) := by decide +kernel
theorem d7_15 : decode jdk_65_method_123_code 15 = .ok (.newarray .int, 2) := by decide +kernel
theorem d7_17 : decode jdk_65_method_123_code 17 = .ok (.astore_n 2, 1) := by decide +kernel
theorem d7_18 : decode jdk_65_method_123_code 18 = .ok (.aload_n 0, 1) := by decide +kernel
theorem d7_19 : decode jdk_65_method_123_code 19 = .ok (.iconst 0, 1) := by decide +kernel
theorem d7_20 : decode jdk_65_method_123_code 20 = .ok (.aload_n 2, 1) := by decide +kernel
theorem d7_21 : decode jdk_65_method_123_code 21 = .ok (.iconst 0, 1) := by decide +kernel
theorem d7_22 : decode jdk_65_method_123_code 22 = .ok (.aload_n 0, 1) := by decide +kernel
theorem d7_23 : decode jdk_65_method_123_code 23 = .ok (.arraylength, 1) := by decide +kernel
theorem d7_24 : decode jdk_65_method_123_code 24 = .ok (.iload_n 1, 1) := by decide +kernel
theorem d7_25 : decode jdk_65_method_123_code 25 = .ok (.invokestatic 304, 3) := by decide +kernel
theorem d7_28 : decode jdk_65_method_123_code 28 = .ok (.invokestatic 150, 3) := by decide +kernel
theorem d7_31 : decode jdk_65_method_123_code 31 = .ok (.aload_n 2, 1) := by decide +kernel
theorem d7_32 : decode jdk_65_method_123_code 32 = .ok (.areturn, 1) := by decide +kernel
theorem pn_7 : plainFor (⟨"java/util/Arrays", "copyOf", "([II)[I"⟩ : MethodName) = true := plainFor_of_name (x := (⟨"java/util/Arrays", "copyOf", "([II)[I"⟩ : MethodName)) (by first | (simp [plainName, overriddenIn]; done) | decide +kernel)
theorem pd_7_0 : parseMethodDescriptor "(II)I" = some ⟨[.int, .int], some .int⟩ := by decide +kernel
theorem ef_7 (m : MethodId) (a1 : Addr) (p2 : Int32) : entryFrame m #[(.ref a1), (.int p2)] 3 = mkF m 0 #[rv a1, iv p2, .unset] [] := by first | (simp [entryFrame, mkF, argsToLocals, Value.category]; done) | rfl
def own_Q_rm7 (Z : State) (a1 : Addr) (p2 : Int32) (ka : ClassId) (za : Int32) (vs : List Value) (h0 : Heap) (n0 : Nat) (v : Option Value) (h : Heap) (L : List Loc) : Prop := ∃ (r : Addr) (kr : ClassId), v = some (.ref r) ∧ Fr n0 L ∧ Keep h0 h [] ∧ n0 ≤ r ∧ h0.size ≤ r ∧ Arv Z h r kr .int p2 ((List.range p2.toNatClampNeg).map fun i => vs.getD i (.int (0 : Int32))) (.int (0 : Int32))
set_option maxRecDepth 65536 in
set_option maxHeartbeats 40000000 in
theorem rm7 (l : Launch) (Z : State) (a0 : Array Value) (hw : ∀ d ∈ tables_1, d.before a0 Z = true) (ws : List Jvm.Cond) (a1 : Addr) (p2 : Int32) (ka : ClassId) (za : Int32) (vs : List Value) (h0 : Heap) (n0 : Nat) (Z0 : n0 ≤ h0.size) (Va : Arv Z h0 a1 ka .int za vs (.int (0 : Int32))) (hn0 : ¬ p2 < 0) (hn8 : p2.toNatClampNeg ≤ 8) (hne : ¬ (p2 = za)) (hlt : p2 < za) (hfit : (0 : Int32).toNatClampNeg + p2.toNatClampNeg ≤ za.toNatClampNeg) :
    MetFree l (⟨"java/util/Arrays", "copyOf", "([II)[I"⟩ : MethodName) (head1 (Jvm.Cond.code (⟨"java/util/Arrays", "copyOf", "([II)[I"⟩ : MethodName) jdk_65_method_123_code 3 (some (.array .int)) :: ws) ({ frames := 1, cells := 1, slots := 8, locals := 64 } : Room)) (fun a U => a = #[(.ref a1), (.int p2)] ∧ Z.Warmed39 U.vm ∧ U.heap = h0) (fun _ _ _ _ _ => True) (fun _ U o U' => ∃ v L, o = .returned v ∧ own_Q_rm7 Z a1 p2 ka za vs h0 n0 v U'.heap L ∧ FrameEnd U o U' L ({ frames := 1, cells := 1, slots := 8, locals := 64 } : Room).cells ({ frames := 1, cells := 1, slots := 8, locals := 64 } : Room).slots) := by
  refine MetFree.of_bodySF pn_7 hisR ?_
  intro p e s m args below meth c s₁ Bd hml0 hP hK
  obtain ⟨rfl, hZ, hh⟩ := hP
  have hx := Bd.exec
  have hby := Bd.bytes
  have hml : c.maxLocals = 3 := hml0
  have hown : s.vm.findClass "java/util/Arrays" = some m.cls := findClass_of_methodNamed Bd.named
  have hnm := (name_of_methodNamed Bd.named Bd.method).1
  have X0 : Stand p l e ({ frames := 1, cells := 1, slots := 8, locals := 64 } : Room) s m #[(.ref a1), (.int p2)] below meth c s₁ [] 0 0 := Stand.of_body Bd
  have e0 : s₁.heap = h0 := by rw [← hh, Bd.state]; rfl
  have N0 := Fr.nil n0
  have KR : Keep h0 h0 [] := Keep.refl h0 []
  show own_Fin p.tables e below s (({ frames := 1, cells := 1, slots := 8, locals := 64 } : Room).cells) (({ frames := 1, cells := 1, slots := 8, locals := 64 } : Room).slots) (own_Q_rm7 Z a1 p2 ka za vs h0 n0) (s₁.setTop (entryFrame m #[(.ref a1), (.int p2)] 3))
  rw [ef_7 m a1 p2]
  show own_Fin _ _ _ _ _ _ _ (s₁.setTop (mkF m 0 #[rv a1, iv p2, .unset] []))
  refine own_st (fun t k => XS.iloadN X0.here hx rfl (hb hby d7_0) rfl k) ?_
  show own_Fin _ _ _ _ _ _ _ (s₁.setTop (mkF m 1 #[rv a1, iv p2, .unset] [(.int p2)]))
  refine own_st (fun t k => XS.aloadN X0.here hx rfl (hb hby d7_1) rfl rfl k) ?_
  show own_Fin _ _ _ _ _ _ _ (s₁.setTop (mkF m 2 #[rv a1, iv p2, .unset] [(.ref a1), (.int p2)]))
  obtain ⟨cl1, Ar1, Cq1, Sz1, Mn1, Hs1, Gf1⟩ := id Va
  refine own_st (X0.arraylength hx (by rw [e0]; exact Ar1.1) (State.isArrayOf_alike hZ.alike Ar1.2.1) (g := (mkF m 2 #[rv a1, iv p2, .unset] [(.ref a1), (.int p2)])) rfl rfl (hb hby d7_2)) ?_
  rw [len_of Sz1 Mn1]
  show own_Fin _ _ _ _ _ _ _ (s₁.setTop (mkF m 3 #[rv a1, iv p2, .unset] [(.int za), (.int p2)]))
  have hd3_2 : ¬ (p2 = za) := hne
  refine own_st (fun t k => XS.icmpYes X0.here hx rfl (pc0 := 3) (pc' := 14) rfl (hb hby d7_3) rfl (feq hd3_2).2 (by decide) (by decide) k) ?_
  show own_Fin _ _ _ _ _ _ _ (s₁.setTop (mkF m 14 #[rv a1, iv p2, .unset] []))
  refine own_st (fun t k => XS.iloadN X0.here hx rfl (hb hby d7_14) rfl k) ?_
  show own_Fin _ _ _ _ _ _ _ (s₁.setTop (mkF m 15 #[rv a1, iv p2, .unset] [(.int p2)]))
  obtain ⟨T3, h3, k3, X3, e3, E3, A3, st3⟩ := newP X0 hx hZ (hw _ (List.mem_of_getElem? (i := 0) rfl)) e0 (g := (mkF m 15 #[rv a1, iv p2, .unset] [(.int p2)])) rfl (hb hby d7_15) rfl hn0 (cap := 8) hn8 (by decide) (by decide) (by decide)
  obtain ⟨b3, g3⟩ : ∃ z, z = h0.size := ⟨_, rfl⟩
  rw [← g3] at A3 st3
  have f3_0 := Va.ext E3
  have ne_a1_b3 : a1 ≠ b3 := Nat.ne_of_lt (Nat.lt_of_lt_of_le Va.lt (Nat.le_of_eq g3.symm))
  have ge_b3 : n0 ≤ b3 := Nat.le_trans Z0 (Nat.le_of_eq g3.symm)
  have sz_b3 : h0.size ≤ b3 := Nat.le_trans KR.1 (Nat.le_of_eq g3.symm)
  have Z3 : n0 ≤ h3.size := Nat.le_trans Z0 E3.1
  have K3 : Keep h0 h3 [] := KR.ext E3
  have V3 : Arv Z h3 b3 k3 .int p2 [] (.int (0 : Int32)) := Arv.new A3 hn0
  refine own_st st3 ?_
  show own_Fin _ _ _ _ _ _ _ (T3.setTop (mkF m 17 #[rv a1, iv p2, .unset] [(.ref b3)]))
  refine own_st (fun t k => XS.astoreN X3.here hx rfl (hb hby d7_17) rfl rfl (l' := #[rv a1, iv p2, rv b3]) rfl k) ?_
  show own_Fin _ _ _ _ _ _ _ (T3.setTop (mkF m 18 #[rv a1, iv p2, rv b3] []))
  refine own_st (fun t k => XS.aloadN X3.here hx rfl (hb hby d7_18) rfl rfl k) ?_
  show own_Fin _ _ _ _ _ _ _ (T3.setTop (mkF m 19 #[rv a1, iv p2, rv b3] [(.ref a1)]))
  refine own_st (fun t k => XS.iconst X3.here hx rfl (hb hby d7_19) k) ?_
  show own_Fin _ _ _ _ _ _ _ (T3.setTop (mkF m 20 #[rv a1, iv p2, rv b3] [(.int (0 : Int32)), (.ref a1)]))
  refine own_st (fun t k => XS.aloadN X3.here hx rfl (hb hby d7_20) rfl rfl k) ?_
  show own_Fin _ _ _ _ _ _ _ (T3.setTop (mkF m 21 #[rv a1, iv p2, rv b3] [(.ref b3), (.int (0 : Int32)), (.ref a1)]))
  refine own_st (fun t k => XS.iconst X3.here hx rfl (hb hby d7_21) k) ?_
  show own_Fin _ _ _ _ _ _ _ (T3.setTop (mkF m 22 #[rv a1, iv p2, rv b3] [(.int (0 : Int32)), (.ref b3), (.int (0 : Int32)), (.ref a1)]))
  refine own_st (fun t k => XS.aloadN X3.here hx rfl (hb hby d7_22) rfl rfl k) ?_
  show own_Fin _ _ _ _ _ _ _ (T3.setTop (mkF m 23 #[rv a1, iv p2, rv b3] [(.ref a1), (.int (0 : Int32)), (.ref b3), (.int (0 : Int32)), (.ref a1)]))
  obtain ⟨cl4, Ar4, Cq4, Sz4, Mn4, Hs4, Gf4⟩ := id f3_0
  refine own_st (X3.arraylength hx (by rw [e3]; exact Ar4.1) (State.isArrayOf_alike hZ.alike Ar4.2.1) (g := (mkF m 23 #[rv a1, iv p2, rv b3] [(.ref a1), (.int (0 : Int32)), (.ref b3), (.int (0 : Int32)), (.ref a1)])) rfl rfl (hb hby d7_23)) ?_
  rw [len_of Sz4 Mn4]
  show own_Fin _ _ _ _ _ _ _ (T3.setTop (mkF m 24 #[rv a1, iv p2, rv b3] [(.int za), (.int (0 : Int32)), (.ref b3), (.int (0 : Int32)), (.ref a1)]))
  refine own_st (fun t k => XS.iloadN X3.here hx rfl (hb hby d7_24) rfl k) ?_
  show own_Fin _ _ _ _ _ _ _ (T3.setTop (mkF m 25 #[rv a1, iv p2, rv b3] [(.int p2), (.int za), (.int (0 : Int32)), (.ref b3), (.int (0 : Int32)), (.ref a1)]))
  obtain ⟨_, _, ⟨T5, L5, k5, n5⟩, -, X5, ⟨Lc5, hQ5, l5, y5, z5⟩, st5⟩ := Jvm.LawKit.callS X3 hx (y := (⟨"java/lang/Math", "min", "(II)I"⟩ : MethodName)) hown (mvT hZ (hw _ (List.mem_of_getElem? (i := 40) rfl))) (mvT hZ (hw _ (List.mem_of_getElem? (i := 41) rfl))) (mvT hZ (hw _ (List.mem_of_getElem? (i := 42) rfl))) (mvT hZ (hw _ (List.mem_of_getElem? (i := 43) rfl))) (by decide) (backOf (W := 4) (rm8 l Z a0 hw [] za p2 h3 n0 Z3) hZ (hw _ (List.mem_of_getElem? (i := 43) rfl)) (hw _ (List.mem_of_getElem? (i := 42) rfl)) (by decide) (by decide)) (g := (mkF m 25 #[rv a1, iv p2, rv b3] [(.int p2), (.int za), (.int (0 : Int32)), (.ref b3), (.int (0 : Int32)), (.ref a1)])) rfl (by rw [hml]; rfl) (argsL := [(.int za), (.int p2)]) (rest := [(.int (0 : Int32)), (.ref b3), (.int (0 : Int32)), (.ref a1)]) (lenOf pd_7_0 rfl) rfl (by show 2 * 0 + _ ≤ _; exact Nat.le_of_eq rfl) (hb hby d7_25) (fun _ _ => ⟨rfl, e3, (by decide : 1 + 0 ≤ _), (by decide : 8 + 0 ≤ _)⟩)
  dsimp only [Pt.U, Pt.locs, Pt.cells, Pt.slots] at X5 l5 y5 z5 st5 hQ5
  subst l5 y5 z5
  obtain ⟨rfl, N5q, e5⟩ := hQ5
  have N5 := Fr.app N0 N5q
  refine own_st st5 ?_
  show own_Fin _ _ _ _ _ _ _ (T5.setTop (mkF m 28 #[rv a1, iv p2, rv b3] [(.int (own_F8 za p2)), (.int (0 : Int32)), (.ref b3), (.int (0 : Int32)), (.ref a1)]))
  have hmn : own_F8 za p2 = p2 := by unfold own_F8; rw [if_pos hlt]
  rw [hmn]
  have Vr : Arv Z h3 b3 k3 .int p2 (List.replicate p2.toNatClampNeg (.int (0 : Int32))) (.int (0 : Int32)) := V3.pad (pad_rep [] (.int (0 : Int32)) p2.toNatClampNeg)
  obtain ⟨T6, h6, L6, X6, e6, N6, K6, V6, st6⟩ := cpA X5 hx hZ hown (hw _ (List.mem_of_getElem? (i := 44) rfl)) (hw _ (List.mem_of_getElem? (i := 47) rfl)) (hw _ (List.mem_of_getElem? (i := 45) rfl)) (hw _ (List.mem_of_getElem? (i := 46) rfl)) e5 (us := (List.range p2.toNatClampNeg).map fun i => vs.getD i (.int (0 : Int32))) f3_0 Vr (Or.inl ⟨rfl, rfl⟩) (sp := (0 : Int32)) (dp := (0 : Int32)) (nn := p2) (by decide) (by decide) hn0 hfit (Nat.le_of_eq (Nat.zero_add _)) (by simp) (by simp) N5 ge_b3 (g := (mkF m 28 #[rv a1, iv p2, rv b3] [(.int p2), (.int (0 : Int32)), (.ref b3), (.int (0 : Int32)), (.ref a1)])) rfl (by rw [hml]; rfl) (rest := []) rfl (hb hby d7_28) (by decide) (W := 0) (by show 2 * 0 + _ ≤ _; exact Nat.le_of_eq rfl) (by decide)
  have KK6 : Keep h0 h6 [] := K3.trans K6 (allS (Or.inr sz_b3) all0)
  have VV6 : Arv Z h6 b3 k3 .int p2 ((List.range p2.toNatClampNeg).map fun i => vs.getD i (.int (0 : Int32))) (.int (0 : Int32)) := by have q := V6; simpa using q
  refine own_st st6 ?_
  show own_Fin _ _ _ _ _ _ _ (T6.setTop (mkF m 31 #[rv a1, iv p2, rv b3] []))
  refine own_st (fun t k => XS.aloadN X6.here hx rfl (hb hby d7_31) rfl rfl k) ?_
  show own_Fin _ _ _ _ _ _ _ (T6.setTop (mkF m 32 #[rv a1, iv p2, rv b3] [(.ref b3)]))
  exact own_retA X6 hx Bd.notSynchronized Bd.returns rfl (hb hby d7_32) (by decide) (by decide) (by rw [e6]; exact ⟨b3, k3, rfl, N6, KK6, ge_b3, sz_b3, VV6⟩)
theorem d6_0 : decode prog_34_method_13_code 0 = .ok (.aload_n 0, 1) := by decide +kernel
theorem d6_1 : decode prog_34_method_13_code 1 = .ok (.getfield 16, 3) := by decide +kernel
theorem d6_4 : decode prog_34_method_13_code 4 = .ok (.aload_n 0, 1) := by decide +kernel
theorem d6_5 : decode prog_34_method_13_code 5 = .ok (.getfield 19, 3) := by decide +kernel
theorem d6_8 : decode prog_34_method_13_code 8 = .ok (.invokestatic 68, 3) := by decide +kernel
theorem d6_11 : decode prog_34_method_13_code 11 = .ok (.areturn, 1) := by decide +kernel
theorem pn_6 : plainFor (⟨"com/example/quietzone/quietzone/datamatrix/CodewordWriter", "codewords", "()[I"⟩ : MethodName) = true := plainFor_of_name (x := (⟨"com/example/quietzone/quietzone/datamatrix/CodewordWriter", "codewords", "()[I"⟩ : MethodName)) (by first | (simp [plainName, overriddenIn]; done) | decide +kernel)
theorem pd_6_0 : parseMethodDescriptor "([II)[I" = some ⟨[(.array .int), .int], some (.array .int)⟩ := by decide +kernel
theorem ef_6 (m : MethodId) (a1 : Addr) : entryFrame m #[(.ref a1)] 1 = mkF m 0 #[rv a1] [] := by first | (simp [entryFrame, mkF, argsToLocals, Value.category]; done) | rfl
def own_Q_rm6 (Z : State) (a1 : Addr) (t : Addr) (kt : ClassId) (vs : List Value) (cn : Int32) (h0 : Heap) (n0 : Nat) (v : Option Value) (h : Heap) (L : List Loc) : Prop := ∃ (r : Addr) (kr : ClassId), v = some (.ref r) ∧ Fr n0 L ∧ Keep h0 h [] ∧ n0 ≤ r ∧ h0.size ≤ r ∧ Arv Z h r kr .int cn ((List.range cn.toNatClampNeg).map fun i => vs.getD i (.int (0 : Int32))) (.int (0 : Int32))
set_option maxRecDepth 65536 in
set_option maxHeartbeats 40000000 in
theorem rm6 (l : Launch) (Z : State) (a0 : Array Value) (hw : ∀ d ∈ tables_1, d.before a0 Z = true) (ws : List Jvm.Cond) (a1 : Addr) (t : Addr) (kt : ClassId) (vs : List Value) (cn : Int32) (h0 : Heap) (n0 : Nat) (Z0 : n0 ≤ h0.size) (Fw : Fld Z h0 a1 "com/example/quietzone/quietzone/datamatrix/CodewordWriter" "codewords" "[I" (.ref t)) (Fc : Fld Z h0 a1 "com/example/quietzone/quietzone/datamatrix/CodewordWriter" "count" "I" (.int cn)) (Vt : Arv Z h0 t kt .int (8 : Int32) vs (.int (0 : Int32))) (hn0 : ¬ cn < 0) (hn8 : cn.toNatClampNeg ≤ 8) (hne : ¬ (cn = (8 : Int32))) (hlt : cn < (8 : Int32)) (hfit : (0 : Int32).toNatClampNeg + cn.toNatClampNeg ≤ (8 : Int32).toNatClampNeg) :
    MetFree l (⟨"com/example/quietzone/quietzone/datamatrix/CodewordWriter", "codewords", "()[I"⟩ : MethodName) (head1 (Jvm.Cond.code (⟨"com/example/quietzone/quietzone/datamatrix/CodewordWriter", "codewords", "()[I"⟩ : MethodName) prog_34_method_13_code 1 (some (.array .int)) :: ws) ({ frames := 2, cells := 1, slots := 8, locals := 78 } : Room)) (fun a U => a = #[(.ref a1)] ∧ Z.Warmed39 U.vm ∧ U.heap = h0) (fun _ _ _ _ _ => True) (fun _ U o U' => ∃ v L, o = .returned v ∧ own_Q_rm6 Z a1 t kt vs cn h0 n0 v U'.heap L ∧ FrameEnd U o U' L ({ frames := 2, cells := 1, slots := 8, locals := 78 } : Room).cells ({ frames := 2, cells := 1, slots := 8, locals := 78 } : Room).slots) := by
  refine MetFree.of_bodySF pn_6 hisR ?_
  intro p e s m args below meth c s₁ Bd hml0 hP hK
  obtain ⟨rfl, hZ, hh⟩ := hP
  have hx := Bd.exec
  have hby := Bd.bytes
  have hml : c.maxLocals = 1 := hml0
  have hown : s.vm.findClass "com/example/quietzone/quietzone/datamatrix/CodewordWriter" = some m.cls := findClass_of_methodNamed Bd.named
  have hnm := (name_of_methodNamed Bd.named Bd.method).1
  have X0 : Stand p l e ({ frames := 2, cells := 1, slots := 8, locals := 78 } : Room) s m #[(.ref a1)] below meth c s₁ [] 0 0 := Stand.of_body Bd
  have e0 : s₁.heap = h0 := by rw [← hh, Bd.state]; rfl
  have N0 := Fr.nil n0
  have KR : Keep h0 h0 [] := Keep.refl h0 []
  show own_Fin p.tables e below s (({ frames := 2, cells := 1, slots := 8, locals := 78 } : Room).cells) (({ frames := 2, cells := 1, slots := 8, locals := 78 } : Room).slots) (own_Q_rm6 Z a1 t kt vs cn h0 n0) (s₁.setTop (entryFrame m #[(.ref a1)] 1))
  rw [ef_6 m a1]
  show own_Fin _ _ _ _ _ _ _ (s₁.setTop (mkF m 0 #[rv a1] []))
  refine own_st (fun t k => XS.aloadN X0.here hx rfl (hb hby d6_0) rfl rfl k) ?_
  show own_Fin _ _ _ _ _ _ _ (s₁.setTop (mkF m 1 #[rv a1] [(.ref a1)]))
  obtain ⟨T1, X1, e1, st1⟩ := getF X0 hx hZ hown (host := "") (Or.inl (hw _ (List.mem_of_getElem? (i := 22) rfl))) Via.refl e0 Fw (g := (mkF m 1 #[rv a1] [(.ref a1)])) rfl rfl (hb hby d6_1)
  refine own_st st1 ?_
  show own_Fin _ _ _ _ _ _ _ (T1.setTop (mkF m 4 #[rv a1] [(.ref t)]))
  refine own_st (fun t k => XS.aloadN X1.here hx rfl (hb hby d6_4) rfl rfl k) ?_
  show own_Fin _ _ _ _ _ _ _ (T1.setTop (mkF m 5 #[rv a1] [(.ref a1), (.ref t)]))
  obtain ⟨T2, X2, e2, st2⟩ := getF X1 hx hZ hown (host := "") (Or.inl (hw _ (List.mem_of_getElem? (i := 29) rfl))) Via.refl e1 Fc (g := (mkF m 5 #[rv a1] [(.ref a1), (.ref t)])) rfl rfl (hb hby d6_5)
  refine own_st st2 ?_
  show own_Fin _ _ _ _ _ _ _ (T2.setTop (mkF m 8 #[rv a1] [(.int cn), (.ref t)]))
  obtain ⟨_, _, ⟨T3, L3, k3, n3⟩, -, X3, ⟨Lc3, hQ3, l3, y3, z3⟩, st3⟩ := Jvm.LawKit.callS X2 hx (y := (⟨"java/util/Arrays", "copyOf", "([II)[I"⟩ : MethodName)) hown (mvT hZ (hw _ (List.mem_of_getElem? (i := 36) rfl))) (mvT hZ (hw _ (List.mem_of_getElem? (i := 37) rfl))) (mvT hZ (hw _ (List.mem_of_getElem? (i := 38) rfl))) (mvT hZ (hw _ (List.mem_of_getElem? (i := 39) rfl))) (by decide) (backOf (W := 0) (rm7 l Z a0 hw [] t cn kt (8 : Int32) vs h0 n0 Z0 Vt hn0 hn8 hne hlt hfit) hZ (hw _ (List.mem_of_getElem? (i := 39) rfl)) (hw _ (List.mem_of_getElem? (i := 38) rfl)) (by decide) (by decide)) (g := (mkF m 8 #[rv a1] [(.int cn), (.ref t)])) rfl (by rw [hml]; rfl) (argsL := [(.ref t), (.int cn)]) (rest := []) (lenOf pd_6_0 rfl) rfl (by show 2 * 0 + _ ≤ _; exact Nat.le_of_eq rfl) (hb hby d6_8) (fun _ _ => ⟨rfl, e2, (by decide : 0 + 1 ≤ _), (by decide : 0 + 8 ≤ _)⟩)
  dsimp only [Pt.U, Pt.locs, Pt.cells, Pt.slots] at X3 l3 y3 z3 st3 hQ3
  subst l3 y3 z3
  obtain ⟨r3, kr3, rfl, N3q, K3, gr3, gs3, oV3⟩ := hQ3
  have N3 := Fr.app N0 N3q
  have f3_0 := Fw.keep K3 nin0
  have f3_1 := Fc.keep K3 nin0
  have f3_2 := Vt.keep K3 nin0
  have Z3 : n0 ≤ T3.heap.size := Nat.le_trans Z0 K3.1
  have KK3 : Keep h0 T3.heap [] := KR.trans K3 all0
  refine own_st st3 ?_
  show own_Fin _ _ _ _ _ _ _ (T3.setTop (mkF m 11 #[rv a1] [(.ref r3)]))
  show own_Fin _ _ _ _ _ _ _ (T3.setTop (mkF m 11 #[rv a1] [(.ref r3)]))
  have sz_r3 : h0.size ≤ r3 := gs3
  exact own_retA X3 hx Bd.notSynchronized Bd.returns rfl (hb hby d6_11) (by decide) (by decide) ⟨r3, kr3, rfl, N3, KK3, gr3, sz_r3, oV3⟩
def own_sel (f a b : Int32) : Int32 := if f = 0 then a else b
theorem own_chr_rng (x : Int32) : 32 ≤ (own_chr x).toInt ∧ (own_chr x).toInt ≤ 94 := by
  have b := c_and x (2147483647 : Int32) (by decide)
  have r := (c_irem (x &&& 2147483647) (63 : Int32) 63 (by decide)).1 b.1
  have a := c_iadd (32 : Int32) ((x &&& 2147483647) % 63)
  rw [show (32 : Int32).toInt = 32 by decide] at a
  have q := rng32 ((32 : Int32) + (x &&& 2147483647) % 63)
  show 32 ≤ ((32 : Int32) + ((x &&& (2147483647 : Int32)) % (63 : Int32))).toInt ∧ ((32 : Int32) + ((x &&& (2147483647 : Int32)) % (63 : Int32))).toInt ≤ 94
  generalize ((32 : Int32) + (x &&& 2147483647) % 63).toInt = y at *
  generalize ((x &&& 2147483647) % 63).toInt = z at *
  omega
theorem own_rng {f : Int32} (hf : f = (0 : Int32) ∨ f = (1 : Int32)) (x y : Int32) : 32 ≤ (own_sel f (own_chr x) (own_chr y)).toInt ∧ (own_sel f (own_chr x) (own_chr y)).toInt ≤ 94 := by
  unfold own_sel
  rcases hf with rfl | rfl
  · exact own_chr_rng x
  · exact own_chr_rng y
theorem own_bit (y : Int32) : (y &&& (1 : Int32)) = (0 : Int32) ∨ (y &&& (1 : Int32)) = (1 : Int32) := and_one y
theorem own_n0 (y : Int32) : own_case ((y &&& (1 : Int32)) * (4 : Int32)) 0 := by
  rcases own_bit y with h | h
  · rw [h]; exact Or.inr (Or.inr (Or.inr (Or.inr (Or.inr (Or.inl ⟨rfl, rfl⟩)))))
  · rw [h]; exact Or.inr (Or.inr (Or.inr (Or.inr (Or.inr (Or.inr ⟨rfl, rfl⟩)))))
theorem own_n1 (y : Int32) : own_case ((y &&& (7 : Int32)) % (5 : Int32)) 1 := by
  have b := c_and y (7 : Int32) (by decide)
  have r := (c_irem (y &&& 7) (5 : Int32) 5 (by decide)).1 b.1
  have h : ((y &&& (7 : Int32)) % (5 : Int32)).toInt = 0 ∨ ((y &&& (7 : Int32)) % (5 : Int32)).toInt = 1 ∨ ((y &&& (7 : Int32)) % (5 : Int32)).toInt = 2 ∨ ((y &&& (7 : Int32)) % (5 : Int32)).toInt = 3 ∨ ((y &&& (7 : Int32)) % (5 : Int32)).toInt = 4 := by
    generalize ((y &&& (7 : Int32)) % (5 : Int32)).toInt = z at *
    omega
  unfold own_case
  simp only [← Int32.toInt_inj (x := (y &&& (7 : Int32)) % (5 : Int32)), show (0 : Int32).toInt = 0 by decide, show (1 : Int32).toInt = 1 by decide, show (2 : Int32).toInt = 2 by decide, show (3 : Int32).toInt = 3 by decide, show (4 : Int32).toInt = 4 by decide, and_true]
  rcases h with h | h | h | h | h
  · exact Or.inl h
  · exact Or.inr (Or.inl h)
  · exact Or.inr (Or.inr (Or.inl h))
  · exact Or.inr (Or.inr (Or.inr (Or.inl h)))
  · exact Or.inr (Or.inr (Or.inr (Or.inr (Or.inl h))))
theorem own_no4 {n u : Int32} (h : own_case n u) : ¬ (4 : Int32) < n := by
  rcases h with ⟨rfl, rfl⟩ | ⟨rfl, rfl⟩ | ⟨rfl, rfl⟩ | ⟨rfl, rfl⟩ | ⟨rfl, rfl⟩ | ⟨rfl, rfl⟩ | ⟨rfl, rfl⟩ <;> decide
theorem own_lens {n u : Int32} (h : own_case n u) : own_len (own_m n u) = 0 ∨ own_len (own_m n u) = 1 ∨ own_len (own_m n u) = 2 ∨ own_len (own_m n u) = 3 ∨ own_len (own_m n u) = 4 := by
  rcases h with ⟨rfl, rfl⟩ | ⟨rfl, rfl⟩ | ⟨rfl, rfl⟩ | ⟨rfl, rfl⟩ | ⟨rfl, rfl⟩ | ⟨rfl, rfl⟩ | ⟨rfl, rfl⟩ <;> decide
theorem pn_0 : plainFor x = true := plainFor_of_name (x := x) (by first | (simp [plainName, overriddenIn]; done) | decide +kernel)
theorem pd_0_0 : parseMethodDescriptor "(I)I" = some ⟨[.int], some .int⟩ := by decide +kernel
theorem pd_0_1 : parseMethodDescriptor "([IIIZI)I" = some ⟨[(.array .int), .int, .int, .boolean, .int], some .int⟩ := by decide +kernel
theorem pd_0_2 : parseMethodDescriptor "(I)V" = some ⟨[.int], none⟩ := by decide +kernel
theorem pd_0_3 : parseMethodDescriptor "([IIIZ)V" = some ⟨[(.array .int), .int, .int, .boolean], none⟩ := by decide +kernel
theorem pd_0_4 : parseMethodDescriptor "()[I" = some ⟨[], some (.array .int)⟩ := by decide +kernel
theorem ef_0 (m : MethodId) (p1 : Int32) (p2 : Int32) (p3 : Int32) (p4 : Int32) (p5 : Int32) (p6 : Int32) : entryFrame m #[(.int p1), (.int p2), (.int p3), (.int p4), (.int p5), (.int p6)] maxLocals = mkF m 0 #[iv p1, iv p2, iv p3, iv p4, iv p5, iv p6, .unset, .unset, .unset, .unset, .unset, .unset, .unset, .unset, .unset, .unset, .unset, .unset, .unset, .unset, .unset, .unset, .unset, .unset, .unset] [] := by first | (simp [entryFrame, mkF, argsToLocals, Value.category, maxLocals]; done) | rfl
def own_Q_rm0 (Z : State) (p1 : Int32) (p2 : Int32) (p3 : Int32) (p4 : Int32) (p5 : Int32) (p6 : Int32)  (h0 : Heap) (n0 : Nat) (v : Option Value) (h : Heap) (L : List Loc) : Prop := v = some (.int (1 : Int32)) ∧ Fr n0 L ∧ True
set_option maxRecDepth 65536 in
set_option maxHeartbeats 40000000 in
theorem rm0 (l : Launch) (Z : State) (a0 : Array Value) (hw : ∀ d ∈ tables_1, d.before a0 Z = true) (ws : List Jvm.Cond) (p1 : Int32) (p2 : Int32) (p3 : Int32) (p4 : Int32) (p5 : Int32) (p6 : Int32)  (h0 : Heap) (n0 : Nat) (Z0 : n0 ≤ h0.size)  :
    MetFree l x (head1 (Jvm.Cond.code x code maxLocals ret :: ws) room_1) (fun a U => a = #[(.int p1), (.int p2), (.int p3), (.int p4), (.int p5), (.int p6)] ∧ Z.Warmed39 U.vm ∧ U.heap = h0) (fun _ _ _ _ _ => True) (fun _ U o U' => ∃ v L, o = .returned v ∧ own_Q_rm0 Z p1 p2 p3 p4 p5 p6 h0 n0 v U'.heap L ∧ FrameEnd U o U' L 24 192) := by
  refine MetFree.of_bodySF pn_0 hisR ?_
  intro p e s m args below meth c s₁ Bd hml0 hP hK
  obtain ⟨rfl, hZ, hh⟩ := hP
  have hx := Bd.exec
  have hby := Bd.bytes
  have hml : c.maxLocals = 25 := hml0
  have hown : s.vm.findClass "com/example/quietzone/quietzone/datamatrix/CodewordWriterEdifactPinLaw" = some m.cls := findClass_of_methodNamed Bd.named
  have hnm := (name_of_methodNamed Bd.named Bd.method).1
  have X0 : Stand p l e room_1 s m #[(.int p1), (.int p2), (.int p3), (.int p4), (.int p5), (.int p6)] below meth c s₁ [] 0 0 := Stand.of_body Bd
  have e0 : s₁.heap = h0 := by rw [← hh, Bd.state]; rfl
  have N0 := Fr.nil n0
  show own_Fin p.tables e below s (24) (192) (own_Q_rm0 Z p1 p2 p3 p4 p5 p6 h0 n0) (s₁.setTop (entryFrame m #[(.int p1), (.int p2), (.int p3), (.int p4), (.int p5), (.int p6)] maxLocals))
  rw [ef_0 m p1 p2 p3 p4 p5 p6]
  have tail1 : ∀ (u fr pr n : Int32) (hu : own_case n u) (hf : fr = (0 : Int32) ∨ fr = (1 : Int32)) (hp : pr = (0 : Int32) ∨ pr = (1 : Int32)), own_Fin p.tables e below s (24) (192) (own_Q_rm0 Z p1 p2 p3 p4 p5 p6 h0 n0) (s₁.setTop (mkF m 65 #[iv p1, iv p2, iv p3, iv p4, iv p5, iv p6, iv u, iv fr, iv pr, iv n, .unset, .unset, .unset, .unset, .unset, .unset, .unset, .unset, .unset, .unset, .unset, .unset, .unset, .unset, .unset] [])) := by
    intro u fr pr n hu hf hp
    refine own_st (fun t k => XS.iconst X0.here hx rfl (hb hby at_65) k) ?_
    show own_Fin _ _ _ _ _ _ _ (s₁.setTop (mkF m 66 #[iv p1, iv p2, iv p3, iv p4, iv p5, iv p6, iv u, iv fr, iv pr, iv n, .unset, .unset, .unset, .unset, .unset, .unset, .unset, .unset, .unset, .unset, .unset, .unset, .unset, .unset, .unset] [(.int (5 : Int32))]))
    obtain ⟨T1, h1, k1, X1, e1, E1, A1, st1⟩ := newP X0 hx hZ (hw _ (List.mem_of_getElem? (i := 0) rfl)) e0 (g := (mkF m 66 #[iv p1, iv p2, iv p3, iv p4, iv p5, iv p6, iv u, iv fr, iv pr, iv n, .unset, .unset, .unset, .unset, .unset, .unset, .unset, .unset, .unset, .unset, .unset, .unset, .unset, .unset, .unset] [(.int (5 : Int32))])) rfl (hb hby at_66) rfl (by decide) (cap := 5) (by decide) (by decide) (by decide) (by decide)
    obtain ⟨b1, g1⟩ : ∃ z, z = h0.size := ⟨_, rfl⟩
    rw [← g1] at A1 st1
    have ge_b1 : n0 ≤ b1 := Nat.le_trans Z0 (Nat.le_of_eq g1.symm)
    have Z1 : n0 ≤ h1.size := Nat.le_trans Z0 E1.1
    have V1 : Arv Z h1 b1 k1 .int (5 : Int32) [(.int (0 : Int32)), (.int (0 : Int32)), (.int (0 : Int32)), (.int (0 : Int32)), (.int (0 : Int32))] (.int (0 : Int32)) := (Arv.new A1 (by decide)).pad (pad_rep [] (.int (0 : Int32)) 5)
    refine own_st st1 ?_
    refine own_st (fun t k => XS.dup X1.here hx rfl (hb hby at_68) rfl rfl k) ?_
    refine own_st (fun t k => XS.iconst X1.here hx rfl (hb hby at_69) k) ?_
    show own_Fin _ _ _ _ _ _ _ (T1.setTop (mkF m 70 #[iv p1, iv p2, iv p3, iv p4, iv p5, iv p6, iv u, iv fr, iv pr, iv n, .unset, .unset, .unset, .unset, .unset, .unset, .unset, .unset, .unset, .unset, .unset, .unset, .unset, .unset, .unset] [(.int (0 : Int32)), (.ref b1), (.ref b1)]))
    refine own_st (fun t k => XS.iloadN X1.here hx rfl (hb hby at_70) rfl k) ?_
    show own_Fin _ _ _ _ _ _ _ (T1.setTop (mkF m 71 #[iv p1, iv p2, iv p3, iv p4, iv p5, iv p6, iv u, iv fr, iv pr, iv n, .unset, .unset, .unset, .unset, .unset, .unset, .unset, .unset, .unset, .unset, .unset, .unset, .unset, .unset, .unset] [(.int p1), (.int (0 : Int32)), (.ref b1), (.ref b1)]))
    obtain ⟨_, _, ⟨T2, L2, k2, n2⟩, -, X2, ⟨Lc2, hQ2, l2, y2, z2⟩, st2⟩ := Jvm.LawKit.callS X1 hx (y := (⟨"com/example/quietzone/quietzone/datamatrix/CodewordWriterEdifactPinLaw", "ch", "(I)I"⟩ : MethodName)) hown (mvT hZ (hw _ (List.mem_of_getElem? (i := 1) rfl))) (mvT hZ (hw _ (List.mem_of_getElem? (i := 2) rfl))) (mvT hZ (hw _ (List.mem_of_getElem? (i := 3) rfl))) (mvT hZ (hw _ (List.mem_of_getElem? (i := 4) rfl))) (by decide) (backOf (W := 3) (rm1 l Z a0 hw [] p1 h1 n0 Z1) hZ (hw _ (List.mem_of_getElem? (i := 4) rfl)) (hw _ (List.mem_of_getElem? (i := 3) rfl)) (by decide) (by decide)) (g := (mkF m 71 #[iv p1, iv p2, iv p3, iv p4, iv p5, iv p6, iv u, iv fr, iv pr, iv n, .unset, .unset, .unset, .unset, .unset, .unset, .unset, .unset, .unset, .unset, .unset, .unset, .unset, .unset, .unset] [(.int p1), (.int (0 : Int32)), (.ref b1), (.ref b1)])) rfl (by rw [hml]; rfl) (argsL := [(.int p1)]) (rest := [(.int (0 : Int32)), (.ref b1), (.ref b1)]) (lenOf pd_0_0 rfl) rfl (by show 2 * 0 + _ ≤ _; exact Nat.le_of_eq rfl) (hb hby at_71) (fun _ _ => ⟨rfl, e1, (by decide : 1 + 0 ≤ _), (by decide : 5 + 0 ≤ _)⟩)
    dsimp only [Pt.U, Pt.locs, Pt.cells, Pt.slots] at X2 l2 y2 z2 st2 hQ2
    subst l2 y2 z2
    obtain ⟨rfl, N2q, e2⟩ := hQ2
    have N2 := Fr.app N0 N2q
    refine own_st st2 ?_
    show own_Fin _ _ _ _ _ _ _ (T2.setTop (mkF m 74 #[iv p1, iv p2, iv p3, iv p4, iv p5, iv p6, iv u, iv fr, iv pr, iv n, .unset, .unset, .unset, .unset, .unset, .unset, .unset, .unset, .unset, .unset, .unset, .unset, .unset, .unset, .unset] [(.int (own_F1 p1)), (.int (0 : Int32)), (.ref b1), (.ref b1)]))
    obtain ⟨cl3, Ar3, Cq3, Sz3, Mn3, Hs3, Gf3⟩ := id V1
    obtain ⟨T3, h3, X3, e3, W3, st3⟩ := stI X2 hx hZ e2 Ar3 (j := (0 : Int32)) (inb_of Sz3 ⟨by decide, by decide⟩) (g := (mkF m 74 #[iv p1, iv p2, iv p3, iv p4, iv p5, iv p6, iv u, iv fr, iv pr, iv n, .unset, .unset, .unset, .unset, .unset, .unset, .unset, .unset, .unset, .unset, .unset, .unset, .unset, .unset, .unset] [(.int (own_F1 p1)), (.int (0 : Int32)), (.ref b1), (.ref b1)])) rfl rfl (hb hby at_74)
    have V3 : Arv Z h3 b1 k1 .int (5 : Int32) [(.int (own_F1 p1)), (.int (0 : Int32)), (.int (0 : Int32)), (.int (0 : Int32)), (.int (0 : Int32))] (.int (0 : Int32)) := Arv.set Ar3 Cq3 Sz3 Mn3 Hs3 Gf3 rfl W3 0 rfl (Nat.le_of_ble_eq_true rfl)
    have N3 := Fr.snoc X3 N2 ge_b1
    have Z3 : n0 ≤ h3.size := Nat.le_trans Z1 (Keep.of_wr W3).1
    refine own_st st3 ?_
    refine own_st (fun t k => XS.dup X3.here hx rfl (hb hby at_75) rfl rfl k) ?_
    refine own_st (fun t k => XS.iconst X3.here hx rfl (hb hby at_76) k) ?_
    show own_Fin _ _ _ _ _ _ _ (T3.setTop (mkF m 77 #[iv p1, iv p2, iv p3, iv p4, iv p5, iv p6, iv u, iv fr, iv pr, iv n, .unset, .unset, .unset, .unset, .unset, .unset, .unset, .unset, .unset, .unset, .unset, .unset, .unset, .unset, .unset] [(.int (1 : Int32)), (.ref b1), (.ref b1)]))
    refine own_st (fun t k => XS.iloadN X3.here hx rfl (hb hby at_77) rfl k) ?_
    show own_Fin _ _ _ _ _ _ _ (T3.setTop (mkF m 78 #[iv p1, iv p2, iv p3, iv p4, iv p5, iv p6, iv u, iv fr, iv pr, iv n, .unset, .unset, .unset, .unset, .unset, .unset, .unset, .unset, .unset, .unset, .unset, .unset, .unset, .unset, .unset] [(.int p2), (.int (1 : Int32)), (.ref b1), (.ref b1)]))
    obtain ⟨_, _, ⟨T4, L4, k4, n4⟩, -, X4, ⟨Lc4, hQ4, l4, y4, z4⟩, st4⟩ := Jvm.LawKit.callS X3 hx (y := (⟨"com/example/quietzone/quietzone/datamatrix/CodewordWriterEdifactPinLaw", "ch", "(I)I"⟩ : MethodName)) hown (mvT hZ (hw _ (List.mem_of_getElem? (i := 1) rfl))) (mvT hZ (hw _ (List.mem_of_getElem? (i := 2) rfl))) (mvT hZ (hw _ (List.mem_of_getElem? (i := 3) rfl))) (mvT hZ (hw _ (List.mem_of_getElem? (i := 4) rfl))) (by decide) (backOf (W := 3) (rm1 l Z a0 hw [] p2 h3 n0 Z3) hZ (hw _ (List.mem_of_getElem? (i := 4) rfl)) (hw _ (List.mem_of_getElem? (i := 3) rfl)) (by decide) (by decide)) (g := (mkF m 78 #[iv p1, iv p2, iv p3, iv p4, iv p5, iv p6, iv u, iv fr, iv pr, iv n, .unset, .unset, .unset, .unset, .unset, .unset, .unset, .unset, .unset, .unset, .unset, .unset, .unset, .unset, .unset] [(.int p2), (.int (1 : Int32)), (.ref b1), (.ref b1)])) rfl (by rw [hml]; rfl) (argsL := [(.int p2)]) (rest := [(.int (1 : Int32)), (.ref b1), (.ref b1)]) (lenOf pd_0_0 rfl) rfl (by show 2 * 0 + _ ≤ _; exact Nat.le_of_eq rfl) (hb hby at_78) (fun _ _ => ⟨rfl, e3, (by decide : 1 + 0 ≤ _), (by decide : 5 + 0 ≤ _)⟩)
    dsimp only [Pt.U, Pt.locs, Pt.cells, Pt.slots] at X4 l4 y4 z4 st4 hQ4
    subst l4 y4 z4
    obtain ⟨rfl, N4q, e4⟩ := hQ4
    have N4 := Fr.app N3 N4q
    refine own_st st4 ?_
    show own_Fin _ _ _ _ _ _ _ (T4.setTop (mkF m 81 #[iv p1, iv p2, iv p3, iv p4, iv p5, iv p6, iv u, iv fr, iv pr, iv n, .unset, .unset, .unset, .unset, .unset, .unset, .unset, .unset, .unset, .unset, .unset, .unset, .unset, .unset, .unset] [(.int (own_F1 p2)), (.int (1 : Int32)), (.ref b1), (.ref b1)]))
    obtain ⟨cl5, Ar5, Cq5, Sz5, Mn5, Hs5, Gf5⟩ := id V3
    obtain ⟨T5, h5, X5, e5, W5, st5⟩ := stI X4 hx hZ e4 Ar5 (j := (1 : Int32)) (inb_of Sz5 ⟨by decide, by decide⟩) (g := (mkF m 81 #[iv p1, iv p2, iv p3, iv p4, iv p5, iv p6, iv u, iv fr, iv pr, iv n, .unset, .unset, .unset, .unset, .unset, .unset, .unset, .unset, .unset, .unset, .unset, .unset, .unset, .unset, .unset] [(.int (own_F1 p2)), (.int (1 : Int32)), (.ref b1), (.ref b1)])) rfl rfl (hb hby at_81)
    have V5 : Arv Z h5 b1 k1 .int (5 : Int32) [(.int (own_F1 p1)), (.int (own_F1 p2)), (.int (0 : Int32)), (.int (0 : Int32)), (.int (0 : Int32))] (.int (0 : Int32)) := Arv.set Ar5 Cq5 Sz5 Mn5 Hs5 Gf5 rfl W5 1 rfl (Nat.le_of_ble_eq_true rfl)
    have N5 := Fr.snoc X5 N4 ge_b1
    have Z5 : n0 ≤ h5.size := Nat.le_trans Z3 (Keep.of_wr W5).1
    refine own_st st5 ?_
    refine own_st (fun t k => XS.dup X5.here hx rfl (hb hby at_82) rfl rfl k) ?_
    refine own_st (fun t k => XS.iconst X5.here hx rfl (hb hby at_83) k) ?_
    show own_Fin _ _ _ _ _ _ _ (T5.setTop (mkF m 84 #[iv p1, iv p2, iv p3, iv p4, iv p5, iv p6, iv u, iv fr, iv pr, iv n, .unset, .unset, .unset, .unset, .unset, .unset, .unset, .unset, .unset, .unset, .unset, .unset, .unset, .unset, .unset] [(.int (2 : Int32)), (.ref b1), (.ref b1)]))
    refine own_st (fun t k => XS.iloadN X5.here hx rfl (hb hby at_84) rfl k) ?_
    show own_Fin _ _ _ _ _ _ _ (T5.setTop (mkF m 85 #[iv p1, iv p2, iv p3, iv p4, iv p5, iv p6, iv u, iv fr, iv pr, iv n, .unset, .unset, .unset, .unset, .unset, .unset, .unset, .unset, .unset, .unset, .unset, .unset, .unset, .unset, .unset] [(.int p3), (.int (2 : Int32)), (.ref b1), (.ref b1)]))
    obtain ⟨_, _, ⟨T6, L6, k6, n6⟩, -, X6, ⟨Lc6, hQ6, l6, y6, z6⟩, st6⟩ := Jvm.LawKit.callS X5 hx (y := (⟨"com/example/quietzone/quietzone/datamatrix/CodewordWriterEdifactPinLaw", "ch", "(I)I"⟩ : MethodName)) hown (mvT hZ (hw _ (List.mem_of_getElem? (i := 1) rfl))) (mvT hZ (hw _ (List.mem_of_getElem? (i := 2) rfl))) (mvT hZ (hw _ (List.mem_of_getElem? (i := 3) rfl))) (mvT hZ (hw _ (List.mem_of_getElem? (i := 4) rfl))) (by decide) (backOf (W := 3) (rm1 l Z a0 hw [] p3 h5 n0 Z5) hZ (hw _ (List.mem_of_getElem? (i := 4) rfl)) (hw _ (List.mem_of_getElem? (i := 3) rfl)) (by decide) (by decide)) (g := (mkF m 85 #[iv p1, iv p2, iv p3, iv p4, iv p5, iv p6, iv u, iv fr, iv pr, iv n, .unset, .unset, .unset, .unset, .unset, .unset, .unset, .unset, .unset, .unset, .unset, .unset, .unset, .unset, .unset] [(.int p3), (.int (2 : Int32)), (.ref b1), (.ref b1)])) rfl (by rw [hml]; rfl) (argsL := [(.int p3)]) (rest := [(.int (2 : Int32)), (.ref b1), (.ref b1)]) (lenOf pd_0_0 rfl) rfl (by show 2 * 0 + _ ≤ _; exact Nat.le_of_eq rfl) (hb hby at_85) (fun _ _ => ⟨rfl, e5, (by decide : 1 + 0 ≤ _), (by decide : 5 + 0 ≤ _)⟩)
    dsimp only [Pt.U, Pt.locs, Pt.cells, Pt.slots] at X6 l6 y6 z6 st6 hQ6
    subst l6 y6 z6
    obtain ⟨rfl, N6q, e6⟩ := hQ6
    have N6 := Fr.app N5 N6q
    refine own_st st6 ?_
    show own_Fin _ _ _ _ _ _ _ (T6.setTop (mkF m 88 #[iv p1, iv p2, iv p3, iv p4, iv p5, iv p6, iv u, iv fr, iv pr, iv n, .unset, .unset, .unset, .unset, .unset, .unset, .unset, .unset, .unset, .unset, .unset, .unset, .unset, .unset, .unset] [(.int (own_F1 p3)), (.int (2 : Int32)), (.ref b1), (.ref b1)]))
    obtain ⟨cl7, Ar7, Cq7, Sz7, Mn7, Hs7, Gf7⟩ := id V5
    obtain ⟨T7, h7, X7, e7, W7, st7⟩ := stI X6 hx hZ e6 Ar7 (j := (2 : Int32)) (inb_of Sz7 ⟨by decide, by decide⟩) (g := (mkF m 88 #[iv p1, iv p2, iv p3, iv p4, iv p5, iv p6, iv u, iv fr, iv pr, iv n, .unset, .unset, .unset, .unset, .unset, .unset, .unset, .unset, .unset, .unset, .unset, .unset, .unset, .unset, .unset] [(.int (own_F1 p3)), (.int (2 : Int32)), (.ref b1), (.ref b1)])) rfl rfl (hb hby at_88)
    have V7 : Arv Z h7 b1 k1 .int (5 : Int32) [(.int (own_F1 p1)), (.int (own_F1 p2)), (.int (own_F1 p3)), (.int (0 : Int32)), (.int (0 : Int32))] (.int (0 : Int32)) := Arv.set Ar7 Cq7 Sz7 Mn7 Hs7 Gf7 rfl W7 2 rfl (Nat.le_of_ble_eq_true rfl)
    have N7 := Fr.snoc X7 N6 ge_b1
    have Z7 : n0 ≤ h7.size := Nat.le_trans Z5 (Keep.of_wr W7).1
    refine own_st st7 ?_
    refine own_st (fun t k => XS.dup X7.here hx rfl (hb hby at_89) rfl rfl k) ?_
    refine own_st (fun t k => XS.iconst X7.here hx rfl (hb hby at_90) k) ?_
    show own_Fin _ _ _ _ _ _ _ (T7.setTop (mkF m 91 #[iv p1, iv p2, iv p3, iv p4, iv p5, iv p6, iv u, iv fr, iv pr, iv n, .unset, .unset, .unset, .unset, .unset, .unset, .unset, .unset, .unset, .unset, .unset, .unset, .unset, .unset, .unset] [(.int (3 : Int32)), (.ref b1), (.ref b1)]))
    refine own_st (fun t k => XS.iloadN X7.here hx rfl (hb hby at_91) rfl k) ?_
    show own_Fin _ _ _ _ _ _ _ (T7.setTop (mkF m 92 #[iv p1, iv p2, iv p3, iv p4, iv p5, iv p6, iv u, iv fr, iv pr, iv n, .unset, .unset, .unset, .unset, .unset, .unset, .unset, .unset, .unset, .unset, .unset, .unset, .unset, .unset, .unset] [(.int p4), (.int (3 : Int32)), (.ref b1), (.ref b1)]))
    obtain ⟨_, _, ⟨T8, L8, k8, n8⟩, -, X8, ⟨Lc8, hQ8, l8, y8, z8⟩, st8⟩ := Jvm.LawKit.callS X7 hx (y := (⟨"com/example/quietzone/quietzone/datamatrix/CodewordWriterEdifactPinLaw", "ch", "(I)I"⟩ : MethodName)) hown (mvT hZ (hw _ (List.mem_of_getElem? (i := 1) rfl))) (mvT hZ (hw _ (List.mem_of_getElem? (i := 2) rfl))) (mvT hZ (hw _ (List.mem_of_getElem? (i := 3) rfl))) (mvT hZ (hw _ (List.mem_of_getElem? (i := 4) rfl))) (by decide) (backOf (W := 3) (rm1 l Z a0 hw [] p4 h7 n0 Z7) hZ (hw _ (List.mem_of_getElem? (i := 4) rfl)) (hw _ (List.mem_of_getElem? (i := 3) rfl)) (by decide) (by decide)) (g := (mkF m 92 #[iv p1, iv p2, iv p3, iv p4, iv p5, iv p6, iv u, iv fr, iv pr, iv n, .unset, .unset, .unset, .unset, .unset, .unset, .unset, .unset, .unset, .unset, .unset, .unset, .unset, .unset, .unset] [(.int p4), (.int (3 : Int32)), (.ref b1), (.ref b1)])) rfl (by rw [hml]; rfl) (argsL := [(.int p4)]) (rest := [(.int (3 : Int32)), (.ref b1), (.ref b1)]) (lenOf pd_0_0 rfl) rfl (by show 2 * 0 + _ ≤ _; exact Nat.le_of_eq rfl) (hb hby at_92) (fun _ _ => ⟨rfl, e7, (by decide : 1 + 0 ≤ _), (by decide : 5 + 0 ≤ _)⟩)
    dsimp only [Pt.U, Pt.locs, Pt.cells, Pt.slots] at X8 l8 y8 z8 st8 hQ8
    subst l8 y8 z8
    obtain ⟨rfl, N8q, e8⟩ := hQ8
    have N8 := Fr.app N7 N8q
    refine own_st st8 ?_
    show own_Fin _ _ _ _ _ _ _ (T8.setTop (mkF m 95 #[iv p1, iv p2, iv p3, iv p4, iv p5, iv p6, iv u, iv fr, iv pr, iv n, .unset, .unset, .unset, .unset, .unset, .unset, .unset, .unset, .unset, .unset, .unset, .unset, .unset, .unset, .unset] [(.int (own_F1 p4)), (.int (3 : Int32)), (.ref b1), (.ref b1)]))
    obtain ⟨cl9, Ar9, Cq9, Sz9, Mn9, Hs9, Gf9⟩ := id V7
    obtain ⟨T9, h9, X9, e9, W9, st9⟩ := stI X8 hx hZ e8 Ar9 (j := (3 : Int32)) (inb_of Sz9 ⟨by decide, by decide⟩) (g := (mkF m 95 #[iv p1, iv p2, iv p3, iv p4, iv p5, iv p6, iv u, iv fr, iv pr, iv n, .unset, .unset, .unset, .unset, .unset, .unset, .unset, .unset, .unset, .unset, .unset, .unset, .unset, .unset, .unset] [(.int (own_F1 p4)), (.int (3 : Int32)), (.ref b1), (.ref b1)])) rfl rfl (hb hby at_95)
    have V9 : Arv Z h9 b1 k1 .int (5 : Int32) [(.int (own_F1 p1)), (.int (own_F1 p2)), (.int (own_F1 p3)), (.int (own_F1 p4)), (.int (0 : Int32))] (.int (0 : Int32)) := Arv.set Ar9 Cq9 Sz9 Mn9 Hs9 Gf9 rfl W9 3 rfl (Nat.le_of_ble_eq_true rfl)
    have N9 := Fr.snoc X9 N8 ge_b1
    have Z9 : n0 ≤ h9.size := Nat.le_trans Z7 (Keep.of_wr W9).1
    refine own_st st9 ?_
    refine own_st (fun t k => XS.dup X9.here hx rfl (hb hby at_96) rfl rfl k) ?_
    refine own_st (fun t k => XS.iconst X9.here hx rfl (hb hby at_97) k) ?_
    show own_Fin _ _ _ _ _ _ _ (T9.setTop (mkF m 98 #[iv p1, iv p2, iv p3, iv p4, iv p5, iv p6, iv u, iv fr, iv pr, iv n, .unset, .unset, .unset, .unset, .unset, .unset, .unset, .unset, .unset, .unset, .unset, .unset, .unset, .unset, .unset] [(.int (4 : Int32)), (.ref b1), (.ref b1)]))
    refine own_st (fun t k => XS.iload X9.here hx rfl (hb hby at_98) rfl k) ?_
    show own_Fin _ _ _ _ _ _ _ (T9.setTop (mkF m 100 #[iv p1, iv p2, iv p3, iv p4, iv p5, iv p6, iv u, iv fr, iv pr, iv n, .unset, .unset, .unset, .unset, .unset, .unset, .unset, .unset, .unset, .unset, .unset, .unset, .unset, .unset, .unset] [(.int p5), (.int (4 : Int32)), (.ref b1), (.ref b1)]))
    obtain ⟨_, _, ⟨T10, L10, k10, n10⟩, -, X10, ⟨Lc10, hQ10, l10, y10, z10⟩, st10⟩ := Jvm.LawKit.callS X9 hx (y := (⟨"com/example/quietzone/quietzone/datamatrix/CodewordWriterEdifactPinLaw", "ch", "(I)I"⟩ : MethodName)) hown (mvT hZ (hw _ (List.mem_of_getElem? (i := 1) rfl))) (mvT hZ (hw _ (List.mem_of_getElem? (i := 2) rfl))) (mvT hZ (hw _ (List.mem_of_getElem? (i := 3) rfl))) (mvT hZ (hw _ (List.mem_of_getElem? (i := 4) rfl))) (by decide) (backOf (W := 3) (rm1 l Z a0 hw [] p5 h9 n0 Z9) hZ (hw _ (List.mem_of_getElem? (i := 4) rfl)) (hw _ (List.mem_of_getElem? (i := 3) rfl)) (by decide) (by decide)) (g := (mkF m 100 #[iv p1, iv p2, iv p3, iv p4, iv p5, iv p6, iv u, iv fr, iv pr, iv n, .unset, .unset, .unset, .unset, .unset, .unset, .unset, .unset, .unset, .unset, .unset, .unset, .unset, .unset, .unset] [(.int p5), (.int (4 : Int32)), (.ref b1), (.ref b1)])) rfl (by rw [hml]; rfl) (argsL := [(.int p5)]) (rest := [(.int (4 : Int32)), (.ref b1), (.ref b1)]) (lenOf pd_0_0 rfl) rfl (by show 2 * 0 + _ ≤ _; exact Nat.le_of_eq rfl) (hb hby at_100) (fun _ _ => ⟨rfl, e9, (by decide : 1 + 0 ≤ _), (by decide : 5 + 0 ≤ _)⟩)
    dsimp only [Pt.U, Pt.locs, Pt.cells, Pt.slots] at X10 l10 y10 z10 st10 hQ10
    subst l10 y10 z10
    obtain ⟨rfl, N10q, e10⟩ := hQ10
    have N10 := Fr.app N9 N10q
    refine own_st st10 ?_
    show own_Fin _ _ _ _ _ _ _ (T10.setTop (mkF m 103 #[iv p1, iv p2, iv p3, iv p4, iv p5, iv p6, iv u, iv fr, iv pr, iv n, .unset, .unset, .unset, .unset, .unset, .unset, .unset, .unset, .unset, .unset, .unset, .unset, .unset, .unset, .unset] [(.int (own_F1 p5)), (.int (4 : Int32)), (.ref b1), (.ref b1)]))
    obtain ⟨cl11, Ar11, Cq11, Sz11, Mn11, Hs11, Gf11⟩ := id V9
    obtain ⟨T11, h11, X11, e11, W11, st11⟩ := stI X10 hx hZ e10 Ar11 (j := (4 : Int32)) (inb_of Sz11 ⟨by decide, by decide⟩) (g := (mkF m 103 #[iv p1, iv p2, iv p3, iv p4, iv p5, iv p6, iv u, iv fr, iv pr, iv n, .unset, .unset, .unset, .unset, .unset, .unset, .unset, .unset, .unset, .unset, .unset, .unset, .unset, .unset, .unset] [(.int (own_F1 p5)), (.int (4 : Int32)), (.ref b1), (.ref b1)])) rfl rfl (hb hby at_103)
    have V11 : Arv Z h11 b1 k1 .int (5 : Int32) [(.int (own_F1 p1)), (.int (own_F1 p2)), (.int (own_F1 p3)), (.int (own_F1 p4)), (.int (own_F1 p5))] (.int (0 : Int32)) := Arv.set Ar11 Cq11 Sz11 Mn11 Hs11 Gf11 rfl W11 4 rfl (Nat.le_of_ble_eq_true rfl)
    have N11 := Fr.snoc X11 N10 ge_b1
    have Z11 : n0 ≤ h11.size := Nat.le_trans Z9 (Keep.of_wr W11).1
    refine own_st st11 ?_
    refine own_st (fun t k => XS.astore X11.here hx rfl (hb hby at_104) rfl rfl (l' := #[iv p1, iv p2, iv p3, iv p4, iv p5, iv p6, iv u, iv fr, iv pr, iv n, rv b1, .unset, .unset, .unset, .unset, .unset, .unset, .unset, .unset, .unset, .unset, .unset, .unset, .unset, .unset]) rfl k) ?_
    show own_Fin _ _ _ _ _ _ _ (T11.setTop (mkF m 106 #[iv p1, iv p2, iv p3, iv p4, iv p5, iv p6, iv u, iv fr, iv pr, iv n, rv b1, .unset, .unset, .unset, .unset, .unset, .unset, .unset, .unset, .unset, .unset, .unset, .unset, .unset, .unset] []))
    have tail2 : ∀ (mm : Int32) (hm : mm = own_m n u), own_Fin p.tables e below s (24) (192) (own_Q_rm0 Z p1 p2 p3 p4 p5 p6 h0 n0) (T11.setTop (mkF m 121 #[iv p1, iv p2, iv p3, iv p4, iv p5, iv p6, iv u, iv fr, iv pr, iv n, rv b1, iv mm, .unset, .unset, .unset, .unset, .unset, .unset, .unset, .unset, .unset, .unset, .unset, .unset, .unset] [])) := by
      intro mm hm
      refine own_st (fun t k => XS.aload X11.here hx rfl (hb hby at_121) rfl rfl k) ?_
      refine own_st (fun t k => XS.iload X11.here hx rfl (hb hby at_123) rfl k) ?_
      show own_Fin _ _ _ _ _ _ _ (T11.setTop (mkF m 125 #[iv p1, iv p2, iv p3, iv p4, iv p5, iv p6, iv u, iv fr, iv pr, iv n, rv b1, iv mm, .unset, .unset, .unset, .unset, .unset, .unset, .unset, .unset, .unset, .unset, .unset, .unset, .unset] [(.int fr), (.ref b1)]))
      refine own_st (fun t k => XS.iload X11.here hx rfl (hb hby at_125) rfl k) ?_
      refine own_st (fun t k => XS.iload X11.here hx rfl (hb hby at_127) rfl k) ?_
      refine own_st (fun t k => XS.iconst X11.here hx rfl (hb hby at_129) k) ?_
      show own_Fin _ _ _ _ _ _ _ (T11.setTop (mkF m 130 #[iv p1, iv p2, iv p3, iv p4, iv p5, iv p6, iv u, iv fr, iv pr, iv n, rv b1, iv mm, .unset, .unset, .unset, .unset, .unset, .unset, .unset, .unset, .unset, .unset, .unset, .unset, .unset] [(.int (0 : Int32)), (.int u), (.int n), (.int fr), (.ref b1)]))
      obtain ⟨_, _, ⟨T12, L12, k12, n12⟩, -, X12, ⟨Lc12, hQ12, l12, y12, z12⟩, st12⟩ := Jvm.LawKit.callS X11 hx (y := (⟨"com/example/quietzone/quietzone/datamatrix/CodewordWriterEdifactPinLaw", "value", "([IIIZI)I"⟩ : MethodName)) hown (mvT hZ (hw _ (List.mem_of_getElem? (i := 6) rfl))) (mvT hZ (hw _ (List.mem_of_getElem? (i := 7) rfl))) (mvT hZ (hw _ (List.mem_of_getElem? (i := 3) rfl))) (mvT hZ (hw _ (List.mem_of_getElem? (i := 8) rfl))) (by decide) (backOf (W := 0) (rm2 l Z a0 hw [] b1 fr n u (0 : Int32) k1 (5 : Int32) [(.int (own_F1 p1)), (.int (own_F1 p2)), (.int (own_F1 p3)), (.int (own_F1 p4)), (.int (own_F1 p5))] (own_sel fr (own_F1 p1) (own_F1 p2)) h11 n0 Z11 V11 (fun _ => by rcases hf with rfl | rfl <;> decide) (fun _ => by rcases hf with rfl | rfl <;> rfl)) hZ (hw _ (List.mem_of_getElem? (i := 8) rfl)) (hw _ (List.mem_of_getElem? (i := 3) rfl)) (by decide) (by decide)) (g := (mkF m 130 #[iv p1, iv p2, iv p3, iv p4, iv p5, iv p6, iv u, iv fr, iv pr, iv n, rv b1, iv mm, .unset, .unset, .unset, .unset, .unset, .unset, .unset, .unset, .unset, .unset, .unset, .unset, .unset] [(.int (0 : Int32)), (.int u), (.int n), (.int fr), (.ref b1)])) rfl (by rw [hml]; rfl) (argsL := [(.ref b1), (.int fr), (.int n), (.int u), (.int (0 : Int32))]) (rest := []) (lenOf pd_0_1 rfl) rfl (by show 2 * 0 + _ ≤ _; exact Nat.le_of_eq rfl) (hb hby at_130) (fun _ _ => ⟨rfl, e11, (by decide : 1 + 0 ≤ _), (by decide : 5 + 0 ≤ _)⟩)
      dsimp only [Pt.U, Pt.locs, Pt.cells, Pt.slots] at X12 l12 y12 z12 st12 hQ12
      subst l12 y12 z12
      obtain ⟨rfl, N12q, e12⟩ := hQ12
      have N12 := Fr.app N11 N12q
      refine own_st st12 ?_
      show own_Fin _ _ _ _ _ _ _ (T12.setTop (mkF m 133 #[iv p1, iv p2, iv p3, iv p4, iv p5, iv p6, iv u, iv fr, iv pr, iv n, rv b1, iv mm, .unset, .unset, .unset, .unset, .unset, .unset, .unset, .unset, .unset, .unset, .unset, .unset, .unset] [(.int (own_val n u (0 : Int32) (own_sel fr (own_F1 p1) (own_F1 p2))))]))
      obtain ⟨W0, hW0⟩ : ∃ z, z = (own_val n u (0 : Int32) (own_sel fr (own_F1 p1) (own_F1 p2))) := ⟨_, rfl⟩
      rw [← hW0]
      refine own_st (fun t k => XS.istore X12.here hx rfl (hb hby at_133) rfl (l' := #[iv p1, iv p2, iv p3, iv p4, iv p5, iv p6, iv u, iv fr, iv pr, iv n, rv b1, iv mm, iv W0, .unset, .unset, .unset, .unset, .unset, .unset, .unset, .unset, .unset, .unset, .unset, .unset]) rfl k) ?_
      refine own_st (fun t k => XS.aload X12.here hx rfl (hb hby at_135) rfl rfl k) ?_
      show own_Fin _ _ _ _ _ _ _ (T12.setTop (mkF m 137 #[iv p1, iv p2, iv p3, iv p4, iv p5, iv p6, iv u, iv fr, iv pr, iv n, rv b1, iv mm, iv W0, .unset, .unset, .unset, .unset, .unset, .unset, .unset, .unset, .unset, .unset, .unset, .unset] [(.ref b1)]))
      refine own_st (fun t k => XS.iload X12.here hx rfl (hb hby at_137) rfl k) ?_
      refine own_st (fun t k => XS.iload X12.here hx rfl (hb hby at_139) rfl k) ?_
      refine own_st (fun t k => XS.iload X12.here hx rfl (hb hby at_141) rfl k) ?_
      show own_Fin _ _ _ _ _ _ _ (T12.setTop (mkF m 143 #[iv p1, iv p2, iv p3, iv p4, iv p5, iv p6, iv u, iv fr, iv pr, iv n, rv b1, iv mm, iv W0, .unset, .unset, .unset, .unset, .unset, .unset, .unset, .unset, .unset, .unset, .unset, .unset] [(.int u), (.int n), (.int fr), (.ref b1)]))
      refine own_st (fun t k => XS.iconst X12.here hx rfl (hb hby at_143) k) ?_
      show own_Fin _ _ _ _ _ _ _ (T12.setTop (mkF m 144 #[iv p1, iv p2, iv p3, iv p4, iv p5, iv p6, iv u, iv fr, iv pr, iv n, rv b1, iv mm, iv W0, .unset, .unset, .unset, .unset, .unset, .unset, .unset, .unset, .unset, .unset, .unset, .unset] [(.int (1 : Int32)), (.int u), (.int n), (.int fr), (.ref b1)]))
      obtain ⟨_, _, ⟨T13, L13, k13, n13⟩, -, X13, ⟨Lc13, hQ13, l13, y13, z13⟩, st13⟩ := Jvm.LawKit.callS X12 hx (y := (⟨"com/example/quietzone/quietzone/datamatrix/CodewordWriterEdifactPinLaw", "value", "([IIIZI)I"⟩ : MethodName)) hown (mvT hZ (hw _ (List.mem_of_getElem? (i := 6) rfl))) (mvT hZ (hw _ (List.mem_of_getElem? (i := 7) rfl))) (mvT hZ (hw _ (List.mem_of_getElem? (i := 3) rfl))) (mvT hZ (hw _ (List.mem_of_getElem? (i := 8) rfl))) (by decide) (backOf (W := 0) (rm2 l Z a0 hw [] b1 fr n u (1 : Int32) k1 (5 : Int32) [(.int (own_F1 p1)), (.int (own_F1 p2)), (.int (own_F1 p3)), (.int (own_F1 p4)), (.int (own_F1 p5))] (own_sel fr (own_F1 p2) (own_F1 p3)) h11 n0 Z11 V11 (fun _ => by rcases hf with rfl | rfl <;> decide) (fun _ => by rcases hf with rfl | rfl <;> rfl)) hZ (hw _ (List.mem_of_getElem? (i := 8) rfl)) (hw _ (List.mem_of_getElem? (i := 3) rfl)) (by decide) (by decide)) (g := (mkF m 144 #[iv p1, iv p2, iv p3, iv p4, iv p5, iv p6, iv u, iv fr, iv pr, iv n, rv b1, iv mm, iv W0, .unset, .unset, .unset, .unset, .unset, .unset, .unset, .unset, .unset, .unset, .unset, .unset] [(.int (1 : Int32)), (.int u), (.int n), (.int fr), (.ref b1)])) rfl (by rw [hml]; rfl) (argsL := [(.ref b1), (.int fr), (.int n), (.int u), (.int (1 : Int32))]) (rest := []) (lenOf pd_0_1 rfl) rfl (by show 2 * 0 + _ ≤ _; exact Nat.le_of_eq rfl) (hb hby at_144) (fun _ _ => ⟨rfl, e12, (by decide : 1 + 0 ≤ _), (by decide : 5 + 0 ≤ _)⟩)
      dsimp only [Pt.U, Pt.locs, Pt.cells, Pt.slots] at X13 l13 y13 z13 st13 hQ13
      subst l13 y13 z13
      obtain ⟨rfl, N13q, e13⟩ := hQ13
      have N13 := Fr.app N12 N13q
      refine own_st st13 ?_
      show own_Fin _ _ _ _ _ _ _ (T13.setTop (mkF m 147 #[iv p1, iv p2, iv p3, iv p4, iv p5, iv p6, iv u, iv fr, iv pr, iv n, rv b1, iv mm, iv W0, .unset, .unset, .unset, .unset, .unset, .unset, .unset, .unset, .unset, .unset, .unset, .unset] [(.int (own_val n u (1 : Int32) (own_sel fr (own_F1 p2) (own_F1 p3))))]))
      obtain ⟨W1, hW1⟩ : ∃ z, z = (own_val n u (1 : Int32) (own_sel fr (own_F1 p2) (own_F1 p3))) := ⟨_, rfl⟩
      rw [← hW1]
      refine own_st (fun t k => XS.istore X13.here hx rfl (hb hby at_147) rfl (l' := #[iv p1, iv p2, iv p3, iv p4, iv p5, iv p6, iv u, iv fr, iv pr, iv n, rv b1, iv mm, iv W0, iv W1, .unset, .unset, .unset, .unset, .unset, .unset, .unset, .unset, .unset, .unset, .unset]) rfl k) ?_
      refine own_st (fun t k => XS.aload X13.here hx rfl (hb hby at_149) rfl rfl k) ?_
      show own_Fin _ _ _ _ _ _ _ (T13.setTop (mkF m 151 #[iv p1, iv p2, iv p3, iv p4, iv p5, iv p6, iv u, iv fr, iv pr, iv n, rv b1, iv mm, iv W0, iv W1, .unset, .unset, .unset, .unset, .unset, .unset, .unset, .unset, .unset, .unset, .unset] [(.ref b1)]))
      refine own_st (fun t k => XS.iload X13.here hx rfl (hb hby at_151) rfl k) ?_
      refine own_st (fun t k => XS.iload X13.here hx rfl (hb hby at_153) rfl k) ?_
      refine own_st (fun t k => XS.iload X13.here hx rfl (hb hby at_155) rfl k) ?_
      show own_Fin _ _ _ _ _ _ _ (T13.setTop (mkF m 157 #[iv p1, iv p2, iv p3, iv p4, iv p5, iv p6, iv u, iv fr, iv pr, iv n, rv b1, iv mm, iv W0, iv W1, .unset, .unset, .unset, .unset, .unset, .unset, .unset, .unset, .unset, .unset, .unset] [(.int u), (.int n), (.int fr), (.ref b1)]))
      refine own_st (fun t k => XS.iconst X13.here hx rfl (hb hby at_157) k) ?_
      show own_Fin _ _ _ _ _ _ _ (T13.setTop (mkF m 158 #[iv p1, iv p2, iv p3, iv p4, iv p5, iv p6, iv u, iv fr, iv pr, iv n, rv b1, iv mm, iv W0, iv W1, .unset, .unset, .unset, .unset, .unset, .unset, .unset, .unset, .unset, .unset, .unset] [(.int (2 : Int32)), (.int u), (.int n), (.int fr), (.ref b1)]))
      obtain ⟨_, _, ⟨T14, L14, k14, n14⟩, -, X14, ⟨Lc14, hQ14, l14, y14, z14⟩, st14⟩ := Jvm.LawKit.callS X13 hx (y := (⟨"com/example/quietzone/quietzone/datamatrix/CodewordWriterEdifactPinLaw", "value", "([IIIZI)I"⟩ : MethodName)) hown (mvT hZ (hw _ (List.mem_of_getElem? (i := 6) rfl))) (mvT hZ (hw _ (List.mem_of_getElem? (i := 7) rfl))) (mvT hZ (hw _ (List.mem_of_getElem? (i := 3) rfl))) (mvT hZ (hw _ (List.mem_of_getElem? (i := 8) rfl))) (by decide) (backOf (W := 0) (rm2 l Z a0 hw [] b1 fr n u (2 : Int32) k1 (5 : Int32) [(.int (own_F1 p1)), (.int (own_F1 p2)), (.int (own_F1 p3)), (.int (own_F1 p4)), (.int (own_F1 p5))] (own_sel fr (own_F1 p3) (own_F1 p4)) h11 n0 Z11 V11 (fun _ => by rcases hf with rfl | rfl <;> decide) (fun _ => by rcases hf with rfl | rfl <;> rfl)) hZ (hw _ (List.mem_of_getElem? (i := 8) rfl)) (hw _ (List.mem_of_getElem? (i := 3) rfl)) (by decide) (by decide)) (g := (mkF m 158 #[iv p1, iv p2, iv p3, iv p4, iv p5, iv p6, iv u, iv fr, iv pr, iv n, rv b1, iv mm, iv W0, iv W1, .unset, .unset, .unset, .unset, .unset, .unset, .unset, .unset, .unset, .unset, .unset] [(.int (2 : Int32)), (.int u), (.int n), (.int fr), (.ref b1)])) rfl (by rw [hml]; rfl) (argsL := [(.ref b1), (.int fr), (.int n), (.int u), (.int (2 : Int32))]) (rest := []) (lenOf pd_0_1 rfl) rfl (by show 2 * 0 + _ ≤ _; exact Nat.le_of_eq rfl) (hb hby at_158) (fun _ _ => ⟨rfl, e13, (by decide : 1 + 0 ≤ _), (by decide : 5 + 0 ≤ _)⟩)
      dsimp only [Pt.U, Pt.locs, Pt.cells, Pt.slots] at X14 l14 y14 z14 st14 hQ14
      subst l14 y14 z14
      obtain ⟨rfl, N14q, e14⟩ := hQ14
      have N14 := Fr.app N13 N14q
      refine own_st st14 ?_
      show own_Fin _ _ _ _ _ _ _ (T14.setTop (mkF m 161 #[iv p1, iv p2, iv p3, iv p4, iv p5, iv p6, iv u, iv fr, iv pr, iv n, rv b1, iv mm, iv W0, iv W1, .unset, .unset, .unset, .unset, .unset, .unset, .unset, .unset, .unset, .unset, .unset] [(.int (own_val n u (2 : Int32) (own_sel fr (own_F1 p3) (own_F1 p4))))]))
      obtain ⟨W2, hW2⟩ : ∃ z, z = (own_val n u (2 : Int32) (own_sel fr (own_F1 p3) (own_F1 p4))) := ⟨_, rfl⟩
      rw [← hW2]
      refine own_st (fun t k => XS.istore X14.here hx rfl (hb hby at_161) rfl (l' := #[iv p1, iv p2, iv p3, iv p4, iv p5, iv p6, iv u, iv fr, iv pr, iv n, rv b1, iv mm, iv W0, iv W1, iv W2, .unset, .unset, .unset, .unset, .unset, .unset, .unset, .unset, .unset, .unset]) rfl k) ?_
      refine own_st (fun t k => XS.aload X14.here hx rfl (hb hby at_163) rfl rfl k) ?_
      show own_Fin _ _ _ _ _ _ _ (T14.setTop (mkF m 165 #[iv p1, iv p2, iv p3, iv p4, iv p5, iv p6, iv u, iv fr, iv pr, iv n, rv b1, iv mm, iv W0, iv W1, iv W2, .unset, .unset, .unset, .unset, .unset, .unset, .unset, .unset, .unset, .unset] [(.ref b1)]))
      refine own_st (fun t k => XS.iload X14.here hx rfl (hb hby at_165) rfl k) ?_
      refine own_st (fun t k => XS.iload X14.here hx rfl (hb hby at_167) rfl k) ?_
      refine own_st (fun t k => XS.iload X14.here hx rfl (hb hby at_169) rfl k) ?_
      show own_Fin _ _ _ _ _ _ _ (T14.setTop (mkF m 171 #[iv p1, iv p2, iv p3, iv p4, iv p5, iv p6, iv u, iv fr, iv pr, iv n, rv b1, iv mm, iv W0, iv W1, iv W2, .unset, .unset, .unset, .unset, .unset, .unset, .unset, .unset, .unset, .unset] [(.int u), (.int n), (.int fr), (.ref b1)]))
      refine own_st (fun t k => XS.iconst X14.here hx rfl (hb hby at_171) k) ?_
      show own_Fin _ _ _ _ _ _ _ (T14.setTop (mkF m 172 #[iv p1, iv p2, iv p3, iv p4, iv p5, iv p6, iv u, iv fr, iv pr, iv n, rv b1, iv mm, iv W0, iv W1, iv W2, .unset, .unset, .unset, .unset, .unset, .unset, .unset, .unset, .unset, .unset] [(.int (3 : Int32)), (.int u), (.int n), (.int fr), (.ref b1)]))
      obtain ⟨_, _, ⟨T15, L15, k15, n15⟩, -, X15, ⟨Lc15, hQ15, l15, y15, z15⟩, st15⟩ := Jvm.LawKit.callS X14 hx (y := (⟨"com/example/quietzone/quietzone/datamatrix/CodewordWriterEdifactPinLaw", "value", "([IIIZI)I"⟩ : MethodName)) hown (mvT hZ (hw _ (List.mem_of_getElem? (i := 6) rfl))) (mvT hZ (hw _ (List.mem_of_getElem? (i := 7) rfl))) (mvT hZ (hw _ (List.mem_of_getElem? (i := 3) rfl))) (mvT hZ (hw _ (List.mem_of_getElem? (i := 8) rfl))) (by decide) (backOf (W := 0) (rm2 l Z a0 hw [] b1 fr n u (3 : Int32) k1 (5 : Int32) [(.int (own_F1 p1)), (.int (own_F1 p2)), (.int (own_F1 p3)), (.int (own_F1 p4)), (.int (own_F1 p5))] (own_sel fr (own_F1 p4) (own_F1 p5)) h11 n0 Z11 V11 (fun _ => by rcases hf with rfl | rfl <;> decide) (fun _ => by rcases hf with rfl | rfl <;> rfl)) hZ (hw _ (List.mem_of_getElem? (i := 8) rfl)) (hw _ (List.mem_of_getElem? (i := 3) rfl)) (by decide) (by decide)) (g := (mkF m 172 #[iv p1, iv p2, iv p3, iv p4, iv p5, iv p6, iv u, iv fr, iv pr, iv n, rv b1, iv mm, iv W0, iv W1, iv W2, .unset, .unset, .unset, .unset, .unset, .unset, .unset, .unset, .unset, .unset] [(.int (3 : Int32)), (.int u), (.int n), (.int fr), (.ref b1)])) rfl (by rw [hml]; rfl) (argsL := [(.ref b1), (.int fr), (.int n), (.int u), (.int (3 : Int32))]) (rest := []) (lenOf pd_0_1 rfl) rfl (by show 2 * 0 + _ ≤ _; exact Nat.le_of_eq rfl) (hb hby at_172) (fun _ _ => ⟨rfl, e14, (by decide : 1 + 0 ≤ _), (by decide : 5 + 0 ≤ _)⟩)
      dsimp only [Pt.U, Pt.locs, Pt.cells, Pt.slots] at X15 l15 y15 z15 st15 hQ15
      subst l15 y15 z15
      obtain ⟨rfl, N15q, e15⟩ := hQ15
      have N15 := Fr.app N14 N15q
      refine own_st st15 ?_
      show own_Fin _ _ _ _ _ _ _ (T15.setTop (mkF m 175 #[iv p1, iv p2, iv p3, iv p4, iv p5, iv p6, iv u, iv fr, iv pr, iv n, rv b1, iv mm, iv W0, iv W1, iv W2, .unset, .unset, .unset, .unset, .unset, .unset, .unset, .unset, .unset, .unset] [(.int (own_val n u (3 : Int32) (own_sel fr (own_F1 p4) (own_F1 p5))))]))
      obtain ⟨W3, hW3⟩ : ∃ z, z = (own_val n u (3 : Int32) (own_sel fr (own_F1 p4) (own_F1 p5))) := ⟨_, rfl⟩
      rw [← hW3]
      refine own_st (fun t k => XS.istore X15.here hx rfl (hb hby at_175) rfl (l' := #[iv p1, iv p2, iv p3, iv p4, iv p5, iv p6, iv u, iv fr, iv pr, iv n, rv b1, iv mm, iv W0, iv W1, iv W2, iv W3, .unset, .unset, .unset, .unset, .unset, .unset, .unset, .unset, .unset]) rfl k) ?_
      refine own_st (fun t k => XS.aload X15.here hx rfl (hb hby at_177) rfl rfl k) ?_
      show own_Fin _ _ _ _ _ _ _ (T15.setTop (mkF m 179 #[iv p1, iv p2, iv p3, iv p4, iv p5, iv p6, iv u, iv fr, iv pr, iv n, rv b1, iv mm, iv W0, iv W1, iv W2, iv W3, .unset, .unset, .unset, .unset, .unset, .unset, .unset, .unset, .unset] [(.ref b1)]))
      refine own_st (fun t k => XS.iload X15.here hx rfl (hb hby at_179) rfl k) ?_
      refine own_st (fun t k => XS.iload X15.here hx rfl (hb hby at_181) rfl k) ?_
      refine own_st (fun t k => XS.iload X15.here hx rfl (hb hby at_183) rfl k) ?_
      show own_Fin _ _ _ _ _ _ _ (T15.setTop (mkF m 185 #[iv p1, iv p2, iv p3, iv p4, iv p5, iv p6, iv u, iv fr, iv pr, iv n, rv b1, iv mm, iv W0, iv W1, iv W2, iv W3, .unset, .unset, .unset, .unset, .unset, .unset, .unset, .unset, .unset] [(.int u), (.int n), (.int fr), (.ref b1)]))
      refine own_st (fun t k => XS.iconst X15.here hx rfl (hb hby at_185) k) ?_
      show own_Fin _ _ _ _ _ _ _ (T15.setTop (mkF m 186 #[iv p1, iv p2, iv p3, iv p4, iv p5, iv p6, iv u, iv fr, iv pr, iv n, rv b1, iv mm, iv W0, iv W1, iv W2, iv W3, .unset, .unset, .unset, .unset, .unset, .unset, .unset, .unset, .unset] [(.int (4 : Int32)), (.int u), (.int n), (.int fr), (.ref b1)]))
      obtain ⟨_, _, ⟨T16, L16, k16, n16⟩, -, X16, ⟨Lc16, hQ16, l16, y16, z16⟩, st16⟩ := Jvm.LawKit.callS X15 hx (y := (⟨"com/example/quietzone/quietzone/datamatrix/CodewordWriterEdifactPinLaw", "value", "([IIIZI)I"⟩ : MethodName)) hown (mvT hZ (hw _ (List.mem_of_getElem? (i := 6) rfl))) (mvT hZ (hw _ (List.mem_of_getElem? (i := 7) rfl))) (mvT hZ (hw _ (List.mem_of_getElem? (i := 3) rfl))) (mvT hZ (hw _ (List.mem_of_getElem? (i := 8) rfl))) (by decide) (backOf (W := 0) (rm2 l Z a0 hw [] b1 fr n u (4 : Int32) k1 (5 : Int32) [(.int (own_F1 p1)), (.int (own_F1 p2)), (.int (own_F1 p3)), (.int (own_F1 p4)), (.int (own_F1 p5))] (0 : Int32) h11 n0 Z11 V11 (fun h => absurd h (own_no4 hu)) (fun h => absurd h (own_no4 hu))) hZ (hw _ (List.mem_of_getElem? (i := 8) rfl)) (hw _ (List.mem_of_getElem? (i := 3) rfl)) (by decide) (by decide)) (g := (mkF m 186 #[iv p1, iv p2, iv p3, iv p4, iv p5, iv p6, iv u, iv fr, iv pr, iv n, rv b1, iv mm, iv W0, iv W1, iv W2, iv W3, .unset, .unset, .unset, .unset, .unset, .unset, .unset, .unset, .unset] [(.int (4 : Int32)), (.int u), (.int n), (.int fr), (.ref b1)])) rfl (by rw [hml]; rfl) (argsL := [(.ref b1), (.int fr), (.int n), (.int u), (.int (4 : Int32))]) (rest := []) (lenOf pd_0_1 rfl) rfl (by show 2 * 0 + _ ≤ _; exact Nat.le_of_eq rfl) (hb hby at_186) (fun _ _ => ⟨rfl, e15, (by decide : 1 + 0 ≤ _), (by decide : 5 + 0 ≤ _)⟩)
      dsimp only [Pt.U, Pt.locs, Pt.cells, Pt.slots] at X16 l16 y16 z16 st16 hQ16
      subst l16 y16 z16
      obtain ⟨rfl, N16q, e16⟩ := hQ16
      have N16 := Fr.app N15 N16q
      refine own_st st16 ?_
      show own_Fin _ _ _ _ _ _ _ (T16.setTop (mkF m 189 #[iv p1, iv p2, iv p3, iv p4, iv p5, iv p6, iv u, iv fr, iv pr, iv n, rv b1, iv mm, iv W0, iv W1, iv W2, iv W3, .unset, .unset, .unset, .unset, .unset, .unset, .unset, .unset, .unset] [(.int (own_val n u (4 : Int32) (0 : Int32)))]))
      obtain ⟨W4, hW4⟩ : ∃ z, z = (own_val n u (4 : Int32) (0 : Int32)) := ⟨_, rfl⟩
      rw [← hW4]
      refine own_st (fun t k => XS.istore X16.here hx rfl (hb hby at_189) rfl (l' := #[iv p1, iv p2, iv p3, iv p4, iv p5, iv p6, iv u, iv fr, iv pr, iv n, rv b1, iv mm, iv W0, iv W1, iv W2, iv W3, iv W4, .unset, .unset, .unset, .unset, .unset, .unset, .unset, .unset]) rfl k) ?_
      refine own_st (fun t k => XS.iload X16.here hx rfl (hb hby at_191) rfl k) ?_
      show own_Fin _ _ _ _ _ _ _ (T16.setTop (mkF m 193 #[iv p1, iv p2, iv p3, iv p4, iv p5, iv p6, iv u, iv fr, iv pr, iv n, rv b1, iv mm, iv W0, iv W1, iv W2, iv W3, iv W4, .unset, .unset, .unset, .unset, .unset, .unset, .unset, .unset] [(.int W0)]))
      refine own_st (fun t k => XS.iconst X16.here hx rfl (hb hby at_193) k) ?_
      refine own_st (fun t k => XS.imul X16.here hx rfl (hb hby at_194) rfl k) ?_
      refine own_st (fun t k => XS.iload X16.here hx rfl (hb hby at_195) rfl k) ?_
      show own_Fin _ _ _ _ _ _ _ (T16.setTop (mkF m 197 #[iv p1, iv p2, iv p3, iv p4, iv p5, iv p6, iv u, iv fr, iv pr, iv n, rv b1, iv mm, iv W0, iv W1, iv W2, iv W3, iv W4, .unset, .unset, .unset, .unset, .unset, .unset, .unset, .unset] [(.int W1), (.int (W0 * (4 : Int32)))]))
      refine own_st (fun t k => XS.bipush X16.here hx rfl (hb hby at_197) k) ?_
      show own_Fin _ _ _ _ _ _ _ (T16.setTop (mkF m 199 #[iv p1, iv p2, iv p3, iv p4, iv p5, iv p6, iv u, iv fr, iv pr, iv n, rv b1, iv mm, iv W0, iv W1, iv W2, iv W3, iv W4, .unset, .unset, .unset, .unset, .unset, .unset, .unset, .unset] [(.int (16 : Int32)), (.int W1), (.int (W0 * (4 : Int32)))]))
      refine own_st (fun t k => XS.idiv X16.here hx rfl (hb hby at_199) rfl (by decide) k) ?_
      refine own_st (fun t k => XS.iadd X16.here hx rfl (hb hby at_200) rfl k) ?_
      refine own_st (fun t k => XS.istore X16.here hx rfl (hb hby at_201) rfl (l' := #[iv p1, iv p2, iv p3, iv p4, iv p5, iv p6, iv u, iv fr, iv pr, iv n, rv b1, iv mm, iv W0, iv W1, iv W2, iv W3, iv W4, iv ((W0 * (4 : Int32)) + (W1 / (16 : Int32))), .unset, .unset, .unset, .unset, .unset, .unset, .unset]) rfl k) ?_
      show own_Fin _ _ _ _ _ _ _ (T16.setTop (mkF m 203 #[iv p1, iv p2, iv p3, iv p4, iv p5, iv p6, iv u, iv fr, iv pr, iv n, rv b1, iv mm, iv W0, iv W1, iv W2, iv W3, iv W4, iv ((W0 * (4 : Int32)) + (W1 / (16 : Int32))), .unset, .unset, .unset, .unset, .unset, .unset, .unset] []))
      refine own_st (fun t k => XS.iload X16.here hx rfl (hb hby at_203) rfl k) ?_
      refine own_st (fun t k => XS.bipush X16.here hx rfl (hb hby at_205) k) ?_
      show own_Fin _ _ _ _ _ _ _ (T16.setTop (mkF m 207 #[iv p1, iv p2, iv p3, iv p4, iv p5, iv p6, iv u, iv fr, iv pr, iv n, rv b1, iv mm, iv W0, iv W1, iv W2, iv W3, iv W4, iv ((W0 * (4 : Int32)) + (W1 / (16 : Int32))), .unset, .unset, .unset, .unset, .unset, .unset, .unset] [(.int (16 : Int32)), (.int W1)]))
      refine own_st (fun t k => iremM X16 hx rfl (hb hby at_207) rfl (by decide) k) ?_
      refine own_st (fun t k => XS.bipush X16.here hx rfl (hb hby at_208) k) ?_
      refine own_st (fun t k => XS.imul X16.here hx rfl (hb hby at_210) rfl k) ?_
      show own_Fin _ _ _ _ _ _ _ (T16.setTop (mkF m 211 #[iv p1, iv p2, iv p3, iv p4, iv p5, iv p6, iv u, iv fr, iv pr, iv n, rv b1, iv mm, iv W0, iv W1, iv W2, iv W3, iv W4, iv ((W0 * (4 : Int32)) + (W1 / (16 : Int32))), .unset, .unset, .unset, .unset, .unset, .unset, .unset] [(.int ((W1 % (16 : Int32)) * (16 : Int32)))]))
      refine own_st (fun t k => XS.iload X16.here hx rfl (hb hby at_211) rfl k) ?_
      refine own_st (fun t k => XS.iconst X16.here hx rfl (hb hby at_213) k) ?_
      show own_Fin _ _ _ _ _ _ _ (T16.setTop (mkF m 214 #[iv p1, iv p2, iv p3, iv p4, iv p5, iv p6, iv u, iv fr, iv pr, iv n, rv b1, iv mm, iv W0, iv W1, iv W2, iv W3, iv W4, iv ((W0 * (4 : Int32)) + (W1 / (16 : Int32))), .unset, .unset, .unset, .unset, .unset, .unset, .unset] [(.int (4 : Int32)), (.int W2), (.int ((W1 % (16 : Int32)) * (16 : Int32)))]))
      refine own_st (fun t k => XS.idiv X16.here hx rfl (hb hby at_214) rfl (by decide) k) ?_
      refine own_st (fun t k => XS.iadd X16.here hx rfl (hb hby at_215) rfl k) ?_
      refine own_st (fun t k => XS.istore X16.here hx rfl (hb hby at_216) rfl (l' := #[iv p1, iv p2, iv p3, iv p4, iv p5, iv p6, iv u, iv fr, iv pr, iv n, rv b1, iv mm, iv W0, iv W1, iv W2, iv W3, iv W4, iv ((W0 * (4 : Int32)) + (W1 / (16 : Int32))), iv (((W1 % (16 : Int32)) * (16 : Int32)) + (W2 / (4 : Int32))), .unset, .unset, .unset, .unset, .unset, .unset]) rfl k) ?_
      show own_Fin _ _ _ _ _ _ _ (T16.setTop (mkF m 218 #[iv p1, iv p2, iv p3, iv p4, iv p5, iv p6, iv u, iv fr, iv pr, iv n, rv b1, iv mm, iv W0, iv W1, iv W2, iv W3, iv W4, iv ((W0 * (4 : Int32)) + (W1 / (16 : Int32))), iv (((W1 % (16 : Int32)) * (16 : Int32)) + (W2 / (4 : Int32))), .unset, .unset, .unset, .unset, .unset, .unset] []))
      refine own_st (fun t k => XS.iload X16.here hx rfl (hb hby at_218) rfl k) ?_
      refine own_st (fun t k => XS.iconst X16.here hx rfl (hb hby at_220) k) ?_
      show own_Fin _ _ _ _ _ _ _ (T16.setTop (mkF m 221 #[iv p1, iv p2, iv p3, iv p4, iv p5, iv p6, iv u, iv fr, iv pr, iv n, rv b1, iv mm, iv W0, iv W1, iv W2, iv W3, iv W4, iv ((W0 * (4 : Int32)) + (W1 / (16 : Int32))), iv (((W1 % (16 : Int32)) * (16 : Int32)) + (W2 / (4 : Int32))), .unset, .unset, .unset, .unset, .unset, .unset] [(.int (4 : Int32)), (.int W2)]))
      refine own_st (fun t k => iremM X16 hx rfl (hb hby at_221) rfl (by decide) k) ?_
      refine own_st (fun t k => XS.bipush X16.here hx rfl (hb hby at_222) k) ?_
      refine own_st (fun t k => XS.imul X16.here hx rfl (hb hby at_224) rfl k) ?_
      show own_Fin _ _ _ _ _ _ _ (T16.setTop (mkF m 225 #[iv p1, iv p2, iv p3, iv p4, iv p5, iv p6, iv u, iv fr, iv pr, iv n, rv b1, iv mm, iv W0, iv W1, iv W2, iv W3, iv W4, iv ((W0 * (4 : Int32)) + (W1 / (16 : Int32))), iv (((W1 % (16 : Int32)) * (16 : Int32)) + (W2 / (4 : Int32))), .unset, .unset, .unset, .unset, .unset, .unset] [(.int ((W2 % (4 : Int32)) * (64 : Int32)))]))
      refine own_st (fun t k => XS.iload X16.here hx rfl (hb hby at_225) rfl k) ?_
      refine own_st (fun t k => XS.iadd X16.here hx rfl (hb hby at_227) rfl k) ?_
      refine own_st (fun t k => XS.istore X16.here hx rfl (hb hby at_228) rfl (l' := #[iv p1, iv p2, iv p3, iv p4, iv p5, iv p6, iv u, iv fr, iv pr, iv n, rv b1, iv mm, iv W0, iv W1, iv W2, iv W3, iv W4, iv ((W0 * (4 : Int32)) + (W1 / (16 : Int32))), iv (((W1 % (16 : Int32)) * (16 : Int32)) + (W2 / (4 : Int32))), iv (((W2 % (4 : Int32)) * (64 : Int32)) + W3), .unset, .unset, .unset, .unset, .unset]) rfl k) ?_
      show own_Fin _ _ _ _ _ _ _ (T16.setTop (mkF m 230 #[iv p1, iv p2, iv p3, iv p4, iv p5, iv p6, iv u, iv fr, iv pr, iv n, rv b1, iv mm, iv W0, iv W1, iv W2, iv W3, iv W4, iv ((W0 * (4 : Int32)) + (W1 / (16 : Int32))), iv (((W1 % (16 : Int32)) * (16 : Int32)) + (W2 / (4 : Int32))), iv (((W2 % (4 : Int32)) * (64 : Int32)) + W3), .unset, .unset, .unset, .unset, .unset] []))
      refine own_st (fun t k => XS.iload X16.here hx rfl (hb hby at_230) rfl k) ?_
      refine own_st (fun t k => XS.iconst X16.here hx rfl (hb hby at_232) k) ?_
      refine own_st (fun t k => XS.imul X16.here hx rfl (hb hby at_233) rfl k) ?_
      show own_Fin _ _ _ _ _ _ _ (T16.setTop (mkF m 234 #[iv p1, iv p2, iv p3, iv p4, iv p5, iv p6, iv u, iv fr, iv pr, iv n, rv b1, iv mm, iv W0, iv W1, iv W2, iv W3, iv W4, iv ((W0 * (4 : Int32)) + (W1 / (16 : Int32))), iv (((W1 % (16 : Int32)) * (16 : Int32)) + (W2 / (4 : Int32))), iv (((W2 % (4 : Int32)) * (64 : Int32)) + W3), .unset, .unset, .unset, .unset, .unset] [(.int (W4 * (4 : Int32)))]))
      refine own_st (fun t k => XS.istore X16.here hx rfl (hb hby at_234) rfl (l' := #[iv p1, iv p2, iv p3, iv p4, iv p5, iv p6, iv u, iv fr, iv pr, iv n, rv b1, iv mm, iv W0, iv W1, iv W2, iv W3, iv W4, iv ((W0 * (4 : Int32)) + (W1 / (16 : Int32))), iv (((W1 % (16 : Int32)) * (16 : Int32)) + (W2 / (4 : Int32))), iv (((W2 % (4 : Int32)) * (64 : Int32)) + W3), iv (W4 * (4 : Int32)), .unset, .unset, .unset, .unset]) rfl k) ?_
      show own_Fin _ _ _ _ _ _ _ (T16.setTop (mkF m 236 #[iv p1, iv p2, iv p3, iv p4, iv p5, iv p6, iv u, iv fr, iv pr, iv n, rv b1, iv mm, iv W0, iv W1, iv W2, iv W3, iv W4, iv ((W0 * (4 : Int32)) + (W1 / (16 : Int32))), iv (((W1 % (16 : Int32)) * (16 : Int32)) + (W2 / (4 : Int32))), iv (((W2 % (4 : Int32)) * (64 : Int32)) + W3), iv (W4 * (4 : Int32)), .unset, .unset, .unset, .unset] []))
      have tail3 : ∀ (K0 K1 K2 K3 ln : Int32) (hks : own_ks n u (own_sel fr (own_F1 p1) (own_F1 p2)) (own_sel fr (own_F1 p2) (own_F1 p3)) (own_sel fr (own_F1 p3) (own_F1 p4)) (own_sel fr (own_F1 p4) (own_F1 p5)) = own_take ln K0 K1 K2 K3) (hln : ln = (0 : Int32) ∨ ln = (1 : Int32) ∨ ln = (2 : Int32) ∨ ln = (3 : Int32) ∨ ln = (4 : Int32)), own_Fin p.tables e below s (24) (192) (own_Q_rm0 Z p1 p2 p3 p4 p5 p6 h0 n0) (T16.setTop (mkF m 260 #[iv p1, iv p2, iv p3, iv p4, iv p5, iv p6, iv u, iv fr, iv pr, iv n, rv b1, iv mm, iv W0, iv W1, iv W2, iv W3, iv W4, iv K0, iv K1, iv K2, iv K3, iv ln, .unset, .unset, .unset] [])) := by
        intro K0 K1 K2 K3 ln hks hln
        show own_Fin _ _ _ _ _ _ _ (T16.setTop (mkF m 260 #[iv p1, iv p2, iv p3, iv p4, iv p5, iv p6, iv u, iv fr, iv pr, iv n, rv b1, iv mm, iv W0, iv W1, iv W2, iv W3, iv W4, iv K0, iv K1, iv K2, iv K3, iv ln, .unset, .unset, .unset] []))
        obtain ⟨T17, h17, X17, e17, E17, A17, D17, -, st17⟩ := newO X16 hx hZ hown (hw _ (List.mem_of_getElem? (i := 9) rfl)) (hw _ (List.mem_of_getElem? (i := 10) rfl)) (hw _ (List.mem_of_getElem? (i := 11) rfl)) e16 (g := (mkF m 260 #[iv p1, iv p2, iv p3, iv p4, iv p5, iv p6, iv u, iv fr, iv pr, iv n, rv b1, iv mm, iv W0, iv W1, iv W2, iv W3, iv W4, iv K0, iv K1, iv K2, iv K3, iv ln, .unset, .unset, .unset] [])) rfl (hb hby at_260) (by decide) (by decide)
        obtain ⟨b17, g17⟩ : ∃ z, z = h11.size := ⟨_, rfl⟩
        rw [← g17] at A17 D17 st17
        have f17_0 := V11.ext E17
        have ne_b1_b17 : b1 ≠ b17 := Nat.ne_of_lt (Nat.lt_of_lt_of_le V11.lt (Nat.le_of_eq g17.symm))
        have ge_b17 : n0 ≤ b17 := Nat.le_trans Z11 (Nat.le_of_eq g17.symm)
        have Z17 : n0 ≤ h17.size := Nat.le_trans Z11 E17.1
        have F17_values : Fld Z h17 b17 "com/example/quietzone/quietzone/datamatrix/CodewordWriter" "values" "[I" .null := D17 (Or.inr (hw _ (List.mem_of_getElem? (i := 19) rfl))) (ty := (.array .int)) (by decide)
        have F17_added : Fld Z h17 b17 "com/example/quietzone/quietzone/datamatrix/CodewordWriter" "added" "[I" .null := D17 (Or.inr (hw _ (List.mem_of_getElem? (i := 21) rfl))) (ty := (.array .int)) (by decide)
        have F17_codewords : Fld Z h17 b17 "com/example/quietzone/quietzone/datamatrix/CodewordWriter" "codewords" "[I" .null := D17 (Or.inr (hw _ (List.mem_of_getElem? (i := 23) rfl))) (ty := (.array .int)) (by decide)
        have F17_count : Fld Z h17 b17 "com/example/quietzone/quietzone/datamatrix/CodewordWriter" "count" "I" (.int (0 : Int32)) := D17 (Or.inl (hw _ (List.mem_of_getElem? (i := 30) rfl))) (ty := .int) (by decide)
        refine own_st st17 ?_
        refine own_st (fun t k => XS.dup X17.here hx rfl (hb hby at_263) rfl rfl k) ?_
        refine own_st (fun t k => XS.bipush X17.here hx rfl (hb hby at_264) k) ?_
        show own_Fin _ _ _ _ _ _ _ (T17.setTop (mkF m 266 #[iv p1, iv p2, iv p3, iv p4, iv p5, iv p6, iv u, iv fr, iv pr, iv n, rv b1, iv mm, iv W0, iv W1, iv W2, iv W3, iv W4, iv K0, iv K1, iv K2, iv K3, iv ln, .unset, .unset, .unset] [(.int (8 : Int32)), (.ref b17), (.ref b17)]))
        obtain ⟨_, _, ⟨T18, L18, k18, n18⟩, -, X18, ⟨Lc18, hQ18, l18, y18, z18⟩, st18⟩ := X17.specialBack hx (y := (⟨"com/example/quietzone/quietzone/datamatrix/CodewordWriter", "<init>", "(I)V"⟩ : MethodName)) rfl hown (mvT hZ (hw _ (List.mem_of_getElem? (i := 12) rfl))) (mvT hZ (hw _ (List.mem_of_getElem? (i := 13) rfl))) (mvT hZ (hw _ (List.mem_of_getElem? (i := 14) rfl))) (by decide) (backOf (W := 1) (rm3 l Z a0 hw [] b17 (8 : Int32) h17 n0 Z17 A17 F17_values F17_added F17_codewords F17_count ge_b17 (by decide) (by decide)) hZ (hw _ (List.mem_of_getElem? (i := 14) rfl)) (hw _ (List.mem_of_getElem? (i := 11) rfl)) (by decide) (by decide)) (g := (mkF m 266 #[iv p1, iv p2, iv p3, iv p4, iv p5, iv p6, iv u, iv fr, iv pr, iv n, rv b1, iv mm, iv W0, iv W1, iv W2, iv W3, iv W4, iv K0, iv K1, iv K2, iv K3, iv ln, .unset, .unset, .unset] [(.int (8 : Int32)), (.ref b17), (.ref b17)])) rfl (by rw [hml]; rfl) (Steps.refl _) (a := b17) (argsL := [(.int (8 : Int32))]) (rest := [(.ref b17)]) (lenOf pd_0_2 rfl) rfl (by show 2 * 0 + _ ≤ _; exact Nat.le_of_eq rfl) (hb hby at_266) (fun _ _ => ⟨rfl, e17, (by decide : 2 + 3 ≤ _), (by decide : 10 + 18 ≤ _)⟩)
        dsimp only [Pt.U, Pt.locs, Pt.cells, Pt.slots] at X18 l18 y18 z18 st18 hQ18
        subst l18 y18 z18
        obtain ⟨rfl, N18q, K18, oE18, oC18, t18, kt18, gt18, gs18, oW18, oV18⟩ := hQ18
        have N18 := Fr.app N16 N18q
        have f18_0 := f17_0.keep K18 (ninS ne_b1_b17 nin0)
        have Z18 : n0 ≤ T18.heap.size := Nat.le_trans Z17 K18.1
        refine own_st (fun t k => st18.trans k) ?_
        show own_Fin _ _ _ _ _ _ _ (T18.setTop (mkF m 269 #[iv p1, iv p2, iv p3, iv p4, iv p5, iv p6, iv u, iv fr, iv pr, iv n, rv b1, iv mm, iv W0, iv W1, iv W2, iv W3, iv W4, iv K0, iv K1, iv K2, iv K3, iv ln, .unset, .unset, .unset] [(.ref b17)]))
        have ne_b1_t18 : b1 ≠ t18 := Nat.ne_of_lt (Nat.lt_of_lt_of_le f17_0.lt gs18)
        have ne_b17_t18 : b17 ≠ t18 := Nat.ne_of_lt (Nat.lt_of_lt_of_le F17_count.lt gs18)
        have oP18 : Arv Z T18.heap t18 kt18 .int (8 : Int32) [(.int (0 : Int32)), (.int (0 : Int32)), (.int (0 : Int32)), (.int (0 : Int32)), (.int (0 : Int32)), (.int (0 : Int32)), (.int (0 : Int32)), (.int (0 : Int32))] (.int (0 : Int32)) := oV18.pad (pad_rep [] (.int (0 : Int32)) 8)
        refine own_st (fun t k => XS.astore X18.here hx rfl (hb hby at_269) rfl rfl (l' := #[iv p1, iv p2, iv p3, iv p4, iv p5, iv p6, iv u, iv fr, iv pr, iv n, rv b1, iv mm, iv W0, iv W1, iv W2, iv W3, iv W4, iv K0, iv K1, iv K2, iv K3, iv ln, rv b17, .unset, .unset]) rfl k) ?_
        refine own_st (fun t k => XS.iconst X18.here hx rfl (hb hby at_271) k) ?_
        show own_Fin _ _ _ _ _ _ _ (T18.setTop (mkF m 272 #[iv p1, iv p2, iv p3, iv p4, iv p5, iv p6, iv u, iv fr, iv pr, iv n, rv b1, iv mm, iv W0, iv W1, iv W2, iv W3, iv W4, iv K0, iv K1, iv K2, iv K3, iv ln, rv b17, .unset, .unset] [(.int (0 : Int32))]))
        refine own_st (fun t k => XS.istore X18.here hx rfl (hb hby at_272) rfl (l' := #[iv p1, iv p2, iv p3, iv p4, iv p5, iv p6, iv u, iv fr, iv pr, iv n, rv b1, iv mm, iv W0, iv W1, iv W2, iv W3, iv W4, iv K0, iv K1, iv K2, iv K3, iv ln, rv b17, iv 0, .unset]) rfl k) ?_
        refine own_st (fun t k => XS.iload X18.here hx rfl (hb hby at_274) rfl k) ?_
        show own_Fin _ _ _ _ _ _ _ (T18.setTop (mkF m 276 #[iv p1, iv p2, iv p3, iv p4, iv p5, iv p6, iv u, iv fr, iv pr, iv n, rv b1, iv mm, iv W0, iv W1, iv W2, iv W3, iv W4, iv K0, iv K1, iv K2, iv K3, iv ln, rv b17, iv 0, .unset] [(.int pr)]))
        by_cases hc276_19 : pr = (0 : Int32)
        · refine own_st (fun t k => XS.ifYes X18.here hx rfl (pc0 := 276) (pc' := 290) rfl (hb hby at_276) rfl ((if0 _ _).trans (teq hc276_19).1) (by decide) (by decide) k) ?_
          show own_Fin _ _ _ _ _ _ _ (T18.setTop (mkF m 290 #[iv p1, iv p2, iv p3, iv p4, iv p5, iv p6, iv u, iv fr, iv pr, iv n, rv b1, iv mm, iv W0, iv W1, iv W2, iv W3, iv W4, iv K0, iv K1, iv K2, iv K3, iv ln, rv b17, iv 0, .unset] []))
          have xc20 : Fld Z T18.heap b17 "com/example/quietzone/quietzone/datamatrix/CodewordWriter" "count" "I" (.int (0 : Int32)) := oC18
          have xv20 : Arv Z T18.heap t18 kt18 .int (8 : Int32) [(.int (0 : Int32)), (.int (0 : Int32)), (.int (0 : Int32)), (.int (0 : Int32)), (.int (0 : Int32)), (.int (0 : Int32)), (.int (0 : Int32)), (.int (0 : Int32))] (.int (0 : Int32)) := oP18
          refine own_st (fun t k => XS.aload X18.here hx rfl (hb hby at_290) rfl rfl k) ?_
          refine own_st (fun t k => XS.aload X18.here hx rfl (hb hby at_292) rfl rfl k) ?_
          refine own_st (fun t k => XS.iload X18.here hx rfl (hb hby at_294) rfl k) ?_
          show own_Fin _ _ _ _ _ _ _ (T18.setTop (mkF m 296 #[iv p1, iv p2, iv p3, iv p4, iv p5, iv p6, iv u, iv fr, iv pr, iv n, rv b1, iv mm, iv W0, iv W1, iv W2, iv W3, iv W4, iv K0, iv K1, iv K2, iv K3, iv ln, rv b17, iv 0, .unset] [(.int fr), (.ref b1), (.ref b17)]))
          refine own_st (fun t k => XS.iload X18.here hx rfl (hb hby at_296) rfl k) ?_
          refine own_st (fun t k => XS.iload X18.here hx rfl (hb hby at_298) rfl k) ?_
          refine own_st (fun t k => XS.iadd X18.here hx rfl (hb hby at_300) rfl k) ?_
          show own_Fin _ _ _ _ _ _ _ (T18.setTop (mkF m 301 #[iv p1, iv p2, iv p3, iv p4, iv p5, iv p6, iv u, iv fr, iv pr, iv n, rv b1, iv mm, iv W0, iv W1, iv W2, iv W3, iv W4, iv K0, iv K1, iv K2, iv K3, iv ln, rv b17, iv 0, .unset] [(.int (fr + n)), (.int fr), (.ref b1), (.ref b17)]))
          refine own_st (fun t k => XS.iload X18.here hx rfl (hb hby at_301) rfl k) ?_
          show own_Fin _ _ _ _ _ _ _ (T18.setTop (mkF m 303 #[iv p1, iv p2, iv p3, iv p4, iv p5, iv p6, iv u, iv fr, iv pr, iv n, rv b1, iv mm, iv W0, iv W1, iv W2, iv W3, iv W4, iv K0, iv K1, iv K2, iv K3, iv ln, rv b17, iv 0, .unset] [(.int u), (.int (fr + n)), (.int fr), (.ref b1), (.ref b17)]))
          obtain ⟨cq21, kq21, qa21, qb21, qc21⟩ := isOf hZ rfl oE18
          obtain ⟨_, _, ⟨T21, L21, k21, n21⟩, -, X21, ⟨Lc21, hQ21, l21, y21, z21⟩, st21⟩ := X18.virtualBack hx (y := (⟨"com/example/quietzone/quietzone/datamatrix/CodewordWriter", "edifact", "([IIIZ)V"⟩ : MethodName)) (z := (⟨"com/example/quietzone/quietzone/datamatrix/CodewordWriter", "edifact", "([IIIZ)V"⟩ : MethodName)) hown (mvT hZ (hw _ (List.mem_of_getElem? (i := 24) rfl))) (mvT hZ (hw _ (List.mem_of_getElem? (i := 25) rfl))) (notFace_of_selects (args := #[]) (mvT hZ (hw _ (List.mem_of_getElem? (i := 27) rfl)))) (mvT hZ (hw _ (List.mem_of_getElem? (i := 27) rfl))) (mvT hZ (hw _ (List.mem_of_getElem? (i := 26) rfl))) (by decide) (backOf (W := 0) (rm5 l Z a0 hw [] b17 b1 fr (fr + n) u t18 kt18 [(.int (0 : Int32)), (.int (0 : Int32)), (.int (0 : Int32)), (.int (0 : Int32)), (.int (0 : Int32)), (.int (0 : Int32)), (.int (0 : Int32)), (.int (0 : Int32))] (0 : Int32) k1 [(.int (own_F1 p1)), (.int (own_F1 p2)), (.int (own_F1 p3)), (.int (own_F1 p4)), (.int (own_F1 p5))] (own_sel fr (own_F1 p1) (own_F1 p2)) (own_sel fr (own_F1 p2) (own_F1 p3)) (own_sel fr (own_F1 p3) (own_F1 p4)) (own_sel fr (own_F1 p4) (own_F1 p5)) n T18.heap n0 Z18 oE18 oW18 xc20 xv20 ge_b17 gt18 ne_b17_t18 f18_0 ne_b1_b17 ne_b1_t18 (Or.inl rfl) rfl hf hu rfl (fun _ => by rcases hf with rfl | rfl <;> rfl) (own_rng hf _ _) (fun _ => by rcases hf with rfl | rfl <;> rfl) (own_rng hf _ _) (fun _ => by rcases hf with rfl | rfl <;> rfl) (own_rng hf _ _) (fun _ => by rcases hf with rfl | rfl <;> rfl) (own_rng hf _ _)) hZ (hw _ (List.mem_of_getElem? (i := 28) rfl)) (hw _ (List.mem_of_getElem? (i := 11) rfl)) (by decide) (by decide)) qa21 qc21 (g := (mkF m 303 #[iv p1, iv p2, iv p3, iv p4, iv p5, iv p6, iv u, iv fr, iv pr, iv n, rv b1, iv mm, iv W0, iv W1, iv W2, iv W3, iv W4, iv K0, iv K1, iv K2, iv K3, iv ln, rv b17, iv 0, .unset] [(.int u), (.int (fr + n)), (.int fr), (.ref b1), (.ref b17)])) rfl (by rw [hml]; rfl) (Steps.refl _) (argsL := [(.ref b1), (.int fr), (.int (fr + n)), (.int u)]) (rest := []) (lenOf pd_0_3 rfl) rfl (by show 2 * 0 + _ ≤ _; exact Nat.le_of_eq rfl) (hb hby at_303) (fun _ _ => ⟨rfl, rfl, (by decide : 5 + 0 ≤ _), (by decide : 28 + 0 ≤ _)⟩)
          dsimp only [Pt.U, Pt.locs, Pt.cells, Pt.slots] at X21 l21 y21 z21 st21 hQ21
          subst l21 y21 z21
          obtain ⟨rfl, N21q, K21, oE21, oW21, oC21, oV21⟩ := hQ21
          have N21 := Fr.app N18 N21q
          have f21_0 := f18_0.keep K21 (ninS ne_b1_b17 (ninS ne_b1_t18 nin0))
          have Z21 : n0 ≤ T21.heap.size := Nat.le_trans Z18 K21.1
          refine own_st (fun t k => st21.trans k) ?_
          show own_Fin _ _ _ _ _ _ _ (T21.setTop (mkF m 306 #[iv p1, iv p2, iv p3, iv p4, iv p5, iv p6, iv u, iv fr, iv pr, iv n, rv b1, iv mm, iv W0, iv W1, iv W2, iv W3, iv W4, iv K0, iv K1, iv K2, iv K3, iv ln, rv b17, iv 0, .unset] []))
          rcases hln with rfl | rfl | rfl | rfl | rfl
          · have xc22 : Fld Z T21.heap b17 "com/example/quietzone/quietzone/datamatrix/CodewordWriter" "count" "I" (.int (0 : Int32)) := by have q := oC21; rw [hks] at q; exact q
            have xv22 : Arv Z T21.heap t18 kt18 .int (8 : Int32) [(.int (0 : Int32)), (.int (0 : Int32)), (.int (0 : Int32)), (.int (0 : Int32)), (.int (0 : Int32)), (.int (0 : Int32)), (.int (0 : Int32)), (.int (0 : Int32))] (.int (0 : Int32)) := by have q := oV21; rw [hks] at q; exact q
            refine own_st (fun t k => XS.aload X21.here hx rfl (hb hby at_306) rfl rfl k) ?_
            show own_Fin _ _ _ _ _ _ _ (T21.setTop (mkF m 308 #[iv p1, iv p2, iv p3, iv p4, iv p5, iv p6, iv u, iv fr, iv pr, iv n, rv b1, iv mm, iv W0, iv W1, iv W2, iv W3, iv W4, iv K0, iv K1, iv K2, iv K3, iv 0, rv b17, iv 0, .unset] [(.ref b17)]))
            obtain ⟨cq23, kq23, qa23, qb23, qc23⟩ := isOf hZ rfl oE21
            obtain ⟨_, _, ⟨T23, L23, k23, n23⟩, -, X23, ⟨Lc23, hQ23, l23, y23, z23⟩, st23⟩ := X21.virtualBack hx (y := (⟨"com/example/quietzone/quietzone/datamatrix/CodewordWriter", "codewords", "()[I"⟩ : MethodName)) (z := (⟨"com/example/quietzone/quietzone/datamatrix/CodewordWriter", "codewords", "()[I"⟩ : MethodName)) hown (mvT hZ (hw _ (List.mem_of_getElem? (i := 31) rfl))) (mvT hZ (hw _ (List.mem_of_getElem? (i := 32) rfl))) (notFace_of_selects (args := #[]) (mvT hZ (hw _ (List.mem_of_getElem? (i := 34) rfl)))) (mvT hZ (hw _ (List.mem_of_getElem? (i := 34) rfl))) (mvT hZ (hw _ (List.mem_of_getElem? (i := 33) rfl))) (by decide) (backOf (W := 0) (rm6 l Z a0 hw [] b17 t18 kt18 [(.int (0 : Int32)), (.int (0 : Int32)), (.int (0 : Int32)), (.int (0 : Int32)), (.int (0 : Int32)), (.int (0 : Int32)), (.int (0 : Int32)), (.int (0 : Int32))] (0 : Int32) T21.heap n0 Z21 oW21 xc22 xv22 (by decide) (by decide) (by decide) (by decide) (by decide)) hZ (hw _ (List.mem_of_getElem? (i := 35) rfl)) (hw _ (List.mem_of_getElem? (i := 11) rfl)) (by decide) (by decide)) qa23 qc23 (g := (mkF m 308 #[iv p1, iv p2, iv p3, iv p4, iv p5, iv p6, iv u, iv fr, iv pr, iv n, rv b1, iv mm, iv W0, iv W1, iv W2, iv W3, iv W4, iv K0, iv K1, iv K2, iv K3, iv 0, rv b17, iv 0, .unset] [(.ref b17)])) rfl (by rw [hml]; rfl) (Steps.refl _) (argsL := []) (rest := []) (lenOf pd_0_4 rfl) rfl (by show 2 * 0 + _ ≤ _; exact Nat.le_of_eq rfl) (hb hby at_308) (fun _ _ => ⟨rfl, rfl, (by decide : 5 + 1 ≤ _), (by decide : 28 + 8 ≤ _)⟩)
            dsimp only [Pt.U, Pt.locs, Pt.cells, Pt.slots] at X23 l23 y23 z23 st23 hQ23
            subst l23 y23 z23
            obtain ⟨r23, kr23, rfl, N23q, K23, gr23, gs23, oV23⟩ := hQ23
            have N23 := Fr.app N21 N23q
            have f23_0 := f21_0.keep K23 nin0
            have f23_1 := oE21.keep K23
            have f23_2 := oW21.keep K23 nin0
            have f23_3 := xc22.keep K23 nin0
            have f23_4 := xv22.keep K23 nin0
            have Z23 : n0 ≤ T23.heap.size := Nat.le_trans Z21 K23.1
            refine own_st (fun t k => st23.trans k) ?_
            show own_Fin _ _ _ _ _ _ _ (T23.setTop (mkF m 311 #[iv p1, iv p2, iv p3, iv p4, iv p5, iv p6, iv u, iv fr, iv pr, iv n, rv b1, iv mm, iv W0, iv W1, iv W2, iv W3, iv W4, iv K0, iv K1, iv K2, iv K3, iv 0, rv b17, iv 0, .unset] [(.ref r23)]))
            have oX23 : Arv Z T23.heap r23 kr23 .int (0 : Int32) [] (.int (0 : Int32)) := oV23
            refine own_st (fun t k => XS.astore X23.here hx rfl (hb hby at_311) rfl rfl (l' := #[iv p1, iv p2, iv p3, iv p4, iv p5, iv p6, iv u, iv fr, iv pr, iv n, rv b1, iv mm, iv W0, iv W1, iv W2, iv W3, iv W4, iv K0, iv K1, iv K2, iv K3, iv 0, rv b17, iv 0, rv r23]) rfl k) ?_
            refine own_st (fun t k => XS.aload X23.here hx rfl (hb hby at_313) rfl rfl k) ?_
            show own_Fin _ _ _ _ _ _ _ (T23.setTop (mkF m 315 #[iv p1, iv p2, iv p3, iv p4, iv p5, iv p6, iv u, iv fr, iv pr, iv n, rv b1, iv mm, iv W0, iv W1, iv W2, iv W3, iv W4, iv K0, iv K1, iv K2, iv K3, iv 0, rv b17, iv 0, rv r23] [(.ref r23)]))
            obtain ⟨cl24, Ar24, Cq24, Sz24, Mn24, Hs24, Gf24⟩ := id oX23
            refine own_st (X23.arraylength hx Ar24.1 (State.isArrayOf_alike hZ.alike Ar24.2.1) (g := (mkF m 315 #[iv p1, iv p2, iv p3, iv p4, iv p5, iv p6, iv u, iv fr, iv pr, iv n, rv b1, iv mm, iv W0, iv W1, iv W2, iv W3, iv W4, iv K0, iv K1, iv K2, iv K3, iv 0, rv b17, iv 0, rv r23] [(.ref r23)])) rfl rfl (hb hby at_315)) ?_
            rw [len_of Sz24 Mn24]
            refine own_st (fun t k => XS.iload X23.here hx rfl (hb hby at_316) rfl k) ?_
            refine own_st (fun t k => XS.iload X23.here hx rfl (hb hby at_318) rfl k) ?_
            show own_Fin _ _ _ _ _ _ _ (T23.setTop (mkF m 320 #[iv p1, iv p2, iv p3, iv p4, iv p5, iv p6, iv u, iv fr, iv pr, iv n, rv b1, iv mm, iv W0, iv W1, iv W2, iv W3, iv W4, iv K0, iv K1, iv K2, iv K3, iv 0, rv b17, iv 0, rv r23] [(.int (0 : Int32)), (.int (0 : Int32)), (.int (0 : Int32))]))
            refine own_st (fun t k => XS.iadd X23.here hx rfl (hb hby at_320) rfl k) ?_
            show own_Fin _ _ _ _ _ _ _ (T23.setTop (mkF m 321 #[iv p1, iv p2, iv p3, iv p4, iv p5, iv p6, iv u, iv fr, iv pr, iv n, rv b1, iv mm, iv W0, iv W1, iv W2, iv W3, iv W4, iv K0, iv K1, iv K2, iv K3, iv 0, rv b17, iv 0, rv r23] [(.int (0 : Int32)), (.int (0 : Int32))]))
            refine own_st (fun t k => XS.icmpYes X23.here hx rfl (pc0 := 321) (pc' := 326) rfl (hb hby at_321) rfl (teq (by decide : (0 : Int32) = (0 : Int32))).1 (by decide) (by decide) k) ?_
            refine own_st (fun t k => XS.iload X23.here hx rfl (hb hby at_326) rfl k) ?_
            show own_Fin _ _ _ _ _ _ _ (T23.setTop (mkF m 328 #[iv p1, iv p2, iv p3, iv p4, iv p5, iv p6, iv u, iv fr, iv pr, iv n, rv b1, iv mm, iv W0, iv W1, iv W2, iv W3, iv W4, iv K0, iv K1, iv K2, iv K3, iv 0, rv b17, iv 0, rv r23] [(.int pr)]))
            refine own_st (fun t k => XS.ifYes X23.here hx rfl (pc0 := 328) (pc' := 343) rfl (hb hby at_328) rfl ((if0 _ _).trans (teq hc276_19).1) (by decide) (by decide) k) ?_
            refine own_st (fun t k => XS.iload X23.here hx rfl (hb hby at_343) rfl k) ?_
            show own_Fin _ _ _ _ _ _ _ (T23.setTop (mkF m 345 #[iv p1, iv p2, iv p3, iv p4, iv p5, iv p6, iv u, iv fr, iv pr, iv n, rv b1, iv mm, iv W0, iv W1, iv W2, iv W3, iv W4, iv K0, iv K1, iv K2, iv K3, iv 0, rv b17, iv 0, rv r23] [(.int (0 : Int32))]))
            refine own_st (fun t k => XS.ifYes X23.here hx rfl (pc0 := 345) (pc' := 360) rfl (hb hby at_345) rfl ((if0 _ _).trans (flt (by decide : ¬ ((0 : Int32) < (0 : Int32)))).2.2.2) (by decide) (by decide) k) ?_
            refine own_st (fun t k => XS.iload X23.here hx rfl (hb hby at_360) rfl k) ?_
            refine own_st (fun t k => XS.iconst X23.here hx rfl (hb hby at_362) k) ?_
            show own_Fin _ _ _ _ _ _ _ (T23.setTop (mkF m 363 #[iv p1, iv p2, iv p3, iv p4, iv p5, iv p6, iv u, iv fr, iv pr, iv n, rv b1, iv mm, iv W0, iv W1, iv W2, iv W3, iv W4, iv K0, iv K1, iv K2, iv K3, iv 0, rv b17, iv 0, rv r23] [(.int (1 : Int32)), (.int (0 : Int32))]))
            refine own_st (fun t k => XS.icmpYes X23.here hx rfl (pc0 := 363) (pc' := 380) rfl (hb hby at_363) rfl (flt (by decide : ¬ ((1 : Int32) < (0 : Int32)))).2.2.2 (by decide) (by decide) k) ?_
            refine own_st (fun t k => XS.iload X23.here hx rfl (hb hby at_380) rfl k) ?_
            refine own_st (fun t k => XS.iconst X23.here hx rfl (hb hby at_382) k) ?_
            show own_Fin _ _ _ _ _ _ _ (T23.setTop (mkF m 383 #[iv p1, iv p2, iv p3, iv p4, iv p5, iv p6, iv u, iv fr, iv pr, iv n, rv b1, iv mm, iv W0, iv W1, iv W2, iv W3, iv W4, iv K0, iv K1, iv K2, iv K3, iv 0, rv b17, iv 0, rv r23] [(.int (2 : Int32)), (.int (0 : Int32))]))
            refine own_st (fun t k => XS.icmpYes X23.here hx rfl (pc0 := 383) (pc' := 400) rfl (hb hby at_383) rfl (flt (by decide : ¬ ((2 : Int32) < (0 : Int32)))).2.2.2 (by decide) (by decide) k) ?_
            refine own_st (fun t k => XS.iload X23.here hx rfl (hb hby at_400) rfl k) ?_
            refine own_st (fun t k => XS.iconst X23.here hx rfl (hb hby at_402) k) ?_
            show own_Fin _ _ _ _ _ _ _ (T23.setTop (mkF m 403 #[iv p1, iv p2, iv p3, iv p4, iv p5, iv p6, iv u, iv fr, iv pr, iv n, rv b1, iv mm, iv W0, iv W1, iv W2, iv W3, iv W4, iv K0, iv K1, iv K2, iv K3, iv 0, rv b17, iv 0, rv r23] [(.int (3 : Int32)), (.int (0 : Int32))]))
            refine own_st (fun t k => XS.icmpYes X23.here hx rfl (pc0 := 403) (pc' := 420) rfl (hb hby at_403) rfl (flt (by decide : ¬ ((3 : Int32) < (0 : Int32)))).2.2.2 (by decide) (by decide) k) ?_
            refine own_st (fun t k => XS.iconst X23.here hx rfl (hb hby at_420) k) ?_
            show own_Fin _ _ _ _ _ _ _ (T23.setTop (mkF m 421 #[iv p1, iv p2, iv p3, iv p4, iv p5, iv p6, iv u, iv fr, iv pr, iv n, rv b1, iv mm, iv W0, iv W1, iv W2, iv W3, iv W4, iv K0, iv K1, iv K2, iv K3, iv 0, rv b17, iv 0, rv r23] [(.int (1 : Int32))]))
            exact own_retN X23 hx Bd.notSynchronized (t := .boolean) Bd.returns (by simp) (hb hby at_421) (by decide) (by decide) ⟨rfl, N23, trivial⟩
          · have xc25 : Fld Z T21.heap b17 "com/example/quietzone/quietzone/datamatrix/CodewordWriter" "count" "I" (.int (1 : Int32)) := by have q := oC21; rw [hks] at q; exact q
            have xv25 : Arv Z T21.heap t18 kt18 .int (8 : Int32) [(.int K0), (.int (0 : Int32)), (.int (0 : Int32)), (.int (0 : Int32)), (.int (0 : Int32)), (.int (0 : Int32)), (.int (0 : Int32)), (.int (0 : Int32))] (.int (0 : Int32)) := by have q := oV21; rw [hks] at q; exact q
            refine own_st (fun t k => XS.aload X21.here hx rfl (hb hby at_306) rfl rfl k) ?_
            show own_Fin _ _ _ _ _ _ _ (T21.setTop (mkF m 308 #[iv p1, iv p2, iv p3, iv p4, iv p5, iv p6, iv u, iv fr, iv pr, iv n, rv b1, iv mm, iv W0, iv W1, iv W2, iv W3, iv W4, iv K0, iv K1, iv K2, iv K3, iv 1, rv b17, iv 0, .unset] [(.ref b17)]))
            obtain ⟨cq26, kq26, qa26, qb26, qc26⟩ := isOf hZ rfl oE21
            obtain ⟨_, _, ⟨T26, L26, k26, n26⟩, -, X26, ⟨Lc26, hQ26, l26, y26, z26⟩, st26⟩ := X21.virtualBack hx (y := (⟨"com/example/quietzone/quietzone/datamatrix/CodewordWriter", "codewords", "()[I"⟩ : MethodName)) (z := (⟨"com/example/quietzone/quietzone/datamatrix/CodewordWriter", "codewords", "()[I"⟩ : MethodName)) hown (mvT hZ (hw _ (List.mem_of_getElem? (i := 31) rfl))) (mvT hZ (hw _ (List.mem_of_getElem? (i := 32) rfl))) (notFace_of_selects (args := #[]) (mvT hZ (hw _ (List.mem_of_getElem? (i := 34) rfl)))) (mvT hZ (hw _ (List.mem_of_getElem? (i := 34) rfl))) (mvT hZ (hw _ (List.mem_of_getElem? (i := 33) rfl))) (by decide) (backOf (W := 0) (rm6 l Z a0 hw [] b17 t18 kt18 [(.int K0), (.int (0 : Int32)), (.int (0 : Int32)), (.int (0 : Int32)), (.int (0 : Int32)), (.int (0 : Int32)), (.int (0 : Int32)), (.int (0 : Int32))] (1 : Int32) T21.heap n0 Z21 oW21 xc25 xv25 (by decide) (by decide) (by decide) (by decide) (by decide)) hZ (hw _ (List.mem_of_getElem? (i := 35) rfl)) (hw _ (List.mem_of_getElem? (i := 11) rfl)) (by decide) (by decide)) qa26 qc26 (g := (mkF m 308 #[iv p1, iv p2, iv p3, iv p4, iv p5, iv p6, iv u, iv fr, iv pr, iv n, rv b1, iv mm, iv W0, iv W1, iv W2, iv W3, iv W4, iv K0, iv K1, iv K2, iv K3, iv 1, rv b17, iv 0, .unset] [(.ref b17)])) rfl (by rw [hml]; rfl) (Steps.refl _) (argsL := []) (rest := []) (lenOf pd_0_4 rfl) rfl (by show 2 * 0 + _ ≤ _; exact Nat.le_of_eq rfl) (hb hby at_308) (fun _ _ => ⟨rfl, rfl, (by decide : 5 + 1 ≤ _), (by decide : 28 + 8 ≤ _)⟩)
            dsimp only [Pt.U, Pt.locs, Pt.cells, Pt.slots] at X26 l26 y26 z26 st26 hQ26
            subst l26 y26 z26
            obtain ⟨r26, kr26, rfl, N26q, K26, gr26, gs26, oV26⟩ := hQ26
            have N26 := Fr.app N21 N26q
            have f26_0 := f21_0.keep K26 nin0
            have f26_1 := oE21.keep K26
            have f26_2 := oW21.keep K26 nin0
            have f26_3 := xc25.keep K26 nin0
            have f26_4 := xv25.keep K26 nin0
            have Z26 : n0 ≤ T26.heap.size := Nat.le_trans Z21 K26.1
            refine own_st (fun t k => st26.trans k) ?_
            show own_Fin _ _ _ _ _ _ _ (T26.setTop (mkF m 311 #[iv p1, iv p2, iv p3, iv p4, iv p5, iv p6, iv u, iv fr, iv pr, iv n, rv b1, iv mm, iv W0, iv W1, iv W2, iv W3, iv W4, iv K0, iv K1, iv K2, iv K3, iv 1, rv b17, iv 0, .unset] [(.ref r26)]))
            have oX26 : Arv Z T26.heap r26 kr26 .int (1 : Int32) [(.int K0)] (.int (0 : Int32)) := oV26
            refine own_st (fun t k => XS.astore X26.here hx rfl (hb hby at_311) rfl rfl (l' := #[iv p1, iv p2, iv p3, iv p4, iv p5, iv p6, iv u, iv fr, iv pr, iv n, rv b1, iv mm, iv W0, iv W1, iv W2, iv W3, iv W4, iv K0, iv K1, iv K2, iv K3, iv 1, rv b17, iv 0, rv r26]) rfl k) ?_
            refine own_st (fun t k => XS.aload X26.here hx rfl (hb hby at_313) rfl rfl k) ?_
            show own_Fin _ _ _ _ _ _ _ (T26.setTop (mkF m 315 #[iv p1, iv p2, iv p3, iv p4, iv p5, iv p6, iv u, iv fr, iv pr, iv n, rv b1, iv mm, iv W0, iv W1, iv W2, iv W3, iv W4, iv K0, iv K1, iv K2, iv K3, iv 1, rv b17, iv 0, rv r26] [(.ref r26)]))
            obtain ⟨cl27, Ar27, Cq27, Sz27, Mn27, Hs27, Gf27⟩ := id oX26
            refine own_st (X26.arraylength hx Ar27.1 (State.isArrayOf_alike hZ.alike Ar27.2.1) (g := (mkF m 315 #[iv p1, iv p2, iv p3, iv p4, iv p5, iv p6, iv u, iv fr, iv pr, iv n, rv b1, iv mm, iv W0, iv W1, iv W2, iv W3, iv W4, iv K0, iv K1, iv K2, iv K3, iv 1, rv b17, iv 0, rv r26] [(.ref r26)])) rfl rfl (hb hby at_315)) ?_
            rw [len_of Sz27 Mn27]
            refine own_st (fun t k => XS.iload X26.here hx rfl (hb hby at_316) rfl k) ?_
            refine own_st (fun t k => XS.iload X26.here hx rfl (hb hby at_318) rfl k) ?_
            show own_Fin _ _ _ _ _ _ _ (T26.setTop (mkF m 320 #[iv p1, iv p2, iv p3, iv p4, iv p5, iv p6, iv u, iv fr, iv pr, iv n, rv b1, iv mm, iv W0, iv W1, iv W2, iv W3, iv W4, iv K0, iv K1, iv K2, iv K3, iv 1, rv b17, iv 0, rv r26] [(.int (1 : Int32)), (.int (0 : Int32)), (.int (1 : Int32))]))
            refine own_st (fun t k => XS.iadd X26.here hx rfl (hb hby at_320) rfl k) ?_
            show own_Fin _ _ _ _ _ _ _ (T26.setTop (mkF m 321 #[iv p1, iv p2, iv p3, iv p4, iv p5, iv p6, iv u, iv fr, iv pr, iv n, rv b1, iv mm, iv W0, iv W1, iv W2, iv W3, iv W4, iv K0, iv K1, iv K2, iv K3, iv 1, rv b17, iv 0, rv r26] [(.int (1 : Int32)), (.int (1 : Int32))]))
            refine own_st (fun t k => XS.icmpYes X26.here hx rfl (pc0 := 321) (pc' := 326) rfl (hb hby at_321) rfl (teq (by decide : (1 : Int32) = (1 : Int32))).1 (by decide) (by decide) k) ?_
            refine own_st (fun t k => XS.iload X26.here hx rfl (hb hby at_326) rfl k) ?_
            show own_Fin _ _ _ _ _ _ _ (T26.setTop (mkF m 328 #[iv p1, iv p2, iv p3, iv p4, iv p5, iv p6, iv u, iv fr, iv pr, iv n, rv b1, iv mm, iv W0, iv W1, iv W2, iv W3, iv W4, iv K0, iv K1, iv K2, iv K3, iv 1, rv b17, iv 0, rv r26] [(.int pr)]))
            refine own_st (fun t k => XS.ifYes X26.here hx rfl (pc0 := 328) (pc' := 343) rfl (hb hby at_328) rfl ((if0 _ _).trans (teq hc276_19).1) (by decide) (by decide) k) ?_
            refine own_st (fun t k => XS.iload X26.here hx rfl (hb hby at_343) rfl k) ?_
            show own_Fin _ _ _ _ _ _ _ (T26.setTop (mkF m 345 #[iv p1, iv p2, iv p3, iv p4, iv p5, iv p6, iv u, iv fr, iv pr, iv n, rv b1, iv mm, iv W0, iv W1, iv W2, iv W3, iv W4, iv K0, iv K1, iv K2, iv K3, iv 1, rv b17, iv 0, rv r26] [(.int (1 : Int32))]))
            refine own_st (fun t k => XS.ifNo X26.here hx rfl (hb hby at_345) rfl ((if0 _ _).trans (tlt (by decide : (0 : Int32) < (1 : Int32))).2.2.2) k) ?_
            refine own_st (fun t k => XS.aload X26.here hx rfl (hb hby at_348) rfl rfl k) ?_
            refine own_st (fun t k => XS.iload X26.here hx rfl (hb hby at_350) rfl k) ?_
            show own_Fin _ _ _ _ _ _ _ (T26.setTop (mkF m 352 #[iv p1, iv p2, iv p3, iv p4, iv p5, iv p6, iv u, iv fr, iv pr, iv n, rv b1, iv mm, iv W0, iv W1, iv W2, iv W3, iv W4, iv K0, iv K1, iv K2, iv K3, iv 1, rv b17, iv 0, rv r26] [(.int (0 : Int32)), (.ref r26)]))
            obtain ⟨cl28, Ar28, Cq28, Sz28, Mn28, Hs28, Gf28⟩ := id oX26
            have hin28 := inb_of Sz28 (j := (0 : Int32)) ⟨by decide, by decide⟩
            refine own_st (X26.iaload hx (j := (0 : Int32)) (v := (.int K0)) Ar28.1 (State.isArrayOf_alike hZ.alike Ar28.2.1) Ar28.2.2 hin28 (Hs28.at hin28 rfl) (g := (mkF m 352 #[iv p1, iv p2, iv p3, iv p4, iv p5, iv p6, iv u, iv fr, iv pr, iv n, rv b1, iv mm, iv W0, iv W1, iv W2, iv W3, iv W4, iv K0, iv K1, iv K2, iv K3, iv 1, rv b17, iv 0, rv r26] [(.int (0 : Int32)), (.ref r26)])) rfl rfl (hb hby at_352)) ?_
            refine own_st (fun t k => XS.iload X26.here hx rfl (hb hby at_353) rfl k) ?_
            show own_Fin _ _ _ _ _ _ _ (T26.setTop (mkF m 355 #[iv p1, iv p2, iv p3, iv p4, iv p5, iv p6, iv u, iv fr, iv pr, iv n, rv b1, iv mm, iv W0, iv W1, iv W2, iv W3, iv W4, iv K0, iv K1, iv K2, iv K3, iv 1, rv b17, iv 0, rv r26] [(.int K0), (.int K0)]))
            refine own_st (fun t k => XS.icmpYes X26.here hx rfl (pc0 := 355) (pc' := 360) rfl (hb hby at_355) rfl (teq (rfl : K0 = K0)).1 (by decide) (by decide) k) ?_
            refine own_st (fun t k => XS.iload X26.here hx rfl (hb hby at_360) rfl k) ?_
            refine own_st (fun t k => XS.iconst X26.here hx rfl (hb hby at_362) k) ?_
            show own_Fin _ _ _ _ _ _ _ (T26.setTop (mkF m 363 #[iv p1, iv p2, iv p3, iv p4, iv p5, iv p6, iv u, iv fr, iv pr, iv n, rv b1, iv mm, iv W0, iv W1, iv W2, iv W3, iv W4, iv K0, iv K1, iv K2, iv K3, iv 1, rv b17, iv 0, rv r26] [(.int (1 : Int32)), (.int (1 : Int32))]))
            refine own_st (fun t k => XS.icmpYes X26.here hx rfl (pc0 := 363) (pc' := 380) rfl (hb hby at_363) rfl (flt (by decide : ¬ ((1 : Int32) < (1 : Int32)))).2.2.2 (by decide) (by decide) k) ?_
            refine own_st (fun t k => XS.iload X26.here hx rfl (hb hby at_380) rfl k) ?_
            refine own_st (fun t k => XS.iconst X26.here hx rfl (hb hby at_382) k) ?_
            show own_Fin _ _ _ _ _ _ _ (T26.setTop (mkF m 383 #[iv p1, iv p2, iv p3, iv p4, iv p5, iv p6, iv u, iv fr, iv pr, iv n, rv b1, iv mm, iv W0, iv W1, iv W2, iv W3, iv W4, iv K0, iv K1, iv K2, iv K3, iv 1, rv b17, iv 0, rv r26] [(.int (2 : Int32)), (.int (1 : Int32))]))
            refine own_st (fun t k => XS.icmpYes X26.here hx rfl (pc0 := 383) (pc' := 400) rfl (hb hby at_383) rfl (flt (by decide : ¬ ((2 : Int32) < (1 : Int32)))).2.2.2 (by decide) (by decide) k) ?_
            refine own_st (fun t k => XS.iload X26.here hx rfl (hb hby at_400) rfl k) ?_
            refine own_st (fun t k => XS.iconst X26.here hx rfl (hb hby at_402) k) ?_
            show own_Fin _ _ _ _ _ _ _ (T26.setTop (mkF m 403 #[iv p1, iv p2, iv p3, iv p4, iv p5, iv p6, iv u, iv fr, iv pr, iv n, rv b1, iv mm, iv W0, iv W1, iv W2, iv W3, iv W4, iv K0, iv K1, iv K2, iv K3, iv 1, rv b17, iv 0, rv r26] [(.int (3 : Int32)), (.int (1 : Int32))]))
            refine own_st (fun t k => XS.icmpYes X26.here hx rfl (pc0 := 403) (pc' := 420) rfl (hb hby at_403) rfl (flt (by decide : ¬ ((3 : Int32) < (1 : Int32)))).2.2.2 (by decide) (by decide) k) ?_
            refine own_st (fun t k => XS.iconst X26.here hx rfl (hb hby at_420) k) ?_
            show own_Fin _ _ _ _ _ _ _ (T26.setTop (mkF m 421 #[iv p1, iv p2, iv p3, iv p4, iv p5, iv p6, iv u, iv fr, iv pr, iv n, rv b1, iv mm, iv W0, iv W1, iv W2, iv W3, iv W4, iv K0, iv K1, iv K2, iv K3, iv 1, rv b17, iv 0, rv r26] [(.int (1 : Int32))]))
            exact own_retN X26 hx Bd.notSynchronized (t := .boolean) Bd.returns (by simp) (hb hby at_421) (by decide) (by decide) ⟨rfl, N26, trivial⟩
          · have xc29 : Fld Z T21.heap b17 "com/example/quietzone/quietzone/datamatrix/CodewordWriter" "count" "I" (.int (2 : Int32)) := by have q := oC21; rw [hks] at q; exact q
            have xv29 : Arv Z T21.heap t18 kt18 .int (8 : Int32) [(.int K0), (.int K1), (.int (0 : Int32)), (.int (0 : Int32)), (.int (0 : Int32)), (.int (0 : Int32)), (.int (0 : Int32)), (.int (0 : Int32))] (.int (0 : Int32)) := by have q := oV21; rw [hks] at q; exact q
            refine own_st (fun t k => XS.aload X21.here hx rfl (hb hby at_306) rfl rfl k) ?_
            show own_Fin _ _ _ _ _ _ _ (T21.setTop (mkF m 308 #[iv p1, iv p2, iv p3, iv p4, iv p5, iv p6, iv u, iv fr, iv pr, iv n, rv b1, iv mm, iv W0, iv W1, iv W2, iv W3, iv W4, iv K0, iv K1, iv K2, iv K3, iv 2, rv b17, iv 0, .unset] [(.ref b17)]))
            obtain ⟨cq30, kq30, qa30, qb30, qc30⟩ := isOf hZ rfl oE21
            obtain ⟨_, _, ⟨T30, L30, k30, n30⟩, -, X30, ⟨Lc30, hQ30, l30, y30, z30⟩, st30⟩ := X21.virtualBack hx (y := (⟨"com/example/quietzone/quietzone/datamatrix/CodewordWriter", "codewords", "()[I"⟩ : MethodName)) (z := (⟨"com/example/quietzone/quietzone/datamatrix/CodewordWriter", "codewords", "()[I"⟩ : MethodName)) hown (mvT hZ (hw _ (List.mem_of_getElem? (i := 31) rfl))) (mvT hZ (hw _ (List.mem_of_getElem? (i := 32) rfl))) (notFace_of_selects (args := #[]) (mvT hZ (hw _ (List.mem_of_getElem? (i := 34) rfl)))) (mvT hZ (hw _ (List.mem_of_getElem? (i := 34) rfl))) (mvT hZ (hw _ (List.mem_of_getElem? (i := 33) rfl))) (by decide) (backOf (W := 0) (rm6 l Z a0 hw [] b17 t18 kt18 [(.int K0), (.int K1), (.int (0 : Int32)), (.int (0 : Int32)), (.int (0 : Int32)), (.int (0 : Int32)), (.int (0 : Int32)), (.int (0 : Int32))] (2 : Int32) T21.heap n0 Z21 oW21 xc29 xv29 (by decide) (by decide) (by decide) (by decide) (by decide)) hZ (hw _ (List.mem_of_getElem? (i := 35) rfl)) (hw _ (List.mem_of_getElem? (i := 11) rfl)) (by decide) (by decide)) qa30 qc30 (g := (mkF m 308 #[iv p1, iv p2, iv p3, iv p4, iv p5, iv p6, iv u, iv fr, iv pr, iv n, rv b1, iv mm, iv W0, iv W1, iv W2, iv W3, iv W4, iv K0, iv K1, iv K2, iv K3, iv 2, rv b17, iv 0, .unset] [(.ref b17)])) rfl (by rw [hml]; rfl) (Steps.refl _) (argsL := []) (rest := []) (lenOf pd_0_4 rfl) rfl (by show 2 * 0 + _ ≤ _; exact Nat.le_of_eq rfl) (hb hby at_308) (fun _ _ => ⟨rfl, rfl, (by decide : 5 + 1 ≤ _), (by decide : 28 + 8 ≤ _)⟩)
            dsimp only [Pt.U, Pt.locs, Pt.cells, Pt.slots] at X30 l30 y30 z30 st30 hQ30
            subst l30 y30 z30
            obtain ⟨r30, kr30, rfl, N30q, K30, gr30, gs30, oV30⟩ := hQ30
            have N30 := Fr.app N21 N30q
            have f30_0 := f21_0.keep K30 nin0
            have f30_1 := oE21.keep K30
            have f30_2 := oW21.keep K30 nin0
            have f30_3 := xc29.keep K30 nin0
            have f30_4 := xv29.keep K30 nin0
            have Z30 : n0 ≤ T30.heap.size := Nat.le_trans Z21 K30.1
            refine own_st (fun t k => st30.trans k) ?_
            show own_Fin _ _ _ _ _ _ _ (T30.setTop (mkF m 311 #[iv p1, iv p2, iv p3, iv p4, iv p5, iv p6, iv u, iv fr, iv pr, iv n, rv b1, iv mm, iv W0, iv W1, iv W2, iv W3, iv W4, iv K0, iv K1, iv K2, iv K3, iv 2, rv b17, iv 0, .unset] [(.ref r30)]))
            have oX30 : Arv Z T30.heap r30 kr30 .int (2 : Int32) [(.int K0), (.int K1)] (.int (0 : Int32)) := oV30
            refine own_st (fun t k => XS.astore X30.here hx rfl (hb hby at_311) rfl rfl (l' := #[iv p1, iv p2, iv p3, iv p4, iv p5, iv p6, iv u, iv fr, iv pr, iv n, rv b1, iv mm, iv W0, iv W1, iv W2, iv W3, iv W4, iv K0, iv K1, iv K2, iv K3, iv 2, rv b17, iv 0, rv r30]) rfl k) ?_
            refine own_st (fun t k => XS.aload X30.here hx rfl (hb hby at_313) rfl rfl k) ?_
            show own_Fin _ _ _ _ _ _ _ (T30.setTop (mkF m 315 #[iv p1, iv p2, iv p3, iv p4, iv p5, iv p6, iv u, iv fr, iv pr, iv n, rv b1, iv mm, iv W0, iv W1, iv W2, iv W3, iv W4, iv K0, iv K1, iv K2, iv K3, iv 2, rv b17, iv 0, rv r30] [(.ref r30)]))
            obtain ⟨cl31, Ar31, Cq31, Sz31, Mn31, Hs31, Gf31⟩ := id oX30
            refine own_st (X30.arraylength hx Ar31.1 (State.isArrayOf_alike hZ.alike Ar31.2.1) (g := (mkF m 315 #[iv p1, iv p2, iv p3, iv p4, iv p5, iv p6, iv u, iv fr, iv pr, iv n, rv b1, iv mm, iv W0, iv W1, iv W2, iv W3, iv W4, iv K0, iv K1, iv K2, iv K3, iv 2, rv b17, iv 0, rv r30] [(.ref r30)])) rfl rfl (hb hby at_315)) ?_
            rw [len_of Sz31 Mn31]
            refine own_st (fun t k => XS.iload X30.here hx rfl (hb hby at_316) rfl k) ?_
            refine own_st (fun t k => XS.iload X30.here hx rfl (hb hby at_318) rfl k) ?_
            show own_Fin _ _ _ _ _ _ _ (T30.setTop (mkF m 320 #[iv p1, iv p2, iv p3, iv p4, iv p5, iv p6, iv u, iv fr, iv pr, iv n, rv b1, iv mm, iv W0, iv W1, iv W2, iv W3, iv W4, iv K0, iv K1, iv K2, iv K3, iv 2, rv b17, iv 0, rv r30] [(.int (2 : Int32)), (.int (0 : Int32)), (.int (2 : Int32))]))
            refine own_st (fun t k => XS.iadd X30.here hx rfl (hb hby at_320) rfl k) ?_
            show own_Fin _ _ _ _ _ _ _ (T30.setTop (mkF m 321 #[iv p1, iv p2, iv p3, iv p4, iv p5, iv p6, iv u, iv fr, iv pr, iv n, rv b1, iv mm, iv W0, iv W1, iv W2, iv W3, iv W4, iv K0, iv K1, iv K2, iv K3, iv 2, rv b17, iv 0, rv r30] [(.int (2 : Int32)), (.int (2 : Int32))]))
            refine own_st (fun t k => XS.icmpYes X30.here hx rfl (pc0 := 321) (pc' := 326) rfl (hb hby at_321) rfl (teq (by decide : (2 : Int32) = (2 : Int32))).1 (by decide) (by decide) k) ?_
            refine own_st (fun t k => XS.iload X30.here hx rfl (hb hby at_326) rfl k) ?_
            show own_Fin _ _ _ _ _ _ _ (T30.setTop (mkF m 328 #[iv p1, iv p2, iv p3, iv p4, iv p5, iv p6, iv u, iv fr, iv pr, iv n, rv b1, iv mm, iv W0, iv W1, iv W2, iv W3, iv W4, iv K0, iv K1, iv K2, iv K3, iv 2, rv b17, iv 0, rv r30] [(.int pr)]))
            refine own_st (fun t k => XS.ifYes X30.here hx rfl (pc0 := 328) (pc' := 343) rfl (hb hby at_328) rfl ((if0 _ _).trans (teq hc276_19).1) (by decide) (by decide) k) ?_
            refine own_st (fun t k => XS.iload X30.here hx rfl (hb hby at_343) rfl k) ?_
            show own_Fin _ _ _ _ _ _ _ (T30.setTop (mkF m 345 #[iv p1, iv p2, iv p3, iv p4, iv p5, iv p6, iv u, iv fr, iv pr, iv n, rv b1, iv mm, iv W0, iv W1, iv W2, iv W3, iv W4, iv K0, iv K1, iv K2, iv K3, iv 2, rv b17, iv 0, rv r30] [(.int (2 : Int32))]))
            refine own_st (fun t k => XS.ifNo X30.here hx rfl (hb hby at_345) rfl ((if0 _ _).trans (tlt (by decide : (0 : Int32) < (2 : Int32))).2.2.2) k) ?_
            refine own_st (fun t k => XS.aload X30.here hx rfl (hb hby at_348) rfl rfl k) ?_
            refine own_st (fun t k => XS.iload X30.here hx rfl (hb hby at_350) rfl k) ?_
            show own_Fin _ _ _ _ _ _ _ (T30.setTop (mkF m 352 #[iv p1, iv p2, iv p3, iv p4, iv p5, iv p6, iv u, iv fr, iv pr, iv n, rv b1, iv mm, iv W0, iv W1, iv W2, iv W3, iv W4, iv K0, iv K1, iv K2, iv K3, iv 2, rv b17, iv 0, rv r30] [(.int (0 : Int32)), (.ref r30)]))
            obtain ⟨cl32, Ar32, Cq32, Sz32, Mn32, Hs32, Gf32⟩ := id oX30
            have hin32 := inb_of Sz32 (j := (0 : Int32)) ⟨by decide, by decide⟩
            refine own_st (X30.iaload hx (j := (0 : Int32)) (v := (.int K0)) Ar32.1 (State.isArrayOf_alike hZ.alike Ar32.2.1) Ar32.2.2 hin32 (Hs32.at hin32 rfl) (g := (mkF m 352 #[iv p1, iv p2, iv p3, iv p4, iv p5, iv p6, iv u, iv fr, iv pr, iv n, rv b1, iv mm, iv W0, iv W1, iv W2, iv W3, iv W4, iv K0, iv K1, iv K2, iv K3, iv 2, rv b17, iv 0, rv r30] [(.int (0 : Int32)), (.ref r30)])) rfl rfl (hb hby at_352)) ?_
            refine own_st (fun t k => XS.iload X30.here hx rfl (hb hby at_353) rfl k) ?_
            show own_Fin _ _ _ _ _ _ _ (T30.setTop (mkF m 355 #[iv p1, iv p2, iv p3, iv p4, iv p5, iv p6, iv u, iv fr, iv pr, iv n, rv b1, iv mm, iv W0, iv W1, iv W2, iv W3, iv W4, iv K0, iv K1, iv K2, iv K3, iv 2, rv b17, iv 0, rv r30] [(.int K0), (.int K0)]))
            refine own_st (fun t k => XS.icmpYes X30.here hx rfl (pc0 := 355) (pc' := 360) rfl (hb hby at_355) rfl (teq (rfl : K0 = K0)).1 (by decide) (by decide) k) ?_
            refine own_st (fun t k => XS.iload X30.here hx rfl (hb hby at_360) rfl k) ?_
            refine own_st (fun t k => XS.iconst X30.here hx rfl (hb hby at_362) k) ?_
            show own_Fin _ _ _ _ _ _ _ (T30.setTop (mkF m 363 #[iv p1, iv p2, iv p3, iv p4, iv p5, iv p6, iv u, iv fr, iv pr, iv n, rv b1, iv mm, iv W0, iv W1, iv W2, iv W3, iv W4, iv K0, iv K1, iv K2, iv K3, iv 2, rv b17, iv 0, rv r30] [(.int (1 : Int32)), (.int (2 : Int32))]))
            refine own_st (fun t k => XS.icmpNo X30.here hx rfl (hb hby at_363) rfl (tlt (by decide : (1 : Int32) < (2 : Int32))).2.2.2 k) ?_
            refine own_st (fun t k => XS.aload X30.here hx rfl (hb hby at_366) rfl rfl k) ?_
            refine own_st (fun t k => XS.iload X30.here hx rfl (hb hby at_368) rfl k) ?_
            show own_Fin _ _ _ _ _ _ _ (T30.setTop (mkF m 370 #[iv p1, iv p2, iv p3, iv p4, iv p5, iv p6, iv u, iv fr, iv pr, iv n, rv b1, iv mm, iv W0, iv W1, iv W2, iv W3, iv W4, iv K0, iv K1, iv K2, iv K3, iv 2, rv b17, iv 0, rv r30] [(.int (0 : Int32)), (.ref r30)]))
            refine own_st (fun t k => XS.iconst X30.here hx rfl (hb hby at_370) k) ?_
            refine own_st (fun t k => XS.iadd X30.here hx rfl (hb hby at_371) rfl k) ?_
            show own_Fin _ _ _ _ _ _ _ (T30.setTop (mkF m 372 #[iv p1, iv p2, iv p3, iv p4, iv p5, iv p6, iv u, iv fr, iv pr, iv n, rv b1, iv mm, iv W0, iv W1, iv W2, iv W3, iv W4, iv K0, iv K1, iv K2, iv K3, iv 2, rv b17, iv 0, rv r30] [(.int (1 : Int32)), (.ref r30)]))
            obtain ⟨cl33, Ar33, Cq33, Sz33, Mn33, Hs33, Gf33⟩ := id oX30
            have hin33 := inb_of Sz33 (j := (1 : Int32)) ⟨by decide, by decide⟩
            refine own_st (X30.iaload hx (j := (1 : Int32)) (v := (.int K1)) Ar33.1 (State.isArrayOf_alike hZ.alike Ar33.2.1) Ar33.2.2 hin33 (Hs33.at hin33 rfl) (g := (mkF m 372 #[iv p1, iv p2, iv p3, iv p4, iv p5, iv p6, iv u, iv fr, iv pr, iv n, rv b1, iv mm, iv W0, iv W1, iv W2, iv W3, iv W4, iv K0, iv K1, iv K2, iv K3, iv 2, rv b17, iv 0, rv r30] [(.int (1 : Int32)), (.ref r30)])) rfl rfl (hb hby at_372)) ?_
            refine own_st (fun t k => XS.iload X30.here hx rfl (hb hby at_373) rfl k) ?_
            show own_Fin _ _ _ _ _ _ _ (T30.setTop (mkF m 375 #[iv p1, iv p2, iv p3, iv p4, iv p5, iv p6, iv u, iv fr, iv pr, iv n, rv b1, iv mm, iv W0, iv W1, iv W2, iv W3, iv W4, iv K0, iv K1, iv K2, iv K3, iv 2, rv b17, iv 0, rv r30] [(.int K1), (.int K1)]))
            refine own_st (fun t k => XS.icmpYes X30.here hx rfl (pc0 := 375) (pc' := 380) rfl (hb hby at_375) rfl (teq (rfl : K1 = K1)).1 (by decide) (by decide) k) ?_
            refine own_st (fun t k => XS.iload X30.here hx rfl (hb hby at_380) rfl k) ?_
            refine own_st (fun t k => XS.iconst X30.here hx rfl (hb hby at_382) k) ?_
            show own_Fin _ _ _ _ _ _ _ (T30.setTop (mkF m 383 #[iv p1, iv p2, iv p3, iv p4, iv p5, iv p6, iv u, iv fr, iv pr, iv n, rv b1, iv mm, iv W0, iv W1, iv W2, iv W3, iv W4, iv K0, iv K1, iv K2, iv K3, iv 2, rv b17, iv 0, rv r30] [(.int (2 : Int32)), (.int (2 : Int32))]))
            refine own_st (fun t k => XS.icmpYes X30.here hx rfl (pc0 := 383) (pc' := 400) rfl (hb hby at_383) rfl (flt (by decide : ¬ ((2 : Int32) < (2 : Int32)))).2.2.2 (by decide) (by decide) k) ?_
            refine own_st (fun t k => XS.iload X30.here hx rfl (hb hby at_400) rfl k) ?_
            refine own_st (fun t k => XS.iconst X30.here hx rfl (hb hby at_402) k) ?_
            show own_Fin _ _ _ _ _ _ _ (T30.setTop (mkF m 403 #[iv p1, iv p2, iv p3, iv p4, iv p5, iv p6, iv u, iv fr, iv pr, iv n, rv b1, iv mm, iv W0, iv W1, iv W2, iv W3, iv W4, iv K0, iv K1, iv K2, iv K3, iv 2, rv b17, iv 0, rv r30] [(.int (3 : Int32)), (.int (2 : Int32))]))
            refine own_st (fun t k => XS.icmpYes X30.here hx rfl (pc0 := 403) (pc' := 420) rfl (hb hby at_403) rfl (flt (by decide : ¬ ((3 : Int32) < (2 : Int32)))).2.2.2 (by decide) (by decide) k) ?_
            refine own_st (fun t k => XS.iconst X30.here hx rfl (hb hby at_420) k) ?_
            show own_Fin _ _ _ _ _ _ _ (T30.setTop (mkF m 421 #[iv p1, iv p2, iv p3, iv p4, iv p5, iv p6, iv u, iv fr, iv pr, iv n, rv b1, iv mm, iv W0, iv W1, iv W2, iv W3, iv W4, iv K0, iv K1, iv K2, iv K3, iv 2, rv b17, iv 0, rv r30] [(.int (1 : Int32))]))
            exact own_retN X30 hx Bd.notSynchronized (t := .boolean) Bd.returns (by simp) (hb hby at_421) (by decide) (by decide) ⟨rfl, N30, trivial⟩
          · have xc34 : Fld Z T21.heap b17 "com/example/quietzone/quietzone/datamatrix/CodewordWriter" "count" "I" (.int (3 : Int32)) := by have q := oC21; rw [hks] at q; exact q
            have xv34 : Arv Z T21.heap t18 kt18 .int (8 : Int32) [(.int K0), (.int K1), (.int K2), (.int (0 : Int32)), (.int (0 : Int32)), (.int (0 : Int32)), (.int (0 : Int32)), (.int (0 : Int32))] (.int (0 : Int32)) := by have q := oV21; rw [hks] at q; exact q
            refine own_st (fun t k => XS.aload X21.here hx rfl (hb hby at_306) rfl rfl k) ?_
            show own_Fin _ _ _ _ _ _ _ (T21.setTop (mkF m 308 #[iv p1, iv p2, iv p3, iv p4, iv p5, iv p6, iv u, iv fr, iv pr, iv n, rv b1, iv mm, iv W0, iv W1, iv W2, iv W3, iv W4, iv K0, iv K1, iv K2, iv K3, iv 3, rv b17, iv 0, .unset] [(.ref b17)]))
            obtain ⟨cq35, kq35, qa35, qb35, qc35⟩ := isOf hZ rfl oE21
            obtain ⟨_, _, ⟨T35, L35, k35, n35⟩, -, X35, ⟨Lc35, hQ35, l35, y35, z35⟩, st35⟩ := X21.virtualBack hx (y := (⟨"com/example/quietzone/quietzone/datamatrix/CodewordWriter", "codewords", "()[I"⟩ : MethodName)) (z := (⟨"com/example/quietzone/quietzone/datamatrix/CodewordWriter", "codewords", "()[I"⟩ : MethodName)) hown (mvT hZ (hw _ (List.mem_of_getElem? (i := 31) rfl))) (mvT hZ (hw _ (List.mem_of_getElem? (i := 32) rfl))) (notFace_of_selects (args := #[]) (mvT hZ (hw _ (List.mem_of_getElem? (i := 34) rfl)))) (mvT hZ (hw _ (List.mem_of_getElem? (i := 34) rfl))) (mvT hZ (hw _ (List.mem_of_getElem? (i := 33) rfl))) (by decide) (backOf (W := 0) (rm6 l Z a0 hw [] b17 t18 kt18 [(.int K0), (.int K1), (.int K2), (.int (0 : Int32)), (.int (0 : Int32)), (.int (0 : Int32)), (.int (0 : Int32)), (.int (0 : Int32))] (3 : Int32) T21.heap n0 Z21 oW21 xc34 xv34 (by decide) (by decide) (by decide) (by decide) (by decide)) hZ (hw _ (List.mem_of_getElem? (i := 35) rfl)) (hw _ (List.mem_of_getElem? (i := 11) rfl)) (by decide) (by decide)) qa35 qc35 (g := (mkF m 308 #[iv p1, iv p2, iv p3, iv p4, iv p5, iv p6, iv u, iv fr, iv pr, iv n, rv b1, iv mm, iv W0, iv W1, iv W2, iv W3, iv W4, iv K0, iv K1, iv K2, iv K3, iv 3, rv b17, iv 0, .unset] [(.ref b17)])) rfl (by rw [hml]; rfl) (Steps.refl _) (argsL := []) (rest := []) (lenOf pd_0_4 rfl) rfl (by show 2 * 0 + _ ≤ _; exact Nat.le_of_eq rfl) (hb hby at_308) (fun _ _ => ⟨rfl, rfl, (by decide : 5 + 1 ≤ _), (by decide : 28 + 8 ≤ _)⟩)
            dsimp only [Pt.U, Pt.locs, Pt.cells, Pt.slots] at X35 l35 y35 z35 st35 hQ35
            subst l35 y35 z35
            obtain ⟨r35, kr35, rfl, N35q, K35, gr35, gs35, oV35⟩ := hQ35
            have N35 := Fr.app N21 N35q
            have f35_0 := f21_0.keep K35 nin0
            have f35_1 := oE21.keep K35
            have f35_2 := oW21.keep K35 nin0
            have f35_3 := xc34.keep K35 nin0
            have f35_4 := xv34.keep K35 nin0
            have Z35 : n0 ≤ T35.heap.size := Nat.le_trans Z21 K35.1
            refine own_st (fun t k => st35.trans k) ?_
            show own_Fin _ _ _ _ _ _ _ (T35.setTop (mkF m 311 #[iv p1, iv p2, iv p3, iv p4, iv p5, iv p6, iv u, iv fr, iv pr, iv n, rv b1, iv mm, iv W0, iv W1, iv W2, iv W3, iv W4, iv K0, iv K1, iv K2, iv K3, iv 3, rv b17, iv 0, .unset] [(.ref r35)]))
            have oX35 : Arv Z T35.heap r35 kr35 .int (3 : Int32) [(.int K0), (.int K1), (.int K2)] (.int (0 : Int32)) := oV35
            refine own_st (fun t k => XS.astore X35.here hx rfl (hb hby at_311) rfl rfl (l' := #[iv p1, iv p2, iv p3, iv p4, iv p5, iv p6, iv u, iv fr, iv pr, iv n, rv b1, iv mm, iv W0, iv W1, iv W2, iv W3, iv W4, iv K0, iv K1, iv K2, iv K3, iv 3, rv b17, iv 0, rv r35]) rfl k) ?_
            refine own_st (fun t k => XS.aload X35.here hx rfl (hb hby at_313) rfl rfl k) ?_
            show own_Fin _ _ _ _ _ _ _ (T35.setTop (mkF m 315 #[iv p1, iv p2, iv p3, iv p4, iv p5, iv p6, iv u, iv fr, iv pr, iv n, rv b1, iv mm, iv W0, iv W1, iv W2, iv W3, iv W4, iv K0, iv K1, iv K2, iv K3, iv 3, rv b17, iv 0, rv r35] [(.ref r35)]))
            obtain ⟨cl36, Ar36, Cq36, Sz36, Mn36, Hs36, Gf36⟩ := id oX35
            refine own_st (X35.arraylength hx Ar36.1 (State.isArrayOf_alike hZ.alike Ar36.2.1) (g := (mkF m 315 #[iv p1, iv p2, iv p3, iv p4, iv p5, iv p6, iv u, iv fr, iv pr, iv n, rv b1, iv mm, iv W0, iv W1, iv W2, iv W3, iv W4, iv K0, iv K1, iv K2, iv K3, iv 3, rv b17, iv 0, rv r35] [(.ref r35)])) rfl rfl (hb hby at_315)) ?_
            rw [len_of Sz36 Mn36]
            refine own_st (fun t k => XS.iload X35.here hx rfl (hb hby at_316) rfl k) ?_
            refine own_st (fun t k => XS.iload X35.here hx rfl (hb hby at_318) rfl k) ?_
            show own_Fin _ _ _ _ _ _ _ (T35.setTop (mkF m 320 #[iv p1, iv p2, iv p3, iv p4, iv p5, iv p6, iv u, iv fr, iv pr, iv n, rv b1, iv mm, iv W0, iv W1, iv W2, iv W3, iv W4, iv K0, iv K1, iv K2, iv K3, iv 3, rv b17, iv 0, rv r35] [(.int (3 : Int32)), (.int (0 : Int32)), (.int (3 : Int32))]))
            refine own_st (fun t k => XS.iadd X35.here hx rfl (hb hby at_320) rfl k) ?_
            show own_Fin _ _ _ _ _ _ _ (T35.setTop (mkF m 321 #[iv p1, iv p2, iv p3, iv p4, iv p5, iv p6, iv u, iv fr, iv pr, iv n, rv b1, iv mm, iv W0, iv W1, iv W2, iv W3, iv W4, iv K0, iv K1, iv K2, iv K3, iv 3, rv b17, iv 0, rv r35] [(.int (3 : Int32)), (.int (3 : Int32))]))
            refine own_st (fun t k => XS.icmpYes X35.here hx rfl (pc0 := 321) (pc' := 326) rfl (hb hby at_321) rfl (teq (by decide : (3 : Int32) = (3 : Int32))).1 (by decide) (by decide) k) ?_
            refine own_st (fun t k => XS.iload X35.here hx rfl (hb hby at_326) rfl k) ?_
            show own_Fin _ _ _ _ _ _ _ (T35.setTop (mkF m 328 #[iv p1, iv p2, iv p3, iv p4, iv p5, iv p6, iv u, iv fr, iv pr, iv n, rv b1, iv mm, iv W0, iv W1, iv W2, iv W3, iv W4, iv K0, iv K1, iv K2, iv K3, iv 3, rv b17, iv 0, rv r35] [(.int pr)]))
            refine own_st (fun t k => XS.ifYes X35.here hx rfl (pc0 := 328) (pc' := 343) rfl (hb hby at_328) rfl ((if0 _ _).trans (teq hc276_19).1) (by decide) (by decide) k) ?_
            refine own_st (fun t k => XS.iload X35.here hx rfl (hb hby at_343) rfl k) ?_
            show own_Fin _ _ _ _ _ _ _ (T35.setTop (mkF m 345 #[iv p1, iv p2, iv p3, iv p4, iv p5, iv p6, iv u, iv fr, iv pr, iv n, rv b1, iv mm, iv W0, iv W1, iv W2, iv W3, iv W4, iv K0, iv K1, iv K2, iv K3, iv 3, rv b17, iv 0, rv r35] [(.int (3 : Int32))]))
            refine own_st (fun t k => XS.ifNo X35.here hx rfl (hb hby at_345) rfl ((if0 _ _).trans (tlt (by decide : (0 : Int32) < (3 : Int32))).2.2.2) k) ?_
            refine own_st (fun t k => XS.aload X35.here hx rfl (hb hby at_348) rfl rfl k) ?_
            refine own_st (fun t k => XS.iload X35.here hx rfl (hb hby at_350) rfl k) ?_
            show own_Fin _ _ _ _ _ _ _ (T35.setTop (mkF m 352 #[iv p1, iv p2, iv p3, iv p4, iv p5, iv p6, iv u, iv fr, iv pr, iv n, rv b1, iv mm, iv W0, iv W1, iv W2, iv W3, iv W4, iv K0, iv K1, iv K2, iv K3, iv 3, rv b17, iv 0, rv r35] [(.int (0 : Int32)), (.ref r35)]))
            obtain ⟨cl37, Ar37, Cq37, Sz37, Mn37, Hs37, Gf37⟩ := id oX35
            have hin37 := inb_of Sz37 (j := (0 : Int32)) ⟨by decide, by decide⟩
            refine own_st (X35.iaload hx (j := (0 : Int32)) (v := (.int K0)) Ar37.1 (State.isArrayOf_alike hZ.alike Ar37.2.1) Ar37.2.2 hin37 (Hs37.at hin37 rfl) (g := (mkF m 352 #[iv p1, iv p2, iv p3, iv p4, iv p5, iv p6, iv u, iv fr, iv pr, iv n, rv b1, iv mm, iv W0, iv W1, iv W2, iv W3, iv W4, iv K0, iv K1, iv K2, iv K3, iv 3, rv b17, iv 0, rv r35] [(.int (0 : Int32)), (.ref r35)])) rfl rfl (hb hby at_352)) ?_
            refine own_st (fun t k => XS.iload X35.here hx rfl (hb hby at_353) rfl k) ?_
            show own_Fin _ _ _ _ _ _ _ (T35.setTop (mkF m 355 #[iv p1, iv p2, iv p3, iv p4, iv p5, iv p6, iv u, iv fr, iv pr, iv n, rv b1, iv mm, iv W0, iv W1, iv W2, iv W3, iv W4, iv K0, iv K1, iv K2, iv K3, iv 3, rv b17, iv 0, rv r35] [(.int K0), (.int K0)]))
            refine own_st (fun t k => XS.icmpYes X35.here hx rfl (pc0 := 355) (pc' := 360) rfl (hb hby at_355) rfl (teq (rfl : K0 = K0)).1 (by decide) (by decide) k) ?_
            refine own_st (fun t k => XS.iload X35.here hx rfl (hb hby at_360) rfl k) ?_
            refine own_st (fun t k => XS.iconst X35.here hx rfl (hb hby at_362) k) ?_
            show own_Fin _ _ _ _ _ _ _ (T35.setTop (mkF m 363 #[iv p1, iv p2, iv p3, iv p4, iv p5, iv p6, iv u, iv fr, iv pr, iv n, rv b1, iv mm, iv W0, iv W1, iv W2, iv W3, iv W4, iv K0, iv K1, iv K2, iv K3, iv 3, rv b17, iv 0, rv r35] [(.int (1 : Int32)), (.int (3 : Int32))]))
            refine own_st (fun t k => XS.icmpNo X35.here hx rfl (hb hby at_363) rfl (tlt (by decide : (1 : Int32) < (3 : Int32))).2.2.2 k) ?_
            refine own_st (fun t k => XS.aload X35.here hx rfl (hb hby at_366) rfl rfl k) ?_
            refine own_st (fun t k => XS.iload X35.here hx rfl (hb hby at_368) rfl k) ?_
            show own_Fin _ _ _ _ _ _ _ (T35.setTop (mkF m 370 #[iv p1, iv p2, iv p3, iv p4, iv p5, iv p6, iv u, iv fr, iv pr, iv n, rv b1, iv mm, iv W0, iv W1, iv W2, iv W3, iv W4, iv K0, iv K1, iv K2, iv K3, iv 3, rv b17, iv 0, rv r35] [(.int (0 : Int32)), (.ref r35)]))
            refine own_st (fun t k => XS.iconst X35.here hx rfl (hb hby at_370) k) ?_
            refine own_st (fun t k => XS.iadd X35.here hx rfl (hb hby at_371) rfl k) ?_
            show own_Fin _ _ _ _ _ _ _ (T35.setTop (mkF m 372 #[iv p1, iv p2, iv p3, iv p4, iv p5, iv p6, iv u, iv fr, iv pr, iv n, rv b1, iv mm, iv W0, iv W1, iv W2, iv W3, iv W4, iv K0, iv K1, iv K2, iv K3, iv 3, rv b17, iv 0, rv r35] [(.int (1 : Int32)), (.ref r35)]))
            obtain ⟨cl38, Ar38, Cq38, Sz38, Mn38, Hs38, Gf38⟩ := id oX35
            have hin38 := inb_of Sz38 (j := (1 : Int32)) ⟨by decide, by decide⟩
            refine own_st (X35.iaload hx (j := (1 : Int32)) (v := (.int K1)) Ar38.1 (State.isArrayOf_alike hZ.alike Ar38.2.1) Ar38.2.2 hin38 (Hs38.at hin38 rfl) (g := (mkF m 372 #[iv p1, iv p2, iv p3, iv p4, iv p5, iv p6, iv u, iv fr, iv pr, iv n, rv b1, iv mm, iv W0, iv W1, iv W2, iv W3, iv W4, iv K0, iv K1, iv K2, iv K3, iv 3, rv b17, iv 0, rv r35] [(.int (1 : Int32)), (.ref r35)])) rfl rfl (hb hby at_372)) ?_
            refine own_st (fun t k => XS.iload X35.here hx rfl (hb hby at_373) rfl k) ?_
            show own_Fin _ _ _ _ _ _ _ (T35.setTop (mkF m 375 #[iv p1, iv p2, iv p3, iv p4, iv p5, iv p6, iv u, iv fr, iv pr, iv n, rv b1, iv mm, iv W0, iv W1, iv W2, iv W3, iv W4, iv K0, iv K1, iv K2, iv K3, iv 3, rv b17, iv 0, rv r35] [(.int K1), (.int K1)]))
            refine own_st (fun t k => XS.icmpYes X35.here hx rfl (pc0 := 375) (pc' := 380) rfl (hb hby at_375) rfl (teq (rfl : K1 = K1)).1 (by decide) (by decide) k) ?_
            refine own_st (fun t k => XS.iload X35.here hx rfl (hb hby at_380) rfl k) ?_
            refine own_st (fun t k => XS.iconst X35.here hx rfl (hb hby at_382) k) ?_
            show own_Fin _ _ _ _ _ _ _ (T35.setTop (mkF m 383 #[iv p1, iv p2, iv p3, iv p4, iv p5, iv p6, iv u, iv fr, iv pr, iv n, rv b1, iv mm, iv W0, iv W1, iv W2, iv W3, iv W4, iv K0, iv K1, iv K2, iv K3, iv 3, rv b17, iv 0, rv r35] [(.int (2 : Int32)), (.int (3 : Int32))]))
            refine own_st (fun t k => XS.icmpNo X35.here hx rfl (hb hby at_383) rfl (tlt (by decide : (2 : Int32) < (3 : Int32))).2.2.2 k) ?_
            refine own_st (fun t k => XS.aload X35.here hx rfl (hb hby at_386) rfl rfl k) ?_
            refine own_st (fun t k => XS.iload X35.here hx rfl (hb hby at_388) rfl k) ?_
            show own_Fin _ _ _ _ _ _ _ (T35.setTop (mkF m 390 #[iv p1, iv p2, iv p3, iv p4, iv p5, iv p6, iv u, iv fr, iv pr, iv n, rv b1, iv mm, iv W0, iv W1, iv W2, iv W3, iv W4, iv K0, iv K1, iv K2, iv K3, iv 3, rv b17, iv 0, rv r35] [(.int (0 : Int32)), (.ref r35)]))
            refine own_st (fun t k => XS.iconst X35.here hx rfl (hb hby at_390) k) ?_
            refine own_st (fun t k => XS.iadd X35.here hx rfl (hb hby at_391) rfl k) ?_
            show own_Fin _ _ _ _ _ _ _ (T35.setTop (mkF m 392 #[iv p1, iv p2, iv p3, iv p4, iv p5, iv p6, iv u, iv fr, iv pr, iv n, rv b1, iv mm, iv W0, iv W1, iv W2, iv W3, iv W4, iv K0, iv K1, iv K2, iv K3, iv 3, rv b17, iv 0, rv r35] [(.int (2 : Int32)), (.ref r35)]))
            obtain ⟨cl39, Ar39, Cq39, Sz39, Mn39, Hs39, Gf39⟩ := id oX35
            have hin39 := inb_of Sz39 (j := (2 : Int32)) ⟨by decide, by decide⟩
            refine own_st (X35.iaload hx (j := (2 : Int32)) (v := (.int K2)) Ar39.1 (State.isArrayOf_alike hZ.alike Ar39.2.1) Ar39.2.2 hin39 (Hs39.at hin39 rfl) (g := (mkF m 392 #[iv p1, iv p2, iv p3, iv p4, iv p5, iv p6, iv u, iv fr, iv pr, iv n, rv b1, iv mm, iv W0, iv W1, iv W2, iv W3, iv W4, iv K0, iv K1, iv K2, iv K3, iv 3, rv b17, iv 0, rv r35] [(.int (2 : Int32)), (.ref r35)])) rfl rfl (hb hby at_392)) ?_
            refine own_st (fun t k => XS.iload X35.here hx rfl (hb hby at_393) rfl k) ?_
            show own_Fin _ _ _ _ _ _ _ (T35.setTop (mkF m 395 #[iv p1, iv p2, iv p3, iv p4, iv p5, iv p6, iv u, iv fr, iv pr, iv n, rv b1, iv mm, iv W0, iv W1, iv W2, iv W3, iv W4, iv K0, iv K1, iv K2, iv K3, iv 3, rv b17, iv 0, rv r35] [(.int K2), (.int K2)]))
            refine own_st (fun t k => XS.icmpYes X35.here hx rfl (pc0 := 395) (pc' := 400) rfl (hb hby at_395) rfl (teq (rfl : K2 = K2)).1 (by decide) (by decide) k) ?_
            refine own_st (fun t k => XS.iload X35.here hx rfl (hb hby at_400) rfl k) ?_
            refine own_st (fun t k => XS.iconst X35.here hx rfl (hb hby at_402) k) ?_
            show own_Fin _ _ _ _ _ _ _ (T35.setTop (mkF m 403 #[iv p1, iv p2, iv p3, iv p4, iv p5, iv p6, iv u, iv fr, iv pr, iv n, rv b1, iv mm, iv W0, iv W1, iv W2, iv W3, iv W4, iv K0, iv K1, iv K2, iv K3, iv 3, rv b17, iv 0, rv r35] [(.int (3 : Int32)), (.int (3 : Int32))]))
            refine own_st (fun t k => XS.icmpYes X35.here hx rfl (pc0 := 403) (pc' := 420) rfl (hb hby at_403) rfl (flt (by decide : ¬ ((3 : Int32) < (3 : Int32)))).2.2.2 (by decide) (by decide) k) ?_
            refine own_st (fun t k => XS.iconst X35.here hx rfl (hb hby at_420) k) ?_
            show own_Fin _ _ _ _ _ _ _ (T35.setTop (mkF m 421 #[iv p1, iv p2, iv p3, iv p4, iv p5, iv p6, iv u, iv fr, iv pr, iv n, rv b1, iv mm, iv W0, iv W1, iv W2, iv W3, iv W4, iv K0, iv K1, iv K2, iv K3, iv 3, rv b17, iv 0, rv r35] [(.int (1 : Int32))]))
            exact own_retN X35 hx Bd.notSynchronized (t := .boolean) Bd.returns (by simp) (hb hby at_421) (by decide) (by decide) ⟨rfl, N35, trivial⟩
          · have xc40 : Fld Z T21.heap b17 "com/example/quietzone/quietzone/datamatrix/CodewordWriter" "count" "I" (.int (4 : Int32)) := by have q := oC21; rw [hks] at q; exact q
            have xv40 : Arv Z T21.heap t18 kt18 .int (8 : Int32) [(.int K0), (.int K1), (.int K2), (.int K3), (.int (0 : Int32)), (.int (0 : Int32)), (.int (0 : Int32)), (.int (0 : Int32))] (.int (0 : Int32)) := by have q := oV21; rw [hks] at q; exact q
            refine own_st (fun t k => XS.aload X21.here hx rfl (hb hby at_306) rfl rfl k) ?_
            show own_Fin _ _ _ _ _ _ _ (T21.setTop (mkF m 308 #[iv p1, iv p2, iv p3, iv p4, iv p5, iv p6, iv u, iv fr, iv pr, iv n, rv b1, iv mm, iv W0, iv W1, iv W2, iv W3, iv W4, iv K0, iv K1, iv K2, iv K3, iv 4, rv b17, iv 0, .unset] [(.ref b17)]))
            obtain ⟨cq41, kq41, qa41, qb41, qc41⟩ := isOf hZ rfl oE21
            obtain ⟨_, _, ⟨T41, L41, k41, n41⟩, -, X41, ⟨Lc41, hQ41, l41, y41, z41⟩, st41⟩ := X21.virtualBack hx (y := (⟨"com/example/quietzone/quietzone/datamatrix/CodewordWriter", "codewords", "()[I"⟩ : MethodName)) (z := (⟨"com/example/quietzone/quietzone/datamatrix/CodewordWriter", "codewords", "()[I"⟩ : MethodName)) hown (mvT hZ (hw _ (List.mem_of_getElem? (i := 31) rfl))) (mvT hZ (hw _ (List.mem_of_getElem? (i := 32) rfl))) (notFace_of_selects (args := #[]) (mvT hZ (hw _ (List.mem_of_getElem? (i := 34) rfl)))) (mvT hZ (hw _ (List.mem_of_getElem? (i := 34) rfl))) (mvT hZ (hw _ (List.mem_of_getElem? (i := 33) rfl))) (by decide) (backOf (W := 0) (rm6 l Z a0 hw [] b17 t18 kt18 [(.int K0), (.int K1), (.int K2), (.int K3), (.int (0 : Int32)), (.int (0 : Int32)), (.int (0 : Int32)), (.int (0 : Int32))] (4 : Int32) T21.heap n0 Z21 oW21 xc40 xv40 (by decide) (by decide) (by decide) (by decide) (by decide)) hZ (hw _ (List.mem_of_getElem? (i := 35) rfl)) (hw _ (List.mem_of_getElem? (i := 11) rfl)) (by decide) (by decide)) qa41 qc41 (g := (mkF m 308 #[iv p1, iv p2, iv p3, iv p4, iv p5, iv p6, iv u, iv fr, iv pr, iv n, rv b1, iv mm, iv W0, iv W1, iv W2, iv W3, iv W4, iv K0, iv K1, iv K2, iv K3, iv 4, rv b17, iv 0, .unset] [(.ref b17)])) rfl (by rw [hml]; rfl) (Steps.refl _) (argsL := []) (rest := []) (lenOf pd_0_4 rfl) rfl (by show 2 * 0 + _ ≤ _; exact Nat.le_of_eq rfl) (hb hby at_308) (fun _ _ => ⟨rfl, rfl, (by decide : 5 + 1 ≤ _), (by decide : 28 + 8 ≤ _)⟩)
            dsimp only [Pt.U, Pt.locs, Pt.cells, Pt.slots] at X41 l41 y41 z41 st41 hQ41
            subst l41 y41 z41
            obtain ⟨r41, kr41, rfl, N41q, K41, gr41, gs41, oV41⟩ := hQ41
            have N41 := Fr.app N21 N41q
            have f41_0 := f21_0.keep K41 nin0
            have f41_1 := oE21.keep K41
            have f41_2 := oW21.keep K41 nin0
            have f41_3 := xc40.keep K41 nin0
            have f41_4 := xv40.keep K41 nin0
            have Z41 : n0 ≤ T41.heap.size := Nat.le_trans Z21 K41.1
            refine own_st (fun t k => st41.trans k) ?_
            show own_Fin _ _ _ _ _ _ _ (T41.setTop (mkF m 311 #[iv p1, iv p2, iv p3, iv p4, iv p5, iv p6, iv u, iv fr, iv pr, iv n, rv b1, iv mm, iv W0, iv W1, iv W2, iv W3, iv W4, iv K0, iv K1, iv K2, iv K3, iv 4, rv b17, iv 0, .unset] [(.ref r41)]))
            have oX41 : Arv Z T41.heap r41 kr41 .int (4 : Int32) [(.int K0), (.int K1), (.int K2), (.int K3)] (.int (0 : Int32)) := oV41
            refine own_st (fun t k => XS.astore X41.here hx rfl (hb hby at_311) rfl rfl (l' := #[iv p1, iv p2, iv p3, iv p4, iv p5, iv p6, iv u, iv fr, iv pr, iv n, rv b1, iv mm, iv W0, iv W1, iv W2, iv W3, iv W4, iv K0, iv K1, iv K2, iv K3, iv 4, rv b17, iv 0, rv r41]) rfl k) ?_
            refine own_st (fun t k => XS.aload X41.here hx rfl (hb hby at_313) rfl rfl k) ?_
            show own_Fin _ _ _ _ _ _ _ (T41.setTop (mkF m 315 #[iv p1, iv p2, iv p3, iv p4, iv p5, iv p6, iv u, iv fr, iv pr, iv n, rv b1, iv mm, iv W0, iv W1, iv W2, iv W3, iv W4, iv K0, iv K1, iv K2, iv K3, iv 4, rv b17, iv 0, rv r41] [(.ref r41)]))
            obtain ⟨cl42, Ar42, Cq42, Sz42, Mn42, Hs42, Gf42⟩ := id oX41
            refine own_st (X41.arraylength hx Ar42.1 (State.isArrayOf_alike hZ.alike Ar42.2.1) (g := (mkF m 315 #[iv p1, iv p2, iv p3, iv p4, iv p5, iv p6, iv u, iv fr, iv pr, iv n, rv b1, iv mm, iv W0, iv W1, iv W2, iv W3, iv W4, iv K0, iv K1, iv K2, iv K3, iv 4, rv b17, iv 0, rv r41] [(.ref r41)])) rfl rfl (hb hby at_315)) ?_
            rw [len_of Sz42 Mn42]
            refine own_st (fun t k => XS.iload X41.here hx rfl (hb hby at_316) rfl k) ?_
            refine own_st (fun t k => XS.iload X41.here hx rfl (hb hby at_318) rfl k) ?_
            show own_Fin _ _ _ _ _ _ _ (T41.setTop (mkF m 320 #[iv p1, iv p2, iv p3, iv p4, iv p5, iv p6, iv u, iv fr, iv pr, iv n, rv b1, iv mm, iv W0, iv W1, iv W2, iv W3, iv W4, iv K0, iv K1, iv K2, iv K3, iv 4, rv b17, iv 0, rv r41] [(.int (4 : Int32)), (.int (0 : Int32)), (.int (4 : Int32))]))
            refine own_st (fun t k => XS.iadd X41.here hx rfl (hb hby at_320) rfl k) ?_
            show own_Fin _ _ _ _ _ _ _ (T41.setTop (mkF m 321 #[iv p1, iv p2, iv p3, iv p4, iv p5, iv p6, iv u, iv fr, iv pr, iv n, rv b1, iv mm, iv W0, iv W1, iv W2, iv W3, iv W4, iv K0, iv K1, iv K2, iv K3, iv 4, rv b17, iv 0, rv r41] [(.int (4 : Int32)), (.int (4 : Int32))]))
            refine own_st (fun t k => XS.icmpYes X41.here hx rfl (pc0 := 321) (pc' := 326) rfl (hb hby at_321) rfl (teq (by decide : (4 : Int32) = (4 : Int32))).1 (by decide) (by decide) k) ?_
            refine own_st (fun t k => XS.iload X41.here hx rfl (hb hby at_326) rfl k) ?_
            show own_Fin _ _ _ _ _ _ _ (T41.setTop (mkF m 328 #[iv p1, iv p2, iv p3, iv p4, iv p5, iv p6, iv u, iv fr, iv pr, iv n, rv b1, iv mm, iv W0, iv W1, iv W2, iv W3, iv W4, iv K0, iv K1, iv K2, iv K3, iv 4, rv b17, iv 0, rv r41] [(.int pr)]))
            refine own_st (fun t k => XS.ifYes X41.here hx rfl (pc0 := 328) (pc' := 343) rfl (hb hby at_328) rfl ((if0 _ _).trans (teq hc276_19).1) (by decide) (by decide) k) ?_
            refine own_st (fun t k => XS.iload X41.here hx rfl (hb hby at_343) rfl k) ?_
            show own_Fin _ _ _ _ _ _ _ (T41.setTop (mkF m 345 #[iv p1, iv p2, iv p3, iv p4, iv p5, iv p6, iv u, iv fr, iv pr, iv n, rv b1, iv mm, iv W0, iv W1, iv W2, iv W3, iv W4, iv K0, iv K1, iv K2, iv K3, iv 4, rv b17, iv 0, rv r41] [(.int (4 : Int32))]))
            refine own_st (fun t k => XS.ifNo X41.here hx rfl (hb hby at_345) rfl ((if0 _ _).trans (tlt (by decide : (0 : Int32) < (4 : Int32))).2.2.2) k) ?_
            refine own_st (fun t k => XS.aload X41.here hx rfl (hb hby at_348) rfl rfl k) ?_
            refine own_st (fun t k => XS.iload X41.here hx rfl (hb hby at_350) rfl k) ?_
            show own_Fin _ _ _ _ _ _ _ (T41.setTop (mkF m 352 #[iv p1, iv p2, iv p3, iv p4, iv p5, iv p6, iv u, iv fr, iv pr, iv n, rv b1, iv mm, iv W0, iv W1, iv W2, iv W3, iv W4, iv K0, iv K1, iv K2, iv K3, iv 4, rv b17, iv 0, rv r41] [(.int (0 : Int32)), (.ref r41)]))
            obtain ⟨cl43, Ar43, Cq43, Sz43, Mn43, Hs43, Gf43⟩ := id oX41
            have hin43 := inb_of Sz43 (j := (0 : Int32)) ⟨by decide, by decide⟩
            refine own_st (X41.iaload hx (j := (0 : Int32)) (v := (.int K0)) Ar43.1 (State.isArrayOf_alike hZ.alike Ar43.2.1) Ar43.2.2 hin43 (Hs43.at hin43 rfl) (g := (mkF m 352 #[iv p1, iv p2, iv p3, iv p4, iv p5, iv p6, iv u, iv fr, iv pr, iv n, rv b1, iv mm, iv W0, iv W1, iv W2, iv W3, iv W4, iv K0, iv K1, iv K2, iv K3, iv 4, rv b17, iv 0, rv r41] [(.int (0 : Int32)), (.ref r41)])) rfl rfl (hb hby at_352)) ?_
            refine own_st (fun t k => XS.iload X41.here hx rfl (hb hby at_353) rfl k) ?_
            show own_Fin _ _ _ _ _ _ _ (T41.setTop (mkF m 355 #[iv p1, iv p2, iv p3, iv p4, iv p5, iv p6, iv u, iv fr, iv pr, iv n, rv b1, iv mm, iv W0, iv W1, iv W2, iv W3, iv W4, iv K0, iv K1, iv K2, iv K3, iv 4, rv b17, iv 0, rv r41] [(.int K0), (.int K0)]))
            refine own_st (fun t k => XS.icmpYes X41.here hx rfl (pc0 := 355) (pc' := 360) rfl (hb hby at_355) rfl (teq (rfl : K0 = K0)).1 (by decide) (by decide) k) ?_
            refine own_st (fun t k => XS.iload X41.here hx rfl (hb hby at_360) rfl k) ?_
            refine own_st (fun t k => XS.iconst X41.here hx rfl (hb hby at_362) k) ?_
            show own_Fin _ _ _ _ _ _ _ (T41.setTop (mkF m 363 #[iv p1, iv p2, iv p3, iv p4, iv p5, iv p6, iv u, iv fr, iv pr, iv n, rv b1, iv mm, iv W0, iv W1, iv W2, iv W3, iv W4, iv K0, iv K1, iv K2, iv K3, iv 4, rv b17, iv 0, rv r41] [(.int (1 : Int32)), (.int (4 : Int32))]))
            refine own_st (fun t k => XS.icmpNo X41.here hx rfl (hb hby at_363) rfl (tlt (by decide : (1 : Int32) < (4 : Int32))).2.2.2 k) ?_
            refine own_st (fun t k => XS.aload X41.here hx rfl (hb hby at_366) rfl rfl k) ?_
            refine own_st (fun t k => XS.iload X41.here hx rfl (hb hby at_368) rfl k) ?_
            show own_Fin _ _ _ _ _ _ _ (T41.setTop (mkF m 370 #[iv p1, iv p2, iv p3, iv p4, iv p5, iv p6, iv u, iv fr, iv pr, iv n, rv b1, iv mm, iv W0, iv W1, iv W2, iv W3, iv W4, iv K0, iv K1, iv K2, iv K3, iv 4, rv b17, iv 0, rv r41] [(.int (0 : Int32)), (.ref r41)]))
            refine own_st (fun t k => XS.iconst X41.here hx rfl (hb hby at_370) k) ?_
            refine own_st (fun t k => XS.iadd X41.here hx rfl (hb hby at_371) rfl k) ?_
            show own_Fin _ _ _ _ _ _ _ (T41.setTop (mkF m 372 #[iv p1, iv p2, iv p3, iv p4, iv p5, iv p6, iv u, iv fr, iv pr, iv n, rv b1, iv mm, iv W0, iv W1, iv W2, iv W3, iv W4, iv K0, iv K1, iv K2, iv K3, iv 4, rv b17, iv 0, rv r41] [(.int (1 : Int32)), (.ref r41)]))
            obtain ⟨cl44, Ar44, Cq44, Sz44, Mn44, Hs44, Gf44⟩ := id oX41
            have hin44 := inb_of Sz44 (j := (1 : Int32)) ⟨by decide, by decide⟩
            refine own_st (X41.iaload hx (j := (1 : Int32)) (v := (.int K1)) Ar44.1 (State.isArrayOf_alike hZ.alike Ar44.2.1) Ar44.2.2 hin44 (Hs44.at hin44 rfl) (g := (mkF m 372 #[iv p1, iv p2, iv p3, iv p4, iv p5, iv p6, iv u, iv fr, iv pr, iv n, rv b1, iv mm, iv W0, iv W1, iv W2, iv W3, iv W4, iv K0, iv K1, iv K2, iv K3, iv 4, rv b17, iv 0, rv r41] [(.int (1 : Int32)), (.ref r41)])) rfl rfl (hb hby at_372)) ?_
            refine own_st (fun t k => XS.iload X41.here hx rfl (hb hby at_373) rfl k) ?_
            show own_Fin _ _ _ _ _ _ _ (T41.setTop (mkF m 375 #[iv p1, iv p2, iv p3, iv p4, iv p5, iv p6, iv u, iv fr, iv pr, iv n, rv b1, iv mm, iv W0, iv W1, iv W2, iv W3, iv W4, iv K0, iv K1, iv K2, iv K3, iv 4, rv b17, iv 0, rv r41] [(.int K1), (.int K1)]))
            refine own_st (fun t k => XS.icmpYes X41.here hx rfl (pc0 := 375) (pc' := 380) rfl (hb hby at_375) rfl (teq (rfl : K1 = K1)).1 (by decide) (by decide) k) ?_
            refine own_st (fun t k => XS.iload X41.here hx rfl (hb hby at_380) rfl k) ?_
            refine own_st (fun t k => XS.iconst X41.here hx rfl (hb hby at_382) k) ?_
            show own_Fin _ _ _ _ _ _ _ (T41.setTop (mkF m 383 #[iv p1, iv p2, iv p3, iv p4, iv p5, iv p6, iv u, iv fr, iv pr, iv n, rv b1, iv mm, iv W0, iv W1, iv W2, iv W3, iv W4, iv K0, iv K1, iv K2, iv K3, iv 4, rv b17, iv 0, rv r41] [(.int (2 : Int32)), (.int (4 : Int32))]))
            refine own_st (fun t k => XS.icmpNo X41.here hx rfl (hb hby at_383) rfl (tlt (by decide : (2 : Int32) < (4 : Int32))).2.2.2 k) ?_
            refine own_st (fun t k => XS.aload X41.here hx rfl (hb hby at_386) rfl rfl k) ?_
            refine own_st (fun t k => XS.iload X41.here hx rfl (hb hby at_388) rfl k) ?_
            show own_Fin _ _ _ _ _ _ _ (T41.setTop (mkF m 390 #[iv p1, iv p2, iv p3, iv p4, iv p5, iv p6, iv u, iv fr, iv pr, iv n, rv b1, iv mm, iv W0, iv W1, iv W2, iv W3, iv W4, iv K0, iv K1, iv K2, iv K3, iv 4, rv b17, iv 0, rv r41] [(.int (0 : Int32)), (.ref r41)]))
            refine own_st (fun t k => XS.iconst X41.here hx rfl (hb hby at_390) k) ?_
            refine own_st (fun t k => XS.iadd X41.here hx rfl (hb hby at_391) rfl k) ?_
            show own_Fin _ _ _ _ _ _ _ (T41.setTop (mkF m 392 #[iv p1, iv p2, iv p3, iv p4, iv p5, iv p6, iv u, iv fr, iv pr, iv n, rv b1, iv mm, iv W0, iv W1, iv W2, iv W3, iv W4, iv K0, iv K1, iv K2, iv K3, iv 4, rv b17, iv 0, rv r41] [(.int (2 : Int32)), (.ref r41)]))
            obtain ⟨cl45, Ar45, Cq45, Sz45, Mn45, Hs45, Gf45⟩ := id oX41
            have hin45 := inb_of Sz45 (j := (2 : Int32)) ⟨by decide, by decide⟩
            refine own_st (X41.iaload hx (j := (2 : Int32)) (v := (.int K2)) Ar45.1 (State.isArrayOf_alike hZ.alike Ar45.2.1) Ar45.2.2 hin45 (Hs45.at hin45 rfl) (g := (mkF m 392 #[iv p1, iv p2, iv p3, iv p4, iv p5, iv p6, iv u, iv fr, iv pr, iv n, rv b1, iv mm, iv W0, iv W1, iv W2, iv W3, iv W4, iv K0, iv K1, iv K2, iv K3, iv 4, rv b17, iv 0, rv r41] [(.int (2 : Int32)), (.ref r41)])) rfl rfl (hb hby at_392)) ?_
            refine own_st (fun t k => XS.iload X41.here hx rfl (hb hby at_393) rfl k) ?_
            show own_Fin _ _ _ _ _ _ _ (T41.setTop (mkF m 395 #[iv p1, iv p2, iv p3, iv p4, iv p5, iv p6, iv u, iv fr, iv pr, iv n, rv b1, iv mm, iv W0, iv W1, iv W2, iv W3, iv W4, iv K0, iv K1, iv K2, iv K3, iv 4, rv b17, iv 0, rv r41] [(.int K2), (.int K2)]))
            refine own_st (fun t k => XS.icmpYes X41.here hx rfl (pc0 := 395) (pc' := 400) rfl (hb hby at_395) rfl (teq (rfl : K2 = K2)).1 (by decide) (by decide) k) ?_
            refine own_st (fun t k => XS.iload X41.here hx rfl (hb hby at_400) rfl k) ?_
            refine own_st (fun t k => XS.iconst X41.here hx rfl (hb hby at_402) k) ?_
            show own_Fin _ _ _ _ _ _ _ (T41.setTop (mkF m 403 #[iv p1, iv p2, iv p3, iv p4, iv p5, iv p6, iv u, iv fr, iv pr, iv n, rv b1, iv mm, iv W0, iv W1, iv W2, iv W3, iv W4, iv K0, iv K1, iv K2, iv K3, iv 4, rv b17, iv 0, rv r41] [(.int (3 : Int32)), (.int (4 : Int32))]))
            refine own_st (fun t k => XS.icmpNo X41.here hx rfl (hb hby at_403) rfl (tlt (by decide : (3 : Int32) < (4 : Int32))).2.2.2 k) ?_
            refine own_st (fun t k => XS.aload X41.here hx rfl (hb hby at_406) rfl rfl k) ?_
            refine own_st (fun t k => XS.iload X41.here hx rfl (hb hby at_408) rfl k) ?_
            show own_Fin _ _ _ _ _ _ _ (T41.setTop (mkF m 410 #[iv p1, iv p2, iv p3, iv p4, iv p5, iv p6, iv u, iv fr, iv pr, iv n, rv b1, iv mm, iv W0, iv W1, iv W2, iv W3, iv W4, iv K0, iv K1, iv K2, iv K3, iv 4, rv b17, iv 0, rv r41] [(.int (0 : Int32)), (.ref r41)]))
            refine own_st (fun t k => XS.iconst X41.here hx rfl (hb hby at_410) k) ?_
            refine own_st (fun t k => XS.iadd X41.here hx rfl (hb hby at_411) rfl k) ?_
            show own_Fin _ _ _ _ _ _ _ (T41.setTop (mkF m 412 #[iv p1, iv p2, iv p3, iv p4, iv p5, iv p6, iv u, iv fr, iv pr, iv n, rv b1, iv mm, iv W0, iv W1, iv W2, iv W3, iv W4, iv K0, iv K1, iv K2, iv K3, iv 4, rv b17, iv 0, rv r41] [(.int (3 : Int32)), (.ref r41)]))
            obtain ⟨cl46, Ar46, Cq46, Sz46, Mn46, Hs46, Gf46⟩ := id oX41
            have hin46 := inb_of Sz46 (j := (3 : Int32)) ⟨by decide, by decide⟩
            refine own_st (X41.iaload hx (j := (3 : Int32)) (v := (.int K3)) Ar46.1 (State.isArrayOf_alike hZ.alike Ar46.2.1) Ar46.2.2 hin46 (Hs46.at hin46 rfl) (g := (mkF m 412 #[iv p1, iv p2, iv p3, iv p4, iv p5, iv p6, iv u, iv fr, iv pr, iv n, rv b1, iv mm, iv W0, iv W1, iv W2, iv W3, iv W4, iv K0, iv K1, iv K2, iv K3, iv 4, rv b17, iv 0, rv r41] [(.int (3 : Int32)), (.ref r41)])) rfl rfl (hb hby at_412)) ?_
            refine own_st (fun t k => XS.iload X41.here hx rfl (hb hby at_413) rfl k) ?_
            show own_Fin _ _ _ _ _ _ _ (T41.setTop (mkF m 415 #[iv p1, iv p2, iv p3, iv p4, iv p5, iv p6, iv u, iv fr, iv pr, iv n, rv b1, iv mm, iv W0, iv W1, iv W2, iv W3, iv W4, iv K0, iv K1, iv K2, iv K3, iv 4, rv b17, iv 0, rv r41] [(.int K3), (.int K3)]))
            refine own_st (fun t k => XS.icmpYes X41.here hx rfl (pc0 := 415) (pc' := 420) rfl (hb hby at_415) rfl (teq (rfl : K3 = K3)).1 (by decide) (by decide) k) ?_
            refine own_st (fun t k => XS.iconst X41.here hx rfl (hb hby at_420) k) ?_
            show own_Fin _ _ _ _ _ _ _ (T41.setTop (mkF m 421 #[iv p1, iv p2, iv p3, iv p4, iv p5, iv p6, iv u, iv fr, iv pr, iv n, rv b1, iv mm, iv W0, iv W1, iv W2, iv W3, iv W4, iv K0, iv K1, iv K2, iv K3, iv 4, rv b17, iv 0, rv r41] [(.int (1 : Int32))]))
            exact own_retN X41 hx Bd.notSynchronized (t := .boolean) Bd.returns (by simp) (hb hby at_421) (by decide) (by decide) ⟨rfl, N41, trivial⟩
        · refine own_st (fun t k => XS.ifNo X18.here hx rfl (hb hby at_276) rfl ((if0 _ _).trans (feq hc276_19).1) k) ?_
          refine own_st (fun t k => XS.aload X18.here hx rfl (hb hby at_279) rfl rfl k) ?_
          refine own_st (fun t k => XS.sipush X18.here hx rfl (hb hby at_281) k) ?_
          show own_Fin _ _ _ _ _ _ _ (T18.setTop (mkF m 284 #[iv p1, iv p2, iv p3, iv p4, iv p5, iv p6, iv u, iv fr, iv pr, iv n, rv b1, iv mm, iv W0, iv W1, iv W2, iv W3, iv W4, iv K0, iv K1, iv K2, iv K3, iv ln, rv b17, iv 0, .unset] [(.int (200 : Int32)), (.ref b17)]))
          obtain ⟨cq47, kq47, qa47, qb47, qc47⟩ := isOf hZ rfl oE18
          obtain ⟨_, _, ⟨T47, L47, k47, n47⟩, -, X47, ⟨Lc47, hQ47, l47, y47, z47⟩, st47⟩ := X18.virtualBack hx (y := (⟨"com/example/quietzone/quietzone/datamatrix/CodewordWriter", "codeword", "(I)V"⟩ : MethodName)) (z := (⟨"com/example/quietzone/quietzone/datamatrix/CodewordWriter", "codeword", "(I)V"⟩ : MethodName)) hown (mvT hZ (hw _ (List.mem_of_getElem? (i := 51) rfl))) (mvT hZ (hw _ (List.mem_of_getElem? (i := 52) rfl))) (notFace_of_selects (args := #[]) (mvT hZ (hw _ (List.mem_of_getElem? (i := 54) rfl)))) (mvT hZ (hw _ (List.mem_of_getElem? (i := 54) rfl))) (mvT hZ (hw _ (List.mem_of_getElem? (i := 53) rfl))) (by decide) (backOf (W := 0) (rm10 l Z a0 hw [] b17 (200 : Int32) t18 kt18 [(.int (0 : Int32)), (.int (0 : Int32)), (.int (0 : Int32)), (.int (0 : Int32)), (.int (0 : Int32)), (.int (0 : Int32)), (.int (0 : Int32)), (.int (0 : Int32))] (0 : Int32) T18.heap n0 Z18 oE18 oW18 oC18 oP18 ge_b17 gt18 ne_b17_t18 (by decide) (by decide) (by decide)) hZ (hw _ (List.mem_of_getElem? (i := 55) rfl)) (hw _ (List.mem_of_getElem? (i := 11) rfl)) (by decide) (by decide)) qa47 qc47 (g := (mkF m 284 #[iv p1, iv p2, iv p3, iv p4, iv p5, iv p6, iv u, iv fr, iv pr, iv n, rv b1, iv mm, iv W0, iv W1, iv W2, iv W3, iv W4, iv K0, iv K1, iv K2, iv K3, iv ln, rv b17, iv 0, .unset] [(.int (200 : Int32)), (.ref b17)])) rfl (by rw [hml]; rfl) (Steps.refl _) (argsL := [(.int (200 : Int32))]) (rest := []) (lenOf pd_0_2 rfl) rfl (by show 2 * 0 + _ ≤ _; exact Nat.le_of_eq rfl) (hb hby at_284) (fun _ _ => ⟨rfl, rfl, (by decide : 5 + 0 ≤ _), (by decide : 28 + 0 ≤ _)⟩)
          dsimp only [Pt.U, Pt.locs, Pt.cells, Pt.slots] at X47 l47 y47 z47 st47 hQ47
          subst l47 y47 z47
          obtain ⟨rfl, N47q, K47, oE47, oW47, oC47, oV47⟩ := hQ47
          have N47 := Fr.app N18 N47q
          have f47_0 := f18_0.keep K47 (ninS ne_b1_b17 (ninS ne_b1_t18 nin0))
          have Z47 : n0 ≤ T47.heap.size := Nat.le_trans Z18 K47.1
          refine own_st (fun t k => st47.trans k) ?_
          refine own_st (fun t k => XS.iconst X47.here hx rfl (hb hby at_287) k) ?_
          refine own_st (fun t k => XS.istore X47.here hx rfl (hb hby at_288) rfl (l' := #[iv p1, iv p2, iv p3, iv p4, iv p5, iv p6, iv u, iv fr, iv pr, iv n, rv b1, iv mm, iv W0, iv W1, iv W2, iv W3, iv W4, iv K0, iv K1, iv K2, iv K3, iv ln, rv b17, iv 1, .unset]) rfl k) ?_
          show own_Fin _ _ _ _ _ _ _ (T47.setTop (mkF m 290 #[iv p1, iv p2, iv p3, iv p4, iv p5, iv p6, iv u, iv fr, iv pr, iv n, rv b1, iv mm, iv W0, iv W1, iv W2, iv W3, iv W4, iv K0, iv K1, iv K2, iv K3, iv ln, rv b17, iv 1, .unset] []))
          have xc48 : Fld Z T47.heap b17 "com/example/quietzone/quietzone/datamatrix/CodewordWriter" "count" "I" (.int (1 : Int32)) := oC47
          have xv48 : Arv Z T47.heap t18 kt18 .int (8 : Int32) [(.int (200 : Int32)), (.int (0 : Int32)), (.int (0 : Int32)), (.int (0 : Int32)), (.int (0 : Int32)), (.int (0 : Int32)), (.int (0 : Int32)), (.int (0 : Int32))] (.int (0 : Int32)) := oV47
          refine own_st (fun t k => XS.aload X47.here hx rfl (hb hby at_290) rfl rfl k) ?_
          refine own_st (fun t k => XS.aload X47.here hx rfl (hb hby at_292) rfl rfl k) ?_
          refine own_st (fun t k => XS.iload X47.here hx rfl (hb hby at_294) rfl k) ?_
          show own_Fin _ _ _ _ _ _ _ (T47.setTop (mkF m 296 #[iv p1, iv p2, iv p3, iv p4, iv p5, iv p6, iv u, iv fr, iv pr, iv n, rv b1, iv mm, iv W0, iv W1, iv W2, iv W3, iv W4, iv K0, iv K1, iv K2, iv K3, iv ln, rv b17, iv 1, .unset] [(.int fr), (.ref b1), (.ref b17)]))
          refine own_st (fun t k => XS.iload X47.here hx rfl (hb hby at_296) rfl k) ?_
          refine own_st (fun t k => XS.iload X47.here hx rfl (hb hby at_298) rfl k) ?_
          refine own_st (fun t k => XS.iadd X47.here hx rfl (hb hby at_300) rfl k) ?_
          show own_Fin _ _ _ _ _ _ _ (T47.setTop (mkF m 301 #[iv p1, iv p2, iv p3, iv p4, iv p5, iv p6, iv u, iv fr, iv pr, iv n, rv b1, iv mm, iv W0, iv W1, iv W2, iv W3, iv W4, iv K0, iv K1, iv K2, iv K3, iv ln, rv b17, iv 1, .unset] [(.int (fr + n)), (.int fr), (.ref b1), (.ref b17)]))
          refine own_st (fun t k => XS.iload X47.here hx rfl (hb hby at_301) rfl k) ?_
          show own_Fin _ _ _ _ _ _ _ (T47.setTop (mkF m 303 #[iv p1, iv p2, iv p3, iv p4, iv p5, iv p6, iv u, iv fr, iv pr, iv n, rv b1, iv mm, iv W0, iv W1, iv W2, iv W3, iv W4, iv K0, iv K1, iv K2, iv K3, iv ln, rv b17, iv 1, .unset] [(.int u), (.int (fr + n)), (.int fr), (.ref b1), (.ref b17)]))
          obtain ⟨cq49, kq49, qa49, qb49, qc49⟩ := isOf hZ rfl oE47
          obtain ⟨_, _, ⟨T49, L49, k49, n49⟩, -, X49, ⟨Lc49, hQ49, l49, y49, z49⟩, st49⟩ := X47.virtualBack hx (y := (⟨"com/example/quietzone/quietzone/datamatrix/CodewordWriter", "edifact", "([IIIZ)V"⟩ : MethodName)) (z := (⟨"com/example/quietzone/quietzone/datamatrix/CodewordWriter", "edifact", "([IIIZ)V"⟩ : MethodName)) hown (mvT hZ (hw _ (List.mem_of_getElem? (i := 24) rfl))) (mvT hZ (hw _ (List.mem_of_getElem? (i := 25) rfl))) (notFace_of_selects (args := #[]) (mvT hZ (hw _ (List.mem_of_getElem? (i := 27) rfl)))) (mvT hZ (hw _ (List.mem_of_getElem? (i := 27) rfl))) (mvT hZ (hw _ (List.mem_of_getElem? (i := 26) rfl))) (by decide) (backOf (W := 0) (rm5 l Z a0 hw [] b17 b1 fr (fr + n) u t18 kt18 [(.int (200 : Int32)), (.int (0 : Int32)), (.int (0 : Int32)), (.int (0 : Int32)), (.int (0 : Int32)), (.int (0 : Int32)), (.int (0 : Int32)), (.int (0 : Int32))] (1 : Int32) k1 [(.int (own_F1 p1)), (.int (own_F1 p2)), (.int (own_F1 p3)), (.int (own_F1 p4)), (.int (own_F1 p5))] (own_sel fr (own_F1 p1) (own_F1 p2)) (own_sel fr (own_F1 p2) (own_F1 p3)) (own_sel fr (own_F1 p3) (own_F1 p4)) (own_sel fr (own_F1 p4) (own_F1 p5)) n T47.heap n0 Z47 oE47 oW47 xc48 xv48 ge_b17 gt18 ne_b17_t18 f47_0 ne_b1_b17 ne_b1_t18 (Or.inr rfl) rfl hf hu rfl (fun _ => by rcases hf with rfl | rfl <;> rfl) (own_rng hf _ _) (fun _ => by rcases hf with rfl | rfl <;> rfl) (own_rng hf _ _) (fun _ => by rcases hf with rfl | rfl <;> rfl) (own_rng hf _ _) (fun _ => by rcases hf with rfl | rfl <;> rfl) (own_rng hf _ _)) hZ (hw _ (List.mem_of_getElem? (i := 28) rfl)) (hw _ (List.mem_of_getElem? (i := 11) rfl)) (by decide) (by decide)) qa49 qc49 (g := (mkF m 303 #[iv p1, iv p2, iv p3, iv p4, iv p5, iv p6, iv u, iv fr, iv pr, iv n, rv b1, iv mm, iv W0, iv W1, iv W2, iv W3, iv W4, iv K0, iv K1, iv K2, iv K3, iv ln, rv b17, iv 1, .unset] [(.int u), (.int (fr + n)), (.int fr), (.ref b1), (.ref b17)])) rfl (by rw [hml]; rfl) (Steps.refl _) (argsL := [(.ref b1), (.int fr), (.int (fr + n)), (.int u)]) (rest := []) (lenOf pd_0_3 rfl) rfl (by show 2 * 0 + _ ≤ _; exact Nat.le_of_eq rfl) (hb hby at_303) (fun _ _ => ⟨rfl, rfl, (by decide : 5 + 0 ≤ _), (by decide : 28 + 0 ≤ _)⟩)
          dsimp only [Pt.U, Pt.locs, Pt.cells, Pt.slots] at X49 l49 y49 z49 st49 hQ49
          subst l49 y49 z49
          obtain ⟨rfl, N49q, K49, oE49, oW49, oC49, oV49⟩ := hQ49
          have N49 := Fr.app N47 N49q
          have f49_0 := f47_0.keep K49 (ninS ne_b1_b17 (ninS ne_b1_t18 nin0))
          have Z49 : n0 ≤ T49.heap.size := Nat.le_trans Z47 K49.1
          refine own_st (fun t k => st49.trans k) ?_
          show own_Fin _ _ _ _ _ _ _ (T49.setTop (mkF m 306 #[iv p1, iv p2, iv p3, iv p4, iv p5, iv p6, iv u, iv fr, iv pr, iv n, rv b1, iv mm, iv W0, iv W1, iv W2, iv W3, iv W4, iv K0, iv K1, iv K2, iv K3, iv ln, rv b17, iv 1, .unset] []))
          rcases hln with rfl | rfl | rfl | rfl | rfl
          · have xc50 : Fld Z T49.heap b17 "com/example/quietzone/quietzone/datamatrix/CodewordWriter" "count" "I" (.int (1 : Int32)) := by have q := oC49; rw [hks] at q; exact q
            have xv50 : Arv Z T49.heap t18 kt18 .int (8 : Int32) [(.int (200 : Int32)), (.int (0 : Int32)), (.int (0 : Int32)), (.int (0 : Int32)), (.int (0 : Int32)), (.int (0 : Int32)), (.int (0 : Int32)), (.int (0 : Int32))] (.int (0 : Int32)) := by have q := oV49; rw [hks] at q; exact q
            refine own_st (fun t k => XS.aload X49.here hx rfl (hb hby at_306) rfl rfl k) ?_
            show own_Fin _ _ _ _ _ _ _ (T49.setTop (mkF m 308 #[iv p1, iv p2, iv p3, iv p4, iv p5, iv p6, iv u, iv fr, iv pr, iv n, rv b1, iv mm, iv W0, iv W1, iv W2, iv W3, iv W4, iv K0, iv K1, iv K2, iv K3, iv 0, rv b17, iv 1, .unset] [(.ref b17)]))
            obtain ⟨cq51, kq51, qa51, qb51, qc51⟩ := isOf hZ rfl oE49
            obtain ⟨_, _, ⟨T51, L51, k51, n51⟩, -, X51, ⟨Lc51, hQ51, l51, y51, z51⟩, st51⟩ := X49.virtualBack hx (y := (⟨"com/example/quietzone/quietzone/datamatrix/CodewordWriter", "codewords", "()[I"⟩ : MethodName)) (z := (⟨"com/example/quietzone/quietzone/datamatrix/CodewordWriter", "codewords", "()[I"⟩ : MethodName)) hown (mvT hZ (hw _ (List.mem_of_getElem? (i := 31) rfl))) (mvT hZ (hw _ (List.mem_of_getElem? (i := 32) rfl))) (notFace_of_selects (args := #[]) (mvT hZ (hw _ (List.mem_of_getElem? (i := 34) rfl)))) (mvT hZ (hw _ (List.mem_of_getElem? (i := 34) rfl))) (mvT hZ (hw _ (List.mem_of_getElem? (i := 33) rfl))) (by decide) (backOf (W := 0) (rm6 l Z a0 hw [] b17 t18 kt18 [(.int (200 : Int32)), (.int (0 : Int32)), (.int (0 : Int32)), (.int (0 : Int32)), (.int (0 : Int32)), (.int (0 : Int32)), (.int (0 : Int32)), (.int (0 : Int32))] (1 : Int32) T49.heap n0 Z49 oW49 xc50 xv50 (by decide) (by decide) (by decide) (by decide) (by decide)) hZ (hw _ (List.mem_of_getElem? (i := 35) rfl)) (hw _ (List.mem_of_getElem? (i := 11) rfl)) (by decide) (by decide)) qa51 qc51 (g := (mkF m 308 #[iv p1, iv p2, iv p3, iv p4, iv p5, iv p6, iv u, iv fr, iv pr, iv n, rv b1, iv mm, iv W0, iv W1, iv W2, iv W3, iv W4, iv K0, iv K1, iv K2, iv K3, iv 0, rv b17, iv 1, .unset] [(.ref b17)])) rfl (by rw [hml]; rfl) (Steps.refl _) (argsL := []) (rest := []) (lenOf pd_0_4 rfl) rfl (by show 2 * 0 + _ ≤ _; exact Nat.le_of_eq rfl) (hb hby at_308) (fun _ _ => ⟨rfl, rfl, (by decide : 5 + 1 ≤ _), (by decide : 28 + 8 ≤ _)⟩)
            dsimp only [Pt.U, Pt.locs, Pt.cells, Pt.slots] at X51 l51 y51 z51 st51 hQ51
            subst l51 y51 z51
            obtain ⟨r51, kr51, rfl, N51q, K51, gr51, gs51, oV51⟩ := hQ51
            have N51 := Fr.app N49 N51q
            have f51_0 := f49_0.keep K51 nin0
            have f51_1 := oE49.keep K51
            have f51_2 := oW49.keep K51 nin0
            have f51_3 := xc50.keep K51 nin0
            have f51_4 := xv50.keep K51 nin0
            have Z51 : n0 ≤ T51.heap.size := Nat.le_trans Z49 K51.1
            refine own_st (fun t k => st51.trans k) ?_
            show own_Fin _ _ _ _ _ _ _ (T51.setTop (mkF m 311 #[iv p1, iv p2, iv p3, iv p4, iv p5, iv p6, iv u, iv fr, iv pr, iv n, rv b1, iv mm, iv W0, iv W1, iv W2, iv W3, iv W4, iv K0, iv K1, iv K2, iv K3, iv 0, rv b17, iv 1, .unset] [(.ref r51)]))
            have oX51 : Arv Z T51.heap r51 kr51 .int (1 : Int32) [(.int (200 : Int32))] (.int (0 : Int32)) := oV51
            refine own_st (fun t k => XS.astore X51.here hx rfl (hb hby at_311) rfl rfl (l' := #[iv p1, iv p2, iv p3, iv p4, iv p5, iv p6, iv u, iv fr, iv pr, iv n, rv b1, iv mm, iv W0, iv W1, iv W2, iv W3, iv W4, iv K0, iv K1, iv K2, iv K3, iv 0, rv b17, iv 1, rv r51]) rfl k) ?_
            refine own_st (fun t k => XS.aload X51.here hx rfl (hb hby at_313) rfl rfl k) ?_
            show own_Fin _ _ _ _ _ _ _ (T51.setTop (mkF m 315 #[iv p1, iv p2, iv p3, iv p4, iv p5, iv p6, iv u, iv fr, iv pr, iv n, rv b1, iv mm, iv W0, iv W1, iv W2, iv W3, iv W4, iv K0, iv K1, iv K2, iv K3, iv 0, rv b17, iv 1, rv r51] [(.ref r51)]))
            obtain ⟨cl52, Ar52, Cq52, Sz52, Mn52, Hs52, Gf52⟩ := id oX51
            refine own_st (X51.arraylength hx Ar52.1 (State.isArrayOf_alike hZ.alike Ar52.2.1) (g := (mkF m 315 #[iv p1, iv p2, iv p3, iv p4, iv p5, iv p6, iv u, iv fr, iv pr, iv n, rv b1, iv mm, iv W0, iv W1, iv W2, iv W3, iv W4, iv K0, iv K1, iv K2, iv K3, iv 0, rv b17, iv 1, rv r51] [(.ref r51)])) rfl rfl (hb hby at_315)) ?_
            rw [len_of Sz52 Mn52]
            refine own_st (fun t k => XS.iload X51.here hx rfl (hb hby at_316) rfl k) ?_
            refine own_st (fun t k => XS.iload X51.here hx rfl (hb hby at_318) rfl k) ?_
            show own_Fin _ _ _ _ _ _ _ (T51.setTop (mkF m 320 #[iv p1, iv p2, iv p3, iv p4, iv p5, iv p6, iv u, iv fr, iv pr, iv n, rv b1, iv mm, iv W0, iv W1, iv W2, iv W3, iv W4, iv K0, iv K1, iv K2, iv K3, iv 0, rv b17, iv 1, rv r51] [(.int (0 : Int32)), (.int (1 : Int32)), (.int (1 : Int32))]))
            refine own_st (fun t k => XS.iadd X51.here hx rfl (hb hby at_320) rfl k) ?_
            show own_Fin _ _ _ _ _ _ _ (T51.setTop (mkF m 321 #[iv p1, iv p2, iv p3, iv p4, iv p5, iv p6, iv u, iv fr, iv pr, iv n, rv b1, iv mm, iv W0, iv W1, iv W2, iv W3, iv W4, iv K0, iv K1, iv K2, iv K3, iv 0, rv b17, iv 1, rv r51] [(.int (1 : Int32)), (.int (1 : Int32))]))
            refine own_st (fun t k => XS.icmpYes X51.here hx rfl (pc0 := 321) (pc' := 326) rfl (hb hby at_321) rfl (teq (by decide : (1 : Int32) = (1 : Int32))).1 (by decide) (by decide) k) ?_
            refine own_st (fun t k => XS.iload X51.here hx rfl (hb hby at_326) rfl k) ?_
            show own_Fin _ _ _ _ _ _ _ (T51.setTop (mkF m 328 #[iv p1, iv p2, iv p3, iv p4, iv p5, iv p6, iv u, iv fr, iv pr, iv n, rv b1, iv mm, iv W0, iv W1, iv W2, iv W3, iv W4, iv K0, iv K1, iv K2, iv K3, iv 0, rv b17, iv 1, rv r51] [(.int pr)]))
            refine own_st (fun t k => XS.ifNo X51.here hx rfl (hb hby at_328) rfl ((if0 _ _).trans (feq hc276_19).1) k) ?_
            refine own_st (fun t k => XS.aload X51.here hx rfl (hb hby at_331) rfl rfl k) ?_
            refine own_st (fun t k => XS.iconst X51.here hx rfl (hb hby at_333) k) ?_
            show own_Fin _ _ _ _ _ _ _ (T51.setTop (mkF m 334 #[iv p1, iv p2, iv p3, iv p4, iv p5, iv p6, iv u, iv fr, iv pr, iv n, rv b1, iv mm, iv W0, iv W1, iv W2, iv W3, iv W4, iv K0, iv K1, iv K2, iv K3, iv 0, rv b17, iv 1, rv r51] [(.int (0 : Int32)), (.ref r51)]))
            obtain ⟨cl53, Ar53, Cq53, Sz53, Mn53, Hs53, Gf53⟩ := id oX51
            have hin53 := inb_of Sz53 (j := (0 : Int32)) ⟨by decide, by decide⟩
            refine own_st (X51.iaload hx (j := (0 : Int32)) (v := (.int (200 : Int32))) Ar53.1 (State.isArrayOf_alike hZ.alike Ar53.2.1) Ar53.2.2 hin53 (Hs53.at hin53 rfl) (g := (mkF m 334 #[iv p1, iv p2, iv p3, iv p4, iv p5, iv p6, iv u, iv fr, iv pr, iv n, rv b1, iv mm, iv W0, iv W1, iv W2, iv W3, iv W4, iv K0, iv K1, iv K2, iv K3, iv 0, rv b17, iv 1, rv r51] [(.int (0 : Int32)), (.ref r51)])) rfl rfl (hb hby at_334)) ?_
            refine own_st (fun t k => XS.sipush X51.here hx rfl (hb hby at_335) k) ?_
            show own_Fin _ _ _ _ _ _ _ (T51.setTop (mkF m 338 #[iv p1, iv p2, iv p3, iv p4, iv p5, iv p6, iv u, iv fr, iv pr, iv n, rv b1, iv mm, iv W0, iv W1, iv W2, iv W3, iv W4, iv K0, iv K1, iv K2, iv K3, iv 0, rv b17, iv 1, rv r51] [(.int (200 : Int32)), (.int (200 : Int32))]))
            refine own_st (fun t k => XS.icmpYes X51.here hx rfl (pc0 := 338) (pc' := 343) rfl (hb hby at_338) rfl (teq (by decide : (200 : Int32) = (200 : Int32))).1 (by decide) (by decide) k) ?_
            refine own_st (fun t k => XS.iload X51.here hx rfl (hb hby at_343) rfl k) ?_
            show own_Fin _ _ _ _ _ _ _ (T51.setTop (mkF m 345 #[iv p1, iv p2, iv p3, iv p4, iv p5, iv p6, iv u, iv fr, iv pr, iv n, rv b1, iv mm, iv W0, iv W1, iv W2, iv W3, iv W4, iv K0, iv K1, iv K2, iv K3, iv 0, rv b17, iv 1, rv r51] [(.int (0 : Int32))]))
            refine own_st (fun t k => XS.ifYes X51.here hx rfl (pc0 := 345) (pc' := 360) rfl (hb hby at_345) rfl ((if0 _ _).trans (flt (by decide : ¬ ((0 : Int32) < (0 : Int32)))).2.2.2) (by decide) (by decide) k) ?_
            refine own_st (fun t k => XS.iload X51.here hx rfl (hb hby at_360) rfl k) ?_
            refine own_st (fun t k => XS.iconst X51.here hx rfl (hb hby at_362) k) ?_
            show own_Fin _ _ _ _ _ _ _ (T51.setTop (mkF m 363 #[iv p1, iv p2, iv p3, iv p4, iv p5, iv p6, iv u, iv fr, iv pr, iv n, rv b1, iv mm, iv W0, iv W1, iv W2, iv W3, iv W4, iv K0, iv K1, iv K2, iv K3, iv 0, rv b17, iv 1, rv r51] [(.int (1 : Int32)), (.int (0 : Int32))]))
            refine own_st (fun t k => XS.icmpYes X51.here hx rfl (pc0 := 363) (pc' := 380) rfl (hb hby at_363) rfl (flt (by decide : ¬ ((1 : Int32) < (0 : Int32)))).2.2.2 (by decide) (by decide) k) ?_
            refine own_st (fun t k => XS.iload X51.here hx rfl (hb hby at_380) rfl k) ?_
            refine own_st (fun t k => XS.iconst X51.here hx rfl (hb hby at_382) k) ?_
            show own_Fin _ _ _ _ _ _ _ (T51.setTop (mkF m 383 #[iv p1, iv p2, iv p3, iv p4, iv p5, iv p6, iv u, iv fr, iv pr, iv n, rv b1, iv mm, iv W0, iv W1, iv W2, iv W3, iv W4, iv K0, iv K1, iv K2, iv K3, iv 0, rv b17, iv 1, rv r51] [(.int (2 : Int32)), (.int (0 : Int32))]))
            refine own_st (fun t k => XS.icmpYes X51.here hx rfl (pc0 := 383) (pc' := 400) rfl (hb hby at_383) rfl (flt (by decide : ¬ ((2 : Int32) < (0 : Int32)))).2.2.2 (by decide) (by decide) k) ?_
            refine own_st (fun t k => XS.iload X51.here hx rfl (hb hby at_400) rfl k) ?_
            refine own_st (fun t k => XS.iconst X51.here hx rfl (hb hby at_402) k) ?_
            show own_Fin _ _ _ _ _ _ _ (T51.setTop (mkF m 403 #[iv p1, iv p2, iv p3, iv p4, iv p5, iv p6, iv u, iv fr, iv pr, iv n, rv b1, iv mm, iv W0, iv W1, iv W2, iv W3, iv W4, iv K0, iv K1, iv K2, iv K3, iv 0, rv b17, iv 1, rv r51] [(.int (3 : Int32)), (.int (0 : Int32))]))
            refine own_st (fun t k => XS.icmpYes X51.here hx rfl (pc0 := 403) (pc' := 420) rfl (hb hby at_403) rfl (flt (by decide : ¬ ((3 : Int32) < (0 : Int32)))).2.2.2 (by decide) (by decide) k) ?_
            refine own_st (fun t k => XS.iconst X51.here hx rfl (hb hby at_420) k) ?_
            show own_Fin _ _ _ _ _ _ _ (T51.setTop (mkF m 421 #[iv p1, iv p2, iv p3, iv p4, iv p5, iv p6, iv u, iv fr, iv pr, iv n, rv b1, iv mm, iv W0, iv W1, iv W2, iv W3, iv W4, iv K0, iv K1, iv K2, iv K3, iv 0, rv b17, iv 1, rv r51] [(.int (1 : Int32))]))
            exact own_retN X51 hx Bd.notSynchronized (t := .boolean) Bd.returns (by simp) (hb hby at_421) (by decide) (by decide) ⟨rfl, N51, trivial⟩
          · have xc54 : Fld Z T49.heap b17 "com/example/quietzone/quietzone/datamatrix/CodewordWriter" "count" "I" (.int (2 : Int32)) := by have q := oC49; rw [hks] at q; exact q
            have xv54 : Arv Z T49.heap t18 kt18 .int (8 : Int32) [(.int (200 : Int32)), (.int K0), (.int (0 : Int32)), (.int (0 : Int32)), (.int (0 : Int32)), (.int (0 : Int32)), (.int (0 : Int32)), (.int (0 : Int32))] (.int (0 : Int32)) := by have q := oV49; rw [hks] at q; exact q
            refine own_st (fun t k => XS.aload X49.here hx rfl (hb hby at_306) rfl rfl k) ?_
            show own_Fin _ _ _ _ _ _ _ (T49.setTop (mkF m 308 #[iv p1, iv p2, iv p3, iv p4, iv p5, iv p6, iv u, iv fr, iv pr, iv n, rv b1, iv mm, iv W0, iv W1, iv W2, iv W3, iv W4, iv K0, iv K1, iv K2, iv K3, iv 1, rv b17, iv 1, .unset] [(.ref b17)]))
            obtain ⟨cq55, kq55, qa55, qb55, qc55⟩ := isOf hZ rfl oE49
            obtain ⟨_, _, ⟨T55, L55, k55, n55⟩, -, X55, ⟨Lc55, hQ55, l55, y55, z55⟩, st55⟩ := X49.virtualBack hx (y := (⟨"com/example/quietzone/quietzone/datamatrix/CodewordWriter", "codewords", "()[I"⟩ : MethodName)) (z := (⟨"com/example/quietzone/quietzone/datamatrix/CodewordWriter", "codewords", "()[I"⟩ : MethodName)) hown (mvT hZ (hw _ (List.mem_of_getElem? (i := 31) rfl))) (mvT hZ (hw _ (List.mem_of_getElem? (i := 32) rfl))) (notFace_of_selects (args := #[]) (mvT hZ (hw _ (List.mem_of_getElem? (i := 34) rfl)))) (mvT hZ (hw _ (List.mem_of_getElem? (i := 34) rfl))) (mvT hZ (hw _ (List.mem_of_getElem? (i := 33) rfl))) (by decide) (backOf (W := 0) (rm6 l Z a0 hw [] b17 t18 kt18 [(.int (200 : Int32)), (.int K0), (.int (0 : Int32)), (.int (0 : Int32)), (.int (0 : Int32)), (.int (0 : Int32)), (.int (0 : Int32)), (.int (0 : Int32))] (2 : Int32) T49.heap n0 Z49 oW49 xc54 xv54 (by decide) (by decide) (by decide) (by decide) (by decide)) hZ (hw _ (List.mem_of_getElem? (i := 35) rfl)) (hw _ (List.mem_of_getElem? (i := 11) rfl)) (by decide) (by decide)) qa55 qc55 (g := (mkF m 308 #[iv p1, iv p2, iv p3, iv p4, iv p5, iv p6, iv u, iv fr, iv pr, iv n, rv b1, iv mm, iv W0, iv W1, iv W2, iv W3, iv W4, iv K0, iv K1, iv K2, iv K3, iv 1, rv b17, iv 1, .unset] [(.ref b17)])) rfl (by rw [hml]; rfl) (Steps.refl _) (argsL := []) (rest := []) (lenOf pd_0_4 rfl) rfl (by show 2 * 0 + _ ≤ _; exact Nat.le_of_eq rfl) (hb hby at_308) (fun _ _ => ⟨rfl, rfl, (by decide : 5 + 1 ≤ _), (by decide : 28 + 8 ≤ _)⟩)
            dsimp only [Pt.U, Pt.locs, Pt.cells, Pt.slots] at X55 l55 y55 z55 st55 hQ55
            subst l55 y55 z55
            obtain ⟨r55, kr55, rfl, N55q, K55, gr55, gs55, oV55⟩ := hQ55
            have N55 := Fr.app N49 N55q
            have f55_0 := f49_0.keep K55 nin0
            have f55_1 := oE49.keep K55
            have f55_2 := oW49.keep K55 nin0
            have f55_3 := xc54.keep K55 nin0
            have f55_4 := xv54.keep K55 nin0
            have Z55 : n0 ≤ T55.heap.size := Nat.le_trans Z49 K55.1
            refine own_st (fun t k => st55.trans k) ?_
            show own_Fin _ _ _ _ _ _ _ (T55.setTop (mkF m 311 #[iv p1, iv p2, iv p3, iv p4, iv p5, iv p6, iv u, iv fr, iv pr, iv n, rv b1, iv mm, iv W0, iv W1, iv W2, iv W3, iv W4, iv K0, iv K1, iv K2, iv K3, iv 1, rv b17, iv 1, .unset] [(.ref r55)]))
            have oX55 : Arv Z T55.heap r55 kr55 .int (2 : Int32) [(.int (200 : Int32)), (.int K0)] (.int (0 : Int32)) := oV55
            refine own_st (fun t k => XS.astore X55.here hx rfl (hb hby at_311) rfl rfl (l' := #[iv p1, iv p2, iv p3, iv p4, iv p5, iv p6, iv u, iv fr, iv pr, iv n, rv b1, iv mm, iv W0, iv W1, iv W2, iv W3, iv W4, iv K0, iv K1, iv K2, iv K3, iv 1, rv b17, iv 1, rv r55]) rfl k) ?_
            refine own_st (fun t k => XS.aload X55.here hx rfl (hb hby at_313) rfl rfl k) ?_
            show own_Fin _ _ _ _ _ _ _ (T55.setTop (mkF m 315 #[iv p1, iv p2, iv p3, iv p4, iv p5, iv p6, iv u, iv fr, iv pr, iv n, rv b1, iv mm, iv W0, iv W1, iv W2, iv W3, iv W4, iv K0, iv K1, iv K2, iv K3, iv 1, rv b17, iv 1, rv r55] [(.ref r55)]))
            obtain ⟨cl56, Ar56, Cq56, Sz56, Mn56, Hs56, Gf56⟩ := id oX55
            refine own_st (X55.arraylength hx Ar56.1 (State.isArrayOf_alike hZ.alike Ar56.2.1) (g := (mkF m 315 #[iv p1, iv p2, iv p3, iv p4, iv p5, iv p6, iv u, iv fr, iv pr, iv n, rv b1, iv mm, iv W0, iv W1, iv W2, iv W3, iv W4, iv K0, iv K1, iv K2, iv K3, iv 1, rv b17, iv 1, rv r55] [(.ref r55)])) rfl rfl (hb hby at_315)) ?_
            rw [len_of Sz56 Mn56]
            refine own_st (fun t k => XS.iload X55.here hx rfl (hb hby at_316) rfl k) ?_
            refine own_st (fun t k => XS.iload X55.here hx rfl (hb hby at_318) rfl k) ?_
            show own_Fin _ _ _ _ _ _ _ (T55.setTop (mkF m 320 #[iv p1, iv p2, iv p3, iv p4, iv p5, iv p6, iv u, iv fr, iv pr, iv n, rv b1, iv mm, iv W0, iv W1, iv W2, iv W3, iv W4, iv K0, iv K1, iv K2, iv K3, iv 1, rv b17, iv 1, rv r55] [(.int (1 : Int32)), (.int (1 : Int32)), (.int (2 : Int32))]))
            refine own_st (fun t k => XS.iadd X55.here hx rfl (hb hby at_320) rfl k) ?_
            show own_Fin _ _ _ _ _ _ _ (T55.setTop (mkF m 321 #[iv p1, iv p2, iv p3, iv p4, iv p5, iv p6, iv u, iv fr, iv pr, iv n, rv b1, iv mm, iv W0, iv W1, iv W2, iv W3, iv W4, iv K0, iv K1, iv K2, iv K3, iv 1, rv b17, iv 1, rv r55] [(.int (2 : Int32)), (.int (2 : Int32))]))
            refine own_st (fun t k => XS.icmpYes X55.here hx rfl (pc0 := 321) (pc' := 326) rfl (hb hby at_321) rfl (teq (by decide : (2 : Int32) = (2 : Int32))).1 (by decide) (by decide) k) ?_
            refine own_st (fun t k => XS.iload X55.here hx rfl (hb hby at_326) rfl k) ?_
            show own_Fin _ _ _ _ _ _ _ (T55.setTop (mkF m 328 #[iv p1, iv p2, iv p3, iv p4, iv p5, iv p6, iv u, iv fr, iv pr, iv n, rv b1, iv mm, iv W0, iv W1, iv W2, iv W3, iv W4, iv K0, iv K1, iv K2, iv K3, iv 1, rv b17, iv 1, rv r55] [(.int pr)]))
            refine own_st (fun t k => XS.ifNo X55.here hx rfl (hb hby at_328) rfl ((if0 _ _).trans (feq hc276_19).1) k) ?_
            refine own_st (fun t k => XS.aload X55.here hx rfl (hb hby at_331) rfl rfl k) ?_
            refine own_st (fun t k => XS.iconst X55.here hx rfl (hb hby at_333) k) ?_
            show own_Fin _ _ _ _ _ _ _ (T55.setTop (mkF m 334 #[iv p1, iv p2, iv p3, iv p4, iv p5, iv p6, iv u, iv fr, iv pr, iv n, rv b1, iv mm, iv W0, iv W1, iv W2, iv W3, iv W4, iv K0, iv K1, iv K2, iv K3, iv 1, rv b17, iv 1, rv r55] [(.int (0 : Int32)), (.ref r55)]))
            obtain ⟨cl57, Ar57, Cq57, Sz57, Mn57, Hs57, Gf57⟩ := id oX55
            have hin57 := inb_of Sz57 (j := (0 : Int32)) ⟨by decide, by decide⟩
            refine own_st (X55.iaload hx (j := (0 : Int32)) (v := (.int (200 : Int32))) Ar57.1 (State.isArrayOf_alike hZ.alike Ar57.2.1) Ar57.2.2 hin57 (Hs57.at hin57 rfl) (g := (mkF m 334 #[iv p1, iv p2, iv p3, iv p4, iv p5, iv p6, iv u, iv fr, iv pr, iv n, rv b1, iv mm, iv W0, iv W1, iv W2, iv W3, iv W4, iv K0, iv K1, iv K2, iv K3, iv 1, rv b17, iv 1, rv r55] [(.int (0 : Int32)), (.ref r55)])) rfl rfl (hb hby at_334)) ?_
            refine own_st (fun t k => XS.sipush X55.here hx rfl (hb hby at_335) k) ?_
            show own_Fin _ _ _ _ _ _ _ (T55.setTop (mkF m 338 #[iv p1, iv p2, iv p3, iv p4, iv p5, iv p6, iv u, iv fr, iv pr, iv n, rv b1, iv mm, iv W0, iv W1, iv W2, iv W3, iv W4, iv K0, iv K1, iv K2, iv K3, iv 1, rv b17, iv 1, rv r55] [(.int (200 : Int32)), (.int (200 : Int32))]))
            refine own_st (fun t k => XS.icmpYes X55.here hx rfl (pc0 := 338) (pc' := 343) rfl (hb hby at_338) rfl (teq (by decide : (200 : Int32) = (200 : Int32))).1 (by decide) (by decide) k) ?_
            refine own_st (fun t k => XS.iload X55.here hx rfl (hb hby at_343) rfl k) ?_
            show own_Fin _ _ _ _ _ _ _ (T55.setTop (mkF m 345 #[iv p1, iv p2, iv p3, iv p4, iv p5, iv p6, iv u, iv fr, iv pr, iv n, rv b1, iv mm, iv W0, iv W1, iv W2, iv W3, iv W4, iv K0, iv K1, iv K2, iv K3, iv 1, rv b17, iv 1, rv r55] [(.int (1 : Int32))]))
            refine own_st (fun t k => XS.ifNo X55.here hx rfl (hb hby at_345) rfl ((if0 _ _).trans (tlt (by decide : (0 : Int32) < (1 : Int32))).2.2.2) k) ?_
            refine own_st (fun t k => XS.aload X55.here hx rfl (hb hby at_348) rfl rfl k) ?_
            refine own_st (fun t k => XS.iload X55.here hx rfl (hb hby at_350) rfl k) ?_
            show own_Fin _ _ _ _ _ _ _ (T55.setTop (mkF m 352 #[iv p1, iv p2, iv p3, iv p4, iv p5, iv p6, iv u, iv fr, iv pr, iv n, rv b1, iv mm, iv W0, iv W1, iv W2, iv W3, iv W4, iv K0, iv K1, iv K2, iv K3, iv 1, rv b17, iv 1, rv r55] [(.int (1 : Int32)), (.ref r55)]))
            obtain ⟨cl58, Ar58, Cq58, Sz58, Mn58, Hs58, Gf58⟩ := id oX55
            have hin58 := inb_of Sz58 (j := (1 : Int32)) ⟨by decide, by decide⟩
            refine own_st (X55.iaload hx (j := (1 : Int32)) (v := (.int K0)) Ar58.1 (State.isArrayOf_alike hZ.alike Ar58.2.1) Ar58.2.2 hin58 (Hs58.at hin58 rfl) (g := (mkF m 352 #[iv p1, iv p2, iv p3, iv p4, iv p5, iv p6, iv u, iv fr, iv pr, iv n, rv b1, iv mm, iv W0, iv W1, iv W2, iv W3, iv W4, iv K0, iv K1, iv K2, iv K3, iv 1, rv b17, iv 1, rv r55] [(.int (1 : Int32)), (.ref r55)])) rfl rfl (hb hby at_352)) ?_
            refine own_st (fun t k => XS.iload X55.here hx rfl (hb hby at_353) rfl k) ?_
            show own_Fin _ _ _ _ _ _ _ (T55.setTop (mkF m 355 #[iv p1, iv p2, iv p3, iv p4, iv p5, iv p6, iv u, iv fr, iv pr, iv n, rv b1, iv mm, iv W0, iv W1, iv W2, iv W3, iv W4, iv K0, iv K1, iv K2, iv K3, iv 1, rv b17, iv 1, rv r55] [(.int K0), (.int K0)]))
            refine own_st (fun t k => XS.icmpYes X55.here hx rfl (pc0 := 355) (pc' := 360) rfl (hb hby at_355) rfl (teq (rfl : K0 = K0)).1 (by decide) (by decide) k) ?_
            refine own_st (fun t k => XS.iload X55.here hx rfl (hb hby at_360) rfl k) ?_
            refine own_st (fun t k => XS.iconst X55.here hx rfl (hb hby at_362) k) ?_
            show own_Fin _ _ _ _ _ _ _ (T55.setTop (mkF m 363 #[iv p1, iv p2, iv p3, iv p4, iv p5, iv p6, iv u, iv fr, iv pr, iv n, rv b1, iv mm, iv W0, iv W1, iv W2, iv W3, iv W4, iv K0, iv K1, iv K2, iv K3, iv 1, rv b17, iv 1, rv r55] [(.int (1 : Int32)), (.int (1 : Int32))]))
            refine own_st (fun t k => XS.icmpYes X55.here hx rfl (pc0 := 363) (pc' := 380) rfl (hb hby at_363) rfl (flt (by decide : ¬ ((1 : Int32) < (1 : Int32)))).2.2.2 (by decide) (by decide) k) ?_
            refine own_st (fun t k => XS.iload X55.here hx rfl (hb hby at_380) rfl k) ?_
            refine own_st (fun t k => XS.iconst X55.here hx rfl (hb hby at_382) k) ?_
            show own_Fin _ _ _ _ _ _ _ (T55.setTop (mkF m 383 #[iv p1, iv p2, iv p3, iv p4, iv p5, iv p6, iv u, iv fr, iv pr, iv n, rv b1, iv mm, iv W0, iv W1, iv W2, iv W3, iv W4, iv K0, iv K1, iv K2, iv K3, iv 1, rv b17, iv 1, rv r55] [(.int (2 : Int32)), (.int (1 : Int32))]))
            refine own_st (fun t k => XS.icmpYes X55.here hx rfl (pc0 := 383) (pc' := 400) rfl (hb hby at_383) rfl (flt (by decide : ¬ ((2 : Int32) < (1 : Int32)))).2.2.2 (by decide) (by decide) k) ?_
            refine own_st (fun t k => XS.iload X55.here hx rfl (hb hby at_400) rfl k) ?_
            refine own_st (fun t k => XS.iconst X55.here hx rfl (hb hby at_402) k) ?_
            show own_Fin _ _ _ _ _ _ _ (T55.setTop (mkF m 403 #[iv p1, iv p2, iv p3, iv p4, iv p5, iv p6, iv u, iv fr, iv pr, iv n, rv b1, iv mm, iv W0, iv W1, iv W2, iv W3, iv W4, iv K0, iv K1, iv K2, iv K3, iv 1, rv b17, iv 1, rv r55] [(.int (3 : Int32)), (.int (1 : Int32))]))
            refine own_st (fun t k => XS.icmpYes X55.here hx rfl (pc0 := 403) (pc' := 420) rfl (hb hby at_403) rfl (flt (by decide : ¬ ((3 : Int32) < (1 : Int32)))).2.2.2 (by decide) (by decide) k) ?_
            refine own_st (fun t k => XS.iconst X55.here hx rfl (hb hby at_420) k) ?_
            show own_Fin _ _ _ _ _ _ _ (T55.setTop (mkF m 421 #[iv p1, iv p2, iv p3, iv p4, iv p5, iv p6, iv u, iv fr, iv pr, iv n, rv b1, iv mm, iv W0, iv W1, iv W2, iv W3, iv W4, iv K0, iv K1, iv K2, iv K3, iv 1, rv b17, iv 1, rv r55] [(.int (1 : Int32))]))
            exact own_retN X55 hx Bd.notSynchronized (t := .boolean) Bd.returns (by simp) (hb hby at_421) (by decide) (by decide) ⟨rfl, N55, trivial⟩
          · have xc59 : Fld Z T49.heap b17 "com/example/quietzone/quietzone/datamatrix/CodewordWriter" "count" "I" (.int (3 : Int32)) := by have q := oC49; rw [hks] at q; exact q
            have xv59 : Arv Z T49.heap t18 kt18 .int (8 : Int32) [(.int (200 : Int32)), (.int K0), (.int K1), (.int (0 : Int32)), (.int (0 : Int32)), (.int (0 : Int32)), (.int (0 : Int32)), (.int (0 : Int32))] (.int (0 : Int32)) := by have q := oV49; rw [hks] at q; exact q
            refine own_st (fun t k => XS.aload X49.here hx rfl (hb hby at_306) rfl rfl k) ?_
            show own_Fin _ _ _ _ _ _ _ (T49.setTop (mkF m 308 #[iv p1, iv p2, iv p3, iv p4, iv p5, iv p6, iv u, iv fr, iv pr, iv n, rv b1, iv mm, iv W0, iv W1, iv W2, iv W3, iv W4, iv K0, iv K1, iv K2, iv K3, iv 2, rv b17, iv 1, .unset] [(.ref b17)]))
            obtain ⟨cq60, kq60, qa60, qb60, qc60⟩ := isOf hZ rfl oE49
            obtain ⟨_, _, ⟨T60, L60, k60, n60⟩, -, X60, ⟨Lc60, hQ60, l60, y60, z60⟩, st60⟩ := X49.virtualBack hx (y := (⟨"com/example/quietzone/quietzone/datamatrix/CodewordWriter", "codewords", "()[I"⟩ : MethodName)) (z := (⟨"com/example/quietzone/quietzone/datamatrix/CodewordWriter", "codewords", "()[I"⟩ : MethodName)) hown (mvT hZ (hw _ (List.mem_of_getElem? (i := 31) rfl))) (mvT hZ (hw _ (List.mem_of_getElem? (i := 32) rfl))) (notFace_of_selects (args := #[]) (mvT hZ (hw _ (List.mem_of_getElem? (i := 34) rfl)))) (mvT hZ (hw _ (List.mem_of_getElem? (i := 34) rfl))) (mvT hZ (hw _ (List.mem_of_getElem? (i := 33) rfl))) (by decide) (backOf (W := 0) (rm6 l Z a0 hw [] b17 t18 kt18 [(.int (200 : Int32)), (.int K0), (.int K1), (.int (0 : Int32)), (.int (0 : Int32)), (.int (0 : Int32)), (.int (0 : Int32)), (.int (0 : Int32))] (3 : Int32) T49.heap n0 Z49 oW49 xc59 xv59 (by decide) (by decide) (by decide) (by decide) (by decide)) hZ (hw _ (List.mem_of_getElem? (i := 35) rfl)) (hw _ (List.mem_of_getElem? (i := 11) rfl)) (by decide) (by decide)) qa60 qc60 (g := (mkF m 308 #[iv p1, iv p2, iv p3, iv p4, iv p5, iv p6, iv u, iv fr, iv pr, iv n, rv b1, iv mm, iv W0, iv W1, iv W2, iv W3, iv W4, iv K0, iv K1, iv K2, iv K3, iv 2, rv b17, iv 1, .unset] [(.ref b17)])) rfl (by rw [hml]; rfl) (Steps.refl _) (argsL := []) (rest := []) (lenOf pd_0_4 rfl) rfl (by show 2 * 0 + _ ≤ _; exact Nat.le_of_eq rfl) (hb hby at_308) (fun _ _ => ⟨rfl, rfl, (by decide : 5 + 1 ≤ _), (by decide : 28 + 8 ≤ _)⟩)
            dsimp only [Pt.U, Pt.locs, Pt.cells, Pt.slots] at X60 l60 y60 z60 st60 hQ60
            subst l60 y60 z60
            obtain ⟨r60, kr60, rfl, N60q, K60, gr60, gs60, oV60⟩ := hQ60
            have N60 := Fr.app N49 N60q
            have f60_0 := f49_0.keep K60 nin0
            have f60_1 := oE49.keep K60
            have f60_2 := oW49.keep K60 nin0
            have f60_3 := xc59.keep K60 nin0
            have f60_4 := xv59.keep K60 nin0
            have Z60 : n0 ≤ T60.heap.size := Nat.le_trans Z49 K60.1
            refine own_st (fun t k => st60.trans k) ?_
            show own_Fin _ _ _ _ _ _ _ (T60.setTop (mkF m 311 #[iv p1, iv p2, iv p3, iv p4, iv p5, iv p6, iv u, iv fr, iv pr, iv n, rv b1, iv mm, iv W0, iv W1, iv W2, iv W3, iv W4, iv K0, iv K1, iv K2, iv K3, iv 2, rv b17, iv 1, .unset] [(.ref r60)]))
            have oX60 : Arv Z T60.heap r60 kr60 .int (3 : Int32) [(.int (200 : Int32)), (.int K0), (.int K1)] (.int (0 : Int32)) := oV60
            refine own_st (fun t k => XS.astore X60.here hx rfl (hb hby at_311) rfl rfl (l' := #[iv p1, iv p2, iv p3, iv p4, iv p5, iv p6, iv u, iv fr, iv pr, iv n, rv b1, iv mm, iv W0, iv W1, iv W2, iv W3, iv W4, iv K0, iv K1, iv K2, iv K3, iv 2, rv b17, iv 1, rv r60]) rfl k) ?_
            refine own_st (fun t k => XS.aload X60.here hx rfl (hb hby at_313) rfl rfl k) ?_
            show own_Fin _ _ _ _ _ _ _ (T60.setTop (mkF m 315 #[iv p1, iv p2, iv p3, iv p4, iv p5, iv p6, iv u, iv fr, iv pr, iv n, rv b1, iv mm, iv W0, iv W1, iv W2, iv W3, iv W4, iv K0, iv K1, iv K2, iv K3, iv 2, rv b17, iv 1, rv r60] [(.ref r60)]))
            obtain ⟨cl61, Ar61, Cq61, Sz61, Mn61, Hs61, Gf61⟩ := id oX60
            refine own_st (X60.arraylength hx Ar61.1 (State.isArrayOf_alike hZ.alike Ar61.2.1) (g := (mkF m 315 #[iv p1, iv p2, iv p3, iv p4, iv p5, iv p6, iv u, iv fr, iv pr, iv n, rv b1, iv mm, iv W0, iv W1, iv W2, iv W3, iv W4, iv K0, iv K1, iv K2, iv K3, iv 2, rv b17, iv 1, rv r60] [(.ref r60)])) rfl rfl (hb hby at_315)) ?_
            rw [len_of Sz61 Mn61]
            refine own_st (fun t k => XS.iload X60.here hx rfl (hb hby at_316) rfl k) ?_
            refine own_st (fun t k => XS.iload X60.here hx rfl (hb hby at_318) rfl k) ?_
            show own_Fin _ _ _ _ _ _ _ (T60.setTop (mkF m 320 #[iv p1, iv p2, iv p3, iv p4, iv p5, iv p6, iv u, iv fr, iv pr, iv n, rv b1, iv mm, iv W0, iv W1, iv W2, iv W3, iv W4, iv K0, iv K1, iv K2, iv K3, iv 2, rv b17, iv 1, rv r60] [(.int (2 : Int32)), (.int (1 : Int32)), (.int (3 : Int32))]))
            refine own_st (fun t k => XS.iadd X60.here hx rfl (hb hby at_320) rfl k) ?_
            show own_Fin _ _ _ _ _ _ _ (T60.setTop (mkF m 321 #[iv p1, iv p2, iv p3, iv p4, iv p5, iv p6, iv u, iv fr, iv pr, iv n, rv b1, iv mm, iv W0, iv W1, iv W2, iv W3, iv W4, iv K0, iv K1, iv K2, iv K3, iv 2, rv b17, iv 1, rv r60] [(.int (3 : Int32)), (.int (3 : Int32))]))
            refine own_st (fun t k => XS.icmpYes X60.here hx rfl (pc0 := 321) (pc' := 326) rfl (hb hby at_321) rfl (teq (by decide : (3 : Int32) = (3 : Int32))).1 (by decide) (by decide) k) ?_
            refine own_st (fun t k => XS.iload X60.here hx rfl (hb hby at_326) rfl k) ?_
            show own_Fin _ _ _ _ _ _ _ (T60.setTop (mkF m 328 #[iv p1, iv p2, iv p3, iv p4, iv p5, iv p6, iv u, iv fr, iv pr, iv n, rv b1, iv mm, iv W0, iv W1, iv W2, iv W3, iv W4, iv K0, iv K1, iv K2, iv K3, iv 2, rv b17, iv 1, rv r60] [(.int pr)]))
            refine own_st (fun t k => XS.ifNo X60.here hx rfl (hb hby at_328) rfl ((if0 _ _).trans (feq hc276_19).1) k) ?_
            refine own_st (fun t k => XS.aload X60.here hx rfl (hb hby at_331) rfl rfl k) ?_
            refine own_st (fun t k => XS.iconst X60.here hx rfl (hb hby at_333) k) ?_
            show own_Fin _ _ _ _ _ _ _ (T60.setTop (mkF m 334 #[iv p1, iv p2, iv p3, iv p4, iv p5, iv p6, iv u, iv fr, iv pr, iv n, rv b1, iv mm, iv W0, iv W1, iv W2, iv W3, iv W4, iv K0, iv K1, iv K2, iv K3, iv 2, rv b17, iv 1, rv r60] [(.int (0 : Int32)), (.ref r60)]))
            obtain ⟨cl62, Ar62, Cq62, Sz62, Mn62, Hs62, Gf62⟩ := id oX60
            have hin62 := inb_of Sz62 (j := (0 : Int32)) ⟨by decide, by decide⟩
            refine own_st (X60.iaload hx (j := (0 : Int32)) (v := (.int (200 : Int32))) Ar62.1 (State.isArrayOf_alike hZ.alike Ar62.2.1) Ar62.2.2 hin62 (Hs62.at hin62 rfl) (g := (mkF m 334 #[iv p1, iv p2, iv p3, iv p4, iv p5, iv p6, iv u, iv fr, iv pr, iv n, rv b1, iv mm, iv W0, iv W1, iv W2, iv W3, iv W4, iv K0, iv K1, iv K2, iv K3, iv 2, rv b17, iv 1, rv r60] [(.int (0 : Int32)), (.ref r60)])) rfl rfl (hb hby at_334)) ?_
            refine own_st (fun t k => XS.sipush X60.here hx rfl (hb hby at_335) k) ?_
            show own_Fin _ _ _ _ _ _ _ (T60.setTop (mkF m 338 #[iv p1, iv p2, iv p3, iv p4, iv p5, iv p6, iv u, iv fr, iv pr, iv n, rv b1, iv mm, iv W0, iv W1, iv W2, iv W3, iv W4, iv K0, iv K1, iv K2, iv K3, iv 2, rv b17, iv 1, rv r60] [(.int (200 : Int32)), (.int (200 : Int32))]))
            refine own_st (fun t k => XS.icmpYes X60.here hx rfl (pc0 := 338) (pc' := 343) rfl (hb hby at_338) rfl (teq (by decide : (200 : Int32) = (200 : Int32))).1 (by decide) (by decide) k) ?_
            refine own_st (fun t k => XS.iload X60.here hx rfl (hb hby at_343) rfl k) ?_
            show own_Fin _ _ _ _ _ _ _ (T60.setTop (mkF m 345 #[iv p1, iv p2, iv p3, iv p4, iv p5, iv p6, iv u, iv fr, iv pr, iv n, rv b1, iv mm, iv W0, iv W1, iv W2, iv W3, iv W4, iv K0, iv K1, iv K2, iv K3, iv 2, rv b17, iv 1, rv r60] [(.int (2 : Int32))]))
            refine own_st (fun t k => XS.ifNo X60.here hx rfl (hb hby at_345) rfl ((if0 _ _).trans (tlt (by decide : (0 : Int32) < (2 : Int32))).2.2.2) k) ?_
            refine own_st (fun t k => XS.aload X60.here hx rfl (hb hby at_348) rfl rfl k) ?_
            refine own_st (fun t k => XS.iload X60.here hx rfl (hb hby at_350) rfl k) ?_
            show own_Fin _ _ _ _ _ _ _ (T60.setTop (mkF m 352 #[iv p1, iv p2, iv p3, iv p4, iv p5, iv p6, iv u, iv fr, iv pr, iv n, rv b1, iv mm, iv W0, iv W1, iv W2, iv W3, iv W4, iv K0, iv K1, iv K2, iv K3, iv 2, rv b17, iv 1, rv r60] [(.int (1 : Int32)), (.ref r60)]))
            obtain ⟨cl63, Ar63, Cq63, Sz63, Mn63, Hs63, Gf63⟩ := id oX60
            have hin63 := inb_of Sz63 (j := (1 : Int32)) ⟨by decide, by decide⟩
            refine own_st (X60.iaload hx (j := (1 : Int32)) (v := (.int K0)) Ar63.1 (State.isArrayOf_alike hZ.alike Ar63.2.1) Ar63.2.2 hin63 (Hs63.at hin63 rfl) (g := (mkF m 352 #[iv p1, iv p2, iv p3, iv p4, iv p5, iv p6, iv u, iv fr, iv pr, iv n, rv b1, iv mm, iv W0, iv W1, iv W2, iv W3, iv W4, iv K0, iv K1, iv K2, iv K3, iv 2, rv b17, iv 1, rv r60] [(.int (1 : Int32)), (.ref r60)])) rfl rfl (hb hby at_352)) ?_
            refine own_st (fun t k => XS.iload X60.here hx rfl (hb hby at_353) rfl k) ?_
            show own_Fin _ _ _ _ _ _ _ (T60.setTop (mkF m 355 #[iv p1, iv p2, iv p3, iv p4, iv p5, iv p6, iv u, iv fr, iv pr, iv n, rv b1, iv mm, iv W0, iv W1, iv W2, iv W3, iv W4, iv K0, iv K1, iv K2, iv K3, iv 2, rv b17, iv 1, rv r60] [(.int K0), (.int K0)]))
            refine own_st (fun t k => XS.icmpYes X60.here hx rfl (pc0 := 355) (pc' := 360) rfl (hb hby at_355) rfl (teq (rfl : K0 = K0)).1 (by decide) (by decide) k) ?_
            refine own_st (fun t k => XS.iload X60.here hx rfl (hb hby at_360) rfl k) ?_
            refine own_st (fun t k => XS.iconst X60.here hx rfl (hb hby at_362) k) ?_
            show own_Fin _ _ _ _ _ _ _ (T60.setTop (mkF m 363 #[iv p1, iv p2, iv p3, iv p4, iv p5, iv p6, iv u, iv fr, iv pr, iv n, rv b1, iv mm, iv W0, iv W1, iv W2, iv W3, iv W4, iv K0, iv K1, iv K2, iv K3, iv 2, rv b17, iv 1, rv r60] [(.int (1 : Int32)), (.int (2 : Int32))]))
            refine own_st (fun t k => XS.icmpNo X60.here hx rfl (hb hby at_363) rfl (tlt (by decide : (1 : Int32) < (2 : Int32))).2.2.2 k) ?_
            refine own_st (fun t k => XS.aload X60.here hx rfl (hb hby at_366) rfl rfl k) ?_
            refine own_st (fun t k => XS.iload X60.here hx rfl (hb hby at_368) rfl k) ?_
            show own_Fin _ _ _ _ _ _ _ (T60.setTop (mkF m 370 #[iv p1, iv p2, iv p3, iv p4, iv p5, iv p6, iv u, iv fr, iv pr, iv n, rv b1, iv mm, iv W0, iv W1, iv W2, iv W3, iv W4, iv K0, iv K1, iv K2, iv K3, iv 2, rv b17, iv 1, rv r60] [(.int (1 : Int32)), (.ref r60)]))
            refine own_st (fun t k => XS.iconst X60.here hx rfl (hb hby at_370) k) ?_
            refine own_st (fun t k => XS.iadd X60.here hx rfl (hb hby at_371) rfl k) ?_
            show own_Fin _ _ _ _ _ _ _ (T60.setTop (mkF m 372 #[iv p1, iv p2, iv p3, iv p4, iv p5, iv p6, iv u, iv fr, iv pr, iv n, rv b1, iv mm, iv W0, iv W1, iv W2, iv W3, iv W4, iv K0, iv K1, iv K2, iv K3, iv 2, rv b17, iv 1, rv r60] [(.int (2 : Int32)), (.ref r60)]))
            obtain ⟨cl64, Ar64, Cq64, Sz64, Mn64, Hs64, Gf64⟩ := id oX60
            have hin64 := inb_of Sz64 (j := (2 : Int32)) ⟨by decide, by decide⟩
            refine own_st (X60.iaload hx (j := (2 : Int32)) (v := (.int K1)) Ar64.1 (State.isArrayOf_alike hZ.alike Ar64.2.1) Ar64.2.2 hin64 (Hs64.at hin64 rfl) (g := (mkF m 372 #[iv p1, iv p2, iv p3, iv p4, iv p5, iv p6, iv u, iv fr, iv pr, iv n, rv b1, iv mm, iv W0, iv W1, iv W2, iv W3, iv W4, iv K0, iv K1, iv K2, iv K3, iv 2, rv b17, iv 1, rv r60] [(.int (2 : Int32)), (.ref r60)])) rfl rfl (hb hby at_372)) ?_
            refine own_st (fun t k => XS.iload X60.here hx rfl (hb hby at_373) rfl k) ?_
            show own_Fin _ _ _ _ _ _ _ (T60.setTop (mkF m 375 #[iv p1, iv p2, iv p3, iv p4, iv p5, iv p6, iv u, iv fr, iv pr, iv n, rv b1, iv mm, iv W0, iv W1, iv W2, iv W3, iv W4, iv K0, iv K1, iv K2, iv K3, iv 2, rv b17, iv 1, rv r60] [(.int K1), (.int K1)]))
            refine own_st (fun t k => XS.icmpYes X60.here hx rfl (pc0 := 375) (pc' := 380) rfl (hb hby at_375) rfl (teq (rfl : K1 = K1)).1 (by decide) (by decide) k) ?_
            refine own_st (fun t k => XS.iload X60.here hx rfl (hb hby at_380) rfl k) ?_
            refine own_st (fun t k => XS.iconst X60.here hx rfl (hb hby at_382) k) ?_
            show own_Fin _ _ _ _ _ _ _ (T60.setTop (mkF m 383 #[iv p1, iv p2, iv p3, iv p4, iv p5, iv p6, iv u, iv fr, iv pr, iv n, rv b1, iv mm, iv W0, iv W1, iv W2, iv W3, iv W4, iv K0, iv K1, iv K2, iv K3, iv 2, rv b17, iv 1, rv r60] [(.int (2 : Int32)), (.int (2 : Int32))]))
            refine own_st (fun t k => XS.icmpYes X60.here hx rfl (pc0 := 383) (pc' := 400) rfl (hb hby at_383) rfl (flt (by decide : ¬ ((2 : Int32) < (2 : Int32)))).2.2.2 (by decide) (by decide) k) ?_
            refine own_st (fun t k => XS.iload X60.here hx rfl (hb hby at_400) rfl k) ?_
            refine own_st (fun t k => XS.iconst X60.here hx rfl (hb hby at_402) k) ?_
            show own_Fin _ _ _ _ _ _ _ (T60.setTop (mkF m 403 #[iv p1, iv p2, iv p3, iv p4, iv p5, iv p6, iv u, iv fr, iv pr, iv n, rv b1, iv mm, iv W0, iv W1, iv W2, iv W3, iv W4, iv K0, iv K1, iv K2, iv K3, iv 2, rv b17, iv 1, rv r60] [(.int (3 : Int32)), (.int (2 : Int32))]))
            refine own_st (fun t k => XS.icmpYes X60.here hx rfl (pc0 := 403) (pc' := 420) rfl (hb hby at_403) rfl (flt (by decide : ¬ ((3 : Int32) < (2 : Int32)))).2.2.2 (by decide) (by decide) k) ?_
            refine own_st (fun t k => XS.iconst X60.here hx rfl (hb hby at_420) k) ?_
            show own_Fin _ _ _ _ _ _ _ (T60.setTop (mkF m 421 #[iv p1, iv p2, iv p3, iv p4, iv p5, iv p6, iv u, iv fr, iv pr, iv n, rv b1, iv mm, iv W0, iv W1, iv W2, iv W3, iv W4, iv K0, iv K1, iv K2, iv K3, iv 2, rv b17, iv 1, rv r60] [(.int (1 : Int32))]))
            exact own_retN X60 hx Bd.notSynchronized (t := .boolean) Bd.returns (by simp) (hb hby at_421) (by decide) (by decide) ⟨rfl, N60, trivial⟩
          · have xc65 : Fld Z T49.heap b17 "com/example/quietzone/quietzone/datamatrix/CodewordWriter" "count" "I" (.int (4 : Int32)) := by have q := oC49; rw [hks] at q; exact q
            have xv65 : Arv Z T49.heap t18 kt18 .int (8 : Int32) [(.int (200 : Int32)), (.int K0), (.int K1), (.int K2), (.int (0 : Int32)), (.int (0 : Int32)), (.int (0 : Int32)), (.int (0 : Int32))] (.int (0 : Int32)) := by have q := oV49; rw [hks] at q; exact q
            refine own_st (fun t k => XS.aload X49.here hx rfl (hb hby at_306) rfl rfl k) ?_
            show own_Fin _ _ _ _ _ _ _ (T49.setTop (mkF m 308 #[iv p1, iv p2, iv p3, iv p4, iv p5, iv p6, iv u, iv fr, iv pr, iv n, rv b1, iv mm, iv W0, iv W1, iv W2, iv W3, iv W4, iv K0, iv K1, iv K2, iv K3, iv 3, rv b17, iv 1, .unset] [(.ref b17)]))
            obtain ⟨cq66, kq66, qa66, qb66, qc66⟩ := isOf hZ rfl oE49
            obtain ⟨_, _, ⟨T66, L66, k66, n66⟩, -, X66, ⟨Lc66, hQ66, l66, y66, z66⟩, st66⟩ := X49.virtualBack hx (y := (⟨"com/example/quietzone/quietzone/datamatrix/CodewordWriter", "codewords", "()[I"⟩ : MethodName)) (z := (⟨"com/example/quietzone/quietzone/datamatrix/CodewordWriter", "codewords", "()[I"⟩ : MethodName)) hown (mvT hZ (hw _ (List.mem_of_getElem? (i := 31) rfl))) (mvT hZ (hw _ (List.mem_of_getElem? (i := 32) rfl))) (notFace_of_selects (args := #[]) (mvT hZ (hw _ (List.mem_of_getElem? (i := 34) rfl)))) (mvT hZ (hw _ (List.mem_of_getElem? (i := 34) rfl))) (mvT hZ (hw _ (List.mem_of_getElem? (i := 33) rfl))) (by decide) (backOf (W := 0) (rm6 l Z a0 hw [] b17 t18 kt18 [(.int (200 : Int32)), (.int K0), (.int K1), (.int K2), (.int (0 : Int32)), (.int (0 : Int32)), (.int (0 : Int32)), (.int (0 : Int32))] (4 : Int32) T49.heap n0 Z49 oW49 xc65 xv65 (by decide) (by decide) (by decide) (by decide) (by decide)) hZ (hw _ (List.mem_of_getElem? (i := 35) rfl)) (hw _ (List.mem_of_getElem? (i := 11) rfl)) (by decide) (by decide)) qa66 qc66 (g := (mkF m 308 #[iv p1, iv p2, iv p3, iv p4, iv p5, iv p6, iv u, iv fr, iv pr, iv n, rv b1, iv mm, iv W0, iv W1, iv W2, iv W3, iv W4, iv K0, iv K1, iv K2, iv K3, iv 3, rv b17, iv 1, .unset] [(.ref b17)])) rfl (by rw [hml]; rfl) (Steps.refl _) (argsL := []) (rest := []) (lenOf pd_0_4 rfl) rfl (by show 2 * 0 + _ ≤ _; exact Nat.le_of_eq rfl) (hb hby at_308) (fun _ _ => ⟨rfl, rfl, (by decide : 5 + 1 ≤ _), (by decide : 28 + 8 ≤ _)⟩)
            dsimp only [Pt.U, Pt.locs, Pt.cells, Pt.slots] at X66 l66 y66 z66 st66 hQ66
            subst l66 y66 z66
            obtain ⟨r66, kr66, rfl, N66q, K66, gr66, gs66, oV66⟩ := hQ66
            have N66 := Fr.app N49 N66q
            have f66_0 := f49_0.keep K66 nin0
            have f66_1 := oE49.keep K66
            have f66_2 := oW49.keep K66 nin0
            have f66_3 := xc65.keep K66 nin0
            have f66_4 := xv65.keep K66 nin0
            have Z66 : n0 ≤ T66.heap.size := Nat.le_trans Z49 K66.1
            refine own_st (fun t k => st66.trans k) ?_
            show own_Fin _ _ _ _ _ _ _ (T66.setTop (mkF m 311 #[iv p1, iv p2, iv p3, iv p4, iv p5, iv p6, iv u, iv fr, iv pr, iv n, rv b1, iv mm, iv W0, iv W1, iv W2, iv W3, iv W4, iv K0, iv K1, iv K2, iv K3, iv 3, rv b17, iv 1, .unset] [(.ref r66)]))
            have oX66 : Arv Z T66.heap r66 kr66 .int (4 : Int32) [(.int (200 : Int32)), (.int K0), (.int K1), (.int K2)] (.int (0 : Int32)) := oV66
            refine own_st (fun t k => XS.astore X66.here hx rfl (hb hby at_311) rfl rfl (l' := #[iv p1, iv p2, iv p3, iv p4, iv p5, iv p6, iv u, iv fr, iv pr, iv n, rv b1, iv mm, iv W0, iv W1, iv W2, iv W3, iv W4, iv K0, iv K1, iv K2, iv K3, iv 3, rv b17, iv 1, rv r66]) rfl k) ?_
            refine own_st (fun t k => XS.aload X66.here hx rfl (hb hby at_313) rfl rfl k) ?_
            show own_Fin _ _ _ _ _ _ _ (T66.setTop (mkF m 315 #[iv p1, iv p2, iv p3, iv p4, iv p5, iv p6, iv u, iv fr, iv pr, iv n, rv b1, iv mm, iv W0, iv W1, iv W2, iv W3, iv W4, iv K0, iv K1, iv K2, iv K3, iv 3, rv b17, iv 1, rv r66] [(.ref r66)]))
            obtain ⟨cl67, Ar67, Cq67, Sz67, Mn67, Hs67, Gf67⟩ := id oX66
            refine own_st (X66.arraylength hx Ar67.1 (State.isArrayOf_alike hZ.alike Ar67.2.1) (g := (mkF m 315 #[iv p1, iv p2, iv p3, iv p4, iv p5, iv p6, iv u, iv fr, iv pr, iv n, rv b1, iv mm, iv W0, iv W1, iv W2, iv W3, iv W4, iv K0, iv K1, iv K2, iv K3, iv 3, rv b17, iv 1, rv r66] [(.ref r66)])) rfl rfl (hb hby at_315)) ?_
            rw [len_of Sz67 Mn67]
            refine own_st (fun t k => XS.iload X66.here hx rfl (hb hby at_316) rfl k) ?_
            refine own_st (fun t k => XS.iload X66.here hx rfl (hb hby at_318) rfl k) ?_
            show own_Fin _ _ _ _ _ _ _ (T66.setTop (mkF m 320 #[iv p1, iv p2, iv p3, iv p4, iv p5, iv p6, iv u, iv fr, iv pr, iv n, rv b1, iv mm, iv W0, iv W1, iv W2, iv W3, iv W4, iv K0, iv K1, iv K2, iv K3, iv 3, rv b17, iv 1, rv r66] [(.int (3 : Int32)), (.int (1 : Int32)), (.int (4 : Int32))]))
            refine own_st (fun t k => XS.iadd X66.here hx rfl (hb hby at_320) rfl k) ?_
            show own_Fin _ _ _ _ _ _ _ (T66.setTop (mkF m 321 #[iv p1, iv p2, iv p3, iv p4, iv p5, iv p6, iv u, iv fr, iv pr, iv n, rv b1, iv mm, iv W0, iv W1, iv W2, iv W3, iv W4, iv K0, iv K1, iv K2, iv K3, iv 3, rv b17, iv 1, rv r66] [(.int (4 : Int32)), (.int (4 : Int32))]))
            refine own_st (fun t k => XS.icmpYes X66.here hx rfl (pc0 := 321) (pc' := 326) rfl (hb hby at_321) rfl (teq (by decide : (4 : Int32) = (4 : Int32))).1 (by decide) (by decide) k) ?_
            refine own_st (fun t k => XS.iload X66.here hx rfl (hb hby at_326) rfl k) ?_
            show own_Fin _ _ _ _ _ _ _ (T66.setTop (mkF m 328 #[iv p1, iv p2, iv p3, iv p4, iv p5, iv p6, iv u, iv fr, iv pr, iv n, rv b1, iv mm, iv W0, iv W1, iv W2, iv W3, iv W4, iv K0, iv K1, iv K2, iv K3, iv 3, rv b17, iv 1, rv r66] [(.int pr)]))
            refine own_st (fun t k => XS.ifNo X66.here hx rfl (hb hby at_328) rfl ((if0 _ _).trans (feq hc276_19).1) k) ?_
            refine own_st (fun t k => XS.aload X66.here hx rfl (hb hby at_331) rfl rfl k) ?_
            refine own_st (fun t k => XS.iconst X66.here hx rfl (hb hby at_333) k) ?_
            show own_Fin _ _ _ _ _ _ _ (T66.setTop (mkF m 334 #[iv p1, iv p2, iv p3, iv p4, iv p5, iv p6, iv u, iv fr, iv pr, iv n, rv b1, iv mm, iv W0, iv W1, iv W2, iv W3, iv W4, iv K0, iv K1, iv K2, iv K3, iv 3, rv b17, iv 1, rv r66] [(.int (0 : Int32)), (.ref r66)]))
            obtain ⟨cl68, Ar68, Cq68, Sz68, Mn68, Hs68, Gf68⟩ := id oX66
            have hin68 := inb_of Sz68 (j := (0 : Int32)) ⟨by decide, by decide⟩
            refine own_st (X66.iaload hx (j := (0 : Int32)) (v := (.int (200 : Int32))) Ar68.1 (State.isArrayOf_alike hZ.alike Ar68.2.1) Ar68.2.2 hin68 (Hs68.at hin68 rfl) (g := (mkF m 334 #[iv p1, iv p2, iv p3, iv p4, iv p5, iv p6, iv u, iv fr, iv pr, iv n, rv b1, iv mm, iv W0, iv W1, iv W2, iv W3, iv W4, iv K0, iv K1, iv K2, iv K3, iv 3, rv b17, iv 1, rv r66] [(.int (0 : Int32)), (.ref r66)])) rfl rfl (hb hby at_334)) ?_
            refine own_st (fun t k => XS.sipush X66.here hx rfl (hb hby at_335) k) ?_
            show own_Fin _ _ _ _ _ _ _ (T66.setTop (mkF m 338 #[iv p1, iv p2, iv p3, iv p4, iv p5, iv p6, iv u, iv fr, iv pr, iv n, rv b1, iv mm, iv W0, iv W1, iv W2, iv W3, iv W4, iv K0, iv K1, iv K2, iv K3, iv 3, rv b17, iv 1, rv r66] [(.int (200 : Int32)), (.int (200 : Int32))]))
            refine own_st (fun t k => XS.icmpYes X66.here hx rfl (pc0 := 338) (pc' := 343) rfl (hb hby at_338) rfl (teq (by decide : (200 : Int32) = (200 : Int32))).1 (by decide) (by decide) k) ?_
            refine own_st (fun t k => XS.iload X66.here hx rfl (hb hby at_343) rfl k) ?_
            show own_Fin _ _ _ _ _ _ _ (T66.setTop (mkF m 345 #[iv p1, iv p2, iv p3, iv p4, iv p5, iv p6, iv u, iv fr, iv pr, iv n, rv b1, iv mm, iv W0, iv W1, iv W2, iv W3, iv W4, iv K0, iv K1, iv K2, iv K3, iv 3, rv b17, iv 1, rv r66] [(.int (3 : Int32))]))
            refine own_st (fun t k => XS.ifNo X66.here hx rfl (hb hby at_345) rfl ((if0 _ _).trans (tlt (by decide : (0 : Int32) < (3 : Int32))).2.2.2) k) ?_
            refine own_st (fun t k => XS.aload X66.here hx rfl (hb hby at_348) rfl rfl k) ?_
            refine own_st (fun t k => XS.iload X66.here hx rfl (hb hby at_350) rfl k) ?_
            show own_Fin _ _ _ _ _ _ _ (T66.setTop (mkF m 352 #[iv p1, iv p2, iv p3, iv p4, iv p5, iv p6, iv u, iv fr, iv pr, iv n, rv b1, iv mm, iv W0, iv W1, iv W2, iv W3, iv W4, iv K0, iv K1, iv K2, iv K3, iv 3, rv b17, iv 1, rv r66] [(.int (1 : Int32)), (.ref r66)]))
            obtain ⟨cl69, Ar69, Cq69, Sz69, Mn69, Hs69, Gf69⟩ := id oX66
            have hin69 := inb_of Sz69 (j := (1 : Int32)) ⟨by decide, by decide⟩
            refine own_st (X66.iaload hx (j := (1 : Int32)) (v := (.int K0)) Ar69.1 (State.isArrayOf_alike hZ.alike Ar69.2.1) Ar69.2.2 hin69 (Hs69.at hin69 rfl) (g := (mkF m 352 #[iv p1, iv p2, iv p3, iv p4, iv p5, iv p6, iv u, iv fr, iv pr, iv n, rv b1, iv mm, iv W0, iv W1, iv W2, iv W3, iv W4, iv K0, iv K1, iv K2, iv K3, iv 3, rv b17, iv 1, rv r66] [(.int (1 : Int32)), (.ref r66)])) rfl rfl (hb hby at_352)) ?_
            refine own_st (fun t k => XS.iload X66.here hx rfl (hb hby at_353) rfl k) ?_
            show own_Fin _ _ _ _ _ _ _ (T66.setTop (mkF m 355 #[iv p1, iv p2, iv p3, iv p4, iv p5, iv p6, iv u, iv fr, iv pr, iv n, rv b1, iv mm, iv W0, iv W1, iv W2, iv W3, iv W4, iv K0, iv K1, iv K2, iv K3, iv 3, rv b17, iv 1, rv r66] [(.int K0), (.int K0)]))
            refine own_st (fun t k => XS.icmpYes X66.here hx rfl (pc0 := 355) (pc' := 360) rfl (hb hby at_355) rfl (teq (rfl : K0 = K0)).1 (by decide) (by decide) k) ?_
            refine own_st (fun t k => XS.iload X66.here hx rfl (hb hby at_360) rfl k) ?_
            refine own_st (fun t k => XS.iconst X66.here hx rfl (hb hby at_362) k) ?_
            show own_Fin _ _ _ _ _ _ _ (T66.setTop (mkF m 363 #[iv p1, iv p2, iv p3, iv p4, iv p5, iv p6, iv u, iv fr, iv pr, iv n, rv b1, iv mm, iv W0, iv W1, iv W2, iv W3, iv W4, iv K0, iv K1, iv K2, iv K3, iv 3, rv b17, iv 1, rv r66] [(.int (1 : Int32)), (.int (3 : Int32))]))
            refine own_st (fun t k => XS.icmpNo X66.here hx rfl (hb hby at_363) rfl (tlt (by decide : (1 : Int32) < (3 : Int32))).2.2.2 k) ?_
            refine own_st (fun t k => XS.aload X66.here hx rfl (hb hby at_366) rfl rfl k) ?_
            refine own_st (fun t k => XS.iload X66.here hx rfl (hb hby at_368) rfl k) ?_
            show own_Fin _ _ _ _ _ _ _ (T66.setTop (mkF m 370 #[iv p1, iv p2, iv p3, iv p4, iv p5, iv p6, iv u, iv fr, iv pr, iv n, rv b1, iv mm, iv W0, iv W1, iv W2, iv W3, iv W4, iv K0, iv K1, iv K2, iv K3, iv 3, rv b17, iv 1, rv r66] [(.int (1 : Int32)), (.ref r66)]))
            refine own_st (fun t k => XS.iconst X66.here hx rfl (hb hby at_370) k) ?_
            refine own_st (fun t k => XS.iadd X66.here hx rfl (hb hby at_371) rfl k) ?_
            show own_Fin _ _ _ _ _ _ _ (T66.setTop (mkF m 372 #[iv p1, iv p2, iv p3, iv p4, iv p5, iv p6, iv u, iv fr, iv pr, iv n, rv b1, iv mm, iv W0, iv W1, iv W2, iv W3, iv W4, iv K0, iv K1, iv K2, iv K3, iv 3, rv b17, iv 1, rv r66] [(.int (2 : Int32)), (.ref r66)]))
            obtain ⟨cl70, Ar70, Cq70, Sz70, Mn70, Hs70, Gf70⟩ := id oX66
            have hin70 := inb_of Sz70 (j := (2 : Int32)) ⟨by decide, by decide⟩
            refine own_st (X66.iaload hx (j := (2 : Int32)) (v := (.int K1)) Ar70.1 (State.isArrayOf_alike hZ.alike Ar70.2.1) Ar70.2.2 hin70 (Hs70.at hin70 rfl) (g := (mkF m 372 #[iv p1, iv p2, iv p3, iv p4, iv p5, iv p6, iv u, iv fr, iv pr, iv n, rv b1, iv mm, iv W0, iv W1, iv W2, iv W3, iv W4, iv K0, iv K1, iv K2, iv K3, iv 3, rv b17, iv 1, rv r66] [(.int (2 : Int32)), (.ref r66)])) rfl rfl (hb hby at_372)) ?_
            refine own_st (fun t k => XS.iload X66.here hx rfl (hb hby at_373) rfl k) ?_
            show own_Fin _ _ _ _ _ _ _ (T66.setTop (mkF m 375 #[iv p1, iv p2, iv p3, iv p4, iv p5, iv p6, iv u, iv fr, iv pr, iv n, rv b1, iv mm, iv W0, iv W1, iv W2, iv W3, iv W4, iv K0, iv K1, iv K2, iv K3, iv 3, rv b17, iv 1, rv r66] [(.int K1), (.int K1)]))
            refine own_st (fun t k => XS.icmpYes X66.here hx rfl (pc0 := 375) (pc' := 380) rfl (hb hby at_375) rfl (teq (rfl : K1 = K1)).1 (by decide) (by decide) k) ?_
            refine own_st (fun t k => XS.iload X66.here hx rfl (hb hby at_380) rfl k) ?_
            refine own_st (fun t k => XS.iconst X66.here hx rfl (hb hby at_382) k) ?_
            show own_Fin _ _ _ _ _ _ _ (T66.setTop (mkF m 383 #[iv p1, iv p2, iv p3, iv p4, iv p5, iv p6, iv u, iv fr, iv pr, iv n, rv b1, iv mm, iv W0, iv W1, iv W2, iv W3, iv W4, iv K0, iv K1, iv K2, iv K3, iv 3, rv b17, iv 1, rv r66] [(.int (2 : Int32)), (.int (3 : Int32))]))
            refine own_st (fun t k => XS.icmpNo X66.here hx rfl (hb hby at_383) rfl (tlt (by decide : (2 : Int32) < (3 : Int32))).2.2.2 k) ?_
            refine own_st (fun t k => XS.aload X66.here hx rfl (hb hby at_386) rfl rfl k) ?_
            refine own_st (fun t k => XS.iload X66.here hx rfl (hb hby at_388) rfl k) ?_
            show own_Fin _ _ _ _ _ _ _ (T66.setTop (mkF m 390 #[iv p1, iv p2, iv p3, iv p4, iv p5, iv p6, iv u, iv fr, iv pr, iv n, rv b1, iv mm, iv W0, iv W1, iv W2, iv W3, iv W4, iv K0, iv K1, iv K2, iv K3, iv 3, rv b17, iv 1, rv r66] [(.int (1 : Int32)), (.ref r66)]))
            refine own_st (fun t k => XS.iconst X66.here hx rfl (hb hby at_390) k) ?_
            refine own_st (fun t k => XS.iadd X66.here hx rfl (hb hby at_391) rfl k) ?_
            show own_Fin _ _ _ _ _ _ _ (T66.setTop (mkF m 392 #[iv p1, iv p2, iv p3, iv p4, iv p5, iv p6, iv u, iv fr, iv pr, iv n, rv b1, iv mm, iv W0, iv W1, iv W2, iv W3, iv W4, iv K0, iv K1, iv K2, iv K3, iv 3, rv b17, iv 1, rv r66] [(.int (3 : Int32)), (.ref r66)]))
            obtain ⟨cl71, Ar71, Cq71, Sz71, Mn71, Hs71, Gf71⟩ := id oX66
            have hin71 := inb_of Sz71 (j := (3 : Int32)) ⟨by decide, by decide⟩
            refine own_st (X66.iaload hx (j := (3 : Int32)) (v := (.int K2)) Ar71.1 (State.isArrayOf_alike hZ.alike Ar71.2.1) Ar71.2.2 hin71 (Hs71.at hin71 rfl) (g := (mkF m 392 #[iv p1, iv p2, iv p3, iv p4, iv p5, iv p6, iv u, iv fr, iv pr, iv n, rv b1, iv mm, iv W0, iv W1, iv W2, iv W3, iv W4, iv K0, iv K1, iv K2, iv K3, iv 3, rv b17, iv 1, rv r66] [(.int (3 : Int32)), (.ref r66)])) rfl rfl (hb hby at_392)) ?_
            refine own_st (fun t k => XS.iload X66.here hx rfl (hb hby at_393) rfl k) ?_
            show own_Fin _ _ _ _ _ _ _ (T66.setTop (mkF m 395 #[iv p1, iv p2, iv p3, iv p4, iv p5, iv p6, iv u, iv fr, iv pr, iv n, rv b1, iv mm, iv W0, iv W1, iv W2, iv W3, iv W4, iv K0, iv K1, iv K2, iv K3, iv 3, rv b17, iv 1, rv r66] [(.int K2), (.int K2)]))
            refine own_st (fun t k => XS.icmpYes X66.here hx rfl (pc0 := 395) (pc' := 400) rfl (hb hby at_395) rfl (teq (rfl : K2 = K2)).1 (by decide) (by decide) k) ?_
            refine own_st (fun t k => XS.iload X66.here hx rfl (hb hby at_400) rfl k) ?_
            refine own_st (fun t k => XS.iconst X66.here hx rfl (hb hby at_402) k) ?_
            show own_Fin _ _ _ _ _ _ _ (T66.setTop (mkF m 403 #[iv p1, iv p2, iv p3, iv p4, iv p5, iv p6, iv u, iv fr, iv pr, iv n, rv b1, iv mm, iv W0, iv W1, iv W2, iv W3, iv W4, iv K0, iv K1, iv K2, iv K3, iv 3, rv b17, iv 1, rv r66] [(.int (3 : Int32)), (.int (3 : Int32))]))
            refine own_st (fun t k => XS.icmpYes X66.here hx rfl (pc0 := 403) (pc' := 420) rfl (hb hby at_403) rfl (flt (by decide : ¬ ((3 : Int32) < (3 : Int32)))).2.2.2 (by decide) (by decide) k) ?_
            refine own_st (fun t k => XS.iconst X66.here hx rfl (hb hby at_420) k) ?_
            show own_Fin _ _ _ _ _ _ _ (T66.setTop (mkF m 421 #[iv p1, iv p2, iv p3, iv p4, iv p5, iv p6, iv u, iv fr, iv pr, iv n, rv b1, iv mm, iv W0, iv W1, iv W2, iv W3, iv W4, iv K0, iv K1, iv K2, iv K3, iv 3, rv b17, iv 1, rv r66] [(.int (1 : Int32))]))
            exact own_retN X66 hx Bd.notSynchronized (t := .boolean) Bd.returns (by simp) (hb hby at_421) (by decide) (by decide) ⟨rfl, N66, trivial⟩
          · have xc72 : Fld Z T49.heap b17 "com/example/quietzone/quietzone/datamatrix/CodewordWriter" "count" "I" (.int (5 : Int32)) := by have q := oC49; rw [hks] at q; exact q
            have xv72 : Arv Z T49.heap t18 kt18 .int (8 : Int32) [(.int (200 : Int32)), (.int K0), (.int K1), (.int K2), (.int K3), (.int (0 : Int32)), (.int (0 : Int32)), (.int (0 : Int32))] (.int (0 : Int32)) := by have q := oV49; rw [hks] at q; exact q
            refine own_st (fun t k => XS.aload X49.here hx rfl (hb hby at_306) rfl rfl k) ?_
            show own_Fin _ _ _ _ _ _ _ (T49.setTop (mkF m 308 #[iv p1, iv p2, iv p3, iv p4, iv p5, iv p6, iv u, iv fr, iv pr, iv n, rv b1, iv mm, iv W0, iv W1, iv W2, iv W3, iv W4, iv K0, iv K1, iv K2, iv K3, iv 4, rv b17, iv 1, .unset] [(.ref b17)]))
            obtain ⟨cq73, kq73, qa73, qb73, qc73⟩ := isOf hZ rfl oE49
            obtain ⟨_, _, ⟨T73, L73, k73, n73⟩, -, X73, ⟨Lc73, hQ73, l73, y73, z73⟩, st73⟩ := X49.virtualBack hx (y := (⟨"com/example/quietzone/quietzone/datamatrix/CodewordWriter", "codewords", "()[I"⟩ : MethodName)) (z := (⟨"com/example/quietzone/quietzone/datamatrix/CodewordWriter", "codewords", "()[I"⟩ : MethodName)) hown (mvT hZ (hw _ (List.mem_of_getElem? (i := 31) rfl))) (mvT hZ (hw _ (List.mem_of_getElem? (i := 32) rfl))) (notFace_of_selects (args := #[]) (mvT hZ (hw _ (List.mem_of_getElem? (i := 34) rfl)))) (mvT hZ (hw _ (List.mem_of_getElem? (i := 34) rfl))) (mvT hZ (hw _ (List.mem_of_getElem? (i := 33) rfl))) (by decide) (backOf (W := 0) (rm6 l Z a0 hw [] b17 t18 kt18 [(.int (200 : Int32)), (.int K0), (.int K1), (.int K2), (.int K3), (.int (0 : Int32)), (.int (0 : Int32)), (.int (0 : Int32))] (5 : Int32) T49.heap n0 Z49 oW49 xc72 xv72 (by decide) (by decide) (by decide) (by decide) (by decide)) hZ (hw _ (List.mem_of_getElem? (i := 35) rfl)) (hw _ (List.mem_of_getElem? (i := 11) rfl)) (by decide) (by decide)) qa73 qc73 (g := (mkF m 308 #[iv p1, iv p2, iv p3, iv p4, iv p5, iv p6, iv u, iv fr, iv pr, iv n, rv b1, iv mm, iv W0, iv W1, iv W2, iv W3, iv W4, iv K0, iv K1, iv K2, iv K3, iv 4, rv b17, iv 1, .unset] [(.ref b17)])) rfl (by rw [hml]; rfl) (Steps.refl _) (argsL := []) (rest := []) (lenOf pd_0_4 rfl) rfl (by show 2 * 0 + _ ≤ _; exact Nat.le_of_eq rfl) (hb hby at_308) (fun _ _ => ⟨rfl, rfl, (by decide : 5 + 1 ≤ _), (by decide : 28 + 8 ≤ _)⟩)
            dsimp only [Pt.U, Pt.locs, Pt.cells, Pt.slots] at X73 l73 y73 z73 st73 hQ73
            subst l73 y73 z73
            obtain ⟨r73, kr73, rfl, N73q, K73, gr73, gs73, oV73⟩ := hQ73
            have N73 := Fr.app N49 N73q
            have f73_0 := f49_0.keep K73 nin0
            have f73_1 := oE49.keep K73
            have f73_2 := oW49.keep K73 nin0
            have f73_3 := xc72.keep K73 nin0
            have f73_4 := xv72.keep K73 nin0
            have Z73 : n0 ≤ T73.heap.size := Nat.le_trans Z49 K73.1
            refine own_st (fun t k => st73.trans k) ?_
            show own_Fin _ _ _ _ _ _ _ (T73.setTop (mkF m 311 #[iv p1, iv p2, iv p3, iv p4, iv p5, iv p6, iv u, iv fr, iv pr, iv n, rv b1, iv mm, iv W0, iv W1, iv W2, iv W3, iv W4, iv K0, iv K1, iv K2, iv K3, iv 4, rv b17, iv 1, .unset] [(.ref r73)]))
            have oX73 : Arv Z T73.heap r73 kr73 .int (5 : Int32) [(.int (200 : Int32)), (.int K0), (.int K1), (.int K2), (.int K3)] (.int (0 : Int32)) := oV73
            refine own_st (fun t k => XS.astore X73.here hx rfl (hb hby at_311) rfl rfl (l' := #[iv p1, iv p2, iv p3, iv p4, iv p5, iv p6, iv u, iv fr, iv pr, iv n, rv b1, iv mm, iv W0, iv W1, iv W2, iv W3, iv W4, iv K0, iv K1, iv K2, iv K3, iv 4, rv b17, iv 1, rv r73]) rfl k) ?_
            refine own_st (fun t k => XS.aload X73.here hx rfl (hb hby at_313) rfl rfl k) ?_
            show own_Fin _ _ _ _ _ _ _ (T73.setTop (mkF m 315 #[iv p1, iv p2, iv p3, iv p4, iv p5, iv p6, iv u, iv fr, iv pr, iv n, rv b1, iv mm, iv W0, iv W1, iv W2, iv W3, iv W4, iv K0, iv K1, iv K2, iv K3, iv 4, rv b17, iv 1, rv r73] [(.ref r73)]))
            obtain ⟨cl74, Ar74, Cq74, Sz74, Mn74, Hs74, Gf74⟩ := id oX73
            refine own_st (X73.arraylength hx Ar74.1 (State.isArrayOf_alike hZ.alike Ar74.2.1) (g := (mkF m 315 #[iv p1, iv p2, iv p3, iv p4, iv p5, iv p6, iv u, iv fr, iv pr, iv n, rv b1, iv mm, iv W0, iv W1, iv W2, iv W3, iv W4, iv K0, iv K1, iv K2, iv K3, iv 4, rv b17, iv 1, rv r73] [(.ref r73)])) rfl rfl (hb hby at_315)) ?_
            rw [len_of Sz74 Mn74]
            refine own_st (fun t k => XS.iload X73.here hx rfl (hb hby at_316) rfl k) ?_
            refine own_st (fun t k => XS.iload X73.here hx rfl (hb hby at_318) rfl k) ?_
            show own_Fin _ _ _ _ _ _ _ (T73.setTop (mkF m 320 #[iv p1, iv p2, iv p3, iv p4, iv p5, iv p6, iv u, iv fr, iv pr, iv n, rv b1, iv mm, iv W0, iv W1, iv W2, iv W3, iv W4, iv K0, iv K1, iv K2, iv K3, iv 4, rv b17, iv 1, rv r73] [(.int (4 : Int32)), (.int (1 : Int32)), (.int (5 : Int32))]))
            refine own_st (fun t k => XS.iadd X73.here hx rfl (hb hby at_320) rfl k) ?_
            show own_Fin _ _ _ _ _ _ _ (T73.setTop (mkF m 321 #[iv p1, iv p2, iv p3, iv p4, iv p5, iv p6, iv u, iv fr, iv pr, iv n, rv b1, iv mm, iv W0, iv W1, iv W2, iv W3, iv W4, iv K0, iv K1, iv K2, iv K3, iv 4, rv b17, iv 1, rv r73] [(.int (5 : Int32)), (.int (5 : Int32))]))
            refine own_st (fun t k => XS.icmpYes X73.here hx rfl (pc0 := 321) (pc' := 326) rfl (hb hby at_321) rfl (teq (by decide : (5 : Int32) = (5 : Int32))).1 (by decide) (by decide) k) ?_
            refine own_st (fun t k => XS.iload X73.here hx rfl (hb hby at_326) rfl k) ?_
            show own_Fin _ _ _ _ _ _ _ (T73.setTop (mkF m 328 #[iv p1, iv p2, iv p3, iv p4, iv p5, iv p6, iv u, iv fr, iv pr, iv n, rv b1, iv mm, iv W0, iv W1, iv W2, iv W3, iv W4, iv K0, iv K1, iv K2, iv K3, iv 4, rv b17, iv 1, rv r73] [(.int pr)]))
            refine own_st (fun t k => XS.ifNo X73.here hx rfl (hb hby at_328) rfl ((if0 _ _).trans (feq hc276_19).1) k) ?_
            refine own_st (fun t k => XS.aload X73.here hx rfl (hb hby at_331) rfl rfl k) ?_
            refine own_st (fun t k => XS.iconst X73.here hx rfl (hb hby at_333) k) ?_
            show own_Fin _ _ _ _ _ _ _ (T73.setTop (mkF m 334 #[iv p1, iv p2, iv p3, iv p4, iv p5, iv p6, iv u, iv fr, iv pr, iv n, rv b1, iv mm, iv W0, iv W1, iv W2, iv W3, iv W4, iv K0, iv K1, iv K2, iv K3, iv 4, rv b17, iv 1, rv r73] [(.int (0 : Int32)), (.ref r73)]))
            obtain ⟨cl75, Ar75, Cq75, Sz75, Mn75, Hs75, Gf75⟩ := id oX73
            have hin75 := inb_of Sz75 (j := (0 : Int32)) ⟨by decide, by decide⟩
            refine own_st (X73.iaload hx (j := (0 : Int32)) (v := (.int (200 : Int32))) Ar75.1 (State.isArrayOf_alike hZ.alike Ar75.2.1) Ar75.2.2 hin75 (Hs75.at hin75 rfl) (g := (mkF m 334 #[iv p1, iv p2, iv p3, iv p4, iv p5, iv p6, iv u, iv fr, iv pr, iv n, rv b1, iv mm, iv W0, iv W1, iv W2, iv W3, iv W4, iv K0, iv K1, iv K2, iv K3, iv 4, rv b17, iv 1, rv r73] [(.int (0 : Int32)), (.ref r73)])) rfl rfl (hb hby at_334)) ?_
            refine own_st (fun t k => XS.sipush X73.here hx rfl (hb hby at_335) k) ?_
            show own_Fin _ _ _ _ _ _ _ (T73.setTop (mkF m 338 #[iv p1, iv p2, iv p3, iv p4, iv p5, iv p6, iv u, iv fr, iv pr, iv n, rv b1, iv mm, iv W0, iv W1, iv W2, iv W3, iv W4, iv K0, iv K1, iv K2, iv K3, iv 4, rv b17, iv 1, rv r73] [(.int (200 : Int32)), (.int (200 : Int32))]))
            refine own_st (fun t k => XS.icmpYes X73.here hx rfl (pc0 := 338) (pc' := 343) rfl (hb hby at_338) rfl (teq (by decide : (200 : Int32) = (200 : Int32))).1 (by decide) (by decide) k) ?_
            refine own_st (fun t k => XS.iload X73.here hx rfl (hb hby at_343) rfl k) ?_
            show own_Fin _ _ _ _ _ _ _ (T73.setTop (mkF m 345 #[iv p1, iv p2, iv p3, iv p4, iv p5, iv p6, iv u, iv fr, iv pr, iv n, rv b1, iv mm, iv W0, iv W1, iv W2, iv W3, iv W4, iv K0, iv K1, iv K2, iv K3, iv 4, rv b17, iv 1, rv r73] [(.int (4 : Int32))]))
            refine own_st (fun t k => XS.ifNo X73.here hx rfl (hb hby at_345) rfl ((if0 _ _).trans (tlt (by decide : (0 : Int32) < (4 : Int32))).2.2.2) k) ?_
            refine own_st (fun t k => XS.aload X73.here hx rfl (hb hby at_348) rfl rfl k) ?_
            refine own_st (fun t k => XS.iload X73.here hx rfl (hb hby at_350) rfl k) ?_
            show own_Fin _ _ _ _ _ _ _ (T73.setTop (mkF m 352 #[iv p1, iv p2, iv p3, iv p4, iv p5, iv p6, iv u, iv fr, iv pr, iv n, rv b1, iv mm, iv W0, iv W1, iv W2, iv W3, iv W4, iv K0, iv K1, iv K2, iv K3, iv 4, rv b17, iv 1, rv r73] [(.int (1 : Int32)), (.ref r73)]))
            obtain ⟨cl76, Ar76, Cq76, Sz76, Mn76, Hs76, Gf76⟩ := id oX73
            have hin76 := inb_of Sz76 (j := (1 : Int32)) ⟨by decide, by decide⟩
            refine own_st (X73.iaload hx (j := (1 : Int32)) (v := (.int K0)) Ar76.1 (State.isArrayOf_alike hZ.alike Ar76.2.1) Ar76.2.2 hin76 (Hs76.at hin76 rfl) (g := (mkF m 352 #[iv p1, iv p2, iv p3, iv p4, iv p5, iv p6, iv u, iv fr, iv pr, iv n, rv b1, iv mm, iv W0, iv W1, iv W2, iv W3, iv W4, iv K0, iv K1, iv K2, iv K3, iv 4, rv b17, iv 1, rv r73] [(.int (1 : Int32)), (.ref r73)])) rfl rfl (hb hby at_352)) ?_
            refine own_st (fun t k => XS.iload X73.here hx rfl (hb hby at_353) rfl k) ?_
            show own_Fin _ _ _ _ _ _ _ (T73.setTop (mkF m 355 #[iv p1, iv p2, iv p3, iv p4, iv p5, iv p6, iv u, iv fr, iv pr, iv n, rv b1, iv mm, iv W0, iv W1, iv W2, iv W3, iv W4, iv K0, iv K1, iv K2, iv K3, iv 4, rv b17, iv 1, rv r73] [(.int K0), (.int K0)]))
            refine own_st (fun t k => XS.icmpYes X73.here hx rfl (pc0 := 355) (pc' := 360) rfl (hb hby at_355) rfl (teq (rfl : K0 = K0)).1 (by decide) (by decide) k) ?_
            refine own_st (fun t k => XS.iload X73.here hx rfl (hb hby at_360) rfl k) ?_
            refine own_st (fun t k => XS.iconst X73.here hx rfl (hb hby at_362) k) ?_
            show own_Fin _ _ _ _ _ _ _ (T73.setTop (mkF m 363 #[iv p1, iv p2, iv p3, iv p4, iv p5, iv p6, iv u, iv fr, iv pr, iv n, rv b1, iv mm, iv W0, iv W1, iv W2, iv W3, iv W4, iv K0, iv K1, iv K2, iv K3, iv 4, rv b17, iv 1, rv r73] [(.int (1 : Int32)), (.int (4 : Int32))]))
            refine own_st (fun t k => XS.icmpNo X73.here hx rfl (hb hby at_363) rfl (tlt (by decide : (1 : Int32) < (4 : Int32))).2.2.2 k) ?_
            refine own_st (fun t k => XS.aload X73.here hx rfl (hb hby at_366) rfl rfl k) ?_
            refine own_st (fun t k => XS.iload X73.here hx rfl (hb hby at_368) rfl k) ?_
            show own_Fin _ _ _ _ _ _ _ (T73.setTop (mkF m 370 #[iv p1, iv p2, iv p3, iv p4, iv p5, iv p6, iv u, iv fr, iv pr, iv n, rv b1, iv mm, iv W0, iv W1, iv W2, iv W3, iv W4, iv K0, iv K1, iv K2, iv K3, iv 4, rv b17, iv 1, rv r73] [(.int (1 : Int32)), (.ref r73)]))
            refine own_st (fun t k => XS.iconst X73.here hx rfl (hb hby at_370) k) ?_
            refine own_st (fun t k => XS.iadd X73.here hx rfl (hb hby at_371) rfl k) ?_
            show own_Fin _ _ _ _ _ _ _ (T73.setTop (mkF m 372 #[iv p1, iv p2, iv p3, iv p4, iv p5, iv p6, iv u, iv fr, iv pr, iv n, rv b1, iv mm, iv W0, iv W1, iv W2, iv W3, iv W4, iv K0, iv K1, iv K2, iv K3, iv 4, rv b17, iv 1, rv r73] [(.int (2 : Int32)), (.ref r73)]))
            obtain ⟨cl77, Ar77, Cq77, Sz77, Mn77, Hs77, Gf77⟩ := id oX73
            have hin77 := inb_of Sz77 (j := (2 : Int32)) ⟨by decide, by decide⟩
            refine own_st (X73.iaload hx (j := (2 : Int32)) (v := (.int K1)) Ar77.1 (State.isArrayOf_alike hZ.alike Ar77.2.1) Ar77.2.2 hin77 (Hs77.at hin77 rfl) (g := (mkF m 372 #[iv p1, iv p2, iv p3, iv p4, iv p5, iv p6, iv u, iv fr, iv pr, iv n, rv b1, iv mm, iv W0, iv W1, iv W2, iv W3, iv W4, iv K0, iv K1, iv K2, iv K3, iv 4, rv b17, iv 1, rv r73] [(.int (2 : Int32)), (.ref r73)])) rfl rfl (hb hby at_372)) ?_
            refine own_st (fun t k => XS.iload X73.here hx rfl (hb hby at_373) rfl k) ?_
            show own_Fin _ _ _ _ _ _ _ (T73.setTop (mkF m 375 #[iv p1, iv p2, iv p3, iv p4, iv p5, iv p6, iv u, iv fr, iv pr, iv n, rv b1, iv mm, iv W0, iv W1, iv W2, iv W3, iv W4, iv K0, iv K1, iv K2, iv K3, iv 4, rv b17, iv 1, rv r73] [(.int K1), (.int K1)]))
            refine own_st (fun t k => XS.icmpYes X73.here hx rfl (pc0 := 375) (pc' := 380) rfl (hb hby at_375) rfl (teq (rfl : K1 = K1)).1 (by decide) (by decide) k) ?_
            refine own_st (fun t k => XS.iload X73.here hx rfl (hb hby at_380) rfl k) ?_
            refine own_st (fun t k => XS.iconst X73.here hx rfl (hb hby at_382) k) ?_
            show own_Fin _ _ _ _ _ _ _ (T73.setTop (mkF m 383 #[iv p1, iv p2, iv p3, iv p4, iv p5, iv p6, iv u, iv fr, iv pr, iv n, rv b1, iv mm, iv W0, iv W1, iv W2, iv W3, iv W4, iv K0, iv K1, iv K2, iv K3, iv 4, rv b17, iv 1, rv r73] [(.int (2 : Int32)), (.int (4 : Int32))]))
            refine own_st (fun t k => XS.icmpNo X73.here hx rfl (hb hby at_383) rfl (tlt (by decide : (2 : Int32) < (4 : Int32))).2.2.2 k) ?_
            refine own_st (fun t k => XS.aload X73.here hx rfl (hb hby at_386) rfl rfl k) ?_
            refine own_st (fun t k => XS.iload X73.here hx rfl (hb hby at_388) rfl k) ?_
            show own_Fin _ _ _ _ _ _ _ (T73.setTop (mkF m 390 #[iv p1, iv p2, iv p3, iv p4, iv p5, iv p6, iv u, iv fr, iv pr, iv n, rv b1, iv mm, iv W0, iv W1, iv W2, iv W3, iv W4, iv K0, iv K1, iv K2, iv K3, iv 4, rv b17, iv 1, rv r73] [(.int (1 : Int32)), (.ref r73)]))
            refine own_st (fun t k => XS.iconst X73.here hx rfl (hb hby at_390) k) ?_
            refine own_st (fun t k => XS.iadd X73.here hx rfl (hb hby at_391) rfl k) ?_
            show own_Fin _ _ _ _ _ _ _ (T73.setTop (mkF m 392 #[iv p1, iv p2, iv p3, iv p4, iv p5, iv p6, iv u, iv fr, iv pr, iv n, rv b1, iv mm, iv W0, iv W1, iv W2, iv W3, iv W4, iv K0, iv K1, iv K2, iv K3, iv 4, rv b17, iv 1, rv r73] [(.int (3 : Int32)), (.ref r73)]))
            obtain ⟨cl78, Ar78, Cq78, Sz78, Mn78, Hs78, Gf78⟩ := id oX73
            have hin78 := inb_of Sz78 (j := (3 : Int32)) ⟨by decide, by decide⟩
            refine own_st (X73.iaload hx (j := (3 : Int32)) (v := (.int K2)) Ar78.1 (State.isArrayOf_alike hZ.alike Ar78.2.1) Ar78.2.2 hin78 (Hs78.at hin78 rfl) (g := (mkF m 392 #[iv p1, iv p2, iv p3, iv p4, iv p5, iv p6, iv u, iv fr, iv pr, iv n, rv b1, iv mm, iv W0, iv W1, iv W2, iv W3, iv W4, iv K0, iv K1, iv K2, iv K3, iv 4, rv b17, iv 1, rv r73] [(.int (3 : Int32)), (.ref r73)])) rfl rfl (hb hby at_392)) ?_
            refine own_st (fun t k => XS.iload X73.here hx rfl (hb hby at_393) rfl k) ?_
            show own_Fin _ _ _ _ _ _ _ (T73.setTop (mkF m 395 #[iv p1, iv p2, iv p3, iv p4, iv p5, iv p6, iv u, iv fr, iv pr, iv n, rv b1, iv mm, iv W0, iv W1, iv W2, iv W3, iv W4, iv K0, iv K1, iv K2, iv K3, iv 4, rv b17, iv 1, rv r73] [(.int K2), (.int K2)]))
            refine own_st (fun t k => XS.icmpYes X73.here hx rfl (pc0 := 395) (pc' := 400) rfl (hb hby at_395) rfl (teq (rfl : K2 = K2)).1 (by decide) (by decide) k) ?_
            refine own_st (fun t k => XS.iload X73.here hx rfl (hb hby at_400) rfl k) ?_
            refine own_st (fun t k => XS.iconst X73.here hx rfl (hb hby at_402) k) ?_
            show own_Fin _ _ _ _ _ _ _ (T73.setTop (mkF m 403 #[iv p1, iv p2, iv p3, iv p4, iv p5, iv p6, iv u, iv fr, iv pr, iv n, rv b1, iv mm, iv W0, iv W1, iv W2, iv W3, iv W4, iv K0, iv K1, iv K2, iv K3, iv 4, rv b17, iv 1, rv r73] [(.int (3 : Int32)), (.int (4 : Int32))]))
            refine own_st (fun t k => XS.icmpNo X73.here hx rfl (hb hby at_403) rfl (tlt (by decide : (3 : Int32) < (4 : Int32))).2.2.2 k) ?_
            refine own_st (fun t k => XS.aload X73.here hx rfl (hb hby at_406) rfl rfl k) ?_
            refine own_st (fun t k => XS.iload X73.here hx rfl (hb hby at_408) rfl k) ?_
            show own_Fin _ _ _ _ _ _ _ (T73.setTop (mkF m 410 #[iv p1, iv p2, iv p3, iv p4, iv p5, iv p6, iv u, iv fr, iv pr, iv n, rv b1, iv mm, iv W0, iv W1, iv W2, iv W3, iv W4, iv K0, iv K1, iv K2, iv K3, iv 4, rv b17, iv 1, rv r73] [(.int (1 : Int32)), (.ref r73)]))
            refine own_st (fun t k => XS.iconst X73.here hx rfl (hb hby at_410) k) ?_
            refine own_st (fun t k => XS.iadd X73.here hx rfl (hb hby at_411) rfl k) ?_
            show own_Fin _ _ _ _ _ _ _ (T73.setTop (mkF m 412 #[iv p1, iv p2, iv p3, iv p4, iv p5, iv p6, iv u, iv fr, iv pr, iv n, rv b1, iv mm, iv W0, iv W1, iv W2, iv W3, iv W4, iv K0, iv K1, iv K2, iv K3, iv 4, rv b17, iv 1, rv r73] [(.int (4 : Int32)), (.ref r73)]))
            obtain ⟨cl79, Ar79, Cq79, Sz79, Mn79, Hs79, Gf79⟩ := id oX73
            have hin79 := inb_of Sz79 (j := (4 : Int32)) ⟨by decide, by decide⟩
            refine own_st (X73.iaload hx (j := (4 : Int32)) (v := (.int K3)) Ar79.1 (State.isArrayOf_alike hZ.alike Ar79.2.1) Ar79.2.2 hin79 (Hs79.at hin79 rfl) (g := (mkF m 412 #[iv p1, iv p2, iv p3, iv p4, iv p5, iv p6, iv u, iv fr, iv pr, iv n, rv b1, iv mm, iv W0, iv W1, iv W2, iv W3, iv W4, iv K0, iv K1, iv K2, iv K3, iv 4, rv b17, iv 1, rv r73] [(.int (4 : Int32)), (.ref r73)])) rfl rfl (hb hby at_412)) ?_
            refine own_st (fun t k => XS.iload X73.here hx rfl (hb hby at_413) rfl k) ?_
            show own_Fin _ _ _ _ _ _ _ (T73.setTop (mkF m 415 #[iv p1, iv p2, iv p3, iv p4, iv p5, iv p6, iv u, iv fr, iv pr, iv n, rv b1, iv mm, iv W0, iv W1, iv W2, iv W3, iv W4, iv K0, iv K1, iv K2, iv K3, iv 4, rv b17, iv 1, rv r73] [(.int K3), (.int K3)]))
            refine own_st (fun t k => XS.icmpYes X73.here hx rfl (pc0 := 415) (pc' := 420) rfl (hb hby at_415) rfl (teq (rfl : K3 = K3)).1 (by decide) (by decide) k) ?_
            refine own_st (fun t k => XS.iconst X73.here hx rfl (hb hby at_420) k) ?_
            show own_Fin _ _ _ _ _ _ _ (T73.setTop (mkF m 421 #[iv p1, iv p2, iv p3, iv p4, iv p5, iv p6, iv u, iv fr, iv pr, iv n, rv b1, iv mm, iv W0, iv W1, iv W2, iv W3, iv W4, iv K0, iv K1, iv K2, iv K3, iv 4, rv b17, iv 1, rv r73] [(.int (1 : Int32))]))
            exact own_retN X73 hx Bd.notSynchronized (t := .boolean) Bd.returns (by simp) (hb hby at_421) (by decide) (by decide) ⟨rfl, N73, trivial⟩
      refine own_st (fun t k => XS.iload X16.here hx rfl (hb hby at_236) rfl k) ?_
      refine own_st (fun t k => XS.iconst X16.here hx rfl (hb hby at_238) k) ?_
      show own_Fin _ _ _ _ _ _ _ (T16.setTop (mkF m 239 #[iv p1, iv p2, iv p3, iv p4, iv p5, iv p6, iv u, iv fr, iv pr, iv n, rv b1, iv mm, iv W0, iv W1, iv W2, iv W3, iv W4, iv ((W0 * (4 : Int32)) + (W1 / (16 : Int32))), iv (((W1 % (16 : Int32)) * (16 : Int32)) + (W2 / (4 : Int32))), iv (((W2 % (4 : Int32)) * (64 : Int32)) + W3), iv (W4 * (4 : Int32)), .unset, .unset, .unset, .unset] [(.int (5 : Int32)), (.int mm)]))
      by_cases hc239_80 : mm = (5 : Int32)
      · refine own_st (fun t k => XS.icmpNo X16.here hx rfl (hb hby at_239) rfl (teq hc239_80).2 k) ?_
        refine own_st (fun t k => XS.iconst X16.here hx rfl (hb hby at_242) k) ?_
        refine own_st (fun t k => XS.goto X16.here hx rfl (pc0 := 243) (pc' := 258) rfl (hb hby at_243) (by decide) (by decide) k) ?_
        show own_Fin _ _ _ _ _ _ _ (T16.setTop (mkF m 258 #[iv p1, iv p2, iv p3, iv p4, iv p5, iv p6, iv u, iv fr, iv pr, iv n, rv b1, iv mm, iv W0, iv W1, iv W2, iv W3, iv W4, iv ((W0 * (4 : Int32)) + (W1 / (16 : Int32))), iv (((W1 % (16 : Int32)) * (16 : Int32)) + (W2 / (4 : Int32))), iv (((W2 % (4 : Int32)) * (64 : Int32)) + W3), iv (W4 * (4 : Int32)), .unset, .unset, .unset, .unset] [(.int (4 : Int32))]))
        refine own_st (fun t k => XS.istore X16.here hx rfl (hb hby at_258) rfl (l' := #[iv p1, iv p2, iv p3, iv p4, iv p5, iv p6, iv u, iv fr, iv pr, iv n, rv b1, iv mm, iv W0, iv W1, iv W2, iv W3, iv W4, iv ((W0 * (4 : Int32)) + (W1 / (16 : Int32))), iv (((W1 % (16 : Int32)) * (16 : Int32)) + (W2 / (4 : Int32))), iv (((W2 % (4 : Int32)) * (64 : Int32)) + W3), iv (W4 * (4 : Int32)), iv 4, .unset, .unset, .unset]) rfl k) ?_
        show own_Fin _ _ _ _ _ _ _ (T16.setTop (mkF m 260 #[iv p1, iv p2, iv p3, iv p4, iv p5, iv p6, iv u, iv fr, iv pr, iv n, rv b1, iv mm, iv W0, iv W1, iv W2, iv W3, iv W4, iv ((W0 * (4 : Int32)) + (W1 / (16 : Int32))), iv (((W1 % (16 : Int32)) * (16 : Int32)) + (W2 / (4 : Int32))), iv (((W2 % (4 : Int32)) * (64 : Int32)) + W3), iv (W4 * (4 : Int32)), iv 4, .unset, .unset, .unset] []))
        have hl : own_len mm = (4 : Int32) := by unfold own_len; rw [if_pos hc239_80]
        refine tail3 _ _ _ _ _ ?_ (by have q := own_lens hu; rw [← hm, hl] at q; exact q)
        unfold own_ks
        rw [← hm, hl, ← hW0, ← hW1, ← hW2, ← hW3, ← hW4]
        rfl
      · refine own_st (fun t k => XS.icmpYes X16.here hx rfl (pc0 := 239) (pc' := 246) rfl (hb hby at_239) rfl (feq hc239_80).2 (by decide) (by decide) k) ?_
        refine own_st (fun t k => XS.iload X16.here hx rfl (hb hby at_246) rfl k) ?_
        refine own_st (fun t k => XS.iconst X16.here hx rfl (hb hby at_248) k) ?_
        show own_Fin _ _ _ _ _ _ _ (T16.setTop (mkF m 249 #[iv p1, iv p2, iv p3, iv p4, iv p5, iv p6, iv u, iv fr, iv pr, iv n, rv b1, iv mm, iv W0, iv W1, iv W2, iv W3, iv W4, iv ((W0 * (4 : Int32)) + (W1 / (16 : Int32))), iv (((W1 % (16 : Int32)) * (16 : Int32)) + (W2 / (4 : Int32))), iv (((W2 % (4 : Int32)) * (64 : Int32)) + W3), iv (W4 * (4 : Int32)), .unset, .unset, .unset, .unset] [(.int (4 : Int32)), (.int mm)]))
        by_cases hc249_81 : mm = (4 : Int32)
        · refine own_st (fun t k => XS.icmpNo X16.here hx rfl (hb hby at_249) rfl (teq hc249_81).2 k) ?_
          refine own_st (fun t k => XS.iconst X16.here hx rfl (hb hby at_252) k) ?_
          refine own_st (fun t k => XS.goto X16.here hx rfl (pc0 := 253) (pc' := 258) rfl (hb hby at_253) (by decide) (by decide) k) ?_
          show own_Fin _ _ _ _ _ _ _ (T16.setTop (mkF m 258 #[iv p1, iv p2, iv p3, iv p4, iv p5, iv p6, iv u, iv fr, iv pr, iv n, rv b1, iv mm, iv W0, iv W1, iv W2, iv W3, iv W4, iv ((W0 * (4 : Int32)) + (W1 / (16 : Int32))), iv (((W1 % (16 : Int32)) * (16 : Int32)) + (W2 / (4 : Int32))), iv (((W2 % (4 : Int32)) * (64 : Int32)) + W3), iv (W4 * (4 : Int32)), .unset, .unset, .unset, .unset] [(.int (3 : Int32))]))
          refine own_st (fun t k => XS.istore X16.here hx rfl (hb hby at_258) rfl (l' := #[iv p1, iv p2, iv p3, iv p4, iv p5, iv p6, iv u, iv fr, iv pr, iv n, rv b1, iv mm, iv W0, iv W1, iv W2, iv W3, iv W4, iv ((W0 * (4 : Int32)) + (W1 / (16 : Int32))), iv (((W1 % (16 : Int32)) * (16 : Int32)) + (W2 / (4 : Int32))), iv (((W2 % (4 : Int32)) * (64 : Int32)) + W3), iv (W4 * (4 : Int32)), iv 3, .unset, .unset, .unset]) rfl k) ?_
          show own_Fin _ _ _ _ _ _ _ (T16.setTop (mkF m 260 #[iv p1, iv p2, iv p3, iv p4, iv p5, iv p6, iv u, iv fr, iv pr, iv n, rv b1, iv mm, iv W0, iv W1, iv W2, iv W3, iv W4, iv ((W0 * (4 : Int32)) + (W1 / (16 : Int32))), iv (((W1 % (16 : Int32)) * (16 : Int32)) + (W2 / (4 : Int32))), iv (((W2 % (4 : Int32)) * (64 : Int32)) + W3), iv (W4 * (4 : Int32)), iv 3, .unset, .unset, .unset] []))
          have hl : own_len mm = (3 : Int32) := by unfold own_len; rw [if_neg hc239_80, if_pos hc249_81]
          refine tail3 _ _ _ _ _ ?_ (by have q := own_lens hu; rw [← hm, hl] at q; exact q)
          unfold own_ks
          rw [← hm, hl, ← hW0, ← hW1, ← hW2, ← hW3, ← hW4]
          rfl
        · refine own_st (fun t k => XS.icmpYes X16.here hx rfl (pc0 := 249) (pc' := 256) rfl (hb hby at_249) rfl (feq hc249_81).2 (by decide) (by decide) k) ?_
          refine own_st (fun t k => XS.iload X16.here hx rfl (hb hby at_256) rfl k) ?_
          refine own_st (fun t k => XS.istore X16.here hx rfl (hb hby at_258) rfl (l' := #[iv p1, iv p2, iv p3, iv p4, iv p5, iv p6, iv u, iv fr, iv pr, iv n, rv b1, iv mm, iv W0, iv W1, iv W2, iv W3, iv W4, iv ((W0 * (4 : Int32)) + (W1 / (16 : Int32))), iv (((W1 % (16 : Int32)) * (16 : Int32)) + (W2 / (4 : Int32))), iv (((W2 % (4 : Int32)) * (64 : Int32)) + W3), iv (W4 * (4 : Int32)), iv mm, .unset, .unset, .unset]) rfl k) ?_
          show own_Fin _ _ _ _ _ _ _ (T16.setTop (mkF m 260 #[iv p1, iv p2, iv p3, iv p4, iv p5, iv p6, iv u, iv fr, iv pr, iv n, rv b1, iv mm, iv W0, iv W1, iv W2, iv W3, iv W4, iv ((W0 * (4 : Int32)) + (W1 / (16 : Int32))), iv (((W1 % (16 : Int32)) * (16 : Int32)) + (W2 / (4 : Int32))), iv (((W2 % (4 : Int32)) * (64 : Int32)) + W3), iv (W4 * (4 : Int32)), iv mm, .unset, .unset, .unset] []))
          have hl : own_len mm = mm := by unfold own_len; rw [if_neg hc239_80, if_neg hc249_81]
          refine tail3 _ _ _ _ _ ?_ (by have q := own_lens hu; rw [← hm, hl] at q; exact q)
          unfold own_ks
          rw [← hm, hl, ← hW0, ← hW1, ← hW2, ← hW3, ← hW4]
          rfl
    refine own_st (fun t k => XS.iload X11.here hx rfl (hb hby at_106) rfl k) ?_
    refine own_st (fun t k => XS.iload X11.here hx rfl (hb hby at_108) rfl k) ?_
    show own_Fin _ _ _ _ _ _ _ (T11.setTop (mkF m 110 #[iv p1, iv p2, iv p3, iv p4, iv p5, iv p6, iv u, iv fr, iv pr, iv n, rv b1, .unset, .unset, .unset, .unset, .unset, .unset, .unset, .unset, .unset, .unset, .unset, .unset, .unset, .unset] [(.int u), (.int n)]))
    by_cases hc110_82 : u = (0 : Int32)
    · refine own_st (fun t k => XS.ifYes X11.here hx rfl (pc0 := 110) (pc' := 117) rfl (hb hby at_110) rfl ((if0 _ _).trans (teq hc110_82).1) (by decide) (by decide) k) ?_
      refine own_st (fun t k => XS.iconst X11.here hx rfl (hb hby at_117) k) ?_
      refine own_st (fun t k => XS.iadd X11.here hx rfl (hb hby at_118) rfl k) ?_
      show own_Fin _ _ _ _ _ _ _ (T11.setTop (mkF m 119 #[iv p1, iv p2, iv p3, iv p4, iv p5, iv p6, iv u, iv fr, iv pr, iv n, rv b1, .unset, .unset, .unset, .unset, .unset, .unset, .unset, .unset, .unset, .unset, .unset, .unset, .unset, .unset] [(.int (n + (0 : Int32)))]))
      refine own_st (fun t k => XS.istore X11.here hx rfl (hb hby at_119) rfl (l' := #[iv p1, iv p2, iv p3, iv p4, iv p5, iv p6, iv u, iv fr, iv pr, iv n, rv b1, iv (n + (0 : Int32)), .unset, .unset, .unset, .unset, .unset, .unset, .unset, .unset, .unset, .unset, .unset, .unset, .unset]) rfl k) ?_
      show own_Fin _ _ _ _ _ _ _ (T11.setTop (mkF m 121 #[iv p1, iv p2, iv p3, iv p4, iv p5, iv p6, iv u, iv fr, iv pr, iv n, rv b1, iv (n + (0 : Int32)), .unset, .unset, .unset, .unset, .unset, .unset, .unset, .unset, .unset, .unset, .unset, .unset, .unset] []))
      exact tail2 _ (by unfold own_m; rw [if_pos hc110_82])
    · refine own_st (fun t k => XS.ifNo X11.here hx rfl (hb hby at_110) rfl ((if0 _ _).trans (feq hc110_82).1) k) ?_
      refine own_st (fun t k => XS.iconst X11.here hx rfl (hb hby at_113) k) ?_
      refine own_st (fun t k => XS.goto X11.here hx rfl (pc0 := 114) (pc' := 118) rfl (hb hby at_114) (by decide) (by decide) k) ?_
      show own_Fin _ _ _ _ _ _ _ (T11.setTop (mkF m 118 #[iv p1, iv p2, iv p3, iv p4, iv p5, iv p6, iv u, iv fr, iv pr, iv n, rv b1, .unset, .unset, .unset, .unset, .unset, .unset, .unset, .unset, .unset, .unset, .unset, .unset, .unset, .unset] [(.int (1 : Int32)), (.int n)]))
      refine own_st (fun t k => XS.iadd X11.here hx rfl (hb hby at_118) rfl k) ?_
      refine own_st (fun t k => XS.istore X11.here hx rfl (hb hby at_119) rfl (l' := #[iv p1, iv p2, iv p3, iv p4, iv p5, iv p6, iv u, iv fr, iv pr, iv n, rv b1, iv (n + (1 : Int32)), .unset, .unset, .unset, .unset, .unset, .unset, .unset, .unset, .unset, .unset, .unset, .unset, .unset]) rfl k) ?_
      show own_Fin _ _ _ _ _ _ _ (T11.setTop (mkF m 121 #[iv p1, iv p2, iv p3, iv p4, iv p5, iv p6, iv u, iv fr, iv pr, iv n, rv b1, iv (n + (1 : Int32)), .unset, .unset, .unset, .unset, .unset, .unset, .unset, .unset, .unset, .unset, .unset, .unset, .unset] []))
      exact tail2 _ (by unfold own_m; rw [if_neg hc110_82])
  refine own_st (fun t k => XS.iload X0.here hx rfl (hb hby at_0) rfl k) ?_
  refine own_st (fun t k => XS.iconst X0.here hx rfl (hb hby at_2) k) ?_
  show own_Fin _ _ _ _ _ _ _ (s₁.setTop (mkF m 3 #[iv p1, iv p2, iv p3, iv p4, iv p5, iv p6, .unset, .unset, .unset, .unset, .unset, .unset, .unset, .unset, .unset, .unset, .unset, .unset, .unset, .unset, .unset, .unset, .unset, .unset, .unset] [(.int (1 : Int32)), (.int p6)]))
  refine own_st (fun t k => XS.iand X0.here hx rfl (hb hby at_3) rfl k) ?_
  show own_Fin _ _ _ _ _ _ _ (s₁.setTop (mkF m 4 #[iv p1, iv p2, iv p3, iv p4, iv p5, iv p6, .unset, .unset, .unset, .unset, .unset, .unset, .unset, .unset, .unset, .unset, .unset, .unset, .unset, .unset, .unset, .unset, .unset, .unset, .unset] [(.int (p6 &&& (1 : Int32)))]))
  by_cases hc4_83 : (p6 &&& (1 : Int32)) = (0 : Int32)
  · refine own_st (fun t k => XS.ifYes X0.here hx rfl (pc0 := 4) (pc' := 11) rfl (hb hby at_4) rfl ((if0 _ _).trans (teq hc4_83).1) (by decide) (by decide) k) ?_
    refine own_st (fun t k => XS.iconst X0.here hx rfl (hb hby at_11) k) ?_
    refine own_st (fun t k => XS.istore X0.here hx rfl (hb hby at_12) rfl (l' := #[iv p1, iv p2, iv p3, iv p4, iv p5, iv p6, iv 0, .unset, .unset, .unset, .unset, .unset, .unset, .unset, .unset, .unset, .unset, .unset, .unset, .unset, .unset, .unset, .unset, .unset, .unset]) rfl k) ?_
    show own_Fin _ _ _ _ _ _ _ (s₁.setTop (mkF m 14 #[iv p1, iv p2, iv p3, iv p4, iv p5, iv p6, iv 0, .unset, .unset, .unset, .unset, .unset, .unset, .unset, .unset, .unset, .unset, .unset, .unset, .unset, .unset, .unset, .unset, .unset, .unset] []))
    refine own_st (fun t k => XS.iload X0.here hx rfl (hb hby at_14) rfl k) ?_
    refine own_st (fun t k => XS.iconst X0.here hx rfl (hb hby at_16) k) ?_
    show own_Fin _ _ _ _ _ _ _ (s₁.setTop (mkF m 17 #[iv p1, iv p2, iv p3, iv p4, iv p5, iv p6, iv 0, .unset, .unset, .unset, .unset, .unset, .unset, .unset, .unset, .unset, .unset, .unset, .unset, .unset, .unset, .unset, .unset, .unset, .unset] [(.int (1 : Int32)), (.int p6)]))
    refine own_st (fun t k => XS.iushr X0.here hx rfl (hb hby at_17) rfl k) ?_
    refine own_st (fun t k => XS.iconst X0.here hx rfl (hb hby at_18) k) ?_
    refine own_st (fun t k => XS.iand X0.here hx rfl (hb hby at_19) rfl k) ?_
    show own_Fin _ _ _ _ _ _ _ (s₁.setTop (mkF m 20 #[iv p1, iv p2, iv p3, iv p4, iv p5, iv p6, iv 0, .unset, .unset, .unset, .unset, .unset, .unset, .unset, .unset, .unset, .unset, .unset, .unset, .unset, .unset, .unset, .unset, .unset, .unset] [(.int (((p6.toUInt32 >>> ((1 : Int32) &&& 31).toUInt32).toInt32) &&& (1 : Int32)))]))
    refine own_st (fun t k => XS.istore X0.here hx rfl (hb hby at_20) rfl (l' := #[iv p1, iv p2, iv p3, iv p4, iv p5, iv p6, iv 0, iv (((p6.toUInt32 >>> ((1 : Int32) &&& 31).toUInt32).toInt32) &&& (1 : Int32)), .unset, .unset, .unset, .unset, .unset, .unset, .unset, .unset, .unset, .unset, .unset, .unset, .unset, .unset, .unset, .unset, .unset]) rfl k) ?_
    refine own_st (fun t k => XS.iload X0.here hx rfl (hb hby at_22) rfl k) ?_
    refine own_st (fun t k => XS.iconst X0.here hx rfl (hb hby at_24) k) ?_
    show own_Fin _ _ _ _ _ _ _ (s₁.setTop (mkF m 25 #[iv p1, iv p2, iv p3, iv p4, iv p5, iv p6, iv 0, iv (((p6.toUInt32 >>> ((1 : Int32) &&& 31).toUInt32).toInt32) &&& (1 : Int32)), .unset, .unset, .unset, .unset, .unset, .unset, .unset, .unset, .unset, .unset, .unset, .unset, .unset, .unset, .unset, .unset, .unset] [(.int (2 : Int32)), (.int p6)]))
    refine own_st (fun t k => XS.iushr X0.here hx rfl (hb hby at_25) rfl k) ?_
    refine own_st (fun t k => XS.iconst X0.here hx rfl (hb hby at_26) k) ?_
    refine own_st (fun t k => XS.iand X0.here hx rfl (hb hby at_27) rfl k) ?_
    show own_Fin _ _ _ _ _ _ _ (s₁.setTop (mkF m 28 #[iv p1, iv p2, iv p3, iv p4, iv p5, iv p6, iv 0, iv (((p6.toUInt32 >>> ((1 : Int32) &&& 31).toUInt32).toInt32) &&& (1 : Int32)), .unset, .unset, .unset, .unset, .unset, .unset, .unset, .unset, .unset, .unset, .unset, .unset, .unset, .unset, .unset, .unset, .unset] [(.int (((p6.toUInt32 >>> ((2 : Int32) &&& 31).toUInt32).toInt32) &&& (1 : Int32)))]))
    by_cases hc28_84 : (((p6.toUInt32 >>> ((2 : Int32) &&& 31).toUInt32).toInt32) &&& (1 : Int32)) = (0 : Int32)
    · refine own_st (fun t k => XS.ifYes X0.here hx rfl (pc0 := 28) (pc' := 35) rfl (hb hby at_28) rfl ((if0 _ _).trans (teq hc28_84).1) (by decide) (by decide) k) ?_
      refine own_st (fun t k => XS.iconst X0.here hx rfl (hb hby at_35) k) ?_
      refine own_st (fun t k => XS.istore X0.here hx rfl (hb hby at_36) rfl (l' := #[iv p1, iv p2, iv p3, iv p4, iv p5, iv p6, iv 0, iv (((p6.toUInt32 >>> ((1 : Int32) &&& 31).toUInt32).toInt32) &&& (1 : Int32)), iv 0, .unset, .unset, .unset, .unset, .unset, .unset, .unset, .unset, .unset, .unset, .unset, .unset, .unset, .unset, .unset, .unset]) rfl k) ?_
      show own_Fin _ _ _ _ _ _ _ (s₁.setTop (mkF m 38 #[iv p1, iv p2, iv p3, iv p4, iv p5, iv p6, iv 0, iv (((p6.toUInt32 >>> ((1 : Int32) &&& 31).toUInt32).toInt32) &&& (1 : Int32)), iv 0, .unset, .unset, .unset, .unset, .unset, .unset, .unset, .unset, .unset, .unset, .unset, .unset, .unset, .unset, .unset, .unset] []))
      refine own_st (fun t k => XS.iload X0.here hx rfl (hb hby at_38) rfl k) ?_
      show own_Fin _ _ _ _ _ _ _ (s₁.setTop (mkF m 40 #[iv p1, iv p2, iv p3, iv p4, iv p5, iv p6, iv 0, iv (((p6.toUInt32 >>> ((1 : Int32) &&& 31).toUInt32).toInt32) &&& (1 : Int32)), iv 0, .unset, .unset, .unset, .unset, .unset, .unset, .unset, .unset, .unset, .unset, .unset, .unset, .unset, .unset, .unset, .unset] [(.int (0 : Int32))]))
      refine own_st (fun t k => XS.ifYes X0.here hx rfl (pc0 := 40) (pc' := 55) rfl (hb hby at_40) rfl ((if0 _ _).trans (teq (by decide : (0 : Int32) = (0 : Int32))).1) (by decide) (by decide) k) ?_
      refine own_st (fun t k => XS.iload X0.here hx rfl (hb hby at_55) rfl k) ?_
      refine own_st (fun t k => XS.iconst X0.here hx rfl (hb hby at_57) k) ?_
      show own_Fin _ _ _ _ _ _ _ (s₁.setTop (mkF m 58 #[iv p1, iv p2, iv p3, iv p4, iv p5, iv p6, iv 0, iv (((p6.toUInt32 >>> ((1 : Int32) &&& 31).toUInt32).toInt32) &&& (1 : Int32)), iv 0, .unset, .unset, .unset, .unset, .unset, .unset, .unset, .unset, .unset, .unset, .unset, .unset, .unset, .unset, .unset, .unset] [(.int (3 : Int32)), (.int p6)]))
      refine own_st (fun t k => XS.iushr X0.here hx rfl (hb hby at_58) rfl k) ?_
      refine own_st (fun t k => XS.iconst X0.here hx rfl (hb hby at_59) k) ?_
      refine own_st (fun t k => XS.iand X0.here hx rfl (hb hby at_60) rfl k) ?_
      show own_Fin _ _ _ _ _ _ _ (s₁.setTop (mkF m 61 #[iv p1, iv p2, iv p3, iv p4, iv p5, iv p6, iv 0, iv (((p6.toUInt32 >>> ((1 : Int32) &&& 31).toUInt32).toInt32) &&& (1 : Int32)), iv 0, .unset, .unset, .unset, .unset, .unset, .unset, .unset, .unset, .unset, .unset, .unset, .unset, .unset, .unset, .unset, .unset] [(.int (((p6.toUInt32 >>> ((3 : Int32) &&& 31).toUInt32).toInt32) &&& (1 : Int32)))]))
      refine own_st (fun t k => XS.iconst X0.here hx rfl (hb hby at_61) k) ?_
      refine own_st (fun t k => XS.imul X0.here hx rfl (hb hby at_62) rfl k) ?_
      refine own_st (fun t k => XS.istore X0.here hx rfl (hb hby at_63) rfl (l' := #[iv p1, iv p2, iv p3, iv p4, iv p5, iv p6, iv 0, iv (((p6.toUInt32 >>> ((1 : Int32) &&& 31).toUInt32).toInt32) &&& (1 : Int32)), iv 0, iv ((((p6.toUInt32 >>> ((3 : Int32) &&& 31).toUInt32).toInt32) &&& (1 : Int32)) * (4 : Int32)), .unset, .unset, .unset, .unset, .unset, .unset, .unset, .unset, .unset, .unset, .unset, .unset, .unset, .unset, .unset]) rfl k) ?_
      show own_Fin _ _ _ _ _ _ _ (s₁.setTop (mkF m 65 #[iv p1, iv p2, iv p3, iv p4, iv p5, iv p6, iv 0, iv (((p6.toUInt32 >>> ((1 : Int32) &&& 31).toUInt32).toInt32) &&& (1 : Int32)), iv 0, iv ((((p6.toUInt32 >>> ((3 : Int32) &&& 31).toUInt32).toInt32) &&& (1 : Int32)) * (4 : Int32)), .unset, .unset, .unset, .unset, .unset, .unset, .unset, .unset, .unset, .unset, .unset, .unset, .unset, .unset, .unset] []))
      exact tail1 _ _ _ _ (own_n0 _) (own_bit _) (Or.inl rfl)
    · refine own_st (fun t k => XS.ifNo X0.here hx rfl (hb hby at_28) rfl ((if0 _ _).trans (feq hc28_84).1) k) ?_
      refine own_st (fun t k => XS.iconst X0.here hx rfl (hb hby at_31) k) ?_
      refine own_st (fun t k => XS.goto X0.here hx rfl (pc0 := 32) (pc' := 36) rfl (hb hby at_32) (by decide) (by decide) k) ?_
      show own_Fin _ _ _ _ _ _ _ (s₁.setTop (mkF m 36 #[iv p1, iv p2, iv p3, iv p4, iv p5, iv p6, iv 0, iv (((p6.toUInt32 >>> ((1 : Int32) &&& 31).toUInt32).toInt32) &&& (1 : Int32)), .unset, .unset, .unset, .unset, .unset, .unset, .unset, .unset, .unset, .unset, .unset, .unset, .unset, .unset, .unset, .unset, .unset] [(.int (1 : Int32))]))
      refine own_st (fun t k => XS.istore X0.here hx rfl (hb hby at_36) rfl (l' := #[iv p1, iv p2, iv p3, iv p4, iv p5, iv p6, iv 0, iv (((p6.toUInt32 >>> ((1 : Int32) &&& 31).toUInt32).toInt32) &&& (1 : Int32)), iv 1, .unset, .unset, .unset, .unset, .unset, .unset, .unset, .unset, .unset, .unset, .unset, .unset, .unset, .unset, .unset, .unset]) rfl k) ?_
      refine own_st (fun t k => XS.iload X0.here hx rfl (hb hby at_38) rfl k) ?_
      show own_Fin _ _ _ _ _ _ _ (s₁.setTop (mkF m 40 #[iv p1, iv p2, iv p3, iv p4, iv p5, iv p6, iv 0, iv (((p6.toUInt32 >>> ((1 : Int32) &&& 31).toUInt32).toInt32) &&& (1 : Int32)), iv 1, .unset, .unset, .unset, .unset, .unset, .unset, .unset, .unset, .unset, .unset, .unset, .unset, .unset, .unset, .unset, .unset] [(.int (0 : Int32))]))
      refine own_st (fun t k => XS.ifYes X0.here hx rfl (pc0 := 40) (pc' := 55) rfl (hb hby at_40) rfl ((if0 _ _).trans (teq (by decide : (0 : Int32) = (0 : Int32))).1) (by decide) (by decide) k) ?_
      refine own_st (fun t k => XS.iload X0.here hx rfl (hb hby at_55) rfl k) ?_
      refine own_st (fun t k => XS.iconst X0.here hx rfl (hb hby at_57) k) ?_
      show own_Fin _ _ _ _ _ _ _ (s₁.setTop (mkF m 58 #[iv p1, iv p2, iv p3, iv p4, iv p5, iv p6, iv 0, iv (((p6.toUInt32 >>> ((1 : Int32) &&& 31).toUInt32).toInt32) &&& (1 : Int32)), iv 1, .unset, .unset, .unset, .unset, .unset, .unset, .unset, .unset, .unset, .unset, .unset, .unset, .unset, .unset, .unset, .unset] [(.int (3 : Int32)), (.int p6)]))
      refine own_st (fun t k => XS.iushr X0.here hx rfl (hb hby at_58) rfl k) ?_
      refine own_st (fun t k => XS.iconst X0.here hx rfl (hb hby at_59) k) ?_
      refine own_st (fun t k => XS.iand X0.here hx rfl (hb hby at_60) rfl k) ?_
      show own_Fin _ _ _ _ _ _ _ (s₁.setTop (mkF m 61 #[iv p1, iv p2, iv p3, iv p4, iv p5, iv p6, iv 0, iv (((p6.toUInt32 >>> ((1 : Int32) &&& 31).toUInt32).toInt32) &&& (1 : Int32)), iv 1, .unset, .unset, .unset, .unset, .unset, .unset, .unset, .unset, .unset, .unset, .unset, .unset, .unset, .unset, .unset, .unset] [(.int (((p6.toUInt32 >>> ((3 : Int32) &&& 31).toUInt32).toInt32) &&& (1 : Int32)))]))
      refine own_st (fun t k => XS.iconst X0.here hx rfl (hb hby at_61) k) ?_
      refine own_st (fun t k => XS.imul X0.here hx rfl (hb hby at_62) rfl k) ?_
      refine own_st (fun t k => XS.istore X0.here hx rfl (hb hby at_63) rfl (l' := #[iv p1, iv p2, iv p3, iv p4, iv p5, iv p6, iv 0, iv (((p6.toUInt32 >>> ((1 : Int32) &&& 31).toUInt32).toInt32) &&& (1 : Int32)), iv 1, iv ((((p6.toUInt32 >>> ((3 : Int32) &&& 31).toUInt32).toInt32) &&& (1 : Int32)) * (4 : Int32)), .unset, .unset, .unset, .unset, .unset, .unset, .unset, .unset, .unset, .unset, .unset, .unset, .unset, .unset, .unset]) rfl k) ?_
      show own_Fin _ _ _ _ _ _ _ (s₁.setTop (mkF m 65 #[iv p1, iv p2, iv p3, iv p4, iv p5, iv p6, iv 0, iv (((p6.toUInt32 >>> ((1 : Int32) &&& 31).toUInt32).toInt32) &&& (1 : Int32)), iv 1, iv ((((p6.toUInt32 >>> ((3 : Int32) &&& 31).toUInt32).toInt32) &&& (1 : Int32)) * (4 : Int32)), .unset, .unset, .unset, .unset, .unset, .unset, .unset, .unset, .unset, .unset, .unset, .unset, .unset, .unset, .unset] []))
      exact tail1 _ _ _ _ (own_n0 _) (own_bit _) (Or.inr rfl)
  · refine own_st (fun t k => XS.ifNo X0.here hx rfl (hb hby at_4) rfl ((if0 _ _).trans (feq hc4_83).1) k) ?_
    refine own_st (fun t k => XS.iconst X0.here hx rfl (hb hby at_7) k) ?_
    refine own_st (fun t k => XS.goto X0.here hx rfl (pc0 := 8) (pc' := 12) rfl (hb hby at_8) (by decide) (by decide) k) ?_
    show own_Fin _ _ _ _ _ _ _ (s₁.setTop (mkF m 12 #[iv p1, iv p2, iv p3, iv p4, iv p5, iv p6, .unset, .unset, .unset, .unset, .unset, .unset, .unset, .unset, .unset, .unset, .unset, .unset, .unset, .unset, .unset, .unset, .unset, .unset, .unset] [(.int (1 : Int32))]))
    refine own_st (fun t k => XS.istore X0.here hx rfl (hb hby at_12) rfl (l' := #[iv p1, iv p2, iv p3, iv p4, iv p5, iv p6, iv 1, .unset, .unset, .unset, .unset, .unset, .unset, .unset, .unset, .unset, .unset, .unset, .unset, .unset, .unset, .unset, .unset, .unset, .unset]) rfl k) ?_
    refine own_st (fun t k => XS.iload X0.here hx rfl (hb hby at_14) rfl k) ?_
    refine own_st (fun t k => XS.iconst X0.here hx rfl (hb hby at_16) k) ?_
    show own_Fin _ _ _ _ _ _ _ (s₁.setTop (mkF m 17 #[iv p1, iv p2, iv p3, iv p4, iv p5, iv p6, iv 1, .unset, .unset, .unset, .unset, .unset, .unset, .unset, .unset, .unset, .unset, .unset, .unset, .unset, .unset, .unset, .unset, .unset, .unset] [(.int (1 : Int32)), (.int p6)]))
    refine own_st (fun t k => XS.iushr X0.here hx rfl (hb hby at_17) rfl k) ?_
    refine own_st (fun t k => XS.iconst X0.here hx rfl (hb hby at_18) k) ?_
    refine own_st (fun t k => XS.iand X0.here hx rfl (hb hby at_19) rfl k) ?_
    show own_Fin _ _ _ _ _ _ _ (s₁.setTop (mkF m 20 #[iv p1, iv p2, iv p3, iv p4, iv p5, iv p6, iv 1, .unset, .unset, .unset, .unset, .unset, .unset, .unset, .unset, .unset, .unset, .unset, .unset, .unset, .unset, .unset, .unset, .unset, .unset] [(.int (((p6.toUInt32 >>> ((1 : Int32) &&& 31).toUInt32).toInt32) &&& (1 : Int32)))]))
    refine own_st (fun t k => XS.istore X0.here hx rfl (hb hby at_20) rfl (l' := #[iv p1, iv p2, iv p3, iv p4, iv p5, iv p6, iv 1, iv (((p6.toUInt32 >>> ((1 : Int32) &&& 31).toUInt32).toInt32) &&& (1 : Int32)), .unset, .unset, .unset, .unset, .unset, .unset, .unset, .unset, .unset, .unset, .unset, .unset, .unset, .unset, .unset, .unset, .unset]) rfl k) ?_
    refine own_st (fun t k => XS.iload X0.here hx rfl (hb hby at_22) rfl k) ?_
    refine own_st (fun t k => XS.iconst X0.here hx rfl (hb hby at_24) k) ?_
    show own_Fin _ _ _ _ _ _ _ (s₁.setTop (mkF m 25 #[iv p1, iv p2, iv p3, iv p4, iv p5, iv p6, iv 1, iv (((p6.toUInt32 >>> ((1 : Int32) &&& 31).toUInt32).toInt32) &&& (1 : Int32)), .unset, .unset, .unset, .unset, .unset, .unset, .unset, .unset, .unset, .unset, .unset, .unset, .unset, .unset, .unset, .unset, .unset] [(.int (2 : Int32)), (.int p6)]))
    refine own_st (fun t k => XS.iushr X0.here hx rfl (hb hby at_25) rfl k) ?_
    refine own_st (fun t k => XS.iconst X0.here hx rfl (hb hby at_26) k) ?_
    refine own_st (fun t k => XS.iand X0.here hx rfl (hb hby at_27) rfl k) ?_
    show own_Fin _ _ _ _ _ _ _ (s₁.setTop (mkF m 28 #[iv p1, iv p2, iv p3, iv p4, iv p5, iv p6, iv 1, iv (((p6.toUInt32 >>> ((1 : Int32) &&& 31).toUInt32).toInt32) &&& (1 : Int32)), .unset, .unset, .unset, .unset, .unset, .unset, .unset, .unset, .unset, .unset, .unset, .unset, .unset, .unset, .unset, .unset, .unset] [(.int (((p6.toUInt32 >>> ((2 : Int32) &&& 31).toUInt32).toInt32) &&& (1 : Int32)))]))
    by_cases hc28_85 : (((p6.toUInt32 >>> ((2 : Int32) &&& 31).toUInt32).toInt32) &&& (1 : Int32)) = (0 : Int32)
    · refine own_st (fun t k => XS.ifYes X0.here hx rfl (pc0 := 28) (pc' := 35) rfl (hb hby at_28) rfl ((if0 _ _).trans (teq hc28_85).1) (by decide) (by decide) k) ?_
      refine own_st (fun t k => XS.iconst X0.here hx rfl (hb hby at_35) k) ?_
      refine own_st (fun t k => XS.istore X0.here hx rfl (hb hby at_36) rfl (l' := #[iv p1, iv p2, iv p3, iv p4, iv p5, iv p6, iv 1, iv (((p6.toUInt32 >>> ((1 : Int32) &&& 31).toUInt32).toInt32) &&& (1 : Int32)), iv 0, .unset, .unset, .unset, .unset, .unset, .unset, .unset, .unset, .unset, .unset, .unset, .unset, .unset, .unset, .unset, .unset]) rfl k) ?_
      show own_Fin _ _ _ _ _ _ _ (s₁.setTop (mkF m 38 #[iv p1, iv p2, iv p3, iv p4, iv p5, iv p6, iv 1, iv (((p6.toUInt32 >>> ((1 : Int32) &&& 31).toUInt32).toInt32) &&& (1 : Int32)), iv 0, .unset, .unset, .unset, .unset, .unset, .unset, .unset, .unset, .unset, .unset, .unset, .unset, .unset, .unset, .unset, .unset] []))
      refine own_st (fun t k => XS.iload X0.here hx rfl (hb hby at_38) rfl k) ?_
      show own_Fin _ _ _ _ _ _ _ (s₁.setTop (mkF m 40 #[iv p1, iv p2, iv p3, iv p4, iv p5, iv p6, iv 1, iv (((p6.toUInt32 >>> ((1 : Int32) &&& 31).toUInt32).toInt32) &&& (1 : Int32)), iv 0, .unset, .unset, .unset, .unset, .unset, .unset, .unset, .unset, .unset, .unset, .unset, .unset, .unset, .unset, .unset, .unset] [(.int (1 : Int32))]))
      refine own_st (fun t k => XS.ifNo X0.here hx rfl (hb hby at_40) rfl ((if0 _ _).trans (feq (by decide : ¬ ((1 : Int32) = (0 : Int32)))).1) k) ?_
      refine own_st (fun t k => XS.iload X0.here hx rfl (hb hby at_43) rfl k) ?_
      refine own_st (fun t k => XS.iconst X0.here hx rfl (hb hby at_45) k) ?_
      show own_Fin _ _ _ _ _ _ _ (s₁.setTop (mkF m 46 #[iv p1, iv p2, iv p3, iv p4, iv p5, iv p6, iv 1, iv (((p6.toUInt32 >>> ((1 : Int32) &&& 31).toUInt32).toInt32) &&& (1 : Int32)), iv 0, .unset, .unset, .unset, .unset, .unset, .unset, .unset, .unset, .unset, .unset, .unset, .unset, .unset, .unset, .unset, .unset] [(.int (3 : Int32)), (.int p6)]))
      refine own_st (fun t k => XS.iushr X0.here hx rfl (hb hby at_46) rfl k) ?_
      refine own_st (fun t k => XS.bipush X0.here hx rfl (hb hby at_47) k) ?_
      refine own_st (fun t k => XS.iand X0.here hx rfl (hb hby at_49) rfl k) ?_
      show own_Fin _ _ _ _ _ _ _ (s₁.setTop (mkF m 50 #[iv p1, iv p2, iv p3, iv p4, iv p5, iv p6, iv 1, iv (((p6.toUInt32 >>> ((1 : Int32) &&& 31).toUInt32).toInt32) &&& (1 : Int32)), iv 0, .unset, .unset, .unset, .unset, .unset, .unset, .unset, .unset, .unset, .unset, .unset, .unset, .unset, .unset, .unset, .unset] [(.int (((p6.toUInt32 >>> ((3 : Int32) &&& 31).toUInt32).toInt32) &&& (7 : Int32)))]))
      refine own_st (fun t k => XS.iconst X0.here hx rfl (hb hby at_50) k) ?_
      show own_Fin _ _ _ _ _ _ _ (s₁.setTop (mkF m 51 #[iv p1, iv p2, iv p3, iv p4, iv p5, iv p6, iv 1, iv (((p6.toUInt32 >>> ((1 : Int32) &&& 31).toUInt32).toInt32) &&& (1 : Int32)), iv 0, .unset, .unset, .unset, .unset, .unset, .unset, .unset, .unset, .unset, .unset, .unset, .unset, .unset, .unset, .unset, .unset] [(.int (5 : Int32)), (.int (((p6.toUInt32 >>> ((3 : Int32) &&& 31).toUInt32).toInt32) &&& (7 : Int32)))]))
      refine own_st (fun t k => iremM X0 hx rfl (hb hby at_51) rfl (by decide) k) ?_
      refine own_st (fun t k => XS.goto X0.here hx rfl (pc0 := 52) (pc' := 63) rfl (hb hby at_52) (by decide) (by decide) k) ?_
      refine own_st (fun t k => XS.istore X0.here hx rfl (hb hby at_63) rfl (l' := #[iv p1, iv p2, iv p3, iv p4, iv p5, iv p6, iv 1, iv (((p6.toUInt32 >>> ((1 : Int32) &&& 31).toUInt32).toInt32) &&& (1 : Int32)), iv 0, iv ((((p6.toUInt32 >>> ((3 : Int32) &&& 31).toUInt32).toInt32) &&& (7 : Int32)) % (5 : Int32)), .unset, .unset, .unset, .unset, .unset, .unset, .unset, .unset, .unset, .unset, .unset, .unset, .unset, .unset, .unset]) rfl k) ?_
      show own_Fin _ _ _ _ _ _ _ (s₁.setTop (mkF m 65 #[iv p1, iv p2, iv p3, iv p4, iv p5, iv p6, iv 1, iv (((p6.toUInt32 >>> ((1 : Int32) &&& 31).toUInt32).toInt32) &&& (1 : Int32)), iv 0, iv ((((p6.toUInt32 >>> ((3 : Int32) &&& 31).toUInt32).toInt32) &&& (7 : Int32)) % (5 : Int32)), .unset, .unset, .unset, .unset, .unset, .unset, .unset, .unset, .unset, .unset, .unset, .unset, .unset, .unset, .unset] []))
      exact tail1 _ _ _ _ (own_n1 _) (own_bit _) (Or.inl rfl)
    · refine own_st (fun t k => XS.ifNo X0.here hx rfl (hb hby at_28) rfl ((if0 _ _).trans (feq hc28_85).1) k) ?_
      refine own_st (fun t k => XS.iconst X0.here hx rfl (hb hby at_31) k) ?_
      refine own_st (fun t k => XS.goto X0.here hx rfl (pc0 := 32) (pc' := 36) rfl (hb hby at_32) (by decide) (by decide) k) ?_
      show own_Fin _ _ _ _ _ _ _ (s₁.setTop (mkF m 36 #[iv p1, iv p2, iv p3, iv p4, iv p5, iv p6, iv 1, iv (((p6.toUInt32 >>> ((1 : Int32) &&& 31).toUInt32).toInt32) &&& (1 : Int32)), .unset, .unset, .unset, .unset, .unset, .unset, .unset, .unset, .unset, .unset, .unset, .unset, .unset, .unset, .unset, .unset, .unset] [(.int (1 : Int32))]))
      refine own_st (fun t k => XS.istore X0.here hx rfl (hb hby at_36) rfl (l' := #[iv p1, iv p2, iv p3, iv p4, iv p5, iv p6, iv 1, iv (((p6.toUInt32 >>> ((1 : Int32) &&& 31).toUInt32).toInt32) &&& (1 : Int32)), iv 1, .unset, .unset, .unset, .unset, .unset, .unset, .unset, .unset, .unset, .unset, .unset, .unset, .unset, .unset, .unset, .unset]) rfl k) ?_
      refine own_st (fun t k => XS.iload X0.here hx rfl (hb hby at_38) rfl k) ?_
      show own_Fin _ _ _ _ _ _ _ (s₁.setTop (mkF m 40 #[iv p1, iv p2, iv p3, iv p4, iv p5, iv p6, iv 1, iv (((p6.toUInt32 >>> ((1 : Int32) &&& 31).toUInt32).toInt32) &&& (1 : Int32)), iv 1, .unset, .unset, .unset, .unset, .unset, .unset, .unset, .unset, .unset, .unset, .unset, .unset, .unset, .unset, .unset, .unset] [(.int (1 : Int32))]))
      refine own_st (fun t k => XS.ifNo X0.here hx rfl (hb hby at_40) rfl ((if0 _ _).trans (feq (by decide : ¬ ((1 : Int32) = (0 : Int32)))).1) k) ?_
      refine own_st (fun t k => XS.iload X0.here hx rfl (hb hby at_43) rfl k) ?_
      refine own_st (fun t k => XS.iconst X0.here hx rfl (hb hby at_45) k) ?_
      show own_Fin _ _ _ _ _ _ _ (s₁.setTop (mkF m 46 #[iv p1, iv p2, iv p3, iv p4, iv p5, iv p6, iv 1, iv (((p6.toUInt32 >>> ((1 : Int32) &&& 31).toUInt32).toInt32) &&& (1 : Int32)), iv 1, .unset, .unset, .unset, .unset, .unset, .unset, .unset, .unset, .unset, .unset, .unset, .unset, .unset, .unset, .unset, .unset] [(.int (3 : Int32)), (.int p6)]))
      refine own_st (fun t k => XS.iushr X0.here hx rfl (hb hby at_46) rfl k) ?_
      refine own_st (fun t k => XS.bipush X0.here hx rfl (hb hby at_47) k) ?_
      refine own_st (fun t k => XS.iand X0.here hx rfl (hb hby at_49) rfl k) ?_
      show own_Fin _ _ _ _ _ _ _ (s₁.setTop (mkF m 50 #[iv p1, iv p2, iv p3, iv p4, iv p5, iv p6, iv 1, iv (((p6.toUInt32 >>> ((1 : Int32) &&& 31).toUInt32).toInt32) &&& (1 : Int32)), iv 1, .unset, .unset, .unset, .unset, .unset, .unset, .unset, .unset, .unset, .unset, .unset, .unset, .unset, .unset, .unset, .unset] [(.int (((p6.toUInt32 >>> ((3 : Int32) &&& 31).toUInt32).toInt32) &&& (7 : Int32)))]))
      refine own_st (fun t k => XS.iconst X0.here hx rfl (hb hby at_50) k) ?_
      show own_Fin _ _ _ _ _ _ _ (s₁.setTop (mkF m 51 #[iv p1, iv p2, iv p3, iv p4, iv p5, iv p6, iv 1, iv (((p6.toUInt32 >>> ((1 : Int32) &&& 31).toUInt32).toInt32) &&& (1 : Int32)), iv 1, .unset, .unset, .unset, .unset, .unset, .unset, .unset, .unset, .unset, .unset, .unset, .unset, .unset, .unset, .unset, .unset] [(.int (5 : Int32)), (.int (((p6.toUInt32 >>> ((3 : Int32) &&& 31).toUInt32).toInt32) &&& (7 : Int32)))]))
      refine own_st (fun t k => iremM X0 hx rfl (hb hby at_51) rfl (by decide) k) ?_
      refine own_st (fun t k => XS.goto X0.here hx rfl (pc0 := 52) (pc' := 63) rfl (hb hby at_52) (by decide) (by decide) k) ?_
      refine own_st (fun t k => XS.istore X0.here hx rfl (hb hby at_63) rfl (l' := #[iv p1, iv p2, iv p3, iv p4, iv p5, iv p6, iv 1, iv (((p6.toUInt32 >>> ((1 : Int32) &&& 31).toUInt32).toInt32) &&& (1 : Int32)), iv 1, iv ((((p6.toUInt32 >>> ((3 : Int32) &&& 31).toUInt32).toInt32) &&& (7 : Int32)) % (5 : Int32)), .unset, .unset, .unset, .unset, .unset, .unset, .unset, .unset, .unset, .unset, .unset, .unset, .unset, .unset, .unset]) rfl k) ?_
      show own_Fin _ _ _ _ _ _ _ (s₁.setTop (mkF m 65 #[iv p1, iv p2, iv p3, iv p4, iv p5, iv p6, iv 1, iv (((p6.toUInt32 >>> ((1 : Int32) &&& 31).toUInt32).toInt32) &&& (1 : Int32)), iv 1, iv ((((p6.toUInt32 >>> ((3 : Int32) &&& 31).toUInt32).toInt32) &&& (7 : Int32)) % (5 : Int32)), .unset, .unset, .unset, .unset, .unset, .unset, .unset, .unset, .unset, .unset, .unset, .unset, .unset, .unset, .unset] []))
      exact tail1 _ _ _ _ (own_n1 _) (own_bit _) (Or.inr rfl)
set_option maxRecDepth 65536 in
set_option maxHeartbeats 40000000 in
theorem comes_1 {Post : Tables → Env → Array Value → State → Outcome → State → Prop} (hpost : ∀ tb e args s v u, (limb_1_1.after args s (.returned v) u = true ∧ limb_1_2.after args s (.returned v) u = true ∧ True) → FrameEnd s (.returned v) u (Jvm.fieldLocs frame_1_writes args s ++ Jvm.arrayLocs frame_1_arrays args s ++ Jvm.staticLocs frame_1_statics s) 24 192 → Post tb e args s (.returned v) u) :
    ArmFor flags0 classFile x code maxLocals ret World_1 tables_1 room_1 Calls_1 rest_1 Pre_1 Post := by
  intro l hfl _ _ p e ha hc hk s m args below hf hA hF happ hP
  obtain ⟨hcalls, hrest, hpre⟩ := hP
  obtain ⟨-, -, -, hnamed, -, -, -, hat⟩ := (Spec.applies_iff hf).mp happ
  obtain ⟨hg, hn⟩ := and_e (Cond.before_iff.mp (show (Jvm.Cond.and given_1 narrow_1).before args s = true from hpre))
  obtain ⟨g3, g4⟩ := and_e hg
  obtain ⟨g5, g6⟩ := and_e g4
  obtain ⟨g7, g8⟩ := and_e g6
  obtain ⟨g9, g10⟩ := and_e g8
  obtain ⟨g11, g12⟩ := and_e g10
  obtain ⟨g13, g14⟩ := and_e g12
  obtain ⟨w0, w1, w2, w3, w4, w5, rfl⟩ : ∃ w0 w1 w2 w3 w4 w5 : Value, args = #[w0, w1, w2, w3, w4, w5] := by
    have hs : args.size = 6 := by simpa [Cond.value, given_1] using g3
    obtain ⟨L⟩ := args
    match L, hs with
    | [w0, w1, w2, w3, w4, w5], _ => exact ⟨w0, w1, w2, w3, w4, w5, rfl⟩
  have hw := fun d (hd : d ∈ tables_1) => atoms_spec (ws := Jvm.Cond.code x code maxLocals ret :: tables_1) hat d (List.mem_cons_of_mem _ hd)
  obtain ⟨i0, ei0⟩ := is_v g5
  obtain rfl : w0 = (.int i0) := Option.some.inj ei0
  obtain ⟨i1, ei1⟩ := is_v g7
  obtain rfl : w1 = (.int i1) := Option.some.inj ei1
  obtain ⟨i2, ei2⟩ := is_v g9
  obtain rfl : w2 = (.int i2) := Option.some.inj ei2
  obtain ⟨i3, ei3⟩ := is_v g11
  obtain rfl : w3 = (.int i3) := Option.some.inj ei3
  obtain ⟨i4, ei4⟩ := is_v g13
  obtain rfl : w4 = (.int i4) := Option.some.inj ei4
  obtain ⟨i5, ei5⟩ := is_v g14
  obtain rfl : w5 = (.int i5) := Option.some.inj ei5
  obtain ⟨n, o, h1, h2, h3, v, L, rfl, ⟨hv, N, -⟩, hq⟩ := rm0 l s _ hw tables_1 i0 i1 i2 i3 i4 i5 s.heap s.heap.size (Nat.le_refl _) p e ha hc hk s m _ below hf ((Spec.applies_iff_loose hf).mp happ).1 ⟨rfl, State.Warmed39.refl s, rfl⟩ trivial
  subst hv
  refine ⟨n, _, h1, h2, h3, hpost _ _ _ _ _ _ ⟨Cond.after_iff.mpr rfl, Cond.after_iff.mpr (eq_i res_at (Term.int_eval (1)) rfl), trivial⟩ ⟨hq.1, hq.2.1, (hq.2.2.sift fun y hy => Or.inr (N y hy)).mono (by decide) (by decide)⟩⟩
theorem main_1_1 : Claimed_1_1 := comes_1 fun _ _ _ _ _ _ h hF => ⟨h.1, hF⟩
theorem main_1_2 : Claimed_1_2 := comes_1 fun _ _ _ _ _ _ h hF => ⟨h.2.1, hF⟩
end Jvm.Pilot.@@N@@
namespace Jvm.Pilot.@@N@@
open Jvm Jvm.ClassFile Sem Op Lib Jvm.Free Jvm.Stand Jvm.Pilot.@@N@@.Jvm.D
/-! MADE BY PROGRAM (witnessworld.py) out of the Statement's table words and the real class files: 12 classes; the members and pool entries that the words name. The judged class is class 1, her method 1. -/
namespace start1
open Jvm.ClassFile
def u (s : String) : CpInfo := .utf8 (stringToUtf16 s)
/-- a pool by its gaps: so many unusable entries, then the entry; so many at the end -/
def gap : Nat → List CpInfo → List CpInfo
  | 0, r => r
  | n + 1, r => .unusable :: gap n r
def poolList (es : List (Nat × CpInfo)) (last : Nat) : List CpInfo := es.foldr (fun e r => gap e.1 (e.2 :: r)) (gap last [])
def pool (es : List (Nat × CpInfo)) (last : Nat) : Array CpInfo := ⟨poolList es last⟩
def fileOf (pool : Array CpInfo) (this : Nat) (attrs : Array Attribute := #[]) (ms : Array MethodInfo := #[]) (fl : Nat := 33) (sup : Nat := 0) (ifs : Array Nat := #[]) (fds : Array FieldInfo := #[]) : ClassFile where
  minorVersion := 0
  majorVersion := 65
  constantPool := pool
  accessFlags := fl
  thisClass := this
  superClass := sup
  interfaces := ifs
  fields := fds
  methods := ms
  attributes := attrs
def plain (name : String) (sup : Option ClassId) : Class where
  name := name
  kind := .ordinary
  loader := none
  accessFlags := 33
  super := sup
  interfaces := #[]
  cf := none
  fields := #[]
  methods := #[]
  instanceTypes := #[]
  staticTypes := #[]
  resolved := #[]
  callSites := []
  init := .initialized
  statics := none
  mirror := none

def pool0 : Array CpInfo := pool [(5, u "<init>"), (0, u "()V"), (1, .class_ 10), (1, u "java/lang/Object")] 113

def k0c0 : Code := { maxStack := 0, maxLocals := 1, code := object_method_1_code, exceptionTable := #[], attributes := #[] }
def k0m0 : Method := { name := "<init>", desc := "()V", sig := { parameters := [], returnType := none }, accessFlags := 1, code := some k0c0 }
/-- java/lang/Object -/
def k0 : Class := { plain "java/lang/Object" none with
  accessFlags := 33
  interfaces := #[]
  cf := some (fileOf pool0 8 #[] #[{ accessFlags := 1, nameIndex := 5, descriptorIndex := 6, attributes := #[] }] 33 0 #[] #[])
  fields := #[]
  methods := #[k0m0]
  instanceTypes := #[]
  staticTypes := #[]
  resolved := Array.replicate 124 none
  statics := none }

def pool1 : Array CpInfo := pool [(2, .class_ 4), (1, u "java/lang/Object"), (0, u "<init>"), (0, u "()V"), (0, .methodref 8 9), (0, .class_ 10), (0, .nameAndType 11 12), (0, u "com/example/quietzone/quietzone/datamatrix/CodewordWriterEdifactPinLaw"), (0, u "ch"), (0, u "(I)I"), (0, .methodref 8 14), (0, .nameAndType 15 16), (0, u "value"), (0, u "([IIIZI)I"), (0, .class_ 18), (0, u "com/example/quietzone/quietzone/datamatrix/CodewordWriter"), (0, .methodref 17 20), (0, .nameAndType 5 21), (0, u "(I)V"), (0, .methodref 17 23), (0, .nameAndType 24 21), (0, u "codeword"), (0, .methodref 17 26), (0, .nameAndType 27 28), (0, u "edifact"), (0, u "([IIIZ)V"), (0, .methodref 17 30), (0, .nameAndType 31 32), (0, u "codewords"), (0, u "()[I"), (0, .integer 2147483647), (0, .methodref 8 35), (0, .nameAndType 36 12), (0, u "six"), (2, u "law"), (0, u "(IIIIII)Z")] 5

def k1m0 : Method := { name := "<init>", desc := "()V", sig := { parameters := [], returnType := none }, accessFlags := 1, code := none }
def k1c1 : Code := { maxStack := 5, maxLocals := 25, code := code, exceptionTable := #[], attributes := #[] }
def k1m1 : Method := { name := "law", desc := "(IIIIII)Z", sig := { parameters := [.int, .int, .int, .int, .int, .int], returnType := some .boolean }, accessFlags := 9, code := some k1c1 }
def k1c2 : Code := { maxStack := 3, maxLocals := 1, code := method_3_code, exceptionTable := #[], attributes := #[] }
def k1m2 : Method := { name := "ch", desc := "(I)I", sig := { parameters := [.int], returnType := some .int }, accessFlags := 10, code := some k1c2 }
def k1c3 : Code := { maxStack := 2, maxLocals := 1, code := method_4_code, exceptionTable := #[], attributes := #[] }
def k1m3 : Method := { name := "six", desc := "(I)I", sig := { parameters := [.int], returnType := some .int }, accessFlags := 10, code := some k1c3 }
def k1c4 : Code := { maxStack := 3, maxLocals := 5, code := method_5_code, exceptionTable := #[], attributes := #[] }
def k1m4 : Method := { name := "value", desc := "([IIIZI)I", sig := { parameters := [(.array .int), .int, .int, .boolean, .int], returnType := some .int }, accessFlags := 10, code := some k1c4 }
/-- com/example/quietzone/quietzone/datamatrix/CodewordWriterEdifactPinLaw -/
def k1 : Class := { plain "com/example/quietzone/quietzone/datamatrix/CodewordWriterEdifactPinLaw" (some 0) with
  accessFlags := 49
  interfaces := #[]
  cf := some (fileOf pool1 8 #[] #[{ accessFlags := 1, nameIndex := 5, descriptorIndex := 6, attributes := #[] }, { accessFlags := 9, nameIndex := 39, descriptorIndex := 40, attributes := #[] }, { accessFlags := 10, nameIndex := 11, descriptorIndex := 12, attributes := #[] }, { accessFlags := 10, nameIndex := 36, descriptorIndex := 12, attributes := #[] }, { accessFlags := 10, nameIndex := 15, descriptorIndex := 16, attributes := #[] }] 49 2 #[] #[])
  fields := #[]
  methods := #[k1m0, k1m1, k1m2, k1m3, k1m4]
  instanceTypes := #[]
  staticTypes := #[]
  resolved := Array.replicate 46 none
  statics := none }

def pool2 : Array CpInfo := pool [(1, .class_ 2), (0, u "com/example/quietzone/quietzone/datamatrix/CodewordWriter"), (0, .methodref 4 5), (0, .class_ 6), (0, .nameAndType 7 8), (0, u "java/lang/Object"), (0, u "<init>"), (0, u "()V"), (0, .fieldref 1 10), (0, .nameAndType 11 12), (0, u "values"), (0, u "[I"), (0, .fieldref 1 14), (0, .nameAndType 15 12), (0, u "added"), (0, .fieldref 1 17), (0, .nameAndType 18 12), (0, u "codewords"), (0, .fieldref 1 20), (0, .nameAndType 21 22), (0, u "count"), (0, u "I"), (21, u "pending"), (9, u "(I)V"), (13, .methodref 69 70), (0, .class_ 71), (0, .nameAndType 72 73), (0, u "java/util/Arrays"), (0, u "copyOf"), (0, u "([II)[I"), (0, u "SHORT_BASE256"), (2, u "LONG_BASE256"), (1, u "EDIFACT_UNLATCH"), (3, u "codeword"), (8, u "edifact"), (0, u "([IIIZ)V"), (2, u "()[I")] 2

def k2c0 : Code := { maxStack := 2, maxLocals := 2, code := prog_34_method_1_code, exceptionTable := #[], attributes := #[] }
def k2m0 : Method := { name := "<init>", desc := "(I)V", sig := { parameters := [.int], returnType := none }, accessFlags := 0, code := some k2c0 }
def k2c1 : Code := { maxStack := 5, maxLocals := 2, code := prog_34_method_2_code, exceptionTable := #[], attributes := #[] }
def k2m1 : Method := { name := "codeword", desc := "(I)V", sig := { parameters := [.int], returnType := none }, accessFlags := 0, code := some k2c1 }
def k2c2 : Code := { maxStack := 5, maxLocals := 9, code := prog_34_method_9_code, exceptionTable := #[], attributes := #[] }
def k2m2 : Method := { name := "edifact", desc := "([IIIZ)V", sig := { parameters := [(.array .int), .int, .int, .boolean], returnType := none }, accessFlags := 0, code := some k2c2 }
def k2c3 : Code := { maxStack := 2, maxLocals := 1, code := prog_34_method_13_code, exceptionTable := #[], attributes := #[] }
def k2m3 : Method := { name := "codewords", desc := "()[I", sig := { parameters := [], returnType := some (.array .int) }, accessFlags := 0, code := some k2c3 }
/-- com/example/quietzone/quietzone/datamatrix/CodewordWriter -/
def k2 : Class := { plain "com/example/quietzone/quietzone/datamatrix/CodewordWriter" (some 0) with
  accessFlags := 48
  interfaces := #[]
  cf := some (fileOf pool2 1 #[] #[{ accessFlags := 0, nameIndex := 7, descriptorIndex := 54, attributes := #[] }, { accessFlags := 0, nameIndex := 83, descriptorIndex := 54, attributes := #[] }, { accessFlags := 0, nameIndex := 92, descriptorIndex := 93, attributes := #[] }, { accessFlags := 0, nameIndex := 18, descriptorIndex := 96, attributes := #[] }] 48 4 #[] #[{ accessFlags := 24, nameIndex := 74, descriptorIndex := 22, attributes := #[] }, { accessFlags := 24, nameIndex := 77, descriptorIndex := 22, attributes := #[] }, { accessFlags := 26, nameIndex := 79, descriptorIndex := 22, attributes := #[] }, { accessFlags := 18, nameIndex := 18, descriptorIndex := 12, attributes := #[] }, { accessFlags := 2, nameIndex := 21, descriptorIndex := 22, attributes := #[] }, { accessFlags := 18, nameIndex := 11, descriptorIndex := 12, attributes := #[] }, { accessFlags := 18, nameIndex := 15, descriptorIndex := 12, attributes := #[] }, { accessFlags := 2, nameIndex := 44, descriptorIndex := 22, attributes := #[] }])
  fields := #[{ name := "SHORT_BASE256", type := .int, accessFlags := 24, slot := 0, constantValue := 0 }, { name := "LONG_BASE256", type := .int, accessFlags := 24, slot := 1, constantValue := 0 }, { name := "EDIFACT_UNLATCH", type := .int, accessFlags := 26, slot := 2, constantValue := 0 }, { name := "codewords", type := (.array .int), accessFlags := 18, slot := 0, constantValue := 0 }, { name := "count", type := .int, accessFlags := 2, slot := 1, constantValue := 0 }, { name := "values", type := (.array .int), accessFlags := 18, slot := 2, constantValue := 0 }, { name := "added", type := (.array .int), accessFlags := 18, slot := 3, constantValue := 0 }, { name := "pending", type := .int, accessFlags := 2, slot := 4, constantValue := 0 }]
  methods := #[k2m0, k2m1, k2m2, k2m3]
  instanceTypes := #[(.array .int), .int, (.array .int), (.array .int), .int]
  staticTypes := #[.int, .int, .int]
  resolved := Array.replicate 99 none
  statics := none }

def pool3 : Array CpInfo := pool [(2, .class_ 4), (1, u "java/lang/Object"), (0, u "<init>"), (0, u "()V"), (7, .class_ 16), (1, u "java/util/Arrays"), (57, .class_ 76), (1, u "java/util/Arrays$NaturalOrder"), (36, .class_ 115), (1, u "java/util/Arrays$LegacyMergeSort"), (1, u "Z"), (32, .methodref 151 152), (0, .class_ 153), (0, .nameAndType 154 155), (0, u "java/lang/System"), (0, u "arraycopy"), (0, u "(Ljava/lang/Object;ILjava/lang/Object;II)V"), (146, u "copyOf"), (1, .methodref 305 306), (0, .class_ 307), (0, .nameAndType 308 309), (0, u "java/lang/Math"), (0, u "min"), (0, u "(II)I"), (65, .class_ 376), (0, u "java/util/Arrays$ArrayList"), (68, u "$assertionsDisabled"), (269, u "MIN_ARRAY_SORT_GRAN"), (0, u "I"), (2, u "INSERTIONSORT_THRESHOLD"), (151, u "([II)[I"), (103, .class_ 976), (0, u "java/util/Arrays$ArrayItr")] 52

def k3m0 : Method := { name := "<init>", desc := "()V", sig := { parameters := [], returnType := none }, accessFlags := 2, code := none }
def k3c1 : Code := { maxStack := 6, maxLocals := 3, code := jdk_65_method_123_code, exceptionTable := #[], attributes := #[] }
def k3m1 : Method := { name := "copyOf", desc := "([II)[I", sig := { parameters := [(.array .int), .int], returnType := some (.array .int) }, accessFlags := 9, code := some k3c1 }
/-- java/util/Arrays -/
def k3 : Class := { plain "java/util/Arrays" (some 0) with
  accessFlags := 49
  interfaces := #[]
  cf := some (fileOf pool3 14 #[.nestMembers #[975, 375, 113, 74]] #[{ accessFlags := 2, nameIndex := 5, descriptorIndex := 6, attributes := #[] }, { accessFlags := 9, nameIndex := 302, descriptorIndex := 871, attributes := #[] }] 49 2 #[] #[{ accessFlags := 26, nameIndex := 715, descriptorIndex := 716, attributes := #[] }, { accessFlags := 26, nameIndex := 719, descriptorIndex := 716, attributes := #[] }, { accessFlags := 4120, nameIndex := 445, descriptorIndex := 117, attributes := #[] }])
  fields := #[{ name := "MIN_ARRAY_SORT_GRAN", type := .int, accessFlags := 26, slot := 0, constantValue := 0 }, { name := "INSERTIONSORT_THRESHOLD", type := .int, accessFlags := 26, slot := 1, constantValue := 0 }, { name := "$assertionsDisabled", type := .boolean, accessFlags := 4120, slot := 2, constantValue := 0 }]
  methods := #[k3m0, k3m1]
  instanceTypes := #[]
  staticTypes := #[.int, .int, .boolean]
  resolved := Array.replicate 1029 none
  statics := none }

def pool4 : Array CpInfo := pool [(1, .class_ 2), (0, u "java/lang/Math"), (1, .class_ 6), (1, u "java/lang/Object"), (0, u "<init>"), (0, u "()V"), (89, .class_ 100), (1, u "java/lang/Math$RandomNumberGeneratorHolder"), (71, u "negativeZeroFloatBits"), (0, u "J"), (2, u "negativeZeroDoubleBits"), (24, u "min"), (43, u "$assertionsDisabled"), (0, u "Z"), (88, u "(II)I"), (2, u "twoToTheDoubleScaleDown"), (0, u "D"), (4, u "twoToTheDoubleScaleUp"), (9, u "E"), (3, u "PI"), (2, u "TAU"), (2, u "DEGREES_TO_RADIANS"), (0, u "RADIANS_TO_DEGREES")] 94

def k4m0 : Method := { name := "<init>", desc := "()V", sig := { parameters := [], returnType := none }, accessFlags := 2, code := none }
def k4c1 : Code := { maxStack := 2, maxLocals := 2, code := jdk_29_method_69_code, exceptionTable := #[], attributes := #[] }
def k4m1 : Method := { name := "min", desc := "(II)I", sig := { parameters := [.int, .int], returnType := some .int }, accessFlags := 9, code := some k4c1 }
/-- java/lang/Math -/
def k4 : Class := { plain "java/lang/Math" (some 0) with
  accessFlags := 49
  interfaces := #[]
  cf := some (fileOf pool4 1 #[.nestMembers #[98]] #[{ accessFlags := 2, nameIndex := 7, descriptorIndex := 8, attributes := #[] }, { accessFlags := 9, nameIndex := 201, descriptorIndex := 335, attributes := #[] }] 49 4 #[] #[{ accessFlags := 25, nameIndex := 354, descriptorIndex := 339, attributes := #[] }, { accessFlags := 25, nameIndex := 358, descriptorIndex := 339, attributes := #[] }, { accessFlags := 25, nameIndex := 361, descriptorIndex := 339, attributes := #[] }, { accessFlags := 26, nameIndex := 364, descriptorIndex := 339, attributes := #[] }, { accessFlags := 26, nameIndex := 365, descriptorIndex := 339, attributes := #[] }, { accessFlags := 26, nameIndex := 172, descriptorIndex := 173, attributes := #[] }, { accessFlags := 26, nameIndex := 176, descriptorIndex := 173, attributes := #[] }, { accessFlags := 8, nameIndex := 344, descriptorIndex := 339, attributes := #[] }, { accessFlags := 8, nameIndex := 338, descriptorIndex := 339, attributes := #[] }, { accessFlags := 4120, nameIndex := 245, descriptorIndex := 246, attributes := #[] }])
  fields := #[{ name := "E", type := .double, accessFlags := 25, slot := 0, constantValue := 0 }, { name := "PI", type := .double, accessFlags := 25, slot := 1, constantValue := 0 }, { name := "TAU", type := .double, accessFlags := 25, slot := 2, constantValue := 0 }, { name := "DEGREES_TO_RADIANS", type := .double, accessFlags := 26, slot := 3, constantValue := 0 }, { name := "RADIANS_TO_DEGREES", type := .double, accessFlags := 26, slot := 4, constantValue := 0 }, { name := "negativeZeroFloatBits", type := .long, accessFlags := 26, slot := 5, constantValue := 0 }, { name := "negativeZeroDoubleBits", type := .long, accessFlags := 26, slot := 6, constantValue := 0 }, { name := "twoToTheDoubleScaleUp", type := .double, accessFlags := 8, slot := 7, constantValue := 0 }, { name := "twoToTheDoubleScaleDown", type := .double, accessFlags := 8, slot := 8, constantValue := 0 }, { name := "$assertionsDisabled", type := .boolean, accessFlags := 4120, slot := 9, constantValue := 0 }]
  methods := #[k4m0, k4m1]
  instanceTypes := #[]
  staticTypes := #[.double, .double, .double, .double, .double, .long, .long, .double, .double, .boolean]
  resolved := Array.replicate 460 none
  statics := none }

def pool5 : Array CpInfo := pool [(2, .class_ 4), (1, u "java/lang/Object"), (0, u "<init>"), (0, u "()V"), (1, .class_ 10), (1, u "java/lang/System"), (0, u "allowSecurityManager"), (0, u "I"), (16, u "cons"), (0, u "Ljava/io/Console;"), (77, .class_ 110), (1, u "java/lang/System$CallersHolder"), (43, u "initialErrStream"), (0, u "Ljava/io/PrintStream;"), (19, u "security"), (0, u "Ljava/lang/SecurityManager;"), (31, .class_ 209), (0, u "java/lang/System$1"), (7, u "props"), (0, u "Ljava/util/Properties;"), (2, u "lineSeparator"), (0, u "Ljava/lang/String;"), (96, .class_ 321), (1, u "java/lang/System$LoggerFinder"), (5, .class_ 328), (0, u "java/lang/System$Logger"), (67, u "err"), (2, u "out"), (91, u "notSupportedJnuEncoding"), (15, u "in"), (17, u "initialIn"), (0, u "Ljava/io/InputStream;"), (35, u "bootLayer"), (0, u "Ljava/lang/ModuleLayer;"), (99, .class_ 664), (0, u "java/lang/System$2"), (9, u "NEVER"), (2, u "MAYBE"), (49, u "arraycopy"), (0, u "(Ljava/lang/Object;ILjava/lang/Object;II)V"), (72, .class_ 802), (0, u "java/lang/System$Logger$Level")] 31

def k5m0 : Method := { name := "<init>", desc := "()V", sig := { parameters := [], returnType := none }, accessFlags := 2, code := none }
def k5m1 : Method := { name := "arraycopy", desc := "(Ljava/lang/Object;ILjava/lang/Object;II)V", sig := { parameters := [(.object "java/lang/Object"), .int, (.object "java/lang/Object"), .int, .int], returnType := none }, accessFlags := 265, code := none }
/-- java/lang/System -/
def k5 : Class := { plain "java/lang/System" (some 0) with
  accessFlags := 49
  interfaces := #[]
  cf := some (fileOf pool5 8 #[.nestMembers #[319, 327, 801, 108, 663, 208]] #[{ accessFlags := 2, nameIndex := 5, descriptorIndex := 6, attributes := #[] }, { accessFlags := 265, nameIndex := 727, descriptorIndex := 728, attributes := #[] }] 49 2 #[] #[{ accessFlags := 25, nameIndex := 507, descriptorIndex := 526, attributes := #[] }, { accessFlags := 25, nameIndex := 399, descriptorIndex := 155, attributes := #[] }, { accessFlags := 25, nameIndex := 396, descriptorIndex := 155, attributes := #[] }, { accessFlags := 10, nameIndex := 525, descriptorIndex := 526, attributes := #[] }, { accessFlags := 26, nameIndex := 674, descriptorIndex := 12, attributes := #[] }, { accessFlags := 26, nameIndex := 677, descriptorIndex := 12, attributes := #[] }, { accessFlags := 10, nameIndex := 11, descriptorIndex := 12, attributes := #[] }, { accessFlags := 74, nameIndex := 175, descriptorIndex := 176, attributes := #[] }, { accessFlags := 10, nameIndex := 491, descriptorIndex := 222, attributes := #[] }, { accessFlags := 74, nameIndex := 29, descriptorIndex := 30, attributes := #[] }, { accessFlags := 74, nameIndex := 154, descriptorIndex := 155, attributes := #[] }, { accessFlags := 10, nameIndex := 217, descriptorIndex := 218, attributes := #[] }, { accessFlags := 10, nameIndex := 221, descriptorIndex := 222, attributes := #[] }, { accessFlags := 8, nameIndex := 562, descriptorIndex := 563, attributes := #[] }])
  fields := #[{ name := "in", type := (.object "java/io/InputStream"), accessFlags := 25, slot := 0, constantValue := 0 }, { name := "out", type := (.object "java/io/PrintStream"), accessFlags := 25, slot := 1, constantValue := 0 }, { name := "err", type := (.object "java/io/PrintStream"), accessFlags := 25, slot := 2, constantValue := 0 }, { name := "initialIn", type := (.object "java/io/InputStream"), accessFlags := 10, slot := 3, constantValue := 0 }, { name := "NEVER", type := .int, accessFlags := 26, slot := 4, constantValue := 0 }, { name := "MAYBE", type := .int, accessFlags := 26, slot := 5, constantValue := 0 }, { name := "allowSecurityManager", type := .int, accessFlags := 10, slot := 6, constantValue := 0 }, { name := "security", type := (.object "java/lang/SecurityManager"), accessFlags := 74, slot := 7, constantValue := 0 }, { name := "notSupportedJnuEncoding", type := (.object "java/lang/String"), accessFlags := 10, slot := 8, constantValue := 0 }, { name := "cons", type := (.object "java/io/Console"), accessFlags := 74, slot := 9, constantValue := 0 }, { name := "initialErrStream", type := (.object "java/io/PrintStream"), accessFlags := 74, slot := 10, constantValue := 0 }, { name := "props", type := (.object "java/util/Properties"), accessFlags := 10, slot := 11, constantValue := 0 }, { name := "lineSeparator", type := (.object "java/lang/String"), accessFlags := 10, slot := 12, constantValue := 0 }, { name := "bootLayer", type := (.object "java/lang/ModuleLayer"), accessFlags := 8, slot := 13, constantValue := 0 }]
  methods := #[k5m0, k5m1]
  instanceTypes := #[]
  staticTypes := #[(.object "java/io/InputStream"), (.object "java/io/PrintStream"), (.object "java/io/PrintStream"), (.object "java/io/InputStream"), .int, .int, .int, (.object "java/lang/SecurityManager"), (.object "java/lang/String"), (.object "java/io/Console"), (.object "java/io/PrintStream"), (.object "java/util/Properties"), (.object "java/lang/String"), (.object "java/lang/ModuleLayer")]
  resolved := Array.replicate 834 none
  statics := none }

def pool6 : Array CpInfo := pool [(1, u "java/lang/Cloneable"), (0, .class_ 1), (0, u "java/lang/Object"), (0, .class_ 3)] 3

/-- java/lang/Cloneable -/
def k6 : Class := { plain "java/lang/Cloneable" (some 0) with
  accessFlags := 1537
  interfaces := #[]
  cf := some (fileOf pool6 2 #[] #[] 1537 4 #[] #[])
  fields := #[]
  methods := #[]
  instanceTypes := #[]
  staticTypes := #[]
  resolved := Array.replicate 8 none
  statics := none }

def pool7 : Array CpInfo := pool [(1, u "java/io/Serializable"), (0, .class_ 1), (0, u "java/lang/Object"), (0, .class_ 3)] 3

/-- java/io/Serializable -/
def k7 : Class := { plain "java/io/Serializable" (some 0) with
  accessFlags := 1537
  interfaces := #[]
  cf := some (fileOf pool7 2 #[] #[] 1537 4 #[] #[])
  fields := #[]
  methods := #[]
  instanceTypes := #[]
  staticTypes := #[]
  resolved := Array.replicate 8 none
  statics := none }

/-- the primitive byte -/
def k8 : Class := { plain "byte" none with kind := .primitive 'B', accessFlags := 0x411 }
/-- [B -/
def k9 : Class := { plain "[B" (some 0) with kind := .array 8 .byte, interfaces := #[6, 7], accessFlags := 1041 }

/-- the primitive int -/
def k10 : Class := { plain "int" none with kind := .primitive 'I', accessFlags := 0x411 }
/-- [I -/
def k11 : Class := { plain "[I" (some 0) with kind := .array 10 .int, interfaces := #[6, 7], accessFlags := 1041 }

def heap : Heap := #[]
def classes : Array Class := #[k0, k1, k2, k3, k4, k5, k6, k7, k8, k9, k10, k11]
def interned : List (Array UInt16 × Addr) := []
def slotsUsed : Nat := 0
def theMethod : MethodId := ⟨1, 1⟩
def args0 : Array Value := #[.int 5, .int 5, .int 5, .int 5, .int 5, .int 5]
def aboutOver (below : List Frame) : State where
  vm := { classes := classes, interned := interned.toArray }
  heap := heap
  slotsUsed := slotsUsed
  threads := #[{ frames := .invoking theMethod args0 :: below }]
def below0 : List Frame := [.native { method := ⟨0, 0⟩, args := #[] }]
def about1 : State := aboutOver below0
def p0 : Program := .bare "" "" ""
def e0 : Env := launch0.env 0 0 0
theorem w_frames : about1.frames = Frame.invoking theMethod args0 :: below0 := rfl
set_option maxRecDepth 65536 in
theorem w_args : argsFit about1.vm theMethod args0 = true := by decide +kernel
set_option maxRecDepth 65536 in
theorem w_heap : heapFits about1 = true := by decide +kernel
set_option maxRecDepth 65536 in
theorem w_runnable : about1.curStatus? = some .runnable := by decide +kernel
set_option maxRecDepth 65536 in
theorem w_alone : about1.alone = true := by decide +kernel
set_option maxRecDepth 65536 in
theorem w_named : about1.methodNamed? x = some theMethod := by decide +kernel
set_option maxRecDepth 65536 in
theorem w_hears : about1.hears theMethod below0 = true := by decide +kernel
set_option maxRecDepth 65536 in
theorem w_ripe : about1.ripe theMethod args0 below0 = true := by decide +kernel
theorem w_running : about1.status = .running := rfl
set_option maxRecDepth 65536 in
theorem w_room : about1.hasRoom e0.platform room_1 = true :=
  launch0.hasRoom_least _ room_1 (by decide +kernel) (by decide +kernel) (by decide +kernel) (by decide +kernel) (by decide +kernel) (by decide +kernel)
theorem allAtoms_all (ts : List Jvm.Cond) (a : Array Jvm.Value) (st : Jvm.State) : (allAtoms ts).before a st = ts.all (fun c => c.before a st) := by
  induction ts with
  | nil => rfl
  | cons c t ih =>
    show (Jvm.Cond.and c (allAtoms t)).before a st = _
    rw [Jvm.Cond.before_and, ih, List.all_cons]
def words1 : List Jvm.Cond := Jvm.Cond.code x code maxLocals ret :: tables_1
/-- a 'code' word, met by the world's own term for the bytes: nothing is compared byte by byte -/
theorem code_word {y : MethodName} {bytes : ByteArray} {mx : Nat} {rt : Option FieldType} {a : Array Value} {s : State} {m : MethodId} {meth : Method} {c : Code} (h1 : s.methodNamed? y = some m) (h2 : s.vm.method? m = some meth) (h3 : meth.code = some c) (h4 : c.code = bytes)
    (h5 : (c.maxLocals == mx && c.exceptionTable.isEmpty && decide (c.maxStack ≤ mostOperands) && decide (meth.sig.returnType = rt) && !meth.locks && decide (parseMethodDescriptor y.desc = some meth.sig)) = true) : (Jvm.Cond.code y bytes mx rt).before a s = true := by
  simp only [Bool.and_eq_true, beq_iff_eq, Bool.not_eq_true', decide_eq_true_eq] at h5
  obtain ⟨⟨⟨⟨⟨g1, g2⟩, g3⟩, g4⟩, g5⟩, g6⟩ := h5
  simp [Cond.before, Cond.holds, Cond.value, h1, h2, h3, h4, g1, g2, g3, g4, g5, g6]
def isCode : Jvm.Cond → Bool
  | .code _ _ _ _ => true
  | _ => false
theorem all_split {L : List Jvm.Cond} {P : Jvm.Cond → Bool} (h1 : L.all (fun c => isCode c || P c) = true) (h2 : ∀ c ∈ L.filter isCode, P c = true) : L.all P = true := by
  refine List.all_eq_true.mpr fun c hc => ?_
  have h := List.all_eq_true.mp h1 c hc
  rcases Bool.eq_false_or_eq_true (isCode c) with hi | hi
  · exact h2 c (List.mem_filter.mpr ⟨hc, hi⟩)
  · simpa [hi] using h
set_option maxRecDepth 65536 in
theorem w_c0 : (Jvm.Cond.code x code maxLocals ret).before args0 about1 = true := code_word (m := ⟨1, 1⟩) (meth := k1m1) (c := k1c1) (by decide +kernel) rfl rfl rfl (by decide +kernel)
set_option maxRecDepth 65536 in
theorem w_c1 : (Jvm.Cond.code ({ cls := "com/example/quietzone/quietzone/datamatrix/CodewordWriterEdifactPinLaw", name := "ch", desc := "(I)I" } : Jvm.MethodName) method_3_code (1 : Nat) (Option.some Jvm.ClassFile.FieldType.int)).before args0 about1 = true := code_word (m := ⟨1, 2⟩) (meth := k1m2) (c := k1c2) (by decide +kernel) rfl rfl rfl (by decide +kernel)
set_option maxRecDepth 65536 in
theorem w_c2 : (Jvm.Cond.code ({ cls := "com/example/quietzone/quietzone/datamatrix/CodewordWriterEdifactPinLaw", name := "value", desc := "([IIIZI)I" } : Jvm.MethodName) method_5_code (5 : Nat) (Option.some Jvm.ClassFile.FieldType.int)).before args0 about1 = true := code_word (m := ⟨1, 4⟩) (meth := k1m4) (c := k1c4) (by decide +kernel) rfl rfl rfl (by decide +kernel)
set_option maxRecDepth 65536 in
theorem w_c3 : (Jvm.Cond.code ({ cls := "com/example/quietzone/quietzone/datamatrix/CodewordWriter", name := "<init>", desc := "(I)V" } : Jvm.MethodName) prog_34_method_1_code (2 : Nat) (Option.none : Option Jvm.ClassFile.FieldType)).before args0 about1 = true := code_word (m := ⟨2, 0⟩) (meth := k2m0) (c := k2c0) (by decide +kernel) rfl rfl rfl (by decide +kernel)
set_option maxRecDepth 65536 in
theorem w_c4 : (Jvm.Cond.code ({ cls := "java/lang/Object", name := "<init>", desc := "()V" } : Jvm.MethodName) object_method_1_code (1 : Nat) (Option.none : Option Jvm.ClassFile.FieldType)).before args0 about1 = true := code_word (m := ⟨0, 0⟩) (meth := k0m0) (c := k0c0) (by decide +kernel) rfl rfl rfl (by decide +kernel)
set_option maxRecDepth 65536 in
theorem w_c5 : (Jvm.Cond.code ({ cls := "com/example/quietzone/quietzone/datamatrix/CodewordWriter", name := "edifact", desc := "([IIIZ)V" } : Jvm.MethodName) prog_34_method_9_code (9 : Nat) (Option.none : Option Jvm.ClassFile.FieldType)).before args0 about1 = true := code_word (m := ⟨2, 2⟩) (meth := k2m2) (c := k2c2) (by decide +kernel) rfl rfl rfl (by decide +kernel)
set_option maxRecDepth 65536 in
theorem w_c6 : (Jvm.Cond.code ({ cls := "com/example/quietzone/quietzone/datamatrix/CodewordWriter", name := "codewords", desc := "()[I" } : Jvm.MethodName) prog_34_method_13_code (1 : Nat) (Option.some (Jvm.ClassFile.FieldType.array Jvm.ClassFile.FieldType.int))).before args0 about1 = true := code_word (m := ⟨2, 3⟩) (meth := k2m3) (c := k2c3) (by decide +kernel) rfl rfl rfl (by decide +kernel)
set_option maxRecDepth 65536 in
theorem w_c7 : (Jvm.Cond.code ({ cls := "java/util/Arrays", name := "copyOf", desc := "([II)[I" } : Jvm.MethodName) jdk_65_method_123_code (3 : Nat) (Option.some (Jvm.ClassFile.FieldType.array Jvm.ClassFile.FieldType.int))).before args0 about1 = true := code_word (m := ⟨3, 1⟩) (meth := k3m1) (c := k3c1) (by decide +kernel) rfl rfl rfl (by decide +kernel)
set_option maxRecDepth 65536 in
theorem w_c8 : (Jvm.Cond.code ({ cls := "java/lang/Math", name := "min", desc := "(II)I" } : Jvm.MethodName) jdk_29_method_69_code (2 : Nat) (Option.some Jvm.ClassFile.FieldType.int)).before args0 about1 = true := code_word (m := ⟨4, 1⟩) (meth := k4m1) (c := k4c1) (by decide +kernel) rfl rfl rfl (by decide +kernel)
set_option maxRecDepth 65536 in
theorem w_c9 : (Jvm.Cond.code ({ cls := "com/example/quietzone/quietzone/datamatrix/CodewordWriterEdifactPinLaw", name := "six", desc := "(I)I" } : Jvm.MethodName) method_4_code (1 : Nat) (Option.some Jvm.ClassFile.FieldType.int)).before args0 about1 = true := code_word (m := ⟨1, 3⟩) (meth := k1m3) (c := k1c3) (by decide +kernel) rfl rfl rfl (by decide +kernel)
set_option maxRecDepth 65536 in
theorem w_c10 : (Jvm.Cond.code ({ cls := "com/example/quietzone/quietzone/datamatrix/CodewordWriter", name := "codeword", desc := "(I)V" } : Jvm.MethodName) prog_34_method_2_code (2 : Nat) (Option.none : Option Jvm.ClassFile.FieldType)).before args0 about1 = true := code_word (m := ⟨2, 1⟩) (meth := k2m1) (c := k2c1) (by decide +kernel) rfl rfl rfl (by decide +kernel)
def codes1 : List Jvm.Cond := [Jvm.Cond.code x code maxLocals ret, Jvm.Cond.code ({ cls := "com/example/quietzone/quietzone/datamatrix/CodewordWriterEdifactPinLaw", name := "ch", desc := "(I)I" } : Jvm.MethodName) method_3_code (1 : Nat) (Option.some Jvm.ClassFile.FieldType.int), Jvm.Cond.code ({ cls := "com/example/quietzone/quietzone/datamatrix/CodewordWriterEdifactPinLaw", name := "value", desc := "([IIIZI)I" } : Jvm.MethodName) method_5_code (5 : Nat) (Option.some Jvm.ClassFile.FieldType.int), Jvm.Cond.code ({ cls := "com/example/quietzone/quietzone/datamatrix/CodewordWriter", name := "<init>", desc := "(I)V" } : Jvm.MethodName) prog_34_method_1_code (2 : Nat) (Option.none : Option Jvm.ClassFile.FieldType), Jvm.Cond.code ({ cls := "java/lang/Object", name := "<init>", desc := "()V" } : Jvm.MethodName) object_method_1_code (1 : Nat) (Option.none : Option Jvm.ClassFile.FieldType), Jvm.Cond.code ({ cls := "com/example/quietzone/quietzone/datamatrix/CodewordWriter", name := "edifact", desc := "([IIIZ)V" } : Jvm.MethodName) prog_34_method_9_code (9 : Nat) (Option.none : Option Jvm.ClassFile.FieldType), Jvm.Cond.code ({ cls := "com/example/quietzone/quietzone/datamatrix/CodewordWriter", name := "codewords", desc := "()[I" } : Jvm.MethodName) prog_34_method_13_code (1 : Nat) (Option.some (Jvm.ClassFile.FieldType.array Jvm.ClassFile.FieldType.int)), Jvm.Cond.code ({ cls := "java/util/Arrays", name := "copyOf", desc := "([II)[I" } : Jvm.MethodName) jdk_65_method_123_code (3 : Nat) (Option.some (Jvm.ClassFile.FieldType.array Jvm.ClassFile.FieldType.int)), Jvm.Cond.code ({ cls := "java/lang/Math", name := "min", desc := "(II)I" } : Jvm.MethodName) jdk_29_method_69_code (2 : Nat) (Option.some Jvm.ClassFile.FieldType.int), Jvm.Cond.code ({ cls := "com/example/quietzone/quietzone/datamatrix/CodewordWriterEdifactPinLaw", name := "six", desc := "(I)I" } : Jvm.MethodName) method_4_code (1 : Nat) (Option.some Jvm.ClassFile.FieldType.int), Jvm.Cond.code ({ cls := "com/example/quietzone/quietzone/datamatrix/CodewordWriter", name := "codeword", desc := "(I)V" } : Jvm.MethodName) prog_34_method_2_code (2 : Nat) (Option.none : Option Jvm.ClassFile.FieldType)]
set_option maxRecDepth 65536 in
theorem codes_eq : words1.filter isCode = codes1 := rfl
theorem w_codes : ∀ c ∈ words1.filter isCode, c.before args0 about1 = true := by
  rw [codes_eq]
  intro c hc
  simp only [codes1, List.mem_cons, List.not_mem_nil, or_false] at hc
  rcases hc with rfl | rfl | rfl | rfl | rfl | rfl | rfl | rfl | rfl | rfl | rfl
  · exact w_c0
  · exact w_c1
  · exact w_c2
  · exact w_c3
  · exact w_c4
  · exact w_c5
  · exact w_c6
  · exact w_c7
  · exact w_c8
  · exact w_c9
  · exact w_c10
set_option maxRecDepth 65536 in
theorem w_t1 : (words1.take 24).all (fun c => isCode c || c.before args0 about1) = true := by decide +kernel
set_option maxRecDepth 65536 in
theorem w_t2 : ((words1.drop 24).take 24).all (fun c => isCode c || c.before args0 about1) = true := by decide +kernel
set_option maxRecDepth 65536 in
theorem w_t3 : ((words1.drop 24).drop 24).all (fun c => isCode c || c.before args0 about1) = true := by decide +kernel
theorem w_tables : (allAtoms (Jvm.Cond.code x code maxLocals ret :: tables_1)).before args0 about1 = true := by
  rw [allAtoms_all]
  show words1.all (fun c => c.before args0 about1) = true
  refine all_split ?_ w_codes
  rw [← List.take_append_drop 24 words1, List.all_append, w_t1, ← List.take_append_drop 24 (words1.drop 24), List.all_append, w_t2, w_t3]
  rfl
set_option maxRecDepth 65536 in
theorem w_case : (Jvm.Cond.and given_1 narrow_1).before args0 about1 = true := by decide +kernel
theorem w_applies : (headSpec (Jvm.Cond.code x code maxLocals ret :: tables_1) room_1).applies x e0.platform about1 = true :=
  (Spec.applies_iff w_frames).mpr ⟨w_running, w_runnable, w_alone, w_named, w_hears, w_ripe, w_room, w_tables⟩
theorem atStart : AtStart classFile x code maxLocals ret World_1 tables_1 room_1 Calls_1 rest_1 Pre_1 launch0 p0 e0 about1 theMethod args0 below0 :=
  ⟨lists_1, trivial, launch0.admits_env _ _ _, launch0.least_env, fairChoices_fair.cas, fairChoices_fair.clock, w_frames, w_args, w_heap, w_applies, trivial, trivial, w_case⟩
end start1
theorem witness_1 : WitnessClaimed_1 := ⟨start1.p0, start1.e0, start1.about1, start1.theMethod, start1.args0, start1.below0, start1.atStart⟩
end Jvm.Pilot.@@N@@
