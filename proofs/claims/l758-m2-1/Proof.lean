import JvmDerived
import JvmDerived.Pilot.@@N@@Statement
import JvmDerived.Pilot.@@N@@Code
set_option linter.unusedVariables false
set_option linter.unusedSimpArgs false
namespace Jvm.RoadKit
open Sem ClassFile Op Lib Jvm.Stand Jvm.Free Jvm.LawKit
section New
variable {p : Program} {l : Launch} {e : Env} {R : Room} {s : State} {m : MethodId} {args : Array Value} {below : List Frame} {meth : Method} {c : Code} {T : State} {locs : List Loc} {cells slots : Nat}
theorem retI (X : Stand p l e R s m args below meth c T locs cells slots) (hx : p.tables.exec = Jvm.exec) {pc : Nat} {Ls : Array Slot} {z : Int32} {rest : List Value} (hret : meth.sig.returnType = some .int) (hd : decode c.code pc = .ok (.ireturn, 1)) {fs : List Frame}
    (hl : ∀ (f : JFrame) (acts : List Action), f.method = m → f.locked = none → f.entered = [] → (doReturn e (T.setTop f) acts (some (.int z))).1 = T.setFrames fs) : Steps p.tables e below (T.setTop (mkF m pc Ls (.int z :: rest))) (T.setFrames fs) := by
  have hm' : T.vm.method? m = some meth := X.method'
  have hn : narrow .int (.int z) = .int z := rfl
  show Steps p.tables e below (T.setTop { method := m, pc := pc, locals := Ls, stack := _ :: rest, locked := none }) _
  jvm_step X.here [X.here.top, hx, hd, hm', hret, hn]
  first | (intro acts; rw [hl _ acts rfl rfl rfl]) | rw [hl _ _ rfl rfl rfl]
  exact Steps.refl _
theorem retAddr (X : Stand p l e R s m args below meth c T locs cells slots) (hx : p.tables.exec = Jvm.exec) {pc : Nat} {Ls : Array Slot} {z : Addr} {rest : List Value} {t : FieldType} (hret : meth.sig.returnType = some t) (ht : t.isReference = true) (hd : decode c.code pc = .ok (.areturn, 1)) {fs : List Frame}
    (hl : ∀ (f : JFrame) (acts : List Action), f.method = m → f.locked = none → f.entered = [] → (doReturn e (T.setTop f) acts (some (.ref z))).1 = T.setFrames fs) : Steps p.tables e below (T.setTop (mkF m pc Ls (.ref z :: rest))) (T.setFrames fs) := by
  have hm' : T.vm.method? m = some meth := X.method'
  show Steps p.tables e below (T.setTop { method := m, pc := pc, locals := Ls, stack := _ :: rest, locked := none }) _
  jvm_step X.here [X.here.top, hx, hd, hm', hret, ht, Value.isRef]
  first | (intro acts; rw [hl _ acts rfl rfl rfl]) | rw [hl _ _ rfl rfl rfl]
  exact Steps.refl _
end New
end Jvm.RoadKit
namespace Jvm.Pilot.@@N@@
open Jvm Jvm.ClassFile Sem Op Lib Jvm.Free Jvm.Stand Jvm.LawKit Jvm.RoadKit Bundle Jvm.Pilot.@@N@@.Jvm.D
/-- from A the run ends, returning, as Q says of the value, the heap and the places written -/
def own_Fin (tb : Tables) (e : Env) (below : List Frame) (s : State) (C S : Nat) (Q : Option Value → Heap → List Loc → Prop) (A : State) : Prop :=
  ∃ s₂ o, Steps tb e below A s₂ ∧ s₂.status = .running ∧ Ended s₂ below o ∧ ∃ v L, o = .returned v ∧ Q v s₂.heap L ∧ FrameEnd s o s₂ L C S
theorem own_st {tb : Tables} {e : Env} {below : List Frame} {s : State} {C S : Nat} {Q : Option Value → Heap → List Loc → Prop} {A B : State} (h : ∀ t, Steps tb e below B t → Steps tb e below A t) (k : own_Fin tb e below s C S Q B) : own_Fin tb e below s C S Q A := by
  obtain ⟨s₂, o, h1, h2⟩ := k
  exact ⟨s₂, o, h _ h1, h2⟩
section Ret
variable {p : Program} {l : Launch} {e : Env} {R : Room} {s : State} {m : MethodId} {args : Array Value} {below : List Frame} {meth : Method} {c : Code} {T : State} {locs : List Loc} {cells slots : Nat} {Q : Option Value → Heap → List Loc → Prop} {C S : Nat}
theorem own_retN (X : Stand p l e R s m args below meth c T locs cells slots) (hx : p.tables.exec = Jvm.exec) (hk : meth.locks = false) {t : FieldType} (hret : meth.sig.returnType = some t) (ht : t = .boolean ∨ t = .byte ∨ t = .char ∨ t = .short) {pc : Nat} {Ls : Array Slot} {z : Int32} {rest : List Value} (hd : decode c.code pc = .ok (.ireturn, 1)) (hC : cells ≤ C) (hS : slots ≤ S) (hq : Q (some (.int (nar t z))) T.heap locs) : own_Fin p.tables e below s C S Q (T.setTop (mkF m pc Ls (.int z :: rest))) := by
  obtain ⟨fs, hr, hrun, hended, hW, hsame⟩ := X.leave (v := some (.int (nar t z))) (fun h => by rw [hret] at h; cases h)
  exact ⟨_, _, retN X hx hret ht hd hr, hrun, hended, _, _, rfl, hq, ⟨_, rfl⟩, hW, hsame.mono hC hS⟩
theorem own_retI (X : Stand p l e R s m args below meth c T locs cells slots) (hx : p.tables.exec = Jvm.exec) (hk : meth.locks = false) (hret : meth.sig.returnType = some .int) {pc : Nat} {Ls : Array Slot} {z : Int32} {rest : List Value} (hd : decode c.code pc = .ok (.ireturn, 1)) (hC : cells ≤ C) (hS : slots ≤ S) (hq : Q (some (.int z)) T.heap locs) : own_Fin p.tables e below s C S Q (T.setTop (mkF m pc Ls (.int z :: rest))) := by
  obtain ⟨fs, hr, hrun, hended, hW, hsame⟩ := X.leave (v := some (.int z)) (fun h => by rw [hret] at h; cases h)
  exact ⟨_, _, retI X hx hret hd hr, hrun, hended, _, _, rfl, hq, ⟨_, rfl⟩, hW, hsame.mono hC hS⟩
theorem own_retA (X : Stand p l e R s m args below meth c T locs cells slots) (hx : p.tables.exec = Jvm.exec) (hk : meth.locks = false) {t : FieldType} (hret : meth.sig.returnType = some t) (ht : t.isReference = true) {pc : Nat} {Ls : Array Slot} {z : Addr} {rest : List Value} (hd : decode c.code pc = .ok (.areturn, 1)) (hC : cells ≤ C) (hS : slots ≤ S) (hq : Q (some (.ref z)) T.heap locs) : own_Fin p.tables e below s C S Q (T.setTop (mkF m pc Ls (.ref z :: rest))) := by
  obtain ⟨fs, hr, hrun, hended, hW, hsame⟩ := X.leave (v := some (.ref z)) (fun h => by rw [hret] at h; cases h)
  exact ⟨_, _, retAddr X hx hret ht hd hr, hrun, hended, _, _, rfl, hq, ⟨_, rfl⟩, hW, hsame.mono hC hS⟩
theorem own_retJ (X : Stand p l e R s m args below meth c T locs cells slots) (hx : p.tables.exec = Jvm.exec) (hk : meth.locks = false) (hret : meth.sig.returnType = some .long) {pc : Nat} {Ls : Array Slot} {z : Int64} (hd : decode c.code pc = .ok (.lreturn, 1)) (hC : cells ≤ C) (hS : slots ≤ S) (hq : Q (some (.long z)) T.heap locs) : own_Fin p.tables e below s C S Q (T.setTop (mkF m pc Ls [.long z])) := by
  obtain ⟨fs, hr, hrun, hended, hW, hsame⟩ := X.leave (v := some (.long z)) (fun h => by rw [hret] at h; cases h)
  exact ⟨_, _, X.lreturnOut hx hret hd hr, hrun, hended, _, _, rfl, hq, ⟨_, rfl⟩, hW, hsame.mono hC hS⟩
theorem own_retV (X : Stand p l e R s m args below meth c T locs cells slots) (hx : p.tables.exec = Jvm.exec) (hk : meth.locks = false) (hret : meth.sig.returnType = none) {pc : Nat} {Ls : Array Slot} (hd : decode c.code pc = .ok (.return_, 1)) (hC : cells ≤ C) (hS : slots ≤ S) (hq : Q none T.heap locs) : own_Fin p.tables e below s C S Q (T.setTop (mkF m pc Ls [])) := by
  obtain ⟨fs, hr, hrun, hended, hW, hsame⟩ := X.leave (v := none) (fun _ => rfl)
  exact ⟨_, _, X.returnOut hx hret hd hr, hrun, hended, _, _, rfl, hq, ⟨_, rfl⟩, hW, hsame.mono hC hS⟩
end Ret
theorem own_ltT {a b : Int64} (h : a < b) : ifCond.holds .lt (lcmpW a b) = true ∧ ifCond.holds .ge (lcmpW a b) = false := by
  have q := (lw_lt a b).mpr h
  exact ⟨(if0 _ _).trans (tlt q).1, (if0 _ _).trans (tlt q).2.1⟩
theorem own_ltF {a b : Int64} (h : ¬ a < b) : ifCond.holds .lt (lcmpW a b) = false ∧ ifCond.holds .ge (lcmpW a b) = true := by
  have q := mt (lw_lt a b).mp h
  exact ⟨(if0 _ _).trans (flt q).1, (if0 _ _).trans (flt q).2.1⟩
theorem own_gtT {a b : Int64} (h : b < a) : ifCond.holds .gt (lcmpW a b) = true ∧ ifCond.holds .le (lcmpW a b) = false := by
  have q := (lw_gt a b).mpr h
  exact ⟨(if0 _ _).trans (tlt q).2.2.1, (if0 _ _).trans (tlt q).2.2.2⟩
theorem own_gtF {a b : Int64} (h : ¬ b < a) : ifCond.holds .gt (lcmpW a b) = false ∧ ifCond.holds .le (lcmpW a b) = true := by
  have q := mt (lw_gt a b).mp h
  exact ⟨(if0 _ _).trans (flt q).2.2.1, (if0 _ _).trans (flt q).2.2.2⟩
theorem own_eqT {a b : Int64} (h : a = b) : ifCond.holds .eq (lcmpW a b) = true ∧ ifCond.holds .ne (lcmpW a b) = false := by
  have q := (lw_eq a b).mpr h
  exact ⟨(if0 _ _).trans (teq q).1, (if0 _ _).trans (teq q).2⟩
theorem own_eqF {a b : Int64} (h : ¬ a = b) : ifCond.holds .eq (lcmpW a b) = false ∧ ifCond.holds .ne (lcmpW a b) = true := by
  have q := mt (lw_eq a b).mp h
  exact ⟨(if0 _ _).trans (feq q).1, (if0 _ _).trans (feq q).2⟩
def own_FinW (tb : Tables) (e : Env) (below : List Frame) (s : State) (C S : Nat) (Q : Option Value → Heap → List Loc → Prop) (A : State) : Prop :=
  ∃ s₂ o, Steps tb e below A s₂ ∧ s₂.status = .running ∧ Ended s₂ below o ∧ ∃ v L, o = .returned v ∧ Q v s₂.heap L ∧ FramedW s o s₂ L C S
theorem own_stW {tb : Tables} {e : Env} {below : List Frame} {s : State} {C S : Nat} {Q : Option Value → Heap → List Loc → Prop} {A B : State} (h : ∀ t, Steps tb e below B t → Steps tb e below A t) (k : own_FinW tb e below s C S Q B) : own_FinW tb e below s C S Q A := by
  obtain ⟨s₂, o, h1, h2⟩ := k
  exact ⟨s₂, o, h _ h1, h2⟩
theorem own_retNW {p : Program} {l : Launch} {e : Env} {R : Room} {s : State} {vm₁ : Vm} {m : MethodId} {args : Array Value} {below : List Frame} {meth : Method} {c : Code} {T : State} {locs : List Loc} {cells slots : Nat} {Q : Option Value → Heap → List Loc → Prop} {C S n : Nat}
    (X : Stand p l e R (s.setVm vm₁) m args below meth c T locs cells slots) (hS : s.Since vm₁ n) (hn : n ≤ T.heap.size) (hx : p.tables.exec = Jvm.exec) (hk : meth.locks = false) {t : FieldType} (hret : meth.sig.returnType = some t) (ht : t = .boolean ∨ t = .byte ∨ t = .char ∨ t = .short) {pc : Nat} {Ls : Array Slot} {z : Int32} {rest : List Value} (hd : decode c.code pc = .ok (.ireturn, 1)) (hC : cells ≤ C) (hL : slots ≤ S) (hq : Q (some (.int (nar t z))) T.heap locs) : own_FinW p.tables e below s C S Q (T.setTop (mkF m pc Ls (.int z :: rest))) := by
  obtain ⟨fs, hr, hrun, hended, hv, ha, hb, hsame⟩ := X.leaveW hS hn (v := some (.int (nar t z))) (fun h => by rw [hret] at h; cases h)
  exact ⟨_, _, retN X hx hret ht hd hr, hrun, hended, _, _, rfl, hq, hv, ha, hb, hsame.mono hC hL⟩
theorem d1_0 : decode method_2_code 0 = .ok (.iload_n 0, 1) := by decide +kernel
theorem d1_1 : decode method_2_code 1 = .ok (.ifCond .ne 9, 3) := by decide +kernel
theorem d1_4 : decode method_2_code 4 = .ok (.iload_n 1, 1) := by decide +kernel
theorem d1_5 : decode method_2_code 5 = .ok (.ldc 7, 2) := by decide +kernel
theorem d1_7 : decode method_2_code 7 = .ok (.iand, 1) := by decide +kernel
theorem d1_8 : decode method_2_code 8 = .ok (.i2c, 1) := by decide +kernel
theorem d1_9 : decode method_2_code 9 = .ok (.ireturn, 1) := by decide +kernel
theorem d1_10 : decode method_2_code 10 = .ok (.iload_n 0, 1) := by decide +kernel
theorem d1_11 : decode method_2_code 11 = .ok (.iconst 1, 1) := by decide +kernel
theorem d1_12 : decode method_2_code 12 = .ok (.if_icmp .ne 15, 3) := by decide +kernel
theorem d1_15 : decode method_2_code 15 = .ok (.bipush 65, 2) := by decide +kernel
theorem d1_17 : decode method_2_code 17 = .ok (.iload_n 1, 1) := by decide +kernel
theorem d1_18 : decode method_2_code 18 = .ok (.ldc 8, 2) := by decide +kernel
theorem d1_20 : decode method_2_code 20 = .ok (.iand, 1) := by decide +kernel
theorem d1_21 : decode method_2_code 21 = .ok (.bipush 26, 2) := by decide +kernel
theorem d1_23 : decode method_2_code 23 = .ok (.irem, 1) := by decide +kernel
theorem d1_24 : decode method_2_code 24 = .ok (.iadd, 1) := by decide +kernel
theorem d1_25 : decode method_2_code 25 = .ok (.i2c, 1) := by decide +kernel
theorem d1_26 : decode method_2_code 26 = .ok (.ireturn, 1) := by decide +kernel
theorem d1_27 : decode method_2_code 27 = .ok (.iload_n 0, 1) := by decide +kernel
theorem d1_28 : decode method_2_code 28 = .ok (.iconst 2, 1) := by decide +kernel
theorem d1_29 : decode method_2_code 29 = .ok (.if_icmp .ne 12, 3) := by decide +kernel
theorem d1_32 : decode method_2_code 32 = .ok (.bipush 64, 2) := by decide +kernel
theorem d1_34 : decode method_2_code 34 = .ok (.iload_n 1, 1) := by decide +kernel
theorem d1_35 : decode method_2_code 35 = .ok (.bipush 31, 2) := by decide +kernel
theorem d1_37 : decode method_2_code 37 = .ok (.iand, 1) := by decide +kernel
theorem d1_38 : decode method_2_code 38 = .ok (.iadd, 1) := by decide +kernel
theorem d1_39 : decode method_2_code 39 = .ok (.i2c, 1) := by decide +kernel
theorem d1_40 : decode method_2_code 40 = .ok (.ireturn, 1) := by decide +kernel
theorem d1_41 : decode method_2_code 41 = .ok (.bipush 96, 2) := by decide +kernel
theorem d1_43 : decode method_2_code 43 = .ok (.iload_n 1, 1) := by decide +kernel
theorem d1_44 : decode method_2_code 44 = .ok (.bipush 31, 2) := by decide +kernel
theorem d1_46 : decode method_2_code 46 = .ok (.iand, 1) := by decide +kernel
theorem d1_47 : decode method_2_code 47 = .ok (.iadd, 1) := by decide +kernel
theorem d1_48 : decode method_2_code 48 = .ok (.i2c, 1) := by decide +kernel
theorem d1_49 : decode method_2_code 49 = .ok (.ireturn, 1) := by decide +kernel
theorem pn_1 : plainFor (⟨"org/forwardtrace/reading/PrintedTextToLowerCasePinLaw", "draw", "(II)C"⟩ : MethodName) = true := plainFor_of_name (x := (⟨"org/forwardtrace/reading/PrintedTextToLowerCasePinLaw", "draw", "(II)C"⟩ : MethodName)) (by first | (simp [plainName, overriddenIn]; done) | decide +kernel)
theorem ef_1 (m : MethodId) (p1 : Int32) (p2 : Int32) : entryFrame m #[(.int p1), (.int p2)] 2 = mkF m 0 #[.val (.int p1), .val (.int p2)] [] := by first | (simp [entryFrame, mkF, argsToLocals, Value.category]; done) | rfl
def own_F1 (p1 : Int32) (p2 : Int32) : Int32 := (if p1 = (0 : Int32) then (nar .char ((p2 &&& (65535 : Int32)).toUInt32.toUInt16.toUInt32.toInt32)) else (if p1 = (1 : Int32) then (nar .char (((65 : Int32) + ((p2 &&& (2147483647 : Int32)) % (26 : Int32))).toUInt32.toUInt16.toUInt32.toInt32)) else (if p1 = (2 : Int32) then (nar .char (((64 : Int32) + (p2 &&& (31 : Int32))).toUInt32.toUInt16.toUInt32.toInt32)) else (nar .char (((96 : Int32) + (p2 &&& (31 : Int32))).toUInt32.toUInt16.toUInt32.toInt32)))))
def own_Q1 (p1 : Int32) (p2 : Int32) (h0 : Heap) (n0 : Nat) (v : Option Value) (h : Heap) (L : List Loc) : Prop := v = some (.int (own_F1 p1 p2)) ∧ Fr n0 L ∧ h = h0
set_option maxRecDepth 65536 in
set_option maxHeartbeats 40000000 in
theorem rm1 (l : Launch) (Z : State) (a0 : Array Value) (hw : ∀ d ∈ tables_1, d.before a0 Z = true) (ws : List Jvm.Cond) (p1 : Int32) (p2 : Int32) (h0 : Heap) (n0 : Nat) (Z0 : n0 ≤ h0.size) :
    MetFree l (⟨"org/forwardtrace/reading/PrintedTextToLowerCasePinLaw", "draw", "(II)C"⟩ : MethodName) (head1 (Jvm.Cond.code (⟨"org/forwardtrace/reading/PrintedTextToLowerCasePinLaw", "draw", "(II)C"⟩ : MethodName) method_2_code 2 (some .char) :: ws) ({ frames := 0, cells := 0, slots := 0, locals := 0 } : Room)) (fun a U => a = #[(.int p1), (.int p2)] ∧ Z.Warmed39 U.vm ∧ U.heap = h0) (fun _ _ _ _ _ => True) (fun _ U o U' => ∃ v L, o = .returned v ∧ own_Q1 p1 p2 h0 n0 v U'.heap L ∧ FrameEnd U o U' L ({ frames := 0, cells := 0, slots := 0, locals := 0 } : Room).cells ({ frames := 0, cells := 0, slots := 0, locals := 0 } : Room).slots) := by
  refine MetFree.of_bodySF pn_1 hisR ?_
  intro p e s m args below meth c s₁ Bd hml0 hP hK
  obtain ⟨rfl, hZ, hh⟩ := hP
  have hx := Bd.exec
  have hby := Bd.bytes
  have hml : c.maxLocals = 2 := hml0
  have hown : s.vm.findClass "org/forwardtrace/reading/PrintedTextToLowerCasePinLaw" = some m.cls := findClass_of_methodNamed Bd.named
  have X0 : Stand p l e ({ frames := 0, cells := 0, slots := 0, locals := 0 } : Room) s m #[(.int p1), (.int p2)] below meth c s₁ [] 0 0 := Stand.of_body Bd
  have e0 : s₁.heap = h0 := by rw [← hh, Bd.state]; rfl
  have N0 := Fr.nil n0
  show own_Fin p.tables e below s (({ frames := 0, cells := 0, slots := 0, locals := 0 } : Room).cells) (({ frames := 0, cells := 0, slots := 0, locals := 0 } : Room).slots) (own_Q1 p1 p2 h0 n0) (s₁.setTop (entryFrame m #[(.int p1), (.int p2)] 2))
  rw [ef_1 m p1 p2]
  show own_Fin _ _ _ _ _ _ _ (s₁.setTop (mkF m 0 #[.val (.int p1), .val (.int p2)] []))
  refine own_st (fun t k => XS.iloadN X0.here hx rfl (hb hby d1_0) rfl k) ?_
  show own_Fin _ _ _ _ _ _ _ (s₁.setTop (mkF m 1 #[.val (.int p1), .val (.int p2)] [(.int p1)]))
  by_cases hc1_1 : p1 = (0 : Int32)
  · refine own_st (fun t k => XS.ifNo X0.here hx rfl (hb hby d1_1) rfl ((if0 _ _).trans (teq hc1_1).2) k) ?_
    show own_Fin _ _ _ _ _ _ _ (s₁.setTop (mkF m 4 #[.val (.int p1), .val (.int p2)] []))
    refine own_st (fun t k => XS.iloadN X0.here hx rfl (hb hby d1_4) rfl k) ?_
    show own_Fin _ _ _ _ _ _ _ (s₁.setTop (mkF m 5 #[.val (.int p1), .val (.int p2)] [(.int p2)]))
    refine own_st (X0.ldcInt hx hown (mvT hZ (hw _ (List.mem_of_getElem? (i := 4) rfl))) (g := (mkF m 5 #[.val (.int p1), .val (.int p2)] [(.int p2)])) rfl (hb hby d1_5)) ?_
    show own_Fin _ _ _ _ _ _ _ (s₁.setTop (mkF m 7 #[.val (.int p1), .val (.int p2)] [(.int (65535 : Int32)), (.int p2)]))
    refine own_st (fun t k => XS.iand X0.here hx rfl (hb hby d1_7) rfl k) ?_
    show own_Fin _ _ _ _ _ _ _ (s₁.setTop (mkF m 8 #[.val (.int p1), .val (.int p2)] [(.int (p2 &&& (65535 : Int32)))]))
    refine own_st (fun t k => XS.i2c X0.here hx rfl (hb hby d1_8) rfl k) ?_
    show own_Fin _ _ _ _ _ _ _ (s₁.setTop (mkF m 9 #[.val (.int p1), .val (.int p2)] [(.int ((p2 &&& (65535 : Int32)).toUInt32.toUInt16.toUInt32.toInt32))]))
    have hv : own_F1 p1 p2 = (nar .char ((p2 &&& (65535 : Int32)).toUInt32.toUInt16.toUInt32.toInt32)) := by unfold own_F1; rw [if_pos hc1_1]
    exact own_retN X0 hx Bd.notSynchronized (t := .char) Bd.returns (by simp) (hb hby d1_9) (by decide) (by decide) ⟨congrArg (fun z => some (Value.int z)) hv.symm, N0, e0⟩
  · refine own_st (fun t k => XS.ifYes X0.here hx rfl (pc0 := 1) (pc' := 10) rfl (hb hby d1_1) rfl ((if0 _ _).trans (feq hc1_1).2) (by decide) (by decide) k) ?_
    show own_Fin _ _ _ _ _ _ _ (s₁.setTop (mkF m 10 #[.val (.int p1), .val (.int p2)] []))
    refine own_st (fun t k => XS.iloadN X0.here hx rfl (hb hby d1_10) rfl k) ?_
    show own_Fin _ _ _ _ _ _ _ (s₁.setTop (mkF m 11 #[.val (.int p1), .val (.int p2)] [(.int p1)]))
    refine own_st (fun t k => XS.iconst X0.here hx rfl (hb hby d1_11) k) ?_
    show own_Fin _ _ _ _ _ _ _ (s₁.setTop (mkF m 12 #[.val (.int p1), .val (.int p2)] [(.int (1 : Int32)), (.int p1)]))
    by_cases hc12_2 : p1 = (1 : Int32)
    · refine own_st (fun t k => XS.icmpNo X0.here hx rfl (hb hby d1_12) rfl (teq hc12_2).2 k) ?_
      show own_Fin _ _ _ _ _ _ _ (s₁.setTop (mkF m 15 #[.val (.int p1), .val (.int p2)] []))
      refine own_st (fun t k => XS.bipush X0.here hx rfl (hb hby d1_15) k) ?_
      show own_Fin _ _ _ _ _ _ _ (s₁.setTop (mkF m 17 #[.val (.int p1), .val (.int p2)] [(.int (65 : Int32))]))
      refine own_st (fun t k => XS.iloadN X0.here hx rfl (hb hby d1_17) rfl k) ?_
      show own_Fin _ _ _ _ _ _ _ (s₁.setTop (mkF m 18 #[.val (.int p1), .val (.int p2)] [(.int p2), (.int (65 : Int32))]))
      refine own_st (X0.ldcInt hx hown (mvT hZ (hw _ (List.mem_of_getElem? (i := 43) rfl))) (g := (mkF m 18 #[.val (.int p1), .val (.int p2)] [(.int p2), (.int (65 : Int32))])) rfl (hb hby d1_18)) ?_
      show own_Fin _ _ _ _ _ _ _ (s₁.setTop (mkF m 20 #[.val (.int p1), .val (.int p2)] [(.int (2147483647 : Int32)), (.int p2), (.int (65 : Int32))]))
      refine own_st (fun t k => XS.iand X0.here hx rfl (hb hby d1_20) rfl k) ?_
      show own_Fin _ _ _ _ _ _ _ (s₁.setTop (mkF m 21 #[.val (.int p1), .val (.int p2)] [(.int (p2 &&& (2147483647 : Int32))), (.int (65 : Int32))]))
      refine own_st (fun t k => XS.bipush X0.here hx rfl (hb hby d1_21) k) ?_
      show own_Fin _ _ _ _ _ _ _ (s₁.setTop (mkF m 23 #[.val (.int p1), .val (.int p2)] [(.int (26 : Int32)), (.int (p2 &&& (2147483647 : Int32))), (.int (65 : Int32))]))
      refine own_st (fun t k => iremM X0 hx rfl (hb hby d1_23) rfl (by decide) k) ?_
      show own_Fin _ _ _ _ _ _ _ (s₁.setTop (mkF m 24 #[.val (.int p1), .val (.int p2)] [(.int ((p2 &&& (2147483647 : Int32)) % (26 : Int32))), (.int (65 : Int32))]))
      refine own_st (fun t k => XS.iadd X0.here hx rfl (hb hby d1_24) rfl k) ?_
      show own_Fin _ _ _ _ _ _ _ (s₁.setTop (mkF m 25 #[.val (.int p1), .val (.int p2)] [(.int ((65 : Int32) + ((p2 &&& (2147483647 : Int32)) % (26 : Int32))))]))
      refine own_st (fun t k => XS.i2c X0.here hx rfl (hb hby d1_25) rfl k) ?_
      show own_Fin _ _ _ _ _ _ _ (s₁.setTop (mkF m 26 #[.val (.int p1), .val (.int p2)] [(.int (((65 : Int32) + ((p2 &&& (2147483647 : Int32)) % (26 : Int32))).toUInt32.toUInt16.toUInt32.toInt32))]))
      have hv : own_F1 p1 p2 = (nar .char (((65 : Int32) + ((p2 &&& (2147483647 : Int32)) % (26 : Int32))).toUInt32.toUInt16.toUInt32.toInt32)) := by unfold own_F1; rw [if_neg hc1_1, if_pos hc12_2]
      exact own_retN X0 hx Bd.notSynchronized (t := .char) Bd.returns (by simp) (hb hby d1_26) (by decide) (by decide) ⟨congrArg (fun z => some (Value.int z)) hv.symm, N0, e0⟩
    · refine own_st (fun t k => XS.icmpYes X0.here hx rfl (pc0 := 12) (pc' := 27) rfl (hb hby d1_12) rfl (feq hc12_2).2 (by decide) (by decide) k) ?_
      show own_Fin _ _ _ _ _ _ _ (s₁.setTop (mkF m 27 #[.val (.int p1), .val (.int p2)] []))
      refine own_st (fun t k => XS.iloadN X0.here hx rfl (hb hby d1_27) rfl k) ?_
      show own_Fin _ _ _ _ _ _ _ (s₁.setTop (mkF m 28 #[.val (.int p1), .val (.int p2)] [(.int p1)]))
      refine own_st (fun t k => XS.iconst X0.here hx rfl (hb hby d1_28) k) ?_
      show own_Fin _ _ _ _ _ _ _ (s₁.setTop (mkF m 29 #[.val (.int p1), .val (.int p2)] [(.int (2 : Int32)), (.int p1)]))
      by_cases hc29_3 : p1 = (2 : Int32)
      · refine own_st (fun t k => XS.icmpNo X0.here hx rfl (hb hby d1_29) rfl (teq hc29_3).2 k) ?_
        show own_Fin _ _ _ _ _ _ _ (s₁.setTop (mkF m 32 #[.val (.int p1), .val (.int p2)] []))
        refine own_st (fun t k => XS.bipush X0.here hx rfl (hb hby d1_32) k) ?_
        show own_Fin _ _ _ _ _ _ _ (s₁.setTop (mkF m 34 #[.val (.int p1), .val (.int p2)] [(.int (64 : Int32))]))
        refine own_st (fun t k => XS.iloadN X0.here hx rfl (hb hby d1_34) rfl k) ?_
        show own_Fin _ _ _ _ _ _ _ (s₁.setTop (mkF m 35 #[.val (.int p1), .val (.int p2)] [(.int p2), (.int (64 : Int32))]))
        refine own_st (fun t k => XS.bipush X0.here hx rfl (hb hby d1_35) k) ?_
        show own_Fin _ _ _ _ _ _ _ (s₁.setTop (mkF m 37 #[.val (.int p1), .val (.int p2)] [(.int (31 : Int32)), (.int p2), (.int (64 : Int32))]))
        refine own_st (fun t k => XS.iand X0.here hx rfl (hb hby d1_37) rfl k) ?_
        show own_Fin _ _ _ _ _ _ _ (s₁.setTop (mkF m 38 #[.val (.int p1), .val (.int p2)] [(.int (p2 &&& (31 : Int32))), (.int (64 : Int32))]))
        refine own_st (fun t k => XS.iadd X0.here hx rfl (hb hby d1_38) rfl k) ?_
        show own_Fin _ _ _ _ _ _ _ (s₁.setTop (mkF m 39 #[.val (.int p1), .val (.int p2)] [(.int ((64 : Int32) + (p2 &&& (31 : Int32))))]))
        refine own_st (fun t k => XS.i2c X0.here hx rfl (hb hby d1_39) rfl k) ?_
        show own_Fin _ _ _ _ _ _ _ (s₁.setTop (mkF m 40 #[.val (.int p1), .val (.int p2)] [(.int (((64 : Int32) + (p2 &&& (31 : Int32))).toUInt32.toUInt16.toUInt32.toInt32))]))
        have hv : own_F1 p1 p2 = (nar .char (((64 : Int32) + (p2 &&& (31 : Int32))).toUInt32.toUInt16.toUInt32.toInt32)) := by unfold own_F1; rw [if_neg hc1_1, if_neg hc12_2, if_pos hc29_3]
        exact own_retN X0 hx Bd.notSynchronized (t := .char) Bd.returns (by simp) (hb hby d1_40) (by decide) (by decide) ⟨congrArg (fun z => some (Value.int z)) hv.symm, N0, e0⟩
      · refine own_st (fun t k => XS.icmpYes X0.here hx rfl (pc0 := 29) (pc' := 41) rfl (hb hby d1_29) rfl (feq hc29_3).2 (by decide) (by decide) k) ?_
        show own_Fin _ _ _ _ _ _ _ (s₁.setTop (mkF m 41 #[.val (.int p1), .val (.int p2)] []))
        refine own_st (fun t k => XS.bipush X0.here hx rfl (hb hby d1_41) k) ?_
        show own_Fin _ _ _ _ _ _ _ (s₁.setTop (mkF m 43 #[.val (.int p1), .val (.int p2)] [(.int (96 : Int32))]))
        refine own_st (fun t k => XS.iloadN X0.here hx rfl (hb hby d1_43) rfl k) ?_
        show own_Fin _ _ _ _ _ _ _ (s₁.setTop (mkF m 44 #[.val (.int p1), .val (.int p2)] [(.int p2), (.int (96 : Int32))]))
        refine own_st (fun t k => XS.bipush X0.here hx rfl (hb hby d1_44) k) ?_
        show own_Fin _ _ _ _ _ _ _ (s₁.setTop (mkF m 46 #[.val (.int p1), .val (.int p2)] [(.int (31 : Int32)), (.int p2), (.int (96 : Int32))]))
        refine own_st (fun t k => XS.iand X0.here hx rfl (hb hby d1_46) rfl k) ?_
        show own_Fin _ _ _ _ _ _ _ (s₁.setTop (mkF m 47 #[.val (.int p1), .val (.int p2)] [(.int (p2 &&& (31 : Int32))), (.int (96 : Int32))]))
        refine own_st (fun t k => XS.iadd X0.here hx rfl (hb hby d1_47) rfl k) ?_
        show own_Fin _ _ _ _ _ _ _ (s₁.setTop (mkF m 48 #[.val (.int p1), .val (.int p2)] [(.int ((96 : Int32) + (p2 &&& (31 : Int32))))]))
        refine own_st (fun t k => XS.i2c X0.here hx rfl (hb hby d1_48) rfl k) ?_
        show own_Fin _ _ _ _ _ _ _ (s₁.setTop (mkF m 49 #[.val (.int p1), .val (.int p2)] [(.int (((96 : Int32) + (p2 &&& (31 : Int32))).toUInt32.toUInt16.toUInt32.toInt32))]))
        have hv : own_F1 p1 p2 = (nar .char (((96 : Int32) + (p2 &&& (31 : Int32))).toUInt32.toUInt16.toUInt32.toInt32)) := by unfold own_F1; rw [if_neg hc1_1, if_neg hc12_2, if_neg hc29_3]
        exact own_retN X0 hx Bd.notSynchronized (t := .char) Bd.returns (by simp) (hb hby d1_49) (by decide) (by decide) ⟨congrArg (fun z => some (Value.int z)) hv.symm, N0, e0⟩
theorem d2_0 : decode prog_51_method_13_code 0 = .ok (.iload_n 0, 1) := by decide +kernel
theorem d2_1 : decode prog_51_method_13_code 1 = .ok (.bipush 65, 2) := by decide +kernel
theorem d2_3 : decode prog_51_method_13_code 3 = .ok (.if_icmp .lt 17, 3) := by decide +kernel
theorem d2_6 : decode prog_51_method_13_code 6 = .ok (.iload_n 0, 1) := by decide +kernel
theorem d2_7 : decode prog_51_method_13_code 7 = .ok (.bipush 90, 2) := by decide +kernel
theorem d2_9 : decode prog_51_method_13_code 9 = .ok (.if_icmp .gt 11, 3) := by decide +kernel
theorem d2_12 : decode prog_51_method_13_code 12 = .ok (.iload_n 0, 1) := by decide +kernel
theorem d2_13 : decode prog_51_method_13_code 13 = .ok (.bipush 32, 2) := by decide +kernel
theorem d2_15 : decode prog_51_method_13_code 15 = .ok (.iadd, 1) := by decide +kernel
theorem d2_16 : decode prog_51_method_13_code 16 = .ok (.i2c, 1) := by decide +kernel
theorem d2_17 : decode prog_51_method_13_code 17 = .ok (.goto 4, 3) := by decide +kernel
theorem d2_20 : decode prog_51_method_13_code 20 = .ok (.iload_n 0, 1) := by decide +kernel
theorem d2_21 : decode prog_51_method_13_code 21 = .ok (.ireturn, 1) := by decide +kernel
theorem pn_2 : plainFor (⟨"org/forwardtrace/reading/PrintedText", "toLowerCase", "(C)C"⟩ : MethodName) = true := plainFor_of_name (x := (⟨"org/forwardtrace/reading/PrintedText", "toLowerCase", "(C)C"⟩ : MethodName)) (by first | (simp [plainName, overriddenIn]; done) | decide +kernel)
theorem ef_2 (m : MethodId) (p1 : Int32) : entryFrame m #[(.int p1)] 1 = mkF m 0 #[.val (.int p1)] [] := by first | (simp [entryFrame, mkF, argsToLocals, Value.category]; done) | rfl
def own_F2 (p1 : Int32) : Int32 := (if p1 < (65 : Int32) then (nar .char p1) else (if (90 : Int32) < p1 then (nar .char p1) else (nar .char ((p1 + (32 : Int32)).toUInt32.toUInt16.toUInt32.toInt32))))
def own_Q2 (p1 : Int32) (h0 : Heap) (n0 : Nat) (v : Option Value) (h : Heap) (L : List Loc) : Prop := v = some (.int (own_F2 p1)) ∧ Fr n0 L ∧ h = h0
set_option maxRecDepth 65536 in
set_option maxHeartbeats 40000000 in
theorem rm2 (l : Launch) (Z : State) (a0 : Array Value) (hw : ∀ d ∈ tables_1, d.before a0 Z = true) (ws : List Jvm.Cond) (p1 : Int32) (h0 : Heap) (n0 : Nat) (Z0 : n0 ≤ h0.size) :
    MetFree l (⟨"org/forwardtrace/reading/PrintedText", "toLowerCase", "(C)C"⟩ : MethodName) (head1 (Jvm.Cond.code (⟨"org/forwardtrace/reading/PrintedText", "toLowerCase", "(C)C"⟩ : MethodName) prog_51_method_13_code 1 (some .char) :: ws) ({ frames := 0, cells := 0, slots := 0, locals := 0 } : Room)) (fun a U => a = #[(.int p1)] ∧ Z.Warmed39 U.vm ∧ U.heap = h0) (fun _ _ _ _ _ => True) (fun _ U o U' => ∃ v L, o = .returned v ∧ own_Q2 p1 h0 n0 v U'.heap L ∧ FrameEnd U o U' L ({ frames := 0, cells := 0, slots := 0, locals := 0 } : Room).cells ({ frames := 0, cells := 0, slots := 0, locals := 0 } : Room).slots) := by
  refine MetFree.of_bodySF pn_2 hisR ?_
  intro p e s m args below meth c s₁ Bd hml0 hP hK
  obtain ⟨rfl, hZ, hh⟩ := hP
  have hx := Bd.exec
  have hby := Bd.bytes
  have hml : c.maxLocals = 1 := hml0
  have hown : s.vm.findClass "org/forwardtrace/reading/PrintedText" = some m.cls := findClass_of_methodNamed Bd.named
  have X0 : Stand p l e ({ frames := 0, cells := 0, slots := 0, locals := 0 } : Room) s m #[(.int p1)] below meth c s₁ [] 0 0 := Stand.of_body Bd
  have e0 : s₁.heap = h0 := by rw [← hh, Bd.state]; rfl
  have N0 := Fr.nil n0
  show own_Fin p.tables e below s (({ frames := 0, cells := 0, slots := 0, locals := 0 } : Room).cells) (({ frames := 0, cells := 0, slots := 0, locals := 0 } : Room).slots) (own_Q2 p1 h0 n0) (s₁.setTop (entryFrame m #[(.int p1)] 1))
  rw [ef_2 m p1]
  show own_Fin _ _ _ _ _ _ _ (s₁.setTop (mkF m 0 #[.val (.int p1)] []))
  refine own_st (fun t k => XS.iloadN X0.here hx rfl (hb hby d2_0) rfl k) ?_
  show own_Fin _ _ _ _ _ _ _ (s₁.setTop (mkF m 1 #[.val (.int p1)] [(.int p1)]))
  refine own_st (fun t k => XS.bipush X0.here hx rfl (hb hby d2_1) k) ?_
  show own_Fin _ _ _ _ _ _ _ (s₁.setTop (mkF m 3 #[.val (.int p1)] [(.int (65 : Int32)), (.int p1)]))
  by_cases hc3_1 : p1 < (65 : Int32)
  · refine own_st (fun t k => XS.icmpYes X0.here hx rfl (pc0 := 3) (pc' := 20) rfl (hb hby d2_3) rfl (tlt hc3_1).1 (by decide) (by decide) k) ?_
    show own_Fin _ _ _ _ _ _ _ (s₁.setTop (mkF m 20 #[.val (.int p1)] []))
    refine own_st (fun t k => XS.iloadN X0.here hx rfl (hb hby d2_20) rfl k) ?_
    show own_Fin _ _ _ _ _ _ _ (s₁.setTop (mkF m 21 #[.val (.int p1)] [(.int p1)]))
    have hv : own_F2 p1 = (nar .char p1) := by unfold own_F2; rw [if_pos hc3_1]
    exact own_retN X0 hx Bd.notSynchronized (t := .char) Bd.returns (by simp) (hb hby d2_21) (by decide) (by decide) ⟨congrArg (fun z => some (Value.int z)) hv.symm, N0, e0⟩
  · refine own_st (fun t k => XS.icmpNo X0.here hx rfl (hb hby d2_3) rfl (flt hc3_1).1 k) ?_
    show own_Fin _ _ _ _ _ _ _ (s₁.setTop (mkF m 6 #[.val (.int p1)] []))
    refine own_st (fun t k => XS.iloadN X0.here hx rfl (hb hby d2_6) rfl k) ?_
    show own_Fin _ _ _ _ _ _ _ (s₁.setTop (mkF m 7 #[.val (.int p1)] [(.int p1)]))
    refine own_st (fun t k => XS.bipush X0.here hx rfl (hb hby d2_7) k) ?_
    show own_Fin _ _ _ _ _ _ _ (s₁.setTop (mkF m 9 #[.val (.int p1)] [(.int (90 : Int32)), (.int p1)]))
    by_cases hc9_2 : (90 : Int32) < p1
    · refine own_st (fun t k => XS.icmpYes X0.here hx rfl (pc0 := 9) (pc' := 20) rfl (hb hby d2_9) rfl (tlt hc9_2).2.2.1 (by decide) (by decide) k) ?_
      show own_Fin _ _ _ _ _ _ _ (s₁.setTop (mkF m 20 #[.val (.int p1)] []))
      refine own_st (fun t k => XS.iloadN X0.here hx rfl (hb hby d2_20) rfl k) ?_
      show own_Fin _ _ _ _ _ _ _ (s₁.setTop (mkF m 21 #[.val (.int p1)] [(.int p1)]))
      have hv : own_F2 p1 = (nar .char p1) := by unfold own_F2; rw [if_neg hc3_1, if_pos hc9_2]
      exact own_retN X0 hx Bd.notSynchronized (t := .char) Bd.returns (by simp) (hb hby d2_21) (by decide) (by decide) ⟨congrArg (fun z => some (Value.int z)) hv.symm, N0, e0⟩
    · refine own_st (fun t k => XS.icmpNo X0.here hx rfl (hb hby d2_9) rfl (flt hc9_2).2.2.1 k) ?_
      show own_Fin _ _ _ _ _ _ _ (s₁.setTop (mkF m 12 #[.val (.int p1)] []))
      refine own_st (fun t k => XS.iloadN X0.here hx rfl (hb hby d2_12) rfl k) ?_
      show own_Fin _ _ _ _ _ _ _ (s₁.setTop (mkF m 13 #[.val (.int p1)] [(.int p1)]))
      refine own_st (fun t k => XS.bipush X0.here hx rfl (hb hby d2_13) k) ?_
      show own_Fin _ _ _ _ _ _ _ (s₁.setTop (mkF m 15 #[.val (.int p1)] [(.int (32 : Int32)), (.int p1)]))
      refine own_st (fun t k => XS.iadd X0.here hx rfl (hb hby d2_15) rfl k) ?_
      show own_Fin _ _ _ _ _ _ _ (s₁.setTop (mkF m 16 #[.val (.int p1)] [(.int (p1 + (32 : Int32)))]))
      refine own_st (fun t k => XS.i2c X0.here hx rfl (hb hby d2_16) rfl k) ?_
      show own_Fin _ _ _ _ _ _ _ (s₁.setTop (mkF m 17 #[.val (.int p1)] [(.int ((p1 + (32 : Int32)).toUInt32.toUInt16.toUInt32.toInt32))]))
      refine own_st (fun t k => XS.goto X0.here hx rfl (pc0 := 17) (pc' := 21) rfl (hb hby d2_17) (by decide) (by decide) k) ?_
      show own_Fin _ _ _ _ _ _ _ (s₁.setTop (mkF m 21 #[.val (.int p1)] [(.int ((p1 + (32 : Int32)).toUInt32.toUInt16.toUInt32.toInt32))]))
      have hv : own_F2 p1 = (nar .char ((p1 + (32 : Int32)).toUInt32.toUInt16.toUInt32.toInt32)) := by unfold own_F2; rw [if_neg hc3_1, if_neg hc9_2]
      exact own_retN X0 hx Bd.notSynchronized (t := .char) Bd.returns (by simp) (hb hby d2_21) (by decide) (by decide) ⟨congrArg (fun z => some (Value.int z)) hv.symm, N0, e0⟩
theorem d7_0 : decode jdk_41_method_11_code 0 = .ok (.iload_n 0, 1) := by decide +kernel
theorem d7_1 : decode jdk_41_method_11_code 1 = .ok (.ifCond .lt 8, 3) := by decide +kernel
theorem d7_4 : decode jdk_41_method_11_code 4 = .ok (.iload_n 0, 1) := by decide +kernel
theorem d7_5 : decode jdk_41_method_11_code 5 = .ok (.iload_n 1, 1) := by decide +kernel
theorem d7_6 : decode jdk_41_method_11_code 6 = .ok (.if_icmp .lt 10, 3) := by decide +kernel
theorem d7_16 : decode jdk_41_method_11_code 16 = .ok (.iload_n 0, 1) := by decide +kernel
theorem d7_17 : decode jdk_41_method_11_code 17 = .ok (.ireturn, 1) := by decide +kernel
theorem pn_7 : plainFor (⟨"jdk/internal/util/Preconditions", "checkIndex", "(IILjava/util/function/BiFunction;)I"⟩ : MethodName) = true := plainFor_of_name (x := (⟨"jdk/internal/util/Preconditions", "checkIndex", "(IILjava/util/function/BiFunction;)I"⟩ : MethodName)) (by first | (simp [plainName, overriddenIn]; done) | decide +kernel)
theorem ef_7 (m : MethodId) (p1 : Int32) (p2 : Int32) (a3 : Addr) : entryFrame m #[(.int p1), (.int p2), (.ref a3)] 3 = mkF m 0 #[.val (.int p1), .val (.int p2), .val (.ref a3)] [] := by first | (simp [entryFrame, mkF, argsToLocals, Value.category]; done) | rfl
def own_Q_rm7 (Z : State) (p1 : Int32) (p2 : Int32) (a3 : Addr)  (h0 : Heap) (n0 : Nat) (v : Option Value) (h : Heap) (L : List Loc) : Prop := v = some (.int p1) ∧ Fr n0 L ∧ h = h0
set_option maxRecDepth 65536 in
set_option maxHeartbeats 40000000 in
theorem rm7 (l : Launch) (Z : State) (a0 : Array Value) (hw : ∀ d ∈ tables_1, d.before a0 Z = true) (ws : List Jvm.Cond) (p1 : Int32) (p2 : Int32) (a3 : Addr)  (h0 : Heap) (n0 : Nat) (Z0 : n0 ≤ h0.size) (hi0 : ¬ (p1 < (0 : Int32))) (hi1 : p1 < p2) :
    MetFree l (⟨"jdk/internal/util/Preconditions", "checkIndex", "(IILjava/util/function/BiFunction;)I"⟩ : MethodName) (head1 (Jvm.Cond.code (⟨"jdk/internal/util/Preconditions", "checkIndex", "(IILjava/util/function/BiFunction;)I"⟩ : MethodName) jdk_41_method_11_code 3 (some .int) :: ws) ({ frames := 0, cells := 0, slots := 0, locals := 0 } : Room)) (fun a U => a = #[(.int p1), (.int p2), (.ref a3)] ∧ Z.Warmed39 U.vm ∧ U.heap = h0) (fun _ _ _ _ _ => True) (fun _ U o U' => ∃ v L, o = .returned v ∧ own_Q_rm7 Z p1 p2 a3 h0 n0 v U'.heap L ∧ FrameEnd U o U' L ({ frames := 0, cells := 0, slots := 0, locals := 0 } : Room).cells ({ frames := 0, cells := 0, slots := 0, locals := 0 } : Room).slots) := by
  refine MetFree.of_bodySF pn_7 hisR ?_
  intro p e s m args below meth c s₁ Bd hml0 hP hK
  obtain ⟨rfl, hZ, hh⟩ := hP
  have hx := Bd.exec
  have hby := Bd.bytes
  have hml : c.maxLocals = 3 := hml0
  have hown : s.vm.findClass "jdk/internal/util/Preconditions" = some m.cls := findClass_of_methodNamed Bd.named
  have hnm := (name_of_methodNamed Bd.named Bd.method).1
  have X0 : Stand p l e ({ frames := 0, cells := 0, slots := 0, locals := 0 } : Room) s m #[(.int p1), (.int p2), (.ref a3)] below meth c s₁ [] 0 0 := Stand.of_body Bd
  have e0 : s₁.heap = h0 := by rw [← hh, Bd.state]; rfl
  have N0 := Fr.nil n0
  show own_Fin p.tables e below s (({ frames := 0, cells := 0, slots := 0, locals := 0 } : Room).cells) (({ frames := 0, cells := 0, slots := 0, locals := 0 } : Room).slots) (own_Q_rm7 Z p1 p2 a3 h0 n0) (s₁.setTop (entryFrame m #[(.int p1), (.int p2), (.ref a3)] 3))
  rw [ef_7 m p1 p2 a3]
  show own_Fin _ _ _ _ _ _ _ (s₁.setTop (mkF m 0 #[.val (.int p1), .val (.int p2), .val (.ref a3)] []))
  refine own_st (fun t k => XS.iloadN X0.here hx rfl (hb hby d7_0) rfl k) ?_
  show own_Fin _ _ _ _ _ _ _ (s₁.setTop (mkF m 1 #[.val (.int p1), .val (.int p2), .val (.ref a3)] [(.int p1)]))
  have hd1_1 : ¬ (p1 < (0 : Int32)) := hi0
  refine own_st (fun t k => XS.ifNo X0.here hx rfl (hb hby d7_1) rfl ((if0 _ _).trans (flt hd1_1).1) k) ?_
  show own_Fin _ _ _ _ _ _ _ (s₁.setTop (mkF m 4 #[.val (.int p1), .val (.int p2), .val (.ref a3)] []))
  refine own_st (fun t k => XS.iloadN X0.here hx rfl (hb hby d7_4) rfl k) ?_
  show own_Fin _ _ _ _ _ _ _ (s₁.setTop (mkF m 5 #[.val (.int p1), .val (.int p2), .val (.ref a3)] [(.int p1)]))
  refine own_st (fun t k => XS.iloadN X0.here hx rfl (hb hby d7_5) rfl k) ?_
  show own_Fin _ _ _ _ _ _ _ (s₁.setTop (mkF m 6 #[.val (.int p1), .val (.int p2), .val (.ref a3)] [(.int p2), (.int p1)]))
  have hd6_2 : p1 < p2 := hi1
  refine own_st (fun t k => XS.icmpYes X0.here hx rfl (pc0 := 6) (pc' := 16) rfl (hb hby d7_6) rfl (tlt hd6_2).1 (by decide) (by decide) k) ?_
  show own_Fin _ _ _ _ _ _ _ (s₁.setTop (mkF m 16 #[.val (.int p1), .val (.int p2), .val (.ref a3)] []))
  refine own_st (fun t k => XS.iloadN X0.here hx rfl (hb hby d7_16) rfl k) ?_
  show own_Fin _ _ _ _ _ _ _ (s₁.setTop (mkF m 17 #[.val (.int p1), .val (.int p2), .val (.ref a3)] [(.int p1)]))
  exact own_retI X0 hx Bd.notSynchronized Bd.returns (hb hby d7_17) (by decide) (by decide) (by rw [e0]; exact ⟨rfl, N0, rfl⟩)
theorem ef_7n (m : MethodId) (p1 : Int32) (p2 : Int32) : entryFrame m #[(.int p1), (.int p2), .null] 3 = mkF m 0 #[.val (.int p1), .val (.int p2), .val .null] [] := by first | (simp [entryFrame, mkF, argsToLocals, Value.category]; done) | rfl
def own_Q_rm7n (Z : State) (p1 : Int32) (p2 : Int32)  (h0 : Heap) (n0 : Nat) (v : Option Value) (h : Heap) (L : List Loc) : Prop := v = some (.int p1) ∧ Fr n0 L ∧ h = h0
set_option maxRecDepth 65536 in
set_option maxHeartbeats 40000000 in
theorem rm7n (l : Launch) (Z : State) (a0 : Array Value) (hw : ∀ d ∈ tables_1, d.before a0 Z = true) (ws : List Jvm.Cond) (p1 : Int32) (p2 : Int32)  (h0 : Heap) (n0 : Nat) (Z0 : n0 ≤ h0.size) (hi0 : ¬ (p1 < (0 : Int32))) (hi1 : p1 < p2) :
    MetFree l (⟨"jdk/internal/util/Preconditions", "checkIndex", "(IILjava/util/function/BiFunction;)I"⟩ : MethodName) (head1 (Jvm.Cond.code (⟨"jdk/internal/util/Preconditions", "checkIndex", "(IILjava/util/function/BiFunction;)I"⟩ : MethodName) jdk_41_method_11_code 3 (some .int) :: ws) ({ frames := 0, cells := 0, slots := 0, locals := 0 } : Room)) (fun a U => a = #[(.int p1), (.int p2), .null] ∧ Z.Warmed39 U.vm ∧ U.heap = h0) (fun _ _ _ _ _ => True) (fun _ U o U' => ∃ v L, o = .returned v ∧ own_Q_rm7n Z p1 p2 h0 n0 v U'.heap L ∧ FrameEnd U o U' L ({ frames := 0, cells := 0, slots := 0, locals := 0 } : Room).cells ({ frames := 0, cells := 0, slots := 0, locals := 0 } : Room).slots) := by
  refine MetFree.of_bodySF pn_7 hisR ?_
  intro p e s m args below meth c s₁ Bd hml0 hP hK
  obtain ⟨rfl, hZ, hh⟩ := hP
  have hx := Bd.exec
  have hby := Bd.bytes
  have hml : c.maxLocals = 3 := hml0
  have hown : s.vm.findClass "jdk/internal/util/Preconditions" = some m.cls := findClass_of_methodNamed Bd.named
  have hnm := (name_of_methodNamed Bd.named Bd.method).1
  have X0 : Stand p l e ({ frames := 0, cells := 0, slots := 0, locals := 0 } : Room) s m #[(.int p1), (.int p2), .null] below meth c s₁ [] 0 0 := Stand.of_body Bd
  have e0 : s₁.heap = h0 := by rw [← hh, Bd.state]; rfl
  have N0 := Fr.nil n0
  show own_Fin p.tables e below s (({ frames := 0, cells := 0, slots := 0, locals := 0 } : Room).cells) (({ frames := 0, cells := 0, slots := 0, locals := 0 } : Room).slots) (own_Q_rm7n Z p1 p2 h0 n0) (s₁.setTop (entryFrame m #[(.int p1), (.int p2), .null] 3))
  rw [ef_7n m p1 p2]
  show own_Fin _ _ _ _ _ _ _ (s₁.setTop (mkF m 0 #[.val (.int p1), .val (.int p2), .val .null] []))
  refine own_st (fun t k => XS.iloadN X0.here hx rfl (hb hby d7_0) rfl k) ?_
  show own_Fin _ _ _ _ _ _ _ (s₁.setTop (mkF m 1 #[.val (.int p1), .val (.int p2), .val .null] [(.int p1)]))
  have hd1_1 : ¬ (p1 < (0 : Int32)) := hi0
  refine own_st (fun t k => XS.ifNo X0.here hx rfl (hb hby d7_1) rfl ((if0 _ _).trans (flt hd1_1).1) k) ?_
  show own_Fin _ _ _ _ _ _ _ (s₁.setTop (mkF m 4 #[.val (.int p1), .val (.int p2), .val .null] []))
  refine own_st (fun t k => XS.iloadN X0.here hx rfl (hb hby d7_4) rfl k) ?_
  show own_Fin _ _ _ _ _ _ _ (s₁.setTop (mkF m 5 #[.val (.int p1), .val (.int p2), .val .null] [(.int p1)]))
  refine own_st (fun t k => XS.iloadN X0.here hx rfl (hb hby d7_5) rfl k) ?_
  show own_Fin _ _ _ _ _ _ _ (s₁.setTop (mkF m 6 #[.val (.int p1), .val (.int p2), .val .null] [(.int p2), (.int p1)]))
  have hd6_2 : p1 < p2 := hi1
  refine own_st (fun t k => XS.icmpYes X0.here hx rfl (pc0 := 6) (pc' := 16) rfl (hb hby d7_6) rfl (tlt hd6_2).1 (by decide) (by decide) k) ?_
  show own_Fin _ _ _ _ _ _ _ (s₁.setTop (mkF m 16 #[.val (.int p1), .val (.int p2), .val .null] []))
  refine own_st (fun t k => XS.iloadN X0.here hx rfl (hb hby d7_16) rfl k) ?_
  show own_Fin _ _ _ _ _ _ _ (s₁.setTop (mkF m 17 #[.val (.int p1), .val (.int p2), .val .null] [(.int p1)]))
  exact own_retI X0 hx Bd.notSynchronized Bd.returns (hb hby d7_17) (by decide) (by decide) (by rw [e0]; exact ⟨rfl, N0, rfl⟩)
theorem d6_0 : decode jdk_42_method_155_code 0 = .ok (.iload_n 0, 1) := by decide +kernel
theorem d6_1 : decode jdk_42_method_155_code 1 = .ok (.iload_n 1, 1) := by decide +kernel
theorem d6_2 : decode jdk_42_method_155_code 2 = .ok (.getstatic 1053, 3) := by decide +kernel
theorem d6_5 : decode jdk_42_method_155_code 5 = .ok (.invokestatic 1059, 3) := by decide +kernel
theorem d6_8 : decode jdk_42_method_155_code 8 = .ok (.pop, 1) := by decide +kernel
theorem d6_9 : decode jdk_42_method_155_code 9 = .ok (.return_, 1) := by decide +kernel
theorem pn_6 : plainFor (⟨"java/lang/String", "checkIndex", "(II)V"⟩ : MethodName) = true := plainFor_of_name (x := (⟨"java/lang/String", "checkIndex", "(II)V"⟩ : MethodName)) (by first | (simp [plainName, overriddenIn]; done) | decide +kernel)
theorem pd_6_0 : parseMethodDescriptor "(IILjava/util/function/BiFunction;)I" = some ⟨[.int, .int, (.object "java/util/function/BiFunction")], some .int⟩ := by decide +kernel
theorem ef_6 (m : MethodId) (p1 : Int32) (p2 : Int32) : entryFrame m #[(.int p1), (.int p2)] 2 = mkF m 0 #[.val (.int p1), .val (.int p2)] [] := by first | (simp [entryFrame, mkF, argsToLocals, Value.category]; done) | rfl
def own_Q_rm6 (Z : State) (p1 : Int32) (p2 : Int32) (G3 : Value) (h0 : Heap) (n0 : Nat) (v : Option Value) (h : Heap) (L : List Loc) : Prop := v = none ∧ Fr n0 L ∧ h = h0
set_option maxRecDepth 65536 in
set_option maxHeartbeats 40000000 in
theorem rm6 (l : Launch) (Z : State) (a0 : Array Value) (hw : ∀ d ∈ tables_1, d.before a0 Z = true) (ws : List Jvm.Cond) (p1 : Int32) (p2 : Int32) (G3 : Value) (h0 : Heap) (n0 : Nat) (Z0 : n0 ≤ h0.size) (O4 : Sta Z h0 "jdk/internal/util/Preconditions" "SIOOBE_FORMATTER" "Ljava/util/function/BiFunction;" G3) (rG3 : G3.isRef = true) (hi0 : ¬ (p1 < (0 : Int32))) (hi1 : p1 < p2) :
    MetFree l (⟨"java/lang/String", "checkIndex", "(II)V"⟩ : MethodName) (head1 (Jvm.Cond.code (⟨"java/lang/String", "checkIndex", "(II)V"⟩ : MethodName) jdk_42_method_155_code 2 none :: ws) ({ frames := 1, cells := 0, slots := 0, locals := 14 } : Room)) (fun a U => a = #[(.int p1), (.int p2)] ∧ Z.Warmed39 U.vm ∧ U.heap = h0) (fun _ _ _ _ _ => True) (fun _ U o U' => ∃ v L, o = .returned v ∧ own_Q_rm6 Z p1 p2 G3 h0 n0 v U'.heap L ∧ FrameEnd U o U' L ({ frames := 1, cells := 0, slots := 0, locals := 14 } : Room).cells ({ frames := 1, cells := 0, slots := 0, locals := 14 } : Room).slots) := by
  refine MetFree.of_bodySF pn_6 hisR ?_
  intro p e s m args below meth c s₁ Bd hml0 hP hK
  obtain ⟨rfl, hZ, hh⟩ := hP
  have hx := Bd.exec
  have hby := Bd.bytes
  have hml : c.maxLocals = 2 := hml0
  have hown : s.vm.findClass "java/lang/String" = some m.cls := findClass_of_methodNamed Bd.named
  have hnm := (name_of_methodNamed Bd.named Bd.method).1
  have X0 : Stand p l e ({ frames := 1, cells := 0, slots := 0, locals := 14 } : Room) s m #[(.int p1), (.int p2)] below meth c s₁ [] 0 0 := Stand.of_body Bd
  have e0 : s₁.heap = h0 := by rw [← hh, Bd.state]; rfl
  have N0 := Fr.nil n0
  show own_Fin p.tables e below s (({ frames := 1, cells := 0, slots := 0, locals := 14 } : Room).cells) (({ frames := 1, cells := 0, slots := 0, locals := 14 } : Room).slots) (own_Q_rm6 Z p1 p2 G3 h0 n0) (s₁.setTop (entryFrame m #[(.int p1), (.int p2)] 2))
  rw [ef_6 m p1 p2]
  rcases ref_cases rG3 with rfl | ⟨ga, rfl⟩
  · show own_Fin _ _ _ _ _ _ _ (s₁.setTop (mkF m 0 #[.val (.int p1), .val (.int p2)] []))
    refine own_st (fun t k => XS.iloadN X0.here hx rfl (hb hby d6_0) rfl k) ?_
    show own_Fin _ _ _ _ _ _ _ (s₁.setTop (mkF m 1 #[.val (.int p1), .val (.int p2)] [(.int p1)]))
    refine own_st (fun t k => XS.iloadN X0.here hx rfl (hb hby d6_1) rfl k) ?_
    show own_Fin _ _ _ _ _ _ _ (s₁.setTop (mkF m 2 #[.val (.int p1), .val (.int p2)] [(.int p2), (.int p1)]))
    obtain ⟨T1, X1, e1, st1⟩ := getS2 X0 hx hZ hown (host := "") (Or.inl (hw _ (List.mem_of_getElem? (i := 37) rfl))) Via.refl e0 O4 (g := (mkF m 2 #[.val (.int p1), .val (.int p2)] [(.int p2), (.int p1)])) rfl (hb hby d6_2)
    refine own_st st1 ?_
    show own_Fin _ _ _ _ _ _ _ (T1.setTop (mkF m 5 #[.val (.int p1), .val (.int p2)] [.null, (.int p2), (.int p1)]))
    obtain ⟨_, _, ⟨T2, L2, k2, n2⟩, -, X2, ⟨Lc2, hQ2, l2, y2, z2⟩, st2⟩ := Jvm.LawKit.callS X1 hx (y := (⟨"jdk/internal/util/Preconditions", "checkIndex", "(IILjava/util/function/BiFunction;)I"⟩ : MethodName)) hown (mvT hZ (hw _ (List.mem_of_getElem? (i := 39) rfl))) (mvT hZ (hw _ (List.mem_of_getElem? (i := 40) rfl))) (mvT hZ (hw _ (List.mem_of_getElem? (i := 38) rfl))) (mvT hZ (hw _ (List.mem_of_getElem? (i := 41) rfl))) (by decide) (backOf (W := 0) (rm7n l Z a0 hw [] p1 p2 h0 n0 Z0 hi0 hi1) hZ (hw _ (List.mem_of_getElem? (i := 41) rfl)) (hw _ (List.mem_of_getElem? (i := 38) rfl)) (by decide) (by decide)) (g := (mkF m 5 #[.val (.int p1), .val (.int p2)] [.null, (.int p2), (.int p1)])) rfl (by rw [hml]; rfl) (argsL := [(.int p1), (.int p2), .null]) (rest := []) (lenOf pd_6_0 rfl) rfl (by show 2 * 0 + _ ≤ _; exact Nat.le_of_eq rfl) (hb hby d6_5) (fun _ _ => ⟨rfl, e1, (by decide : 0 + 0 ≤ _), (by decide : 0 + 0 ≤ _)⟩)
    dsimp only [Pt.U, Pt.locs, Pt.cells, Pt.slots] at X2 l2 y2 z2 st2 hQ2
    subst l2 y2 z2
    obtain ⟨rfl, N2q, e2⟩ := hQ2
    have N2 := Fr.app N0 N2q
    refine own_st st2 ?_
    show own_Fin _ _ _ _ _ _ _ (T2.setTop (mkF m 8 #[.val (.int p1), .val (.int p2)] [(.int p1)]))
    refine own_st (fun t k => XS.pop X2.here hx rfl (hb hby d6_8) rfl rfl k) ?_
    show own_Fin _ _ _ _ _ _ _ (T2.setTop (mkF m 9 #[.val (.int p1), .val (.int p2)] []))
    exact own_retV X2 hx Bd.notSynchronized Bd.returns (hb hby d6_9) (by decide) (by decide) (by rw [e2]; exact ⟨rfl, N2, rfl⟩)
  · show own_Fin _ _ _ _ _ _ _ (s₁.setTop (mkF m 0 #[.val (.int p1), .val (.int p2)] []))
    refine own_st (fun t k => XS.iloadN X0.here hx rfl (hb hby d6_0) rfl k) ?_
    show own_Fin _ _ _ _ _ _ _ (s₁.setTop (mkF m 1 #[.val (.int p1), .val (.int p2)] [(.int p1)]))
    refine own_st (fun t k => XS.iloadN X0.here hx rfl (hb hby d6_1) rfl k) ?_
    show own_Fin _ _ _ _ _ _ _ (s₁.setTop (mkF m 2 #[.val (.int p1), .val (.int p2)] [(.int p2), (.int p1)]))
    obtain ⟨T1, X1, e1, st1⟩ := getS2 X0 hx hZ hown (host := "") (Or.inl (hw _ (List.mem_of_getElem? (i := 37) rfl))) Via.refl e0 O4 (g := (mkF m 2 #[.val (.int p1), .val (.int p2)] [(.int p2), (.int p1)])) rfl (hb hby d6_2)
    refine own_st st1 ?_
    show own_Fin _ _ _ _ _ _ _ (T1.setTop (mkF m 5 #[.val (.int p1), .val (.int p2)] [(.ref ga), (.int p2), (.int p1)]))
    obtain ⟨_, _, ⟨T2, L2, k2, n2⟩, -, X2, ⟨Lc2, hQ2, l2, y2, z2⟩, st2⟩ := Jvm.LawKit.callS X1 hx (y := (⟨"jdk/internal/util/Preconditions", "checkIndex", "(IILjava/util/function/BiFunction;)I"⟩ : MethodName)) hown (mvT hZ (hw _ (List.mem_of_getElem? (i := 39) rfl))) (mvT hZ (hw _ (List.mem_of_getElem? (i := 40) rfl))) (mvT hZ (hw _ (List.mem_of_getElem? (i := 38) rfl))) (mvT hZ (hw _ (List.mem_of_getElem? (i := 41) rfl))) (by decide) (backOf (W := 0) (rm7 l Z a0 hw [] p1 p2 ga h0 n0 Z0 hi0 hi1) hZ (hw _ (List.mem_of_getElem? (i := 41) rfl)) (hw _ (List.mem_of_getElem? (i := 38) rfl)) (by decide) (by decide)) (g := (mkF m 5 #[.val (.int p1), .val (.int p2)] [(.ref ga), (.int p2), (.int p1)])) rfl (by rw [hml]; rfl) (argsL := [(.int p1), (.int p2), (.ref ga)]) (rest := []) (lenOf pd_6_0 rfl) rfl (by show 2 * 0 + _ ≤ _; exact Nat.le_of_eq rfl) (hb hby d6_5) (fun _ _ => ⟨rfl, e1, (by decide : 0 + 0 ≤ _), (by decide : 0 + 0 ≤ _)⟩)
    dsimp only [Pt.U, Pt.locs, Pt.cells, Pt.slots] at X2 l2 y2 z2 st2 hQ2
    subst l2 y2 z2
    obtain ⟨rfl, N2q, e2⟩ := hQ2
    have N2 := Fr.app N0 N2q
    refine own_st st2 ?_
    show own_Fin _ _ _ _ _ _ _ (T2.setTop (mkF m 8 #[.val (.int p1), .val (.int p2)] [(.int p1)]))
    refine own_st (fun t k => XS.pop X2.here hx rfl (hb hby d6_8) rfl rfl k) ?_
    show own_Fin _ _ _ _ _ _ _ (T2.setTop (mkF m 9 #[.val (.int p1), .val (.int p2)] []))
    exact own_retV X2 hx Bd.notSynchronized Bd.returns (hb hby d6_9) (by decide) (by decide) (by rw [e2]; exact ⟨rfl, N2, rfl⟩)
def own_c8 (w : Int32) : Int32 := nar .char ((w &&& (255 : Int32)).toUInt32.toUInt16.toUInt32.toInt32)
theorem d5_0 : decode jdk_43_method_2_code 0 = .ok (.iload_n 1, 1) := by decide +kernel
theorem d5_1 : decode jdk_43_method_2_code 1 = .ok (.aload_n 0, 1) := by decide +kernel
theorem d5_2 : decode jdk_43_method_2_code 2 = .ok (.arraylength, 1) := by decide +kernel
theorem d5_3 : decode jdk_43_method_2_code 3 = .ok (.invokestatic 9, 3) := by decide +kernel
theorem d5_6 : decode jdk_43_method_2_code 6 = .ok (.aload_n 0, 1) := by decide +kernel
theorem d5_7 : decode jdk_43_method_2_code 7 = .ok (.iload_n 1, 1) := by decide +kernel
theorem d5_8 : decode jdk_43_method_2_code 8 = .ok (.baload, 1) := by decide +kernel
theorem d5_9 : decode jdk_43_method_2_code 9 = .ok (.sipush 255, 3) := by decide +kernel
theorem d5_12 : decode jdk_43_method_2_code 12 = .ok (.iand, 1) := by decide +kernel
theorem d5_13 : decode jdk_43_method_2_code 13 = .ok (.i2c, 1) := by decide +kernel
theorem d5_14 : decode jdk_43_method_2_code 14 = .ok (.ireturn, 1) := by decide +kernel
theorem pn_5 : plainFor (⟨"java/lang/StringLatin1", "charAt", "([BI)C"⟩ : MethodName) = true := plainFor_of_name (x := (⟨"java/lang/StringLatin1", "charAt", "([BI)C"⟩ : MethodName)) (by first | (simp [plainName, overriddenIn]; done) | decide +kernel)
theorem pd_5_0 : parseMethodDescriptor "(II)V" = some ⟨[.int, .int], none⟩ := by decide +kernel
theorem ef_5 (m : MethodId) (a1 : Addr) (p2 : Int32) : entryFrame m #[(.ref a1), (.int p2)] 2 = mkF m 0 #[.val (.ref a1), .val (.int p2)] [] := by first | (simp [entryFrame, mkF, argsToLocals, Value.category]; done) | rfl
def own_Q_rm5 (Z : State) (a1 : Addr) (p2 : Int32) (G3 : Value) (ka : ClassId) (za : Int32) (vs : List Value) (wa : Int32) (h0 : Heap) (n0 : Nat) (v : Option Value) (h : Heap) (L : List Loc) : Prop := v = some (.int (own_c8 wa)) ∧ Fr n0 L ∧ h = h0
set_option maxRecDepth 65536 in
set_option maxHeartbeats 40000000 in
theorem rm5 (l : Launch) (Z : State) (a0 : Array Value) (hw : ∀ d ∈ tables_1, d.before a0 Z = true) (ws : List Jvm.Cond) (a1 : Addr) (p2 : Int32) (G3 : Value) (ka : ClassId) (za : Int32) (vs : List Value) (wa : Int32) (h0 : Heap) (n0 : Nat) (Z0 : n0 ≤ h0.size) (O4 : Sta Z h0 "jdk/internal/util/Preconditions" "SIOOBE_FORMATTER" "Ljava/util/function/BiFunction;" G3) (rG3 : G3.isRef = true) (Vi : Arv Z h0 a1 ka .byte za vs (.int (0 : Int32))) (hi0 : ¬ (p2 < (0 : Int32))) (hi1 : p2 < za) (hat : vs.getD p2.toNatClampNeg (.int (0 : Int32)) = .int wa) :
    MetFree l (⟨"java/lang/StringLatin1", "charAt", "([BI)C"⟩ : MethodName) (head1 (Jvm.Cond.code (⟨"java/lang/StringLatin1", "charAt", "([BI)C"⟩ : MethodName) jdk_43_method_2_code 2 (some .char) :: ws) ({ frames := 2, cells := 0, slots := 0, locals := 27 } : Room)) (fun a U => a = #[(.ref a1), (.int p2)] ∧ Z.Warmed39 U.vm ∧ U.heap = h0) (fun _ _ _ _ _ => True) (fun _ U o U' => ∃ v L, o = .returned v ∧ own_Q_rm5 Z a1 p2 G3 ka za vs wa h0 n0 v U'.heap L ∧ FrameEnd U o U' L ({ frames := 2, cells := 0, slots := 0, locals := 27 } : Room).cells ({ frames := 2, cells := 0, slots := 0, locals := 27 } : Room).slots) := by
  refine MetFree.of_bodySF pn_5 hisR ?_
  intro p e s m args below meth c s₁ Bd hml0 hP hK
  obtain ⟨rfl, hZ, hh⟩ := hP
  have hx := Bd.exec
  have hby := Bd.bytes
  have hml : c.maxLocals = 2 := hml0
  have hown : s.vm.findClass "java/lang/StringLatin1" = some m.cls := findClass_of_methodNamed Bd.named
  have hnm := (name_of_methodNamed Bd.named Bd.method).1
  have X0 : Stand p l e ({ frames := 2, cells := 0, slots := 0, locals := 27 } : Room) s m #[(.ref a1), (.int p2)] below meth c s₁ [] 0 0 := Stand.of_body Bd
  have e0 : s₁.heap = h0 := by rw [← hh, Bd.state]; rfl
  have N0 := Fr.nil n0
  show own_Fin p.tables e below s (({ frames := 2, cells := 0, slots := 0, locals := 27 } : Room).cells) (({ frames := 2, cells := 0, slots := 0, locals := 27 } : Room).slots) (own_Q_rm5 Z a1 p2 G3 ka za vs wa h0 n0) (s₁.setTop (entryFrame m #[(.ref a1), (.int p2)] 2))
  rw [ef_5 m a1 p2]
  show own_Fin _ _ _ _ _ _ _ (s₁.setTop (mkF m 0 #[.val (.ref a1), .val (.int p2)] []))
  refine own_st (fun t k => XS.iloadN X0.here hx rfl (hb hby d5_0) rfl k) ?_
  show own_Fin _ _ _ _ _ _ _ (s₁.setTop (mkF m 1 #[.val (.ref a1), .val (.int p2)] [(.int p2)]))
  refine own_st (fun t k => XS.aloadN X0.here hx rfl (hb hby d5_1) rfl rfl k) ?_
  show own_Fin _ _ _ _ _ _ _ (s₁.setTop (mkF m 2 #[.val (.ref a1), .val (.int p2)] [(.ref a1), (.int p2)]))
  obtain ⟨cl1, Ar1, Cq1, Sz1, Mn1, Hs1, Gf1⟩ := id Vi
  refine own_st (X0.arraylength hx (by rw [e0]; exact Ar1.1) (State.isArrayOf_alike hZ.alike Ar1.2.1) (g := (mkF m 2 #[.val (.ref a1), .val (.int p2)] [(.ref a1), (.int p2)])) rfl rfl (hb hby d5_2)) ?_
  rw [len_of Sz1 Mn1]
  show own_Fin _ _ _ _ _ _ _ (s₁.setTop (mkF m 3 #[.val (.ref a1), .val (.int p2)] [(.int za), (.int p2)]))
  obtain ⟨_, _, ⟨T2, L2, k2, n2⟩, -, X2, ⟨Lc2, hQ2, l2, y2, z2⟩, st2⟩ := Jvm.LawKit.callS X0 hx (y := (⟨"java/lang/String", "checkIndex", "(II)V"⟩ : MethodName)) hown (mvT hZ (hw _ (List.mem_of_getElem? (i := 34) rfl))) (mvT hZ (hw _ (List.mem_of_getElem? (i := 35) rfl))) (mvT hZ (hw _ (List.mem_of_getElem? (i := 10) rfl))) (mvT hZ (hw _ (List.mem_of_getElem? (i := 36) rfl))) (by decide) (backOf (W := 0) (rm6 l Z a0 hw [] p2 za G3 h0 n0 Z0 O4 rG3 hi0 hi1) hZ (hw _ (List.mem_of_getElem? (i := 36) rfl)) (hw _ (List.mem_of_getElem? (i := 10) rfl)) (by decide) (by decide)) (g := (mkF m 3 #[.val (.ref a1), .val (.int p2)] [(.int za), (.int p2)])) rfl (by rw [hml]; rfl) (argsL := [(.int p2), (.int za)]) (rest := []) (lenOf pd_5_0 rfl) rfl (by show 2 * 0 + _ ≤ _; exact Nat.le_of_eq rfl) (hb hby d5_3) (fun _ _ => ⟨rfl, e0, (by decide : 0 + 0 ≤ _), (by decide : 0 + 0 ≤ _)⟩)
  dsimp only [Pt.U, Pt.locs, Pt.cells, Pt.slots] at X2 l2 y2 z2 st2 hQ2
  subst l2 y2 z2
  obtain ⟨rfl, N2q, e2⟩ := hQ2
  have N2 := Fr.app N0 N2q
  refine own_st st2 ?_
  show own_Fin _ _ _ _ _ _ _ (T2.setTop (mkF m 6 #[.val (.ref a1), .val (.int p2)] []))
  refine own_st (fun t k => XS.aloadN X2.here hx rfl (hb hby d5_6) rfl rfl k) ?_
  show own_Fin _ _ _ _ _ _ _ (T2.setTop (mkF m 7 #[.val (.ref a1), .val (.int p2)] [(.ref a1)]))
  refine own_st (fun t k => XS.iloadN X2.here hx rfl (hb hby d5_7) rfl k) ?_
  show own_Fin _ _ _ _ _ _ _ (T2.setTop (mkF m 8 #[.val (.ref a1), .val (.int p2)] [(.int p2), (.ref a1)]))
  obtain ⟨cl3, Ar3, Cq3, Sz3, Mn3, Hs3, Gf3⟩ := id Vi
  have hin3 := inb_of Sz3 (j := p2) ⟨hi0, hi1⟩
  refine own_st (X2.baloadBytes hx (j := p2) (v := (.int wa)) (by rw [e2]; exact Ar3.1) (State.isArrayOf_alike hZ.alike Ar3.2.1) Ar3.2.2 hin3 (Hs3.at hin3 hat) (g := (mkF m 8 #[.val (.ref a1), .val (.int p2)] [(.int p2), (.ref a1)])) rfl rfl (hb hby d5_8)) ?_
  show own_Fin _ _ _ _ _ _ _ (T2.setTop (mkF m 9 #[.val (.ref a1), .val (.int p2)] [(.int wa)]))
  refine own_st (fun t k => XS.sipush X2.here hx rfl (hb hby d5_9) k) ?_
  show own_Fin _ _ _ _ _ _ _ (T2.setTop (mkF m 12 #[.val (.ref a1), .val (.int p2)] [(.int (255 : Int32)), (.int wa)]))
  refine own_st (fun t k => XS.iand X2.here hx rfl (hb hby d5_12) rfl k) ?_
  show own_Fin _ _ _ _ _ _ _ (T2.setTop (mkF m 13 #[.val (.ref a1), .val (.int p2)] [(.int (wa &&& (255 : Int32)))]))
  refine own_st (fun t k => XS.i2c X2.here hx rfl (hb hby d5_13) rfl k) ?_
  show own_Fin _ _ _ _ _ _ _ (T2.setTop (mkF m 14 #[.val (.ref a1), .val (.int p2)] [(.int ((wa &&& (255 : Int32)).toUInt32.toUInt16.toUInt32.toInt32))]))
  exact own_retN X2 hx Bd.notSynchronized (t := .char) Bd.returns (by simp) (hb hby d5_14) (by decide) (by decide) (by rw [e2]; exact ⟨rfl, N2, rfl⟩)
theorem d4_0 : decode jdk_42_method_154_code 0 = .ok (.getstatic 38, 3) := by decide +kernel
theorem d4_3 : decode jdk_42_method_154_code 3 = .ok (.ifCond .eq 14, 3) := by decide +kernel
theorem d4_6 : decode jdk_42_method_154_code 6 = .ok (.aload_n 0, 1) := by decide +kernel
theorem d4_7 : decode jdk_42_method_154_code 7 = .ok (.getfield 15, 3) := by decide +kernel
theorem d4_10 : decode jdk_42_method_154_code 10 = .ok (.ifCond .ne 7, 3) := by decide +kernel
theorem d4_13 : decode jdk_42_method_154_code 13 = .ok (.iconst 1, 1) := by decide +kernel
theorem d4_14 : decode jdk_42_method_154_code 14 = .ok (.goto 4, 3) := by decide +kernel
theorem d4_18 : decode jdk_42_method_154_code 18 = .ok (.ireturn, 1) := by decide +kernel
theorem pn_4 : plainFor (⟨"java/lang/String", "isLatin1", "()Z"⟩ : MethodName) = true := plainFor_of_name (x := (⟨"java/lang/String", "isLatin1", "()Z"⟩ : MethodName)) (by first | (simp [plainName, overriddenIn]; done) | decide +kernel)
theorem ef_4 (m : MethodId) (a1 : Addr) : entryFrame m #[(.ref a1)] 1 = mkF m 0 #[.val (.ref a1)] [] := by first | (simp [entryFrame, mkF, argsToLocals, Value.category]; done) | rfl
def own_Q_rm4 (Z : State) (a1 : Addr) (G1 : Int32) (h0 : Heap) (n0 : Nat) (v : Option Value) (h : Heap) (L : List Loc) : Prop := v = some (.int (1 : Int32)) ∧ Fr n0 L ∧ h = h0
set_option maxRecDepth 65536 in
set_option maxHeartbeats 40000000 in
theorem rm4 (l : Launch) (Z : State) (a0 : Array Value) (hw : ∀ d ∈ tables_1, d.before a0 Z = true) (ws : List Jvm.Cond) (a1 : Addr) (G1 : Int32) (h0 : Heap) (n0 : Nat) (Z0 : n0 ≤ h0.size) (O2 : Sta Z h0 "java/lang/String" "COMPACT_STRINGS" "Z" (.int G1)) (P5 : ¬ (G1 = (0 : Int32))) (Fc : Fld Z h0 a1 "java/lang/String" "coder" "B" (.int (0 : Int32))) :
    MetFree l (⟨"java/lang/String", "isLatin1", "()Z"⟩ : MethodName) (head1 (Jvm.Cond.code (⟨"java/lang/String", "isLatin1", "()Z"⟩ : MethodName) jdk_42_method_154_code 1 (some .boolean) :: ws) ({ frames := 0, cells := 0, slots := 0, locals := 0 } : Room)) (fun a U => a = #[(.ref a1)] ∧ Z.Warmed39 U.vm ∧ U.heap = h0) (fun _ _ _ _ _ => True) (fun _ U o U' => ∃ v L, o = .returned v ∧ own_Q_rm4 Z a1 G1 h0 n0 v U'.heap L ∧ FrameEnd U o U' L ({ frames := 0, cells := 0, slots := 0, locals := 0 } : Room).cells ({ frames := 0, cells := 0, slots := 0, locals := 0 } : Room).slots) := by
  refine MetFree.of_bodySF pn_4 hisR ?_
  intro p e s m args below meth c s₁ Bd hml0 hP hK
  obtain ⟨rfl, hZ, hh⟩ := hP
  have hx := Bd.exec
  have hby := Bd.bytes
  have hml : c.maxLocals = 1 := hml0
  have hown : s.vm.findClass "java/lang/String" = some m.cls := findClass_of_methodNamed Bd.named
  have hnm := (name_of_methodNamed Bd.named Bd.method).1
  have X0 : Stand p l e ({ frames := 0, cells := 0, slots := 0, locals := 0 } : Room) s m #[(.ref a1)] below meth c s₁ [] 0 0 := Stand.of_body Bd
  have e0 : s₁.heap = h0 := by rw [← hh, Bd.state]; rfl
  have N0 := Fr.nil n0
  show own_Fin p.tables e below s (({ frames := 0, cells := 0, slots := 0, locals := 0 } : Room).cells) (({ frames := 0, cells := 0, slots := 0, locals := 0 } : Room).slots) (own_Q_rm4 Z a1 G1 h0 n0) (s₁.setTop (entryFrame m #[(.ref a1)] 1))
  rw [ef_4 m a1]
  show own_Fin _ _ _ _ _ _ _ (s₁.setTop (mkF m 0 #[.val (.ref a1)] []))
  obtain ⟨T1, X1, e1, st1⟩ := getS2 X0 hx hZ hown (host := "") (Or.inl (hw _ (List.mem_of_getElem? (i := 27) rfl))) Via.refl e0 O2 (g := (mkF m 0 #[.val (.ref a1)] [])) rfl (hb hby d4_0)
  refine own_st st1 ?_
  show own_Fin _ _ _ _ _ _ _ (T1.setTop (mkF m 3 #[.val (.ref a1)] [(.int G1)]))
  have hd3_2 : ¬ (G1 = (0 : Int32)) := P5
  refine own_st (fun t k => XS.ifNo X1.here hx rfl (hb hby d4_3) rfl ((if0 _ _).trans (feq hd3_2).1) k) ?_
  show own_Fin _ _ _ _ _ _ _ (T1.setTop (mkF m 6 #[.val (.ref a1)] []))
  refine own_st (fun t k => XS.aloadN X1.here hx rfl (hb hby d4_6) rfl rfl k) ?_
  show own_Fin _ _ _ _ _ _ _ (T1.setTop (mkF m 7 #[.val (.ref a1)] [(.ref a1)]))
  obtain ⟨T3, X3, e3, st3⟩ := getF X1 hx hZ hown (host := "") (Or.inl (hw _ (List.mem_of_getElem? (i := 28) rfl))) Via.refl e1 Fc (g := (mkF m 7 #[.val (.ref a1)] [(.ref a1)])) rfl rfl (hb hby d4_7)
  refine own_st st3 ?_
  show own_Fin _ _ _ _ _ _ _ (T3.setTop (mkF m 10 #[.val (.ref a1)] [(.int (0 : Int32))]))
  refine own_st (fun t k => XS.ifNo X3.here hx rfl (hb hby d4_10) rfl ((if0 _ _).trans (teq (by decide : (0 : Int32) = (0 : Int32))).2) k) ?_
  show own_Fin _ _ _ _ _ _ _ (T3.setTop (mkF m 13 #[.val (.ref a1)] []))
  refine own_st (fun t k => XS.iconst X3.here hx rfl (hb hby d4_13) k) ?_
  show own_Fin _ _ _ _ _ _ _ (T3.setTop (mkF m 14 #[.val (.ref a1)] [(.int (1 : Int32))]))
  refine own_st (fun t k => XS.goto X3.here hx rfl (pc0 := 14) (pc' := 18) rfl (hb hby d4_14) (by decide) (by decide) k) ?_
  show own_Fin _ _ _ _ _ _ _ (T3.setTop (mkF m 18 #[.val (.ref a1)] [(.int (1 : Int32))]))
  exact own_retN X3 hx Bd.notSynchronized (t := .boolean) Bd.returns (by simp) (hb hby d4_18) (by decide) (by decide) (by rw [e3]; exact ⟨rfl, N0, rfl⟩)
theorem d3_0 : decode jdk_42_method_56_code 0 = .ok (.aload_n 0, 1) := by decide +kernel
theorem d3_1 : decode jdk_42_method_56_code 1 = .ok (.invokevirtual 492, 3) := by decide +kernel
theorem d3_4 : decode jdk_42_method_56_code 4 = .ok (.ifCond .eq 12, 3) := by decide +kernel
theorem d3_7 : decode jdk_42_method_56_code 7 = .ok (.aload_n 0, 1) := by decide +kernel
theorem d3_8 : decode jdk_42_method_56_code 8 = .ok (.getfield 9, 3) := by decide +kernel
theorem d3_11 : decode jdk_42_method_56_code 11 = .ok (.iload_n 1, 1) := by decide +kernel
theorem d3_12 : decode jdk_42_method_56_code 12 = .ok (.invokestatic 495, 3) := by decide +kernel
theorem d3_15 : decode jdk_42_method_56_code 15 = .ok (.ireturn, 1) := by decide +kernel
theorem pn_3 : plainFor (⟨"java/lang/String", "charAt", "(I)C"⟩ : MethodName) = true := plainFor_of_name (x := (⟨"java/lang/String", "charAt", "(I)C"⟩ : MethodName)) (by first | (simp [plainName, overriddenIn]; done) | decide +kernel)
theorem pd_3_0 : parseMethodDescriptor "()Z" = some ⟨[], some .boolean⟩ := by decide +kernel
theorem pd_3_1 : parseMethodDescriptor "([BI)C" = some ⟨[(.array .byte), .int], some .char⟩ := by decide +kernel
theorem ef_3 (m : MethodId) (a1 : Addr) (p2 : Int32) : entryFrame m #[(.ref a1), (.int p2)] 2 = mkF m 0 #[.val (.ref a1), .val (.int p2)] [] := by first | (simp [entryFrame, mkF, argsToLocals, Value.category]; done) | rfl
def own_Q_rm3 (Z : State) (a1 : Addr) (p2 : Int32) (G1 : Int32) (G3 : Value) (tb : Addr) (ka : ClassId) (za : Int32) (vs : List Value) (wa : Int32) (h0 : Heap) (n0 : Nat) (v : Option Value) (h : Heap) (L : List Loc) : Prop := v = some (.int (nar .char (own_c8 wa))) ∧ Fr n0 L ∧ h = h0
set_option maxRecDepth 65536 in
set_option maxHeartbeats 40000000 in
theorem rm3 (l : Launch) (Z : State) (a0 : Array Value) (hw : ∀ d ∈ tables_1, d.before a0 Z = true) (ws : List Jvm.Cond) (a1 : Addr) (p2 : Int32) (G1 : Int32) (G3 : Value) (tb : Addr) (ka : ClassId) (za : Int32) (vs : List Value) (wa : Int32) (h0 : Heap) (n0 : Nat) (Z0 : n0 ≤ h0.size) (Ei : Exa Z h0 a1 "java/lang/String") (Fc : Fld Z h0 a1 "java/lang/String" "coder" "B" (.int (0 : Int32))) (Fv : Fld Z h0 a1 "java/lang/String" "value" "[B" (.ref tb)) (Vb : Arv Z h0 tb ka .byte za vs (.int (0 : Int32))) (O2 : Sta Z h0 "java/lang/String" "COMPACT_STRINGS" "Z" (.int G1)) (O4 : Sta Z h0 "jdk/internal/util/Preconditions" "SIOOBE_FORMATTER" "Ljava/util/function/BiFunction;" G3) (P5 : ¬ (G1 = (0 : Int32))) (rG3 : G3.isRef = true) (hi0 : ¬ (p2 < (0 : Int32))) (hi1 : p2 < za) (hat : vs.getD p2.toNatClampNeg (.int (0 : Int32)) = .int wa) :
    MetFree l (⟨"java/lang/String", "charAt", "(I)C"⟩ : MethodName) (head1 (Jvm.Cond.code (⟨"java/lang/String", "charAt", "(I)C"⟩ : MethodName) jdk_42_method_56_code 2 (some .char) :: ws) ({ frames := 3, cells := 0, slots := 0, locals := 40 } : Room)) (fun a U => a = #[(.ref a1), (.int p2)] ∧ Z.Warmed39 U.vm ∧ U.heap = h0) (fun _ _ _ _ _ => True) (fun _ U o U' => ∃ v L, o = .returned v ∧ own_Q_rm3 Z a1 p2 G1 G3 tb ka za vs wa h0 n0 v U'.heap L ∧ FrameEnd U o U' L ({ frames := 3, cells := 0, slots := 0, locals := 40 } : Room).cells ({ frames := 3, cells := 0, slots := 0, locals := 40 } : Room).slots) := by
  refine MetFree.of_bodySF pn_3 hisR ?_
  intro p e s m args below meth c s₁ Bd hml0 hP hK
  obtain ⟨rfl, hZ, hh⟩ := hP
  have hx := Bd.exec
  have hby := Bd.bytes
  have hml : c.maxLocals = 2 := hml0
  have hown : s.vm.findClass "java/lang/String" = some m.cls := findClass_of_methodNamed Bd.named
  have hnm := (name_of_methodNamed Bd.named Bd.method).1
  have X0 : Stand p l e ({ frames := 3, cells := 0, slots := 0, locals := 40 } : Room) s m #[(.ref a1), (.int p2)] below meth c s₁ [] 0 0 := Stand.of_body Bd
  have e0 : s₁.heap = h0 := by rw [← hh, Bd.state]; rfl
  have N0 := Fr.nil n0
  show own_Fin p.tables e below s (({ frames := 3, cells := 0, slots := 0, locals := 40 } : Room).cells) (({ frames := 3, cells := 0, slots := 0, locals := 40 } : Room).slots) (own_Q_rm3 Z a1 p2 G1 G3 tb ka za vs wa h0 n0) (s₁.setTop (entryFrame m #[(.ref a1), (.int p2)] 2))
  rw [ef_3 m a1 p2]
  show own_Fin _ _ _ _ _ _ _ (s₁.setTop (mkF m 0 #[.val (.ref a1), .val (.int p2)] []))
  refine own_st (fun t k => XS.aloadN X0.here hx rfl (hb hby d3_0) rfl rfl k) ?_
  show own_Fin _ _ _ _ _ _ _ (s₁.setTop (mkF m 1 #[.val (.ref a1), .val (.int p2)] [(.ref a1)]))
  obtain ⟨cq1, kq1, qa1, qb1, qc1⟩ := isOf hZ e0 Ei
  obtain ⟨_, _, ⟨T1, L1, k1, n1⟩, -, X1, ⟨Lc1, hQ1, l1, y1, z1⟩, st1⟩ := X0.virtualBack hx (y := (⟨"java/lang/String", "isLatin1", "()Z"⟩ : MethodName)) (z := (⟨"java/lang/String", "isLatin1", "()Z"⟩ : MethodName)) hown (mvT hZ (hw _ (List.mem_of_getElem? (i := 22) rfl))) (mvT hZ (hw _ (List.mem_of_getElem? (i := 23) rfl))) (notFace_of_selects (args := #[]) (mvT hZ (hw _ (List.mem_of_getElem? (i := 25) rfl)))) (mvT hZ (hw _ (List.mem_of_getElem? (i := 25) rfl))) (mvT hZ (hw _ (List.mem_of_getElem? (i := 24) rfl))) (by decide) (backOf (W := 0) (rm4 l Z a0 hw [] a1 G1 h0 n0 Z0 O2 P5 Fc) hZ (hw _ (List.mem_of_getElem? (i := 26) rfl)) (hw _ (List.mem_of_getElem? (i := 10) rfl)) (by decide) (by decide)) qa1 qc1 (g := (mkF m 1 #[.val (.ref a1), .val (.int p2)] [(.ref a1)])) rfl (by rw [hml]; rfl) (Steps.refl _) (argsL := []) (rest := []) (lenOf pd_3_0 rfl) rfl (by show 2 * 0 + _ ≤ _; exact Nat.le_of_eq rfl) (hb hby d3_1) (fun _ _ => ⟨rfl, e0, (by decide : 0 + 0 ≤ _), (by decide : 0 + 0 ≤ _)⟩)
  dsimp only [Pt.U, Pt.locs, Pt.cells, Pt.slots] at X1 l1 y1 z1 st1 hQ1
  subst l1 y1 z1
  obtain ⟨rfl, N1q, e1⟩ := hQ1
  have N1 := Fr.app N0 N1q
  refine own_st (fun t k => st1.trans k) ?_
  show own_Fin _ _ _ _ _ _ _ (T1.setTop (mkF m 4 #[.val (.ref a1), .val (.int p2)] [(.int (1 : Int32))]))
  refine own_st (fun t k => XS.ifNo X1.here hx rfl (hb hby d3_4) rfl ((if0 _ _).trans (feq (by decide : ¬ ((1 : Int32) = (0 : Int32)))).1) k) ?_
  show own_Fin _ _ _ _ _ _ _ (T1.setTop (mkF m 7 #[.val (.ref a1), .val (.int p2)] []))
  refine own_st (fun t k => XS.aloadN X1.here hx rfl (hb hby d3_7) rfl rfl k) ?_
  show own_Fin _ _ _ _ _ _ _ (T1.setTop (mkF m 8 #[.val (.ref a1), .val (.int p2)] [(.ref a1)]))
  obtain ⟨T2, X2, e2, st2⟩ := getF X1 hx hZ hown (host := "") (Or.inl (hw _ (List.mem_of_getElem? (i := 29) rfl))) Via.refl e1 Fv (g := (mkF m 8 #[.val (.ref a1), .val (.int p2)] [(.ref a1)])) rfl rfl (hb hby d3_8)
  refine own_st st2 ?_
  show own_Fin _ _ _ _ _ _ _ (T2.setTop (mkF m 11 #[.val (.ref a1), .val (.int p2)] [(.ref tb)]))
  refine own_st (fun t k => XS.iloadN X2.here hx rfl (hb hby d3_11) rfl k) ?_
  show own_Fin _ _ _ _ _ _ _ (T2.setTop (mkF m 12 #[.val (.ref a1), .val (.int p2)] [(.int p2), (.ref tb)]))
  obtain ⟨_, _, ⟨T3, L3, k3, n3⟩, -, X3, ⟨Lc3, hQ3, l3, y3, z3⟩, st3⟩ := Jvm.LawKit.callS X2 hx (y := (⟨"java/lang/StringLatin1", "charAt", "([BI)C"⟩ : MethodName)) hown (mvT hZ (hw _ (List.mem_of_getElem? (i := 30) rfl))) (mvT hZ (hw _ (List.mem_of_getElem? (i := 31) rfl))) (mvT hZ (hw _ (List.mem_of_getElem? (i := 32) rfl))) (mvT hZ (hw _ (List.mem_of_getElem? (i := 33) rfl))) (by decide) (backOf (W := 0) (rm5 l Z a0 hw [] tb p2 G3 ka za vs wa h0 n0 Z0 O4 rG3 Vb hi0 hi1 hat) hZ (hw _ (List.mem_of_getElem? (i := 33) rfl)) (hw _ (List.mem_of_getElem? (i := 32) rfl)) (by decide) (by decide)) (g := (mkF m 12 #[.val (.ref a1), .val (.int p2)] [(.int p2), (.ref tb)])) rfl (by rw [hml]; rfl) (argsL := [(.ref tb), (.int p2)]) (rest := []) (lenOf pd_3_1 rfl) rfl (by show 2 * 0 + _ ≤ _; exact Nat.le_of_eq rfl) (hb hby d3_12) (fun _ _ => ⟨rfl, e2, (by decide : 0 + 0 ≤ _), (by decide : 0 + 0 ≤ _)⟩)
  dsimp only [Pt.U, Pt.locs, Pt.cells, Pt.slots] at X3 l3 y3 z3 st3 hQ3
  subst l3 y3 z3
  obtain ⟨rfl, N3q, e3⟩ := hQ3
  have N3 := Fr.app N1 N3q
  refine own_st st3 ?_
  show own_Fin _ _ _ _ _ _ _ (T3.setTop (mkF m 15 #[.val (.ref a1), .val (.int p2)] [(.int (own_c8 wa))]))
  exact own_retN X3 hx Bd.notSynchronized (t := .char) Bd.returns (by simp) (hb hby d3_15) (by decide) (by decide) (by rw [e3]; exact ⟨rfl, N3, rfl⟩)
theorem own_text_31 : (∀ c ∈ ("ABCDEFGHIJKLMNOPQRSTUVWXYZ" : String).toList, c.toNat < 256) ∧ ("ABCDEFGHIJKLMNOPQRSTUVWXYZ" : String).toList.map (fun c => Value.int (Jvm.Lit.byteI c.toNat.toUInt16)) = [(.int (65 : Int32)), (.int (66 : Int32)), (.int (67 : Int32)), (.int (68 : Int32)), (.int (69 : Int32)), (.int (70 : Int32)), (.int (71 : Int32)), (.int (72 : Int32)), (.int (73 : Int32)), (.int (74 : Int32)), (.int (75 : Int32)), (.int (76 : Int32)), (.int (77 : Int32)), (.int (78 : Int32)), (.int (79 : Int32)), (.int (80 : Int32)), (.int (81 : Int32)), (.int (82 : Int32)), (.int (83 : Int32)), (.int (84 : Int32)), (.int (85 : Int32)), (.int (86 : Int32)), (.int (87 : Int32)), (.int (88 : Int32)), (.int (89 : Int32)), (.int (90 : Int32))] := by decide +kernel
theorem own_tlen_31 : 4 * ("ABCDEFGHIJKLMNOPQRSTUVWXYZ" : String).toList.length ≤ 104 := by decide +kernel
theorem own_text_44 : (∀ c ∈ ("abcdefghijklmnopqrstuvwxyz" : String).toList, c.toNat < 256) ∧ ("abcdefghijklmnopqrstuvwxyz" : String).toList.map (fun c => Value.int (Jvm.Lit.byteI c.toNat.toUInt16)) = [(.int (97 : Int32)), (.int (98 : Int32)), (.int (99 : Int32)), (.int (100 : Int32)), (.int (101 : Int32)), (.int (102 : Int32)), (.int (103 : Int32)), (.int (104 : Int32)), (.int (105 : Int32)), (.int (106 : Int32)), (.int (107 : Int32)), (.int (108 : Int32)), (.int (109 : Int32)), (.int (110 : Int32)), (.int (111 : Int32)), (.int (112 : Int32)), (.int (113 : Int32)), (.int (114 : Int32)), (.int (115 : Int32)), (.int (116 : Int32)), (.int (117 : Int32)), (.int (118 : Int32)), (.int (119 : Int32)), (.int (120 : Int32)), (.int (121 : Int32)), (.int (122 : Int32))] := by decide +kernel
theorem own_tlen_44 : 4 * ("abcdefghijklmnopqrstuvwxyz" : String).toList.length ≤ 104 := by decide +kernel
theorem own_nar {x : Int32} (h : 0 ≤ x.toInt ∧ x.toInt < 65536) : x.toUInt32.toUInt16.toUInt32.toInt32 = x := by
  have c := c_i2c x
  apply Int32.toInt_inj.mp
  omega
theorem own_narC {x : Int32} (h : 0 ≤ x.toInt ∧ x.toInt < 65536) : nar .char x = x := own_nar h
theorem own_rngC (x : Int32) : 0 ≤ (nar .char x).toInt ∧ (nar .char x).toInt < 65536 := (c_i2c x).2
theorem own_draw (a b : Int32) : 0 ≤ (own_F1 a b).toInt ∧ (own_F1 a b).toInt < 65536 := by
  unfold own_F1
  by_cases h1 : a = (0 : Int32)
  · rw [if_pos h1]; exact own_rngC _
  · rw [if_neg h1]
    by_cases h2 : a = (1 : Int32)
    · rw [if_pos h2]; exact own_rngC _
    · rw [if_neg h2]
      by_cases h3 : a = (2 : Int32)
      · rw [if_pos h3]; exact own_rngC _
      · rw [if_neg h3]; exact own_rngC _
theorem own_c8_id {x : Int32} (h : 0 ≤ x.toInt ∧ x.toInt < 256) : nar .char (own_c8 x) = x := by
  have m : (x &&& (255 : Int32)) = x := by
    have q := c_mask x (255 : Int32) 8 (by decide) (by decide)
    rw [show ((2 ^ 8 : Nat) : Int) = 256 by decide] at q
    apply Int32.toInt_inj.mp
    omega
  unfold own_c8
  rw [m, own_nar (x := x) (by omega), own_narC (x := x) (by omega), own_narC (x := x) (by omega)]
theorem own_lowF {c : Int32} (hc : 0 ≤ c.toInt ∧ c.toInt < 65536) (h : c.toInt < 65 ∨ 90 < c.toInt) : own_F2 c = c := by
  unfold own_F2
  by_cases h1 : c < (65 : Int32)
  · rw [if_pos h1]; exact own_narC hc
  · rw [if_neg h1]
    have h1' : ¬ c.toInt < 65 := fun q => h1 (Int32.lt_iff_toInt_lt.mpr (by rw [show (65 : Int32).toInt = 65 by decide]; exact q))
    have h2 : (90 : Int32) < c := by rw [Int32.lt_iff_toInt_lt, show (90 : Int32).toInt = 90 by decide]; omega
    rw [if_pos h2]; exact own_narC hc
theorem own_upF {c : Int32} (h : 65 ≤ c.toInt ∧ c.toInt ≤ 90) : own_F2 c = c + (32 : Int32) ∧ (c + (32 : Int32)).toInt = c.toInt + 32 := by
  have a := c_iadd c (32 : Int32)
  rw [show (32 : Int32).toInt = 32 by decide] at a
  have r := rng32 (c + 32)
  have e : (c + (32 : Int32)).toInt = c.toInt + 32 := by omega
  refine ⟨?_, e⟩
  unfold own_F2
  rw [if_neg (fun q => by have q' := Int32.lt_iff_toInt_lt.mp q; rw [show (65 : Int32).toInt = 65 by decide] at q'; omega), if_neg (fun q => by have q' := Int32.lt_iff_toInt_lt.mp q; rw [show (90 : Int32).toInt = 90 by decide] at q'; omega)]
  rw [own_nar (by omega), own_narC (by omega)]
theorem own_sub65 {c : Int32} (hc : 0 ≤ c.toInt ∧ c.toInt < 65536) : (c - (65 : Int32)).toInt = c.toInt - 65 := by
  have a := c_isub c (65 : Int32)
  rw [show (65 : Int32).toInt = 65 by decide] at a
  have r := rng32 (c - 65)
  omega
theorem own_low1 {c : Int32} (hc : 0 ≤ c.toInt ∧ c.toInt < 65536) (h : (c - (65 : Int32)) < (0 : Int32)) : own_F2 c = c := by
  have h' := Int32.lt_iff_toInt_lt.mp h
  rw [own_sub65 hc, show (0 : Int32).toInt = 0 by decide] at h'
  exact own_lowF hc (by omega)
theorem own_low2 {c : Int32} (hc : 0 ≤ c.toInt ∧ c.toInt < 65536) (h : ¬ (c - (65 : Int32)) < (26 : Int32)) : own_F2 c = c := by
  have h' : ¬ (c - (65 : Int32)).toInt < 26 := fun q => h (Int32.lt_iff_toInt_lt.mpr (by rw [show (26 : Int32).toInt = 26 by decide]; exact q))
  rw [own_sub65 hc] at h'
  exact own_lowF hc (by omega)
theorem own_mid {c : Int32} (hc : 0 ≤ c.toInt ∧ c.toInt < 65536) (h0 : ¬ (c - (65 : Int32)) < (0 : Int32)) (h1 : (c - (65 : Int32)) < (26 : Int32)) : nar .char (own_c8 ((c - (65 : Int32)) + (65 : Int32))) = c ∧ own_F2 c = nar .char (own_c8 ((c - (65 : Int32)) + (97 : Int32))) ∧ own_F2 (own_F2 c) = own_F2 c := by
  have s := own_sub65 hc
  have h0' : ¬ (c - (65 : Int32)).toInt < 0 := fun q => h0 (Int32.lt_iff_toInt_lt.mpr (by rw [show (0 : Int32).toInt = 0 by decide]; exact q))
  have h1' := Int32.lt_iff_toInt_lt.mp h1
  rw [show (26 : Int32).toInt = 26 by decide] at h1'
  have a := c_iadd (c - (65 : Int32)) (65 : Int32)
  rw [show (65 : Int32).toInt = 65 by decide] at a
  have ra := rng32 (c - (65 : Int32) + (65 : Int32))
  have b := c_iadd (c - (65 : Int32)) (97 : Int32)
  rw [show (97 : Int32).toInt = 97 by decide] at b
  have rb := rng32 (c - (65 : Int32) + (97 : Int32))
  have ea : (c - (65 : Int32) + (65 : Int32)).toInt = c.toInt := by omega
  have eb : (c - (65 : Int32) + (97 : Int32)).toInt = c.toInt + 32 := by omega
  have u := own_upF (c := c) (by omega)
  refine ⟨?_, ?_, ?_⟩
  · rw [own_c8_id (by omega)]; exact Int32.toInt_inj.mp ea
  · rw [own_c8_id (by omega), u.1]; exact Int32.toInt_inj.mp (by rw [u.2, eb])
  · rw [u.1]; exact own_lowF (by omega) (by omega)
theorem own_getN : ∀ k, k < 26 → ([(.int (65 : Int32)), (.int (66 : Int32)), (.int (67 : Int32)), (.int (68 : Int32)), (.int (69 : Int32)), (.int (70 : Int32)), (.int (71 : Int32)), (.int (72 : Int32)), (.int (73 : Int32)), (.int (74 : Int32)), (.int (75 : Int32)), (.int (76 : Int32)), (.int (77 : Int32)), (.int (78 : Int32)), (.int (79 : Int32)), (.int (80 : Int32)), (.int (81 : Int32)), (.int (82 : Int32)), (.int (83 : Int32)), (.int (84 : Int32)), (.int (85 : Int32)), (.int (86 : Int32)), (.int (87 : Int32)), (.int (88 : Int32)), (.int (89 : Int32)), (.int (90 : Int32))] : List Value).getD k (.int (0 : Int32)) = .int (k.toInt32 + (65 : Int32)) ∧ ([(.int (97 : Int32)), (.int (98 : Int32)), (.int (99 : Int32)), (.int (100 : Int32)), (.int (101 : Int32)), (.int (102 : Int32)), (.int (103 : Int32)), (.int (104 : Int32)), (.int (105 : Int32)), (.int (106 : Int32)), (.int (107 : Int32)), (.int (108 : Int32)), (.int (109 : Int32)), (.int (110 : Int32)), (.int (111 : Int32)), (.int (112 : Int32)), (.int (113 : Int32)), (.int (114 : Int32)), (.int (115 : Int32)), (.int (116 : Int32)), (.int (117 : Int32)), (.int (118 : Int32)), (.int (119 : Int32)), (.int (120 : Int32)), (.int (121 : Int32)), (.int (122 : Int32))] : List Value).getD k (.int (0 : Int32)) = .int (k.toInt32 + (97 : Int32)) := by
  intro k hk
  match k, hk with
  | 0, _ => exact ⟨rfl, rfl⟩
  | 1, _ => exact ⟨rfl, rfl⟩
  | 2, _ => exact ⟨rfl, rfl⟩
  | 3, _ => exact ⟨rfl, rfl⟩
  | 4, _ => exact ⟨rfl, rfl⟩
  | 5, _ => exact ⟨rfl, rfl⟩
  | 6, _ => exact ⟨rfl, rfl⟩
  | 7, _ => exact ⟨rfl, rfl⟩
  | 8, _ => exact ⟨rfl, rfl⟩
  | 9, _ => exact ⟨rfl, rfl⟩
  | 10, _ => exact ⟨rfl, rfl⟩
  | 11, _ => exact ⟨rfl, rfl⟩
  | 12, _ => exact ⟨rfl, rfl⟩
  | 13, _ => exact ⟨rfl, rfl⟩
  | 14, _ => exact ⟨rfl, rfl⟩
  | 15, _ => exact ⟨rfl, rfl⟩
  | 16, _ => exact ⟨rfl, rfl⟩
  | 17, _ => exact ⟨rfl, rfl⟩
  | 18, _ => exact ⟨rfl, rfl⟩
  | 19, _ => exact ⟨rfl, rfl⟩
  | 20, _ => exact ⟨rfl, rfl⟩
  | 21, _ => exact ⟨rfl, rfl⟩
  | 22, _ => exact ⟨rfl, rfl⟩
  | 23, _ => exact ⟨rfl, rfl⟩
  | 24, _ => exact ⟨rfl, rfl⟩
  | 25, _ => exact ⟨rfl, rfl⟩
  | k + 26, h => exact absurd h (by omega)
theorem own_get {k : Int32} (h0 : ¬ k < (0 : Int32)) (h1 : k < (26 : Int32)) : ([(.int (65 : Int32)), (.int (66 : Int32)), (.int (67 : Int32)), (.int (68 : Int32)), (.int (69 : Int32)), (.int (70 : Int32)), (.int (71 : Int32)), (.int (72 : Int32)), (.int (73 : Int32)), (.int (74 : Int32)), (.int (75 : Int32)), (.int (76 : Int32)), (.int (77 : Int32)), (.int (78 : Int32)), (.int (79 : Int32)), (.int (80 : Int32)), (.int (81 : Int32)), (.int (82 : Int32)), (.int (83 : Int32)), (.int (84 : Int32)), (.int (85 : Int32)), (.int (86 : Int32)), (.int (87 : Int32)), (.int (88 : Int32)), (.int (89 : Int32)), (.int (90 : Int32))] : List Value).getD k.toNatClampNeg (.int (0 : Int32)) = .int (k + (65 : Int32)) ∧ ([(.int (97 : Int32)), (.int (98 : Int32)), (.int (99 : Int32)), (.int (100 : Int32)), (.int (101 : Int32)), (.int (102 : Int32)), (.int (103 : Int32)), (.int (104 : Int32)), (.int (105 : Int32)), (.int (106 : Int32)), (.int (107 : Int32)), (.int (108 : Int32)), (.int (109 : Int32)), (.int (110 : Int32)), (.int (111 : Int32)), (.int (112 : Int32)), (.int (113 : Int32)), (.int (114 : Int32)), (.int (115 : Int32)), (.int (116 : Int32)), (.int (117 : Int32)), (.int (118 : Int32)), (.int (119 : Int32)), (.int (120 : Int32)), (.int (121 : Int32)), (.int (122 : Int32))] : List Value).getD k.toNatClampNeg (.int (0 : Int32)) = .int (k + (97 : Int32)) := by
  have q := own_getN k.toNatClampNeg (by
    rw [Int32.lt_iff_toInt_lt, show (26 : Int32).toInt = 26 by decide] at h1
    simp only [Int32.toNatClampNeg]
    omega)
  rw [(back32 h0).1] at q
  exact q
theorem pn_0 : plainFor x = true := plainFor_of_name (x := x) (by first | (simp [plainName, overriddenIn]; done) | decide +kernel)
theorem pd_0_0 : parseMethodDescriptor "(II)C" = some ⟨[.int, .int], some .char⟩ := by decide +kernel
theorem pd_0_1 : parseMethodDescriptor "(C)C" = some ⟨[.char], some .char⟩ := by decide +kernel
theorem pd_0_2 : parseMethodDescriptor "(I)C" = some ⟨[.int], some .char⟩ := by decide +kernel
theorem ef_0 (m : MethodId) (p1 : Int32) (p2 : Int32) : entryFrame m #[(.int p1), (.int p2)] maxLocals = mkF m 0 #[.val (.int p1), .val (.int p2), .unset, .unset, .unset, .unset] [] := by first | (simp [entryFrame, mkF, argsToLocals, Value.category, maxLocals]; done) | rfl
def own_Q_rm0 (Z : State) (p1 : Int32) (p2 : Int32) (G1 : Int32) (G3 : Value) (h0 : Heap) (n0 : Nat) (v : Option Value) (h : Heap) (L : List Loc) : Prop := v = some (.int (1 : Int32)) ∧ Fr n0 L ∧ True
set_option maxRecDepth 65536 in
set_option maxHeartbeats 40000000 in
theorem rm0 (l : Launch) (Z : State) (a0 : Array Value) (hw : ∀ d ∈ tables_1, d.before a0 Z = true) (ws : List Jvm.Cond) (p1 : Int32) (p2 : Int32) (G1 : Int32) (G3 : Value) (h0 : Heap) (n0 : Nat) (Z0 : n0 ≤ h0.size) (hz0 : Z.heap = h0) (hn0 : n0 = h0.size) (hh : ∀ q ∈ consts_1, Jvm.Lit.constHeld Z q.1 q.2) (hcw : Jvm.Lit.compactW.before a0 Z = true) (O2 : Sta Z h0 "java/lang/String" "COMPACT_STRINGS" "Z" (.int G1)) (O4 : Sta Z h0 "jdk/internal/util/Preconditions" "SIOOBE_FORMATTER" "Ljava/util/function/BiFunction;" G3) (P5 : ¬ (G1 = (0 : Int32))) (rG3 : G3.isRef = true) :
    MetFree l x (head1 (Jvm.Cond.code x code maxLocals ret :: ws) room_1) (fun a U => a = #[(.int p1), (.int p2)] ∧ U = Z) (fun _ _ _ _ _ => True) (fun _ U o U' => ∃ v L, o = .returned v ∧ own_Q_rm0 Z p1 p2 G1 G3 h0 n0 v U'.heap L ∧ FramedW U o U' L 8 2112) := by
  refine MetFree.of_bodySF pn_0 hisR ?_
  intro p e s m args below meth c s₁ Bd hml0 hP hK
  obtain ⟨rfl, hs⟩ := hP
  have hx := Bd.exec
  have hby := Bd.bytes
  have hml : c.maxLocals = 6 := hml0
  have hown : s.vm.findClass "org/forwardtrace/reading/PrintedTextToLowerCasePinLaw" = some m.cls := findClass_of_methodNamed Bd.named
  have hZ : Z.Warmed39 s.vm := by rw [hs]; exact State.Warmed39.refl Z
  have hhp : s.heap = h0 := by rw [hs]; exact hz0
  have X0 : Stand p l e room_1 (s.setVm s.vm) m #[(.int p1), (.int p2)] below meth c s₁ [] 0 0 := (Stand.of_body Bd : Stand p l e room_1 s m #[(.int p1), (.int p2)] below meth c s₁ [] 0 0)
  have e0 : s₁.heap = h0 := by rw [← hhp, Bd.state]; rfl
  have N0 := Fr.nil n0
  have I0 : IB Z s.vm [] := by rw [hs]; exact IB.start
  have S0 : s.Since s.vm h0.size := (State.WarmedH.refl s).since _
  have hkeep : ∀ (b : Addr) (cl : Cell), Z.heap[b]? = some cl → s.heap[b]? = some cl := by rw [hs]; exact fun _ _ q => q
  have hsz : s.heap.size = n0 := by rw [hhp, hn0]
  have hwS : ∀ d ∈ Bundle.stringAtoms, d.before a0 Z = true := fun d hd => hw d ((by decide +kernel : ∀ d ∈ Bundle.stringAtoms, d ∈ tables_1) d hd)
  show own_FinW p.tables e below s (8) (2112) (own_Q_rm0 Z p1 p2 G1 G3 h0 n0) (s₁.setTop (entryFrame m #[(.int p1), (.int p2)] maxLocals))
  rw [ef_0 m p1 p2]
  show own_FinW _ _ _ _ _ _ _ (s₁.setTop (mkF m 0 #[.val (.int p1), .val (.int p2), .unset, .unset, .unset, .unset] []))
  refine own_stW (fun t k => XS.iloadN X0.here hx rfl (hb hby at_0) rfl k) ?_
  show own_FinW _ _ _ _ _ _ _ (s₁.setTop (mkF m 1 #[.val (.int p1), .val (.int p2), .unset, .unset, .unset, .unset] [(.int p1)]))
  refine own_stW (fun t k => XS.iconst X0.here hx rfl (hb hby at_1) k) ?_
  show own_FinW _ _ _ _ _ _ _ (s₁.setTop (mkF m 2 #[.val (.int p1), .val (.int p2), .unset, .unset, .unset, .unset] [(.int (3 : Int32)), (.int p1)]))
  refine own_stW (fun t k => XS.iand X0.here hx rfl (hb hby at_2) rfl k) ?_
  show own_FinW _ _ _ _ _ _ _ (s₁.setTop (mkF m 3 #[.val (.int p1), .val (.int p2), .unset, .unset, .unset, .unset] [(.int (p1 &&& (3 : Int32)))]))
  refine own_stW (fun t k => XS.iloadN X0.here hx rfl (hb hby at_3) rfl k) ?_
  show own_FinW _ _ _ _ _ _ _ (s₁.setTop (mkF m 4 #[.val (.int p1), .val (.int p2), .unset, .unset, .unset, .unset] [(.int p2), (.int (p1 &&& (3 : Int32)))]))
  obtain ⟨_, _, ⟨T1, L1, k1, n1⟩, -, X1, ⟨Lc1, hQ1, l1, y1, z1⟩, st1⟩ := Jvm.LawKit.callS X0 hx (y := (⟨"org/forwardtrace/reading/PrintedTextToLowerCasePinLaw", "draw", "(II)C"⟩ : MethodName)) hown (mvT hZ (hw _ (List.mem_of_getElem? (i := 0) rfl))) (mvT hZ (hw _ (List.mem_of_getElem? (i := 1) rfl))) (mvT hZ (hw _ (List.mem_of_getElem? (i := 2) rfl))) (mvT hZ (hw _ (List.mem_of_getElem? (i := 3) rfl))) (by decide) (backOf (W := 0) (rm1 l Z a0 hw [] (p1 &&& (3 : Int32)) p2 h0 n0 Z0) hZ (hw _ (List.mem_of_getElem? (i := 3) rfl)) (hw _ (List.mem_of_getElem? (i := 2) rfl)) (by decide) (by decide)) (g := (mkF m 4 #[.val (.int p1), .val (.int p2), .unset, .unset, .unset, .unset] [(.int p2), (.int (p1 &&& (3 : Int32)))])) rfl (by rw [hml]; rfl) (argsL := [(.int (p1 &&& (3 : Int32))), (.int p2)]) (rest := []) (lenOf pd_0_0 rfl) rfl (by show 2 * 0 + _ ≤ _; exact Nat.le_of_eq rfl) (hb hby at_4) (fun _ _ => ⟨rfl, e0, (by decide : 0 + 0 ≤ _), (by decide : 0 + 0 ≤ _)⟩)
  dsimp only [Pt.U, Pt.locs, Pt.cells, Pt.slots] at X1 l1 y1 z1 st1 hQ1
  subst l1 y1 z1
  obtain ⟨rfl, N1q, e1⟩ := hQ1
  have N1 := Fr.app N0 N1q
  refine own_stW st1 ?_
  show own_FinW _ _ _ _ _ _ _ (T1.setTop (mkF m 7 #[.val (.int p1), .val (.int p2), .unset, .unset, .unset, .unset] [(.int (own_F1 (p1 &&& (3 : Int32)) p2))]))
  obtain ⟨cc, hcc⟩ : ∃ z, z = (own_F1 (p1 &&& (3 : Int32)) p2) := ⟨_, rfl⟩
  rw [← hcc]
  have hcr : 0 ≤ cc.toInt ∧ cc.toInt < 65536 := by rw [hcc]; exact own_draw _ _
  refine own_stW (fun t k => XS.istoreN X1.here hx rfl (hb hby at_7) rfl (l' := #[.val (.int p1), .val (.int p2), .val (.int cc), .unset, .unset, .unset]) rfl k) ?_
  show own_FinW _ _ _ _ _ _ _ (T1.setTop (mkF m 8 #[.val (.int p1), .val (.int p2), .val (.int cc), .unset, .unset, .unset] []))
  refine own_stW (fun t k => XS.iloadN X1.here hx rfl (hb hby at_8) rfl k) ?_
  show own_FinW _ _ _ _ _ _ _ (T1.setTop (mkF m 9 #[.val (.int p1), .val (.int p2), .val (.int cc), .unset, .unset, .unset] [(.int cc)]))
  obtain ⟨_, _, ⟨T2, L2, k2, n2⟩, -, X2, ⟨Lc2, hQ2, l2, y2, z2⟩, st2⟩ := Jvm.LawKit.callS X1 hx (y := (⟨"org/forwardtrace/reading/PrintedText", "toLowerCase", "(C)C"⟩ : MethodName)) hown (mvT hZ (hw _ (List.mem_of_getElem? (i := 5) rfl))) (mvT hZ (hw _ (List.mem_of_getElem? (i := 6) rfl))) (mvT hZ (hw _ (List.mem_of_getElem? (i := 7) rfl))) (mvT hZ (hw _ (List.mem_of_getElem? (i := 8) rfl))) (by decide) (backOf (W := 0) (rm2 l Z a0 hw [] cc h0 n0 Z0) hZ (hw _ (List.mem_of_getElem? (i := 8) rfl)) (hw _ (List.mem_of_getElem? (i := 7) rfl)) (by decide) (by decide)) (g := (mkF m 9 #[.val (.int p1), .val (.int p2), .val (.int cc), .unset, .unset, .unset] [(.int cc)])) rfl (by rw [hml]; rfl) (argsL := [(.int cc)]) (rest := []) (lenOf pd_0_1 rfl) rfl (by show 2 * 0 + _ ≤ _; exact Nat.le_of_eq rfl) (hb hby at_9) (fun _ _ => ⟨rfl, e1, (by decide : 0 + 0 ≤ _), (by decide : 0 + 0 ≤ _)⟩)
  dsimp only [Pt.U, Pt.locs, Pt.cells, Pt.slots] at X2 l2 y2 z2 st2 hQ2
  subst l2 y2 z2
  obtain ⟨rfl, N2q, e2⟩ := hQ2
  have N2 := Fr.app N1 N2q
  refine own_stW st2 ?_
  show own_FinW _ _ _ _ _ _ _ (T2.setTop (mkF m 12 #[.val (.int p1), .val (.int p2), .val (.int cc), .unset, .unset, .unset] [(.int (own_F2 cc))]))
  refine own_stW (fun t k => XS.istoreN X2.here hx rfl (hb hby at_12) rfl (l' := #[.val (.int p1), .val (.int p2), .val (.int cc), .val (.int (own_F2 cc)), .unset, .unset]) rfl k) ?_
  show own_FinW _ _ _ _ _ _ _ (T2.setTop (mkF m 13 #[.val (.int p1), .val (.int p2), .val (.int cc), .val (.int (own_F2 cc)), .unset, .unset] []))
  refine own_stW (fun t k => XS.iloadN X2.here hx rfl (hb hby at_13) rfl k) ?_
  show own_FinW _ _ _ _ _ _ _ (T2.setTop (mkF m 14 #[.val (.int p1), .val (.int p2), .val (.int cc), .val (.int (own_F2 cc)), .unset, .unset] [(.int cc)]))
  refine own_stW (fun t k => XS.bipush X2.here hx rfl (hb hby at_14) k) ?_
  show own_FinW _ _ _ _ _ _ _ (T2.setTop (mkF m 16 #[.val (.int p1), .val (.int p2), .val (.int cc), .val (.int (own_F2 cc)), .unset, .unset] [(.int (65 : Int32)), (.int cc)]))
  refine own_stW (fun t k => XS.isub X2.here hx rfl (hb hby at_16) rfl k) ?_
  show own_FinW _ _ _ _ _ _ _ (T2.setTop (mkF m 17 #[.val (.int p1), .val (.int p2), .val (.int cc), .val (.int (own_F2 cc)), .unset, .unset] [(.int (cc - (65 : Int32)))]))
  refine own_stW (fun t k => XS.istore X2.here hx rfl (hb hby at_17) rfl (l' := #[.val (.int p1), .val (.int p2), .val (.int cc), .val (.int (own_F2 cc)), .val (.int (cc - (65 : Int32))), .unset]) rfl k) ?_
  show own_FinW _ _ _ _ _ _ _ (T2.setTop (mkF m 19 #[.val (.int p1), .val (.int p2), .val (.int cc), .val (.int (own_F2 cc)), .val (.int (cc - (65 : Int32))), .unset] []))
  refine own_stW (fun t k => XS.iload X2.here hx rfl (hb hby at_19) rfl k) ?_
  show own_FinW _ _ _ _ _ _ _ (T2.setTop (mkF m 21 #[.val (.int p1), .val (.int p2), .val (.int cc), .val (.int (own_F2 cc)), .val (.int (cc - (65 : Int32))), .unset] [(.int (cc - (65 : Int32)))]))
  by_cases hc21_3 : (cc - (65 : Int32)) < (0 : Int32)
  · refine own_stW (fun t k => XS.ifYes X2.here hx rfl (pc0 := 21) (pc' := 56) rfl (hb hby at_21) rfl ((if0 _ _).trans (tlt hc21_3).1) (by decide) (by decide) k) ?_
    show own_FinW _ _ _ _ _ _ _ (T2.setTop (mkF m 56 #[.val (.int p1), .val (.int p2), .val (.int cc), .val (.int (own_F2 cc)), .val (.int (cc - (65 : Int32))), .unset] []))
    refine own_stW (fun t k => XS.iloadN X2.here hx rfl (hb hby at_56) rfl k) ?_
    show own_FinW _ _ _ _ _ _ _ (T2.setTop (mkF m 57 #[.val (.int p1), .val (.int p2), .val (.int cc), .val (.int (own_F2 cc)), .val (.int (cc - (65 : Int32))), .unset] [(.int cc)]))
    refine own_stW (fun t k => XS.istore X2.here hx rfl (hb hby at_57) rfl (l' := #[.val (.int p1), .val (.int p2), .val (.int cc), .val (.int (own_F2 cc)), .val (.int (cc - (65 : Int32))), .val (.int cc)]) rfl k) ?_
    show own_FinW _ _ _ _ _ _ _ (T2.setTop (mkF m 59 #[.val (.int p1), .val (.int p2), .val (.int cc), .val (.int (own_F2 cc)), .val (.int (cc - (65 : Int32))), .val (.int cc)] []))
    refine own_stW (fun t k => XS.iloadN X2.here hx rfl (hb hby at_59) rfl k) ?_
    show own_FinW _ _ _ _ _ _ _ (T2.setTop (mkF m 60 #[.val (.int p1), .val (.int p2), .val (.int cc), .val (.int (own_F2 cc)), .val (.int (cc - (65 : Int32))), .val (.int cc)] [(.int (own_F2 cc))]))
    refine own_stW (fun t k => XS.iload X2.here hx rfl (hb hby at_60) rfl k) ?_
    show own_FinW _ _ _ _ _ _ _ (T2.setTop (mkF m 62 #[.val (.int p1), .val (.int p2), .val (.int cc), .val (.int (own_F2 cc)), .val (.int (cc - (65 : Int32))), .val (.int cc)] [(.int cc), (.int (own_F2 cc))]))
    have hd62_4 : (own_F2 cc) = cc := (own_low1 hcr hc21_3)
    refine own_stW (fun t k => XS.icmpNo X2.here hx rfl (hb hby at_62) rfl (teq hd62_4).2 k) ?_
    show own_FinW _ _ _ _ _ _ _ (T2.setTop (mkF m 65 #[.val (.int p1), .val (.int p2), .val (.int cc), .val (.int (own_F2 cc)), .val (.int (cc - (65 : Int32))), .val (.int cc)] []))
    refine own_stW (fun t k => XS.iloadN X2.here hx rfl (hb hby at_65) rfl k) ?_
    show own_FinW _ _ _ _ _ _ _ (T2.setTop (mkF m 66 #[.val (.int p1), .val (.int p2), .val (.int cc), .val (.int (own_F2 cc)), .val (.int (cc - (65 : Int32))), .val (.int cc)] [(.int (own_F2 cc))]))
    obtain ⟨_, _, ⟨T5, L5, k5, n5⟩, -, X5, ⟨Lc5, hQ5, l5, y5, z5⟩, st5⟩ := Jvm.LawKit.callS X2 hx (y := (⟨"org/forwardtrace/reading/PrintedText", "toLowerCase", "(C)C"⟩ : MethodName)) hown (mvT hZ (hw _ (List.mem_of_getElem? (i := 5) rfl))) (mvT hZ (hw _ (List.mem_of_getElem? (i := 6) rfl))) (mvT hZ (hw _ (List.mem_of_getElem? (i := 7) rfl))) (mvT hZ (hw _ (List.mem_of_getElem? (i := 8) rfl))) (by decide) (backOf (W := 0) (rm2 l Z a0 hw [] (own_F2 cc) h0 n0 Z0) hZ (hw _ (List.mem_of_getElem? (i := 8) rfl)) (hw _ (List.mem_of_getElem? (i := 7) rfl)) (by decide) (by decide)) (g := (mkF m 66 #[.val (.int p1), .val (.int p2), .val (.int cc), .val (.int (own_F2 cc)), .val (.int (cc - (65 : Int32))), .val (.int cc)] [(.int (own_F2 cc))])) rfl (by rw [hml]; rfl) (argsL := [(.int (own_F2 cc))]) (rest := []) (lenOf pd_0_1 rfl) rfl (by show 2 * 0 + _ ≤ _; exact Nat.le_of_eq rfl) (hb hby at_66) (fun _ _ => ⟨rfl, e2, (by decide : 0 + 0 ≤ _), (by decide : 0 + 0 ≤ _)⟩)
    dsimp only [Pt.U, Pt.locs, Pt.cells, Pt.slots] at X5 l5 y5 z5 st5 hQ5
    subst l5 y5 z5
    obtain ⟨rfl, N5q, e5⟩ := hQ5
    have N5 := Fr.app N2 N5q
    refine own_stW st5 ?_
    show own_FinW _ _ _ _ _ _ _ (T5.setTop (mkF m 69 #[.val (.int p1), .val (.int p2), .val (.int cc), .val (.int (own_F2 cc)), .val (.int (cc - (65 : Int32))), .val (.int cc)] [(.int (own_F2 (own_F2 cc)))]))
    refine own_stW (fun t k => XS.iloadN X5.here hx rfl (hb hby at_69) rfl k) ?_
    show own_FinW _ _ _ _ _ _ _ (T5.setTop (mkF m 70 #[.val (.int p1), .val (.int p2), .val (.int cc), .val (.int (own_F2 cc)), .val (.int (cc - (65 : Int32))), .val (.int cc)] [(.int (own_F2 cc)), (.int (own_F2 (own_F2 cc)))]))
    have hd70_6 : (own_F2 (own_F2 cc)) = (own_F2 cc) := by rw [(own_low1 hcr hc21_3), (own_low1 hcr hc21_3)]
    refine own_stW (fun t k => XS.icmpNo X5.here hx rfl (hb hby at_70) rfl (teq hd70_6).2 k) ?_
    show own_FinW _ _ _ _ _ _ _ (T5.setTop (mkF m 73 #[.val (.int p1), .val (.int p2), .val (.int cc), .val (.int (own_F2 cc)), .val (.int (cc - (65 : Int32))), .val (.int cc)] []))
    refine own_stW (fun t k => XS.iconst X5.here hx rfl (hb hby at_73) k) ?_
    show own_FinW _ _ _ _ _ _ _ (T5.setTop (mkF m 74 #[.val (.int p1), .val (.int p2), .val (.int cc), .val (.int (own_F2 cc)), .val (.int (cc - (65 : Int32))), .val (.int cc)] [(.int (1 : Int32))]))
    refine own_stW (fun t k => XS.goto X5.here hx rfl (pc0 := 74) (pc' := 78) rfl (hb hby at_74) (by decide) (by decide) k) ?_
    show own_FinW _ _ _ _ _ _ _ (T5.setTop (mkF m 78 #[.val (.int p1), .val (.int p2), .val (.int cc), .val (.int (own_F2 cc)), .val (.int (cc - (65 : Int32))), .val (.int cc)] [(.int (1 : Int32))]))
    exact own_retNW X5 S0 (by rw [e5]; exact (Nat.le_refl _)) hx Bd.notSynchronized (t := .boolean) Bd.returns (by simp) (hb hby at_78) (by decide) (by decide) ⟨rfl, N5, trivial⟩
  · refine own_stW (fun t k => XS.ifNo X2.here hx rfl (hb hby at_21) rfl ((if0 _ _).trans (flt hc21_3).1) k) ?_
    show own_FinW _ _ _ _ _ _ _ (T2.setTop (mkF m 24 #[.val (.int p1), .val (.int p2), .val (.int cc), .val (.int (own_F2 cc)), .val (.int (cc - (65 : Int32))), .unset] []))
    refine own_stW (fun t k => XS.iload X2.here hx rfl (hb hby at_24) rfl k) ?_
    show own_FinW _ _ _ _ _ _ _ (T2.setTop (mkF m 26 #[.val (.int p1), .val (.int p2), .val (.int cc), .val (.int (own_F2 cc)), .val (.int (cc - (65 : Int32))), .unset] [(.int (cc - (65 : Int32)))]))
    refine own_stW (fun t k => XS.bipush X2.here hx rfl (hb hby at_26) k) ?_
    show own_FinW _ _ _ _ _ _ _ (T2.setTop (mkF m 28 #[.val (.int p1), .val (.int p2), .val (.int cc), .val (.int (own_F2 cc)), .val (.int (cc - (65 : Int32))), .unset] [(.int (26 : Int32)), (.int (cc - (65 : Int32)))]))
    by_cases hc28_7 : (cc - (65 : Int32)) < (26 : Int32)
    · refine own_stW (fun t k => XS.icmpNo X2.here hx rfl (hb hby at_28) rfl (tlt hc28_7).2.1 k) ?_
      show own_FinW _ _ _ _ _ _ _ (T2.setTop (mkF m 31 #[.val (.int p1), .val (.int p2), .val (.int cc), .val (.int (own_F2 cc)), .val (.int (cc - (65 : Int32))), .unset] []))
      obtain ⟨a8, T8, h8, k8, b8, kb8, X8, e8, E8, S8, ks8, hZ8, ho8, oE8, oC8, oV8, oA8, -, -, I8, st8⟩ := ldcSV (s := s) (vm0 := s.vm) (Ts := []) (text := "ABCDEFGHIJKLMNOPQRSTUVWXYZ") X2 hx hZ hown (hw _ (List.mem_of_getElem? (i := 9) rfl)) hwS e2 S0 (Nat.le_refl _) (by rw [hsz]; exact N2) hkeep I0 (by decide) (hh _ (List.mem_of_getElem? (i := 0) rfl)) hcw (vs := [(.int (65 : Int32)), (.int (66 : Int32)), (.int (67 : Int32)), (.int (68 : Int32)), (.int (69 : Int32)), (.int (70 : Int32)), (.int (71 : Int32)), (.int (72 : Int32)), (.int (73 : Int32)), (.int (74 : Int32)), (.int (75 : Int32)), (.int (76 : Int32)), (.int (77 : Int32)), (.int (78 : Int32)), (.int (79 : Int32)), (.int (80 : Int32)), (.int (81 : Int32)), (.int (82 : Int32)), (.int (83 : Int32)), (.int (84 : Int32)), (.int (85 : Int32)), (.int (86 : Int32)), (.int (87 : Int32)), (.int (88 : Int32)), (.int (89 : Int32)), (.int (90 : Int32))]) (z := (26 : Int32)) (own_text_31) (by decide) rfl (g := (mkF m 31 #[.val (.int p1), .val (.int p2), .val (.int cc), .val (.int (own_F2 cc)), .val (.int (cc - (65 : Int32))), .unset] [])) rfl (hb hby at_31) (n := 104) (own_tlen_31) (by decide) (by decide) (by decide)
      have f8_0 := O2.ext E8
      have f8_1 := O4.ext E8
      have Z8 : n0 ≤ h8.size := Nat.le_trans Z0 E8.1
      have hZ := hZ8
      have hown := ho8
      refine own_stW st8 ?_
      show own_FinW _ _ _ _ _ _ _ (T8.setTop (mkF m 33 #[.val (.int p1), .val (.int p2), .val (.int cc), .val (.int (own_F2 cc)), .val (.int (cc - (65 : Int32))), .unset] [(.ref a8)]))
      refine own_stW (fun t k => XS.iload X8.here hx rfl (hb hby at_33) rfl k) ?_
      show own_FinW _ _ _ _ _ _ _ (T8.setTop (mkF m 35 #[.val (.int p1), .val (.int p2), .val (.int cc), .val (.int (own_F2 cc)), .val (.int (cc - (65 : Int32))), .unset] [(.int (cc - (65 : Int32))), (.ref a8)]))
      obtain ⟨cq9, kq9, qa9, qb9, qc9⟩ := isOf hZ e8 oE8
      obtain ⟨_, _, ⟨T9, L9, k9, n9⟩, -, X9, ⟨Lc9, hQ9, l9, y9, z9⟩, st9⟩ := X8.virtualBack hx (y := (⟨"java/lang/String", "charAt", "(I)C"⟩ : MethodName)) (z := (⟨"java/lang/String", "charAt", "(I)C"⟩ : MethodName)) hown (mvT hZ (hw _ (List.mem_of_getElem? (i := 17) rfl))) (mvT hZ (hw _ (List.mem_of_getElem? (i := 18) rfl))) (notFace_of_selects (args := #[]) (mvT hZ (hw _ (List.mem_of_getElem? (i := 20) rfl)))) (mvT hZ (hw _ (List.mem_of_getElem? (i := 20) rfl))) (mvT hZ (hw _ (List.mem_of_getElem? (i := 19) rfl))) (by decide) (backOf (W := 0) (rm3 l Z a0 hw [] a8 (cc - (65 : Int32)) G1 G3 b8 kb8 (26 : Int32) [(.int (65 : Int32)), (.int (66 : Int32)), (.int (67 : Int32)), (.int (68 : Int32)), (.int (69 : Int32)), (.int (70 : Int32)), (.int (71 : Int32)), (.int (72 : Int32)), (.int (73 : Int32)), (.int (74 : Int32)), (.int (75 : Int32)), (.int (76 : Int32)), (.int (77 : Int32)), (.int (78 : Int32)), (.int (79 : Int32)), (.int (80 : Int32)), (.int (81 : Int32)), (.int (82 : Int32)), (.int (83 : Int32)), (.int (84 : Int32)), (.int (85 : Int32)), (.int (86 : Int32)), (.int (87 : Int32)), (.int (88 : Int32)), (.int (89 : Int32)), (.int (90 : Int32))] ((cc - (65 : Int32)) + (65 : Int32)) h8 n0 Z8 oE8 oC8 oV8 oA8 f8_0 f8_1 P5 rG3 hc21_3 hc28_7 (own_get hc21_3 hc28_7).1) hZ (hw _ (List.mem_of_getElem? (i := 21) rfl)) (hw _ (List.mem_of_getElem? (i := 10) rfl)) (by decide) (by decide)) qa9 qc9 (g := (mkF m 35 #[.val (.int p1), .val (.int p2), .val (.int cc), .val (.int (own_F2 cc)), .val (.int (cc - (65 : Int32))), .unset] [(.int (cc - (65 : Int32))), (.ref a8)])) rfl (by rw [hml]; rfl) (Steps.refl _) (argsL := [(.int (cc - (65 : Int32)))]) (rest := []) (lenOf pd_0_2 rfl) rfl (by show 2 * 0 + _ ≤ _; exact Nat.le_of_eq rfl) (hb hby at_35) (fun _ _ => ⟨rfl, e8, (by decide : 2 + 0 ≤ _), (by decide : 108 + 0 ≤ _)⟩)
      dsimp only [Pt.U, Pt.locs, Pt.cells, Pt.slots] at X9 l9 y9 z9 st9 hQ9
      subst l9 y9 z9
      obtain ⟨rfl, N9q, e9⟩ := hQ9
      have N9 := Fr.app N2 N9q
      refine own_stW (fun t k => st9.trans k) ?_
      show own_FinW _ _ _ _ _ _ _ (T9.setTop (mkF m 38 #[.val (.int p1), .val (.int p2), .val (.int cc), .val (.int (own_F2 cc)), .val (.int (cc - (65 : Int32))), .unset] [(.int (nar .char (own_c8 ((cc - (65 : Int32)) + (65 : Int32)))))]))
      refine own_stW (fun t k => XS.iloadN X9.here hx rfl (hb hby at_38) rfl k) ?_
      show own_FinW _ _ _ _ _ _ _ (T9.setTop (mkF m 39 #[.val (.int p1), .val (.int p2), .val (.int cc), .val (.int (own_F2 cc)), .val (.int (cc - (65 : Int32))), .unset] [(.int cc), (.int (nar .char (own_c8 ((cc - (65 : Int32)) + (65 : Int32)))))]))
      have hd39_10 : (nar .char (own_c8 ((cc - (65 : Int32)) + (65 : Int32)))) = cc := (own_mid hcr hc21_3 hc28_7).1
      refine own_stW (fun t k => XS.icmpYes X9.here hx rfl (pc0 := 39) (pc' := 44) rfl (hb hby at_39) rfl (teq hd39_10).1 (by decide) (by decide) k) ?_
      show own_FinW _ _ _ _ _ _ _ (T9.setTop (mkF m 44 #[.val (.int p1), .val (.int p2), .val (.int cc), .val (.int (own_F2 cc)), .val (.int (cc - (65 : Int32))), .unset] []))
      obtain ⟨a11, T11, h11, k11, b11, kb11, X11, e11, E11, S11, ks11, hZ11, ho11, oE11, oC11, oV11, oA11, -, -, I11, st11⟩ := ldcSV (s := s) (vm0 := T8.vm) (Ts := ["ABCDEFGHIJKLMNOPQRSTUVWXYZ"]) (text := "abcdefghijklmnopqrstuvwxyz") X9 hx hZ hown (hw _ (List.mem_of_getElem? (i := 42) rfl)) hwS e9 S8 ks8 (by rw [hsz]; exact N9) hkeep I8 (by decide) (hh _ (List.mem_of_getElem? (i := 1) rfl)) hcw (vs := [(.int (97 : Int32)), (.int (98 : Int32)), (.int (99 : Int32)), (.int (100 : Int32)), (.int (101 : Int32)), (.int (102 : Int32)), (.int (103 : Int32)), (.int (104 : Int32)), (.int (105 : Int32)), (.int (106 : Int32)), (.int (107 : Int32)), (.int (108 : Int32)), (.int (109 : Int32)), (.int (110 : Int32)), (.int (111 : Int32)), (.int (112 : Int32)), (.int (113 : Int32)), (.int (114 : Int32)), (.int (115 : Int32)), (.int (116 : Int32)), (.int (117 : Int32)), (.int (118 : Int32)), (.int (119 : Int32)), (.int (120 : Int32)), (.int (121 : Int32)), (.int (122 : Int32))]) (z := (26 : Int32)) (own_text_44) (by decide) rfl (g := (mkF m 44 #[.val (.int p1), .val (.int p2), .val (.int cc), .val (.int (own_F2 cc)), .val (.int (cc - (65 : Int32))), .unset] [])) rfl (hb hby at_44) (n := 104) (own_tlen_44) (by decide) (by decide) (by decide)
      have f11_0 := f8_0.ext E11
      have f11_1 := f8_1.ext E11
      have f11_2 := oE8.ext E11
      have f11_3 := oC8.ext E11
      have f11_4 := oV8.ext E11
      have f11_5 := oA8.ext E11
      have Z11 : n0 ≤ h11.size := Nat.le_trans Z8 E11.1
      have hZ := hZ11
      have hown := ho11
      refine own_stW st11 ?_
      show own_FinW _ _ _ _ _ _ _ (T11.setTop (mkF m 46 #[.val (.int p1), .val (.int p2), .val (.int cc), .val (.int (own_F2 cc)), .val (.int (cc - (65 : Int32))), .unset] [(.ref a11)]))
      refine own_stW (fun t k => XS.iload X11.here hx rfl (hb hby at_46) rfl k) ?_
      show own_FinW _ _ _ _ _ _ _ (T11.setTop (mkF m 48 #[.val (.int p1), .val (.int p2), .val (.int cc), .val (.int (own_F2 cc)), .val (.int (cc - (65 : Int32))), .unset] [(.int (cc - (65 : Int32))), (.ref a11)]))
      obtain ⟨cq12, kq12, qa12, qb12, qc12⟩ := isOf hZ e11 oE11
      obtain ⟨_, _, ⟨T12, L12, k12, n12⟩, -, X12, ⟨Lc12, hQ12, l12, y12, z12⟩, st12⟩ := X11.virtualBack hx (y := (⟨"java/lang/String", "charAt", "(I)C"⟩ : MethodName)) (z := (⟨"java/lang/String", "charAt", "(I)C"⟩ : MethodName)) hown (mvT hZ (hw _ (List.mem_of_getElem? (i := 17) rfl))) (mvT hZ (hw _ (List.mem_of_getElem? (i := 18) rfl))) (notFace_of_selects (args := #[]) (mvT hZ (hw _ (List.mem_of_getElem? (i := 20) rfl)))) (mvT hZ (hw _ (List.mem_of_getElem? (i := 20) rfl))) (mvT hZ (hw _ (List.mem_of_getElem? (i := 19) rfl))) (by decide) (backOf (W := 0) (rm3 l Z a0 hw [] a11 (cc - (65 : Int32)) G1 G3 b11 kb11 (26 : Int32) [(.int (97 : Int32)), (.int (98 : Int32)), (.int (99 : Int32)), (.int (100 : Int32)), (.int (101 : Int32)), (.int (102 : Int32)), (.int (103 : Int32)), (.int (104 : Int32)), (.int (105 : Int32)), (.int (106 : Int32)), (.int (107 : Int32)), (.int (108 : Int32)), (.int (109 : Int32)), (.int (110 : Int32)), (.int (111 : Int32)), (.int (112 : Int32)), (.int (113 : Int32)), (.int (114 : Int32)), (.int (115 : Int32)), (.int (116 : Int32)), (.int (117 : Int32)), (.int (118 : Int32)), (.int (119 : Int32)), (.int (120 : Int32)), (.int (121 : Int32)), (.int (122 : Int32))] ((cc - (65 : Int32)) + (97 : Int32)) h11 n0 Z11 oE11 oC11 oV11 oA11 f11_0 f11_1 P5 rG3 hc21_3 hc28_7 (own_get hc21_3 hc28_7).2) hZ (hw _ (List.mem_of_getElem? (i := 21) rfl)) (hw _ (List.mem_of_getElem? (i := 10) rfl)) (by decide) (by decide)) qa12 qc12 (g := (mkF m 48 #[.val (.int p1), .val (.int p2), .val (.int cc), .val (.int (own_F2 cc)), .val (.int (cc - (65 : Int32))), .unset] [(.int (cc - (65 : Int32))), (.ref a11)])) rfl (by rw [hml]; rfl) (Steps.refl _) (argsL := [(.int (cc - (65 : Int32)))]) (rest := []) (lenOf pd_0_2 rfl) rfl (by show 2 * 0 + _ ≤ _; exact Nat.le_of_eq rfl) (hb hby at_48) (fun _ _ => ⟨rfl, e11, (by decide : 4 + 0 ≤ _), (by decide : 216 + 0 ≤ _)⟩)
      dsimp only [Pt.U, Pt.locs, Pt.cells, Pt.slots] at X12 l12 y12 z12 st12 hQ12
      subst l12 y12 z12
      obtain ⟨rfl, N12q, e12⟩ := hQ12
      have N12 := Fr.app N9 N12q
      refine own_stW (fun t k => st12.trans k) ?_
      show own_FinW _ _ _ _ _ _ _ (T12.setTop (mkF m 51 #[.val (.int p1), .val (.int p2), .val (.int cc), .val (.int (own_F2 cc)), .val (.int (cc - (65 : Int32))), .unset] [(.int (nar .char (own_c8 ((cc - (65 : Int32)) + (97 : Int32)))))]))
      refine own_stW (fun t k => XS.istore X12.here hx rfl (hb hby at_51) rfl (l' := #[.val (.int p1), .val (.int p2), .val (.int cc), .val (.int (own_F2 cc)), .val (.int (cc - (65 : Int32))), .val (.int (nar .char (own_c8 ((cc - (65 : Int32)) + (97 : Int32)))))]) rfl k) ?_
      show own_FinW _ _ _ _ _ _ _ (T12.setTop (mkF m 53 #[.val (.int p1), .val (.int p2), .val (.int cc), .val (.int (own_F2 cc)), .val (.int (cc - (65 : Int32))), .val (.int (nar .char (own_c8 ((cc - (65 : Int32)) + (97 : Int32)))))] []))
      refine own_stW (fun t k => XS.goto X12.here hx rfl (pc0 := 53) (pc' := 59) rfl (hb hby at_53) (by decide) (by decide) k) ?_
      show own_FinW _ _ _ _ _ _ _ (T12.setTop (mkF m 59 #[.val (.int p1), .val (.int p2), .val (.int cc), .val (.int (own_F2 cc)), .val (.int (cc - (65 : Int32))), .val (.int (nar .char (own_c8 ((cc - (65 : Int32)) + (97 : Int32)))))] []))
      refine own_stW (fun t k => XS.iloadN X12.here hx rfl (hb hby at_59) rfl k) ?_
      show own_FinW _ _ _ _ _ _ _ (T12.setTop (mkF m 60 #[.val (.int p1), .val (.int p2), .val (.int cc), .val (.int (own_F2 cc)), .val (.int (cc - (65 : Int32))), .val (.int (nar .char (own_c8 ((cc - (65 : Int32)) + (97 : Int32)))))] [(.int (own_F2 cc))]))
      refine own_stW (fun t k => XS.iload X12.here hx rfl (hb hby at_60) rfl k) ?_
      show own_FinW _ _ _ _ _ _ _ (T12.setTop (mkF m 62 #[.val (.int p1), .val (.int p2), .val (.int cc), .val (.int (own_F2 cc)), .val (.int (cc - (65 : Int32))), .val (.int (nar .char (own_c8 ((cc - (65 : Int32)) + (97 : Int32)))))] [(.int (nar .char (own_c8 ((cc - (65 : Int32)) + (97 : Int32))))), (.int (own_F2 cc))]))
      have hd62_13 : (own_F2 cc) = (nar .char (own_c8 ((cc - (65 : Int32)) + (97 : Int32)))) := (own_mid hcr hc21_3 hc28_7).2.1
      refine own_stW (fun t k => XS.icmpNo X12.here hx rfl (hb hby at_62) rfl (teq hd62_13).2 k) ?_
      show own_FinW _ _ _ _ _ _ _ (T12.setTop (mkF m 65 #[.val (.int p1), .val (.int p2), .val (.int cc), .val (.int (own_F2 cc)), .val (.int (cc - (65 : Int32))), .val (.int (nar .char (own_c8 ((cc - (65 : Int32)) + (97 : Int32)))))] []))
      refine own_stW (fun t k => XS.iloadN X12.here hx rfl (hb hby at_65) rfl k) ?_
      show own_FinW _ _ _ _ _ _ _ (T12.setTop (mkF m 66 #[.val (.int p1), .val (.int p2), .val (.int cc), .val (.int (own_F2 cc)), .val (.int (cc - (65 : Int32))), .val (.int (nar .char (own_c8 ((cc - (65 : Int32)) + (97 : Int32)))))] [(.int (own_F2 cc))]))
      obtain ⟨_, _, ⟨T14, L14, k14, n14⟩, -, X14, ⟨Lc14, hQ14, l14, y14, z14⟩, st14⟩ := Jvm.LawKit.callS X12 hx (y := (⟨"org/forwardtrace/reading/PrintedText", "toLowerCase", "(C)C"⟩ : MethodName)) hown (mvT hZ (hw _ (List.mem_of_getElem? (i := 5) rfl))) (mvT hZ (hw _ (List.mem_of_getElem? (i := 6) rfl))) (mvT hZ (hw _ (List.mem_of_getElem? (i := 7) rfl))) (mvT hZ (hw _ (List.mem_of_getElem? (i := 8) rfl))) (by decide) (backOf (W := 0) (rm2 l Z a0 hw [] (own_F2 cc) h11 n0 Z11) hZ (hw _ (List.mem_of_getElem? (i := 8) rfl)) (hw _ (List.mem_of_getElem? (i := 7) rfl)) (by decide) (by decide)) (g := (mkF m 66 #[.val (.int p1), .val (.int p2), .val (.int cc), .val (.int (own_F2 cc)), .val (.int (cc - (65 : Int32))), .val (.int (nar .char (own_c8 ((cc - (65 : Int32)) + (97 : Int32)))))] [(.int (own_F2 cc))])) rfl (by rw [hml]; rfl) (argsL := [(.int (own_F2 cc))]) (rest := []) (lenOf pd_0_1 rfl) rfl (by show 2 * 0 + _ ≤ _; exact Nat.le_of_eq rfl) (hb hby at_66) (fun _ _ => ⟨rfl, e12, (by decide : 4 + 0 ≤ _), (by decide : 216 + 0 ≤ _)⟩)
      dsimp only [Pt.U, Pt.locs, Pt.cells, Pt.slots] at X14 l14 y14 z14 st14 hQ14
      subst l14 y14 z14
      obtain ⟨rfl, N14q, e14⟩ := hQ14
      have N14 := Fr.app N12 N14q
      refine own_stW st14 ?_
      show own_FinW _ _ _ _ _ _ _ (T14.setTop (mkF m 69 #[.val (.int p1), .val (.int p2), .val (.int cc), .val (.int (own_F2 cc)), .val (.int (cc - (65 : Int32))), .val (.int (nar .char (own_c8 ((cc - (65 : Int32)) + (97 : Int32)))))] [(.int (own_F2 (own_F2 cc)))]))
      refine own_stW (fun t k => XS.iloadN X14.here hx rfl (hb hby at_69) rfl k) ?_
      show own_FinW _ _ _ _ _ _ _ (T14.setTop (mkF m 70 #[.val (.int p1), .val (.int p2), .val (.int cc), .val (.int (own_F2 cc)), .val (.int (cc - (65 : Int32))), .val (.int (nar .char (own_c8 ((cc - (65 : Int32)) + (97 : Int32)))))] [(.int (own_F2 cc)), (.int (own_F2 (own_F2 cc)))]))
      have hd70_15 : (own_F2 (own_F2 cc)) = (own_F2 cc) := (own_mid hcr hc21_3 hc28_7).2.2
      refine own_stW (fun t k => XS.icmpNo X14.here hx rfl (hb hby at_70) rfl (teq hd70_15).2 k) ?_
      show own_FinW _ _ _ _ _ _ _ (T14.setTop (mkF m 73 #[.val (.int p1), .val (.int p2), .val (.int cc), .val (.int (own_F2 cc)), .val (.int (cc - (65 : Int32))), .val (.int (nar .char (own_c8 ((cc - (65 : Int32)) + (97 : Int32)))))] []))
      refine own_stW (fun t k => XS.iconst X14.here hx rfl (hb hby at_73) k) ?_
      show own_FinW _ _ _ _ _ _ _ (T14.setTop (mkF m 74 #[.val (.int p1), .val (.int p2), .val (.int cc), .val (.int (own_F2 cc)), .val (.int (cc - (65 : Int32))), .val (.int (nar .char (own_c8 ((cc - (65 : Int32)) + (97 : Int32)))))] [(.int (1 : Int32))]))
      refine own_stW (fun t k => XS.goto X14.here hx rfl (pc0 := 74) (pc' := 78) rfl (hb hby at_74) (by decide) (by decide) k) ?_
      show own_FinW _ _ _ _ _ _ _ (T14.setTop (mkF m 78 #[.val (.int p1), .val (.int p2), .val (.int cc), .val (.int (own_F2 cc)), .val (.int (cc - (65 : Int32))), .val (.int (nar .char (own_c8 ((cc - (65 : Int32)) + (97 : Int32)))))] [(.int (1 : Int32))]))
      exact own_retNW X14 S11 (by rw [e14]; exact ks11) hx Bd.notSynchronized (t := .boolean) Bd.returns (by simp) (hb hby at_78) (by decide) (by decide) ⟨rfl, N14, trivial⟩
    · refine own_stW (fun t k => XS.icmpYes X2.here hx rfl (pc0 := 28) (pc' := 56) rfl (hb hby at_28) rfl (flt hc28_7).2.1 (by decide) (by decide) k) ?_
      show own_FinW _ _ _ _ _ _ _ (T2.setTop (mkF m 56 #[.val (.int p1), .val (.int p2), .val (.int cc), .val (.int (own_F2 cc)), .val (.int (cc - (65 : Int32))), .unset] []))
      refine own_stW (fun t k => XS.iloadN X2.here hx rfl (hb hby at_56) rfl k) ?_
      show own_FinW _ _ _ _ _ _ _ (T2.setTop (mkF m 57 #[.val (.int p1), .val (.int p2), .val (.int cc), .val (.int (own_F2 cc)), .val (.int (cc - (65 : Int32))), .unset] [(.int cc)]))
      refine own_stW (fun t k => XS.istore X2.here hx rfl (hb hby at_57) rfl (l' := #[.val (.int p1), .val (.int p2), .val (.int cc), .val (.int (own_F2 cc)), .val (.int (cc - (65 : Int32))), .val (.int cc)]) rfl k) ?_
      show own_FinW _ _ _ _ _ _ _ (T2.setTop (mkF m 59 #[.val (.int p1), .val (.int p2), .val (.int cc), .val (.int (own_F2 cc)), .val (.int (cc - (65 : Int32))), .val (.int cc)] []))
      refine own_stW (fun t k => XS.iloadN X2.here hx rfl (hb hby at_59) rfl k) ?_
      show own_FinW _ _ _ _ _ _ _ (T2.setTop (mkF m 60 #[.val (.int p1), .val (.int p2), .val (.int cc), .val (.int (own_F2 cc)), .val (.int (cc - (65 : Int32))), .val (.int cc)] [(.int (own_F2 cc))]))
      refine own_stW (fun t k => XS.iload X2.here hx rfl (hb hby at_60) rfl k) ?_
      show own_FinW _ _ _ _ _ _ _ (T2.setTop (mkF m 62 #[.val (.int p1), .val (.int p2), .val (.int cc), .val (.int (own_F2 cc)), .val (.int (cc - (65 : Int32))), .val (.int cc)] [(.int cc), (.int (own_F2 cc))]))
      have hd62_16 : (own_F2 cc) = cc := (own_low2 hcr hc28_7)
      refine own_stW (fun t k => XS.icmpNo X2.here hx rfl (hb hby at_62) rfl (teq hd62_16).2 k) ?_
      show own_FinW _ _ _ _ _ _ _ (T2.setTop (mkF m 65 #[.val (.int p1), .val (.int p2), .val (.int cc), .val (.int (own_F2 cc)), .val (.int (cc - (65 : Int32))), .val (.int cc)] []))
      refine own_stW (fun t k => XS.iloadN X2.here hx rfl (hb hby at_65) rfl k) ?_
      show own_FinW _ _ _ _ _ _ _ (T2.setTop (mkF m 66 #[.val (.int p1), .val (.int p2), .val (.int cc), .val (.int (own_F2 cc)), .val (.int (cc - (65 : Int32))), .val (.int cc)] [(.int (own_F2 cc))]))
      obtain ⟨_, _, ⟨T17, L17, k17, n17⟩, -, X17, ⟨Lc17, hQ17, l17, y17, z17⟩, st17⟩ := Jvm.LawKit.callS X2 hx (y := (⟨"org/forwardtrace/reading/PrintedText", "toLowerCase", "(C)C"⟩ : MethodName)) hown (mvT hZ (hw _ (List.mem_of_getElem? (i := 5) rfl))) (mvT hZ (hw _ (List.mem_of_getElem? (i := 6) rfl))) (mvT hZ (hw _ (List.mem_of_getElem? (i := 7) rfl))) (mvT hZ (hw _ (List.mem_of_getElem? (i := 8) rfl))) (by decide) (backOf (W := 0) (rm2 l Z a0 hw [] (own_F2 cc) h0 n0 Z0) hZ (hw _ (List.mem_of_getElem? (i := 8) rfl)) (hw _ (List.mem_of_getElem? (i := 7) rfl)) (by decide) (by decide)) (g := (mkF m 66 #[.val (.int p1), .val (.int p2), .val (.int cc), .val (.int (own_F2 cc)), .val (.int (cc - (65 : Int32))), .val (.int cc)] [(.int (own_F2 cc))])) rfl (by rw [hml]; rfl) (argsL := [(.int (own_F2 cc))]) (rest := []) (lenOf pd_0_1 rfl) rfl (by show 2 * 0 + _ ≤ _; exact Nat.le_of_eq rfl) (hb hby at_66) (fun _ _ => ⟨rfl, e2, (by decide : 0 + 0 ≤ _), (by decide : 0 + 0 ≤ _)⟩)
      dsimp only [Pt.U, Pt.locs, Pt.cells, Pt.slots] at X17 l17 y17 z17 st17 hQ17
      subst l17 y17 z17
      obtain ⟨rfl, N17q, e17⟩ := hQ17
      have N17 := Fr.app N2 N17q
      refine own_stW st17 ?_
      show own_FinW _ _ _ _ _ _ _ (T17.setTop (mkF m 69 #[.val (.int p1), .val (.int p2), .val (.int cc), .val (.int (own_F2 cc)), .val (.int (cc - (65 : Int32))), .val (.int cc)] [(.int (own_F2 (own_F2 cc)))]))
      refine own_stW (fun t k => XS.iloadN X17.here hx rfl (hb hby at_69) rfl k) ?_
      show own_FinW _ _ _ _ _ _ _ (T17.setTop (mkF m 70 #[.val (.int p1), .val (.int p2), .val (.int cc), .val (.int (own_F2 cc)), .val (.int (cc - (65 : Int32))), .val (.int cc)] [(.int (own_F2 cc)), (.int (own_F2 (own_F2 cc)))]))
      have hd70_18 : (own_F2 (own_F2 cc)) = (own_F2 cc) := by rw [(own_low2 hcr hc28_7), (own_low2 hcr hc28_7)]
      refine own_stW (fun t k => XS.icmpNo X17.here hx rfl (hb hby at_70) rfl (teq hd70_18).2 k) ?_
      show own_FinW _ _ _ _ _ _ _ (T17.setTop (mkF m 73 #[.val (.int p1), .val (.int p2), .val (.int cc), .val (.int (own_F2 cc)), .val (.int (cc - (65 : Int32))), .val (.int cc)] []))
      refine own_stW (fun t k => XS.iconst X17.here hx rfl (hb hby at_73) k) ?_
      show own_FinW _ _ _ _ _ _ _ (T17.setTop (mkF m 74 #[.val (.int p1), .val (.int p2), .val (.int cc), .val (.int (own_F2 cc)), .val (.int (cc - (65 : Int32))), .val (.int cc)] [(.int (1 : Int32))]))
      refine own_stW (fun t k => XS.goto X17.here hx rfl (pc0 := 74) (pc' := 78) rfl (hb hby at_74) (by decide) (by decide) k) ?_
      show own_FinW _ _ _ _ _ _ _ (T17.setTop (mkF m 78 #[.val (.int p1), .val (.int p2), .val (.int cc), .val (.int (own_F2 cc)), .val (.int (cc - (65 : Int32))), .val (.int cc)] [(.int (1 : Int32))]))
      exact own_retNW X17 S0 (by rw [e17]; exact (Nat.le_refl _)) hx Bd.notSynchronized (t := .boolean) Bd.returns (by simp) (hb hby at_78) (by decide) (by decide) ⟨rfl, N17, trivial⟩
set_option maxRecDepth 65536 in
set_option maxHeartbeats 40000000 in
theorem comes_1 {Post : Tables → Env → Array Value → State → Outcome → State → Prop} (hpost : ∀ tb e args s v u, (limb_1_1.after args s (.returned v) u = true ∧ limb_1_2.after args s (.returned v) u = true ∧ True) → FramedW s (.returned v) u (Jvm.fieldLocs frame_1_writes args s ++ Jvm.arrayLocs frame_1_arrays args s ++ Jvm.staticLocs frame_1_statics s) 8 2112 → Post tb e args s (.returned v) u) :
    ArmFor flags0 classFile x code maxLocals ret World_1 tables_1 room_1 Calls_1 rest_1 Pre_1 Post := by
  intro l hfl _ _ p e ha hc hk s m args below hf hA hF happ hP
  obtain ⟨hcalls, hrest, hpre⟩ := hP
  obtain ⟨-, -, -, hnamed, -, -, -, hat⟩ := (Spec.applies_iff hf).mp happ
  obtain ⟨hg, hn⟩ := and_e (Cond.before_iff.mp (show (Jvm.Cond.and given_1 narrow_1).before args s = true from hpre))
  obtain ⟨g3, g4⟩ := and_e hg
  obtain ⟨g5, g6⟩ := and_e g4
  obtain ⟨w0, w1, rfl⟩ : ∃ w0 w1 : Value, args = #[w0, w1] := by
    have hs : args.size = 2 := by simpa [Cond.value, given_1] using g3
    obtain ⟨L⟩ := args
    match L, hs with
    | [w0, w1], _ => exact ⟨w0, w1, rfl⟩
  have hw := fun d (hd : d ∈ tables_1) => atoms_spec (ws := Jvm.Cond.code x code maxLocals ret :: tables_1) hat d (List.mem_cons_of_mem _ hd)
  obtain ⟨i0, ei0⟩ := is_v g5
  obtain rfl : w0 = (.int i0) := Option.some.inj ei0
  obtain ⟨i1, ei1⟩ := is_v g6
  obtain rfl : w1 = (.int i1) := Option.some.inj ei1
  obtain ⟨hsets, hown0⟩ := atoms_of _ (rest_1_c_eq ▸ (show rest_1_c.before _ s = true from hrest))
  have n3 := not_v (Cond.before_iff.mp (hsets _ (List.mem_of_getElem? (i := 2) rfl)))
  obtain ⟨g1, eg1⟩ := is_v (Cond.before_iff.mp (hsets _ (List.mem_of_getElem? (i := 1) rfl)))
  have S8 : Sta s s.heap "java/lang/String" "COMPACT_STRINGS" "Z" (.int g1) := Sta.start eg1 (Or.inl (hsets _ (List.mem_of_getElem? (i := 0) rfl)))
  obtain ⟨v9, e10, r11⟩ := isR_v (Cond.before_iff.mp (hsets _ (List.mem_of_getElem? (i := 8) rfl)))
  have S12 : Sta s s.heap "jdk/internal/util/Preconditions" "SIOOBE_FORMATTER" "Ljava/util/function/BiFunction;" v9 := Sta.start e10 (Or.inl (hsets _ (List.mem_of_getElem? (i := 7) rfl)))
  have c13 : ¬ (g1 = (0 : Int32)) := gotF (Cond.eq_ints eg1 (Term.int_eval (0))) n3
  obtain ⟨n, o, h1, h2, h3, v, L, rfl, ⟨hv, N, -⟩, hq⟩ := rm0 l s _ hw tables_1 i0 i1 g1 v9 s.heap s.heap.size (Nat.le_refl _) rfl rfl hcalls.1 (hsets _ (List.mem_of_getElem? (i := 2) rfl)) S8 S12 c13 r11 p e ha hc hk s m _ below hf ((Spec.applies_iff_loose hf).mp happ).1 ⟨rfl, rfl⟩ trivial
  subst hv
  refine ⟨n, _, h1, h2, h3, hpost _ _ _ _ _ _ ⟨Cond.after_iff.mpr rfl, Cond.after_iff.mpr (eq_i res_at (Term.int_eval (1)) rfl), trivial⟩ ⟨hq.1, hq.2.1, hq.2.2.1, (hq.2.2.2.sift fun y hy => Or.inr (N y hy)).mono (by decide) (by decide)⟩⟩
theorem main_1_1 : Claimed_1_1 := comes_1 fun _ _ _ _ _ _ h hF => ⟨h.1, hF⟩
theorem main_1_2 : Claimed_1_2 := comes_1 fun _ _ _ _ _ _ h hF => ⟨h.2.1, hF⟩
end Jvm.Pilot.@@N@@
namespace Jvm.Pilot.@@N@@
open Jvm Jvm.ClassFile Sem Op Lib Jvm.Free Jvm.Stand Jvm.Pilot.@@N@@.Jvm.D
/-! MADE BY PROGRAM (witnessworld.py) out of the Statement's table words and the real class files: 17 classes; the members and pool entries that the words name. The judged class is class 1, her method 2. -/
namespace start1
open Jvm.ClassFile
def u (s : String) : CpInfo := .utf8 (stringToUtf16 s)
/-- a pool by its gaps: so many unusable entries, then the entry; so many at the end -/
def gap : Nat → List CpInfo → List CpInfo
  | 0, r => r
  | n + 1, r => .unusable :: gap n r
def poolList (es : List (Nat × CpInfo)) (last : Nat) : List CpInfo := es.foldr (fun e r => gap e.1 (e.2 :: r)) (gap last [])
def pool (es : List (Nat × CpInfo)) (last : Nat) : Array CpInfo := ⟨poolList es last⟩
def fileOf (pool : Array CpInfo) (this : Nat) (attrs : Array Attribute := #[]) (ms : Array MethodInfo := #[]) (fl : Nat := 33) (sup : Nat := 0) (ifs : Array Nat := #[]) (fds : Array FieldInfo := #[]) : ClassFile where
  minorVersion := 0
  majorVersion := 65
  constantPool := pool
  accessFlags := fl
  thisClass := this
  superClass := sup
  interfaces := ifs
  fields := fds
  methods := ms
  attributes := attrs
def plain (name : String) (sup : Option ClassId) : Class where
  name := name
  kind := .ordinary
  loader := none
  accessFlags := 33
  super := sup
  interfaces := #[]
  cf := none
  fields := #[]
  methods := #[]
  instanceTypes := #[]
  staticTypes := #[]
  resolved := #[]
  callSites := []
  init := .initialized
  statics := none
  mirror := none

def pool0 : Array CpInfo := pool [(5, u "<init>"), (0, u "()V"), (1, .class_ 10), (1, u "java/lang/Object")] 113

def k0m0 : Method := { name := "<init>", desc := "()V", sig := { parameters := [], returnType := none }, accessFlags := 1, code := none }
/-- java/lang/Object -/
def k0 : Class := { plain "java/lang/Object" none with
  accessFlags := 33
  interfaces := #[]
  cf := some (fileOf pool0 8 #[] #[{ accessFlags := 1, nameIndex := 5, descriptorIndex := 6, attributes := #[] }] 33 0 #[] #[])
  fields := #[]
  methods := #[k0m0]
  instanceTypes := #[]
  staticTypes := #[]
  resolved := Array.replicate 124 none
  statics := none }

def pool1 : Array CpInfo := pool [(2, .class_ 4), (1, u "java/lang/Object"), (0, u "<init>"), (0, u "()V"), (0, .integer 65535), (0, .integer 2147483647), (0, .methodref 10 11), (0, .class_ 12), (0, .nameAndType 13 14), (0, u "org/forwardtrace/reading/PrintedTextToLowerCasePinLaw"), (0, u "draw"), (0, u "(II)C"), (0, .methodref 16 17), (0, .class_ 18), (0, .nameAndType 19 20), (0, u "org/forwardtrace/reading/PrintedText"), (0, u "toLowerCase"), (0, u "(C)C"), (0, .string 22), (0, u "ABCDEFGHIJKLMNOPQRSTUVWXYZ"), (0, .methodref 24 25), (0, .class_ 26), (0, .nameAndType 27 28), (0, u "java/lang/String"), (0, u "charAt"), (0, u "(I)C"), (0, .string 30), (0, u "abcdefghijklmnopqrstuvwxyz"), (3, u "law"), (0, u "(II)Z")] 2

def k1m0 : Method := { name := "<init>", desc := "()V", sig := { parameters := [], returnType := none }, accessFlags := 2, code := none }
def k1c1 : Code := { maxStack := 3, maxLocals := 2, code := method_2_code, exceptionTable := #[], attributes := #[] }
def k1m1 : Method := { name := "draw", desc := "(II)C", sig := { parameters := [.int, .int], returnType := some .char }, accessFlags := 10, code := some k1c1 }
def k1c2 : Code := { maxStack := 2, maxLocals := 6, code := code, exceptionTable := #[], attributes := #[] }
def k1m2 : Method := { name := "law", desc := "(II)Z", sig := { parameters := [.int, .int], returnType := some .boolean }, accessFlags := 9, code := some k1c2 }
/-- org/forwardtrace/reading/PrintedTextToLowerCasePinLaw -/
def k1 : Class := { plain "org/forwardtrace/reading/PrintedTextToLowerCasePinLaw" (some 0) with
  accessFlags := 49
  interfaces := #[]
  cf := some (fileOf pool1 10 #[] #[{ accessFlags := 2, nameIndex := 5, descriptorIndex := 6, attributes := #[] }, { accessFlags := 10, nameIndex := 13, descriptorIndex := 14, attributes := #[] }, { accessFlags := 9, nameIndex := 34, descriptorIndex := 35, attributes := #[] }] 49 2 #[] #[])
  fields := #[]
  methods := #[k1m0, k1m1, k1m2]
  instanceTypes := #[]
  staticTypes := #[]
  resolved := Array.replicate 38 none
  statics := none }

def pool2 : Array CpInfo := pool [(2, .class_ 4), (1, u "java/lang/Object"), (3, .class_ 10), (1, u "org/forwardtrace/reading/PrintedText"), (0, u "chars"), (0, u "[C"), (2, u "offsets"), (0, u "[I"), (2, u "computed"), (0, u "Ljava/util/BitSet;"), (2, u "replaced"), (16, .class_ 41), (0, u "org/forwardtrace/reading/PrintedText$Builder"), (28, u "toLowerCase"), (0, u "(C)C"), (14, u "COMPUTED"), (0, u "I")] 19

def k2c0 : Code := { maxStack := 2, maxLocals := 1, code := prog_51_method_13_code, exceptionTable := #[], attributes := #[] }
def k2m0 : Method := { name := "toLowerCase", desc := "(C)C", sig := { parameters := [.char], returnType := some .char }, accessFlags := 8, code := some k2c0 }
/-- org/forwardtrace/reading/PrintedText -/
def k2 : Class := { plain "org/forwardtrace/reading/PrintedText" (some 0) with
  accessFlags := 48
  interfaces := #[]
  cf := some (fileOf pool2 8 #[.nestMembers #[40]] #[{ accessFlags := 8, nameIndex := 70, descriptorIndex := 71, attributes := #[] }] 48 2 #[] #[{ accessFlags := 24, nameIndex := 86, descriptorIndex := 87, attributes := #[] }, { accessFlags := 18, nameIndex := 11, descriptorIndex := 12, attributes := #[] }, { accessFlags := 18, nameIndex := 15, descriptorIndex := 16, attributes := #[] }, { accessFlags := 18, nameIndex := 19, descriptorIndex := 20, attributes := #[] }, { accessFlags := 18, nameIndex := 23, descriptorIndex := 20, attributes := #[] }])
  fields := #[{ name := "COMPUTED", type := .int, accessFlags := 24, slot := 0, constantValue := 0 }, { name := "chars", type := (.array .char), accessFlags := 18, slot := 0, constantValue := 0 }, { name := "offsets", type := (.array .int), accessFlags := 18, slot := 1, constantValue := 0 }, { name := "computed", type := (.object "java/util/BitSet"), accessFlags := 18, slot := 2, constantValue := 0 }, { name := "replaced", type := (.object "java/util/BitSet"), accessFlags := 18, slot := 3, constantValue := 0 }]
  methods := #[k2m0]
  instanceTypes := #[(.array .char), (.array .int), (.object "java/util/BitSet"), (.object "java/util/BitSet")]
  staticTypes := #[.int]
  resolved := Array.replicate 107 none
  statics := none }

def pool3 : Array CpInfo := pool [(1, .class_ 2), (0, u "java/io/Serializable"), (0, .class_ 4), (0, u "java/lang/Object")] 2

/-- java/io/Serializable -/
def k3 : Class := { plain "java/io/Serializable" (some 0) with
  accessFlags := 1537
  interfaces := #[]
  cf := some (fileOf pool3 1 #[] #[] 1537 3 #[] #[])
  fields := #[]
  methods := #[]
  instanceTypes := #[]
  staticTypes := #[]
  resolved := Array.replicate 7 none
  statics := none }

def pool4 : Array CpInfo := pool [(1, .class_ 2), (0, u "java/lang/Comparable"), (0, .class_ 4), (0, u "java/lang/Object")] 7

/-- java/lang/Comparable -/
def k4 : Class := { plain "java/lang/Comparable" (some 0) with
  accessFlags := 1537
  interfaces := #[]
  cf := some (fileOf pool4 1 #[] #[] 1537 3 #[] #[])
  fields := #[]
  methods := #[]
  instanceTypes := #[]
  staticTypes := #[]
  resolved := Array.replicate 12 none
  statics := none }

def pool5 : Array CpInfo := pool [(2, .class_ 4), (1, u "java/lang/CharSequence"), (42, .class_ 48), (0, u "java/lang/CharSequence$1CodePointIterator"), (10, .class_ 60), (0, u "java/lang/CharSequence$1CharIterator"), (5, .class_ 67), (0, u "java/lang/Object")] 63

/-- java/lang/CharSequence -/
def k5 : Class := { plain "java/lang/CharSequence" (some 0) with
  accessFlags := 1537
  interfaces := #[]
  cf := some (fileOf pool5 2 #[.nestMembers #[47, 59]] #[] 1537 66 #[] #[])
  fields := #[]
  methods := #[]
  instanceTypes := #[]
  staticTypes := #[]
  resolved := Array.replicate 131 none
  statics := none }

def pool6 : Array CpInfo := pool [(1, .class_ 2), (0, u "java/lang/constant/Constable"), (0, .class_ 4), (0, u "java/lang/Object")] 6

/-- java/lang/constant/Constable -/
def k6 : Class := { plain "java/lang/constant/Constable" (some 0) with
  accessFlags := 1537
  interfaces := #[]
  cf := some (fileOf pool6 1 #[] #[] 1537 3 #[] #[])
  fields := #[]
  methods := #[]
  instanceTypes := #[]
  staticTypes := #[]
  resolved := Array.replicate 11 none
  statics := none }

def pool7 : Array CpInfo := pool [(1, .class_ 2), (0, u "java/lang/constant/ConstantDesc"), (0, .class_ 4), (0, u "java/lang/Object")] 32

/-- java/lang/constant/ConstantDesc -/
def k7 : Class := { plain "java/lang/constant/ConstantDesc" (some 0) with
  accessFlags := 1537
  interfaces := #[]
  cf := some (fileOf pool7 1 #[] #[] 1537 3 #[] #[])
  fields := #[]
  methods := #[]
  instanceTypes := #[]
  staticTypes := #[]
  resolved := Array.replicate 37 none
  statics := none }

def pool8 : Array CpInfo := pool [(2, .class_ 4), (1, u "java/lang/Object"), (0, u "<init>"), (0, u "()V"), (2, .fieldref 10 11), (0, .class_ 12), (0, .nameAndType 13 14), (0, u "java/lang/String"), (0, u "value"), (0, u "[B"), (0, .fieldref 10 16), (0, .nameAndType 17 18), (0, u "coder"), (0, u "B"), (2, u "hash"), (0, u "I"), (2, u "hashIsZero"), (0, u "Z"), (11, .fieldref 10 39), (0, .nameAndType 40 26), (0, u "COMPACT_STRINGS"), (66, .class_ 109), (1, u "java/lang/StringLatin1"), (32, u "()Z"), (220, u "([BI)C"), (27, u "(II)V"), (35, u "(I)C"), (64, .methodref 10 493), (0, .nameAndType 494 142), (0, u "isLatin1"), (0, .methodref 107 496), (0, .nameAndType 497 363), (0, u "charAt"), (3, u "checkIndex"), (73, .class_ 576), (0, u "java/lang/CharSequence"), (22, u "CASE_INSENSITIVE_ORDER"), (0, u "Ljava/util/Comparator;"), (452, .fieldref 1054 1055), (0, .class_ 1056), (0, .nameAndType 1057 1058), (0, u "jdk/internal/util/Preconditions"), (0, u "SIOOBE_FORMATTER"), (0, u "Ljava/util/function/BiFunction;"), (0, .methodref 1054 1060), (0, .nameAndType 501 1061), (0, u "(IILjava/util/function/BiFunction;)I"), (39, u "serialPersistentFields"), (0, u "[Ljava/io/ObjectStreamField;"), (0, .class_ 1104), (0, u "java/lang/String$CaseInsensitiveComparator"), (1, .class_ 1107), (0, u "java/io/Serializable"), (0, .class_ 1109), (0, u "java/lang/Comparable"), (0, .class_ 1111), (0, u "java/lang/constant/Constable"), (0, .class_ 1113), (0, u "java/lang/constant/ConstantDesc"), (2, u "serialVersionUID"), (0, u "J"), (3, u "REPL"), (0, u "C"), (2, u "LATIN1"), (1, u "UTF16")] 323

def k8m0 : Method := { name := "<init>", desc := "()V", sig := { parameters := [], returnType := none }, accessFlags := 1, code := none }
def k8c1 : Code := { maxStack := 2, maxLocals := 2, code := jdk_42_method_56_code, exceptionTable := #[], attributes := #[] }
def k8m1 : Method := { name := "charAt", desc := "(I)C", sig := { parameters := [.int], returnType := some .char }, accessFlags := 1, code := some k8c1 }
def k8c2 : Code := { maxStack := 1, maxLocals := 1, code := jdk_42_method_154_code, exceptionTable := #[], attributes := #[] }
def k8m2 : Method := { name := "isLatin1", desc := "()Z", sig := { parameters := [], returnType := some .boolean }, accessFlags := 0, code := some k8c2 }
def k8c3 : Code := { maxStack := 3, maxLocals := 2, code := jdk_42_method_155_code, exceptionTable := #[], attributes := #[] }
def k8m3 : Method := { name := "checkIndex", desc := "(II)V", sig := { parameters := [.int, .int], returnType := none }, accessFlags := 8, code := some k8c3 }
/-- java/lang/String -/
def k8 : Class := { plain "java/lang/String" (some 0) with
  accessFlags := 49
  interfaces := #[3, 4, 5, 6, 7]
  cf := some (fileOf pool8 10 #[.nestMembers #[1103]] #[{ accessFlags := 1, nameIndex := 5, descriptorIndex := 6, attributes := #[] }, { accessFlags := 1, nameIndex := 497, descriptorIndex := 427, attributes := #[] }, { accessFlags := 0, nameIndex := 494, descriptorIndex := 142, attributes := #[] }, { accessFlags := 8, nameIndex := 501, descriptorIndex := 391, attributes := #[] }] 49 2 #[1106, 1108, 575, 1110, 1112] #[{ accessFlags := 18, nameIndex := 13, descriptorIndex := 14, attributes := #[] }, { accessFlags := 18, nameIndex := 17, descriptorIndex := 18, attributes := #[] }, { accessFlags := 2, nameIndex := 21, descriptorIndex := 22, attributes := #[] }, { accessFlags := 2, nameIndex := 25, descriptorIndex := 26, attributes := #[] }, { accessFlags := 26, nameIndex := 1116, descriptorIndex := 1117, attributes := #[] }, { accessFlags := 24, nameIndex := 40, descriptorIndex := 26, attributes := #[] }, { accessFlags := 26, nameIndex := 1101, descriptorIndex := 1102, attributes := #[] }, { accessFlags := 26, nameIndex := 1121, descriptorIndex := 1122, attributes := #[] }, { accessFlags := 25, nameIndex := 599, descriptorIndex := 600, attributes := #[] }, { accessFlags := 24, nameIndex := 1125, descriptorIndex := 18, attributes := #[] }, { accessFlags := 24, nameIndex := 1127, descriptorIndex := 18, attributes := #[] }])
  fields := #[{ name := "value", type := (.array .byte), accessFlags := 18, slot := 0, constantValue := 0 }, { name := "coder", type := .byte, accessFlags := 18, slot := 1, constantValue := 0 }, { name := "hash", type := .int, accessFlags := 2, slot := 2, constantValue := 0 }, { name := "hashIsZero", type := .boolean, accessFlags := 2, slot := 3, constantValue := 0 }, { name := "serialVersionUID", type := .long, accessFlags := 26, slot := 0, constantValue := 0 }, { name := "COMPACT_STRINGS", type := .boolean, accessFlags := 24, slot := 1, constantValue := 0 }, { name := "serialPersistentFields", type := (.array (.object "java/io/ObjectStreamField")), accessFlags := 26, slot := 2, constantValue := 0 }, { name := "REPL", type := .char, accessFlags := 26, slot := 3, constantValue := 0 }, { name := "CASE_INSENSITIVE_ORDER", type := (.object "java/util/Comparator"), accessFlags := 25, slot := 4, constantValue := 0 }, { name := "LATIN1", type := .byte, accessFlags := 24, slot := 5, constantValue := 0 }, { name := "UTF16", type := .byte, accessFlags := 24, slot := 6, constantValue := 0 }]
  methods := #[k8m0, k8m1, k8m2, k8m3]
  instanceTypes := #[(.array .byte), .byte, .int, .boolean]
  staticTypes := #[.long, .boolean, (.array (.object "java/io/ObjectStreamField")), .char, (.object "java/util/Comparator"), .byte, .byte]
  resolved := Array.replicate 1451 none
  statics := some 0 }

def pool9 : Array CpInfo := pool [(1, .class_ 2), (0, u "java/lang/String"), (1, .class_ 6), (1, u "java/lang/Object"), (0, u "<init>"), (0, u "()V"), (0, .methodref 1 10), (0, .nameAndType 11 12), (0, u "checkIndex"), (0, u "(II)V"), (1, .class_ 16), (1, u "java/lang/StringLatin1"), (36, u "([BI)C"), (67, u "$assertionsDisabled"), (0, u "Z"), (98, .class_ 223), (1, u "java/lang/StringLatin1$LinesSpliterator"), (28, u "charAt"), (137, .class_ 391), (0, u "java/lang/StringLatin1$CharsSpliterator")] 3

def k9m0 : Method := { name := "<init>", desc := "()V", sig := { parameters := [], returnType := none }, accessFlags := 0, code := none }
def k9c1 : Code := { maxStack := 2, maxLocals := 2, code := jdk_43_method_2_code, exceptionTable := #[], attributes := #[] }
def k9m1 : Method := { name := "charAt", desc := "([BI)C", sig := { parameters := [(.array .byte), .int], returnType := some .char }, accessFlags := 9, code := some k9c1 }
/-- java/lang/StringLatin1 -/
def k9 : Class := { plain "java/lang/StringLatin1" (some 0) with
  accessFlags := 48
  interfaces := #[]
  cf := some (fileOf pool9 14 #[.nestMembers #[390, 221]] #[{ accessFlags := 0, nameIndex := 7, descriptorIndex := 8, attributes := #[] }, { accessFlags := 9, nameIndex := 252, descriptorIndex := 53, attributes := #[] }] 48 4 #[] #[{ accessFlags := 4120, nameIndex := 121, descriptorIndex := 122, attributes := #[] }])
  fields := #[{ name := "$assertionsDisabled", type := .boolean, accessFlags := 4120, slot := 0, constantValue := 0 }]
  methods := #[k9m0, k9m1]
  instanceTypes := #[]
  staticTypes := #[.boolean]
  resolved := Array.replicate 395 none
  statics := none }

def pool10 : Array CpInfo := pool [(2, .class_ 4), (1, u "java/lang/Object"), (0, u "<init>"), (0, u "()V"), (17, .class_ 26), (1, u "jdk/internal/util/Preconditions"), (6, u "checkIndex"), (21, .class_ 56), (0, u "jdk/internal/util/Preconditions$4"), (57, .class_ 115), (0, u "jdk/internal/util/Preconditions$1"), (7, u "SIOOBE_FORMATTER"), (0, u "Ljava/util/function/BiFunction;"), (0, .class_ 126), (0, u "jdk/internal/util/Preconditions$2"), (3, u "AIOOBE_FORMATTER"), (0, .class_ 132), (0, u "jdk/internal/util/Preconditions$3"), (3, u "IOOBE_FORMATTER"), (41, u "(IILjava/util/function/BiFunction;)I")] 15

def k10m0 : Method := { name := "<init>", desc := "()V", sig := { parameters := [], returnType := none }, accessFlags := 1, code := none }
def k10c1 : Code := { maxStack := 3, maxLocals := 3, code := jdk_41_method_11_code, exceptionTable := #[], attributes := #[] }
def k10m1 : Method := { name := "checkIndex", desc := "(IILjava/util/function/BiFunction;)I", sig := { parameters := [.int, .int, (.object "java/util/function/BiFunction")], returnType := some .int }, accessFlags := 9, code := some k10c1 }
/-- jdk/internal/util/Preconditions -/
def k10 : Class := { plain "jdk/internal/util/Preconditions" (some 0) with
  accessFlags := 33
  interfaces := #[]
  cf := some (fileOf pool10 24 #[.nestMembers #[55, 131, 125, 114]] #[{ accessFlags := 1, nameIndex := 5, descriptorIndex := 6, attributes := #[] }, { accessFlags := 9, nameIndex := 33, descriptorIndex := 178, attributes := #[] }] 33 2 #[] #[{ accessFlags := 25, nameIndex := 123, descriptorIndex := 124, attributes := #[] }, { accessFlags := 25, nameIndex := 130, descriptorIndex := 124, attributes := #[] }, { accessFlags := 25, nameIndex := 136, descriptorIndex := 124, attributes := #[] }])
  fields := #[{ name := "SIOOBE_FORMATTER", type := (.object "java/util/function/BiFunction"), accessFlags := 25, slot := 0, constantValue := 0 }, { name := "AIOOBE_FORMATTER", type := (.object "java/util/function/BiFunction"), accessFlags := 25, slot := 1, constantValue := 0 }, { name := "IOOBE_FORMATTER", type := (.object "java/util/function/BiFunction"), accessFlags := 25, slot := 2, constantValue := 0 }]
  methods := #[k10m0, k10m1]
  instanceTypes := #[]
  staticTypes := #[(.object "java/util/function/BiFunction"), (.object "java/util/function/BiFunction"), (.object "java/util/function/BiFunction")]
  resolved := Array.replicate 194 none
  statics := some 1 }

def pool11 : Array CpInfo := pool [(9, u "<init>"), (6, .class_ 18), (1, u "java/lang/Object"), (0, u "()V"), (1, .class_ 23), (1, u "jdk/internal/util/ArraysSupport"), (0, u "LOG2_ARRAY_LONG_INDEX_SCALE"), (0, u "I"), (2, u "U"), (0, u "Ljdk/internal/misc/Unsafe;"), (8, u "BIG_ENDIAN"), (0, u "Z"), (8, u "LOG2_BYTE_BIT_SIZE"), (4, u "LOG2_ARRAY_INT_INDEX_SCALE"), (54, u "JLA"), (0, u "Ljdk/internal/access/JavaLangAccess;"), (11, u "LOG2_ARRAY_BOOLEAN_INDEX_SCALE"), (9, u "LOG2_ARRAY_BYTE_INDEX_SCALE"), (5, u "LOG2_ARRAY_CHAR_INDEX_SCALE"), (5, u "LOG2_ARRAY_SHORT_INDEX_SCALE"), (18, u "LOG2_ARRAY_FLOAT_INDEX_SCALE"), (24, u "LOG2_ARRAY_DOUBLE_INDEX_SCALE"), (89, u "T_BOOLEAN"), (2, u "T_CHAR"), (1, u "T_FLOAT"), (1, u "T_DOUBLE"), (1, u "T_BYTE"), (1, u "T_SHORT"), (1, u "T_INT"), (1, u "T_LONG"), (1, u "SOFT_MAX_ARRAY_LENGTH")] 83

def k11m0 : Method := { name := "<init>", desc := "()V", sig := { parameters := [], returnType := none }, accessFlags := 2, code := none }
/-- jdk/internal/util/ArraysSupport -/
def k11 : Class := { plain "jdk/internal/util/ArraysSupport" (some 0) with
  accessFlags := 33
  interfaces := #[]
  cf := some (fileOf pool11 21 #[] #[{ accessFlags := 2, nameIndex := 9, descriptorIndex := 19, attributes := #[] }] 33 16 #[] #[{ accessFlags := 24, nameIndex := 28, descriptorIndex := 29, attributes := #[] }, { accessFlags := 26, nameIndex := 38, descriptorIndex := 39, attributes := #[] }, { accessFlags := 25, nameIndex := 121, descriptorIndex := 25, attributes := #[] }, { accessFlags := 25, nameIndex := 131, descriptorIndex := 25, attributes := #[] }, { accessFlags := 25, nameIndex := 137, descriptorIndex := 25, attributes := #[] }, { accessFlags := 25, nameIndex := 143, descriptorIndex := 25, attributes := #[] }, { accessFlags := 25, nameIndex := 53, descriptorIndex := 25, attributes := #[] }, { accessFlags := 25, nameIndex := 24, descriptorIndex := 25, attributes := #[] }, { accessFlags := 25, nameIndex := 162, descriptorIndex := 25, attributes := #[] }, { accessFlags := 25, nameIndex := 187, descriptorIndex := 25, attributes := #[] }, { accessFlags := 26, nameIndex := 48, descriptorIndex := 25, attributes := #[] }, { accessFlags := 25, nameIndex := 277, descriptorIndex := 25, attributes := #[] }, { accessFlags := 25, nameIndex := 280, descriptorIndex := 25, attributes := #[] }, { accessFlags := 25, nameIndex := 282, descriptorIndex := 25, attributes := #[] }, { accessFlags := 25, nameIndex := 284, descriptorIndex := 25, attributes := #[] }, { accessFlags := 25, nameIndex := 286, descriptorIndex := 25, attributes := #[] }, { accessFlags := 25, nameIndex := 288, descriptorIndex := 25, attributes := #[] }, { accessFlags := 25, nameIndex := 290, descriptorIndex := 25, attributes := #[] }, { accessFlags := 25, nameIndex := 292, descriptorIndex := 25, attributes := #[] }, { accessFlags := 26, nameIndex := 108, descriptorIndex := 109, attributes := #[] }, { accessFlags := 25, nameIndex := 294, descriptorIndex := 25, attributes := #[] }])
  fields := #[{ name := "U", type := (.object "jdk/internal/misc/Unsafe"), accessFlags := 24, slot := 0, constantValue := 0 }, { name := "BIG_ENDIAN", type := .boolean, accessFlags := 26, slot := 1, constantValue := 0 }, { name := "LOG2_ARRAY_BOOLEAN_INDEX_SCALE", type := .int, accessFlags := 25, slot := 2, constantValue := 0 }, { name := "LOG2_ARRAY_BYTE_INDEX_SCALE", type := .int, accessFlags := 25, slot := 3, constantValue := 0 }, { name := "LOG2_ARRAY_CHAR_INDEX_SCALE", type := .int, accessFlags := 25, slot := 4, constantValue := 0 }, { name := "LOG2_ARRAY_SHORT_INDEX_SCALE", type := .int, accessFlags := 25, slot := 5, constantValue := 0 }, { name := "LOG2_ARRAY_INT_INDEX_SCALE", type := .int, accessFlags := 25, slot := 6, constantValue := 0 }, { name := "LOG2_ARRAY_LONG_INDEX_SCALE", type := .int, accessFlags := 25, slot := 7, constantValue := 0 }, { name := "LOG2_ARRAY_FLOAT_INDEX_SCALE", type := .int, accessFlags := 25, slot := 8, constantValue := 0 }, { name := "LOG2_ARRAY_DOUBLE_INDEX_SCALE", type := .int, accessFlags := 25, slot := 9, constantValue := 0 }, { name := "LOG2_BYTE_BIT_SIZE", type := .int, accessFlags := 26, slot := 10, constantValue := 0 }, { name := "T_BOOLEAN", type := .int, accessFlags := 25, slot := 11, constantValue := 0 }, { name := "T_CHAR", type := .int, accessFlags := 25, slot := 12, constantValue := 0 }, { name := "T_FLOAT", type := .int, accessFlags := 25, slot := 13, constantValue := 0 }, { name := "T_DOUBLE", type := .int, accessFlags := 25, slot := 14, constantValue := 0 }, { name := "T_BYTE", type := .int, accessFlags := 25, slot := 15, constantValue := 0 }, { name := "T_SHORT", type := .int, accessFlags := 25, slot := 16, constantValue := 0 }, { name := "T_INT", type := .int, accessFlags := 25, slot := 17, constantValue := 0 }, { name := "T_LONG", type := .int, accessFlags := 25, slot := 18, constantValue := 0 }, { name := "JLA", type := (.object "jdk/internal/access/JavaLangAccess"), accessFlags := 26, slot := 19, constantValue := 0 }, { name := "SOFT_MAX_ARRAY_LENGTH", type := .int, accessFlags := 25, slot := 20, constantValue := 0 }]
  methods := #[k11m0]
  instanceTypes := #[]
  staticTypes := #[(.object "jdk/internal/misc/Unsafe"), .boolean, .int, .int, .int, .int, .int, .int, .int, .int, .int, .int, .int, .int, .int, .int, .int, .int, .int, (.object "jdk/internal/access/JavaLangAccess"), .int]
  resolved := Array.replicate 378 none
  statics := none }

def pool12 : Array CpInfo := pool [(1, u "java/lang/Cloneable"), (0, .class_ 1), (0, u "java/lang/Object"), (0, .class_ 3)] 3

/-- java/lang/Cloneable -/
def k12 : Class := { plain "java/lang/Cloneable" (some 0) with
  accessFlags := 1537
  interfaces := #[]
  cf := some (fileOf pool12 2 #[] #[] 1537 4 #[] #[])
  fields := #[]
  methods := #[]
  instanceTypes := #[]
  staticTypes := #[]
  resolved := Array.replicate 8 none
  statics := none }

/-- the primitive byte -/
def k13 : Class := { plain "byte" none with kind := .primitive 'B', accessFlags := 0x411 }
/-- [B -/
def k14 : Class := { plain "[B" (some 0) with kind := .array 13 .byte, interfaces := #[12, 3], accessFlags := 1041 }

/-- the primitive int -/
def k15 : Class := { plain "int" none with kind := .primitive 'I', accessFlags := 0x411 }
/-- [I -/
def k16 : Class := { plain "[I" (some 0) with kind := .array 15 .int, interfaces := #[12, 3], accessFlags := 1041 }

def heap : Heap := #[{ cls := 8, slots := #[.long 0, .int 1, .null, .int 0, .null, .int 0, .int 0], vm := .statics 8 },
  { cls := 10, slots := #[.null, .null, .null], vm := .statics 10 }]
def classes : Array Class := #[k0, k1, k2, k3, k4, k5, k6, k7, k8, k9, k10, k11, k12, k13, k14, k15, k16]
def interned : List (Array UInt16 × Addr) := []
def slotsUsed : Nat := 10
def theMethod : MethodId := ⟨1, 2⟩
def args0 : Array Value := #[.int 5, .int 0]
def aboutOver (below : List Frame) : State where
  vm := { classes := classes, interned := interned.toArray }
  heap := heap
  slotsUsed := slotsUsed
  threads := #[{ frames := .invoking theMethod args0 :: below }]
def below0 : List Frame := [.native { method := ⟨0, 0⟩, args := #[] }]
def about1 : State := aboutOver below0
def p0 : Program := .bare "" "" ""
def e0 : Env := launch0.env 0 0 0
theorem w_frames : about1.frames = Frame.invoking theMethod args0 :: below0 := rfl
set_option maxRecDepth 65536 in
theorem w_args : argsFit about1.vm theMethod args0 = true := by decide +kernel
set_option maxRecDepth 65536 in
theorem w_heap : heapFits about1 = true := by decide +kernel
set_option maxRecDepth 65536 in
theorem w_runnable : about1.curStatus? = some .runnable := by decide +kernel
set_option maxRecDepth 65536 in
theorem w_alone : about1.alone = true := by decide +kernel
set_option maxRecDepth 65536 in
theorem w_named : about1.methodNamed? x = some theMethod := by decide +kernel
set_option maxRecDepth 65536 in
theorem w_hears : about1.hears theMethod below0 = true := by decide +kernel
set_option maxRecDepth 65536 in
theorem w_ripe : about1.ripe theMethod args0 below0 = true := by decide +kernel
theorem w_running : about1.status = .running := rfl
set_option maxRecDepth 65536 in
theorem w_room : about1.hasRoom e0.platform room_1 = true :=
  launch0.hasRoom_least _ room_1 (by decide +kernel) (by decide +kernel) (by decide +kernel) (by decide +kernel) (by decide +kernel) (by decide +kernel)
theorem allAtoms_all (ts : List Jvm.Cond) (a : Array Jvm.Value) (st : Jvm.State) : (allAtoms ts).before a st = ts.all (fun c => c.before a st) := by
  induction ts with
  | nil => rfl
  | cons c t ih =>
    show (Jvm.Cond.and c (allAtoms t)).before a st = _
    rw [Jvm.Cond.before_and, ih, List.all_cons]
def words1 : List Jvm.Cond := Jvm.Cond.code x code maxLocals ret :: tables_1
/-- a 'code' word, met by the world's own term for the bytes: nothing is compared byte by byte -/
theorem code_word {y : MethodName} {bytes : ByteArray} {mx : Nat} {rt : Option FieldType} {a : Array Value} {s : State} {m : MethodId} {meth : Method} {c : Code} (h1 : s.methodNamed? y = some m) (h2 : s.vm.method? m = some meth) (h3 : meth.code = some c) (h4 : c.code = bytes)
    (h5 : (c.maxLocals == mx && c.exceptionTable.isEmpty && decide (c.maxStack ≤ mostOperands) && decide (meth.sig.returnType = rt) && !meth.locks && decide (parseMethodDescriptor y.desc = some meth.sig)) = true) : (Jvm.Cond.code y bytes mx rt).before a s = true := by
  simp only [Bool.and_eq_true, beq_iff_eq, Bool.not_eq_true', decide_eq_true_eq] at h5
  obtain ⟨⟨⟨⟨⟨g1, g2⟩, g3⟩, g4⟩, g5⟩, g6⟩ := h5
  simp [Cond.before, Cond.holds, Cond.value, h1, h2, h3, h4, g1, g2, g3, g4, g5, g6]
def isCode : Jvm.Cond → Bool
  | .code _ _ _ _ => true
  | _ => false
theorem all_split {L : List Jvm.Cond} {P : Jvm.Cond → Bool} (h1 : L.all (fun c => isCode c || P c) = true) (h2 : ∀ c ∈ L.filter isCode, P c = true) : L.all P = true := by
  refine List.all_eq_true.mpr fun c hc => ?_
  have h := List.all_eq_true.mp h1 c hc
  rcases Bool.eq_false_or_eq_true (isCode c) with hi | hi
  · exact h2 c (List.mem_filter.mpr ⟨hc, hi⟩)
  · simpa [hi] using h
set_option maxRecDepth 65536 in
theorem w_c0 : (Jvm.Cond.code x code maxLocals ret).before args0 about1 = true := code_word (m := ⟨1, 2⟩) (meth := k1m2) (c := k1c2) (by decide +kernel) rfl rfl rfl (by decide +kernel)
set_option maxRecDepth 65536 in
theorem w_c1 : (Jvm.Cond.code ({ cls := "org/forwardtrace/reading/PrintedTextToLowerCasePinLaw", name := "draw", desc := "(II)C" } : Jvm.MethodName) method_2_code (2 : Nat) (Option.some Jvm.ClassFile.FieldType.char)).before args0 about1 = true := code_word (m := ⟨1, 1⟩) (meth := k1m1) (c := k1c1) (by decide +kernel) rfl rfl rfl (by decide +kernel)
set_option maxRecDepth 65536 in
theorem w_c2 : (Jvm.Cond.code ({ cls := "org/forwardtrace/reading/PrintedText", name := "toLowerCase", desc := "(C)C" } : Jvm.MethodName) prog_51_method_13_code (1 : Nat) (Option.some Jvm.ClassFile.FieldType.char)).before args0 about1 = true := code_word (m := ⟨2, 0⟩) (meth := k2m0) (c := k2c0) (by decide +kernel) rfl rfl rfl (by decide +kernel)
set_option maxRecDepth 65536 in
theorem w_c3 : (Jvm.Cond.code ({ cls := "java/lang/String", name := "charAt", desc := "(I)C" } : Jvm.MethodName) jdk_42_method_56_code (2 : Nat) (Option.some Jvm.ClassFile.FieldType.char)).before args0 about1 = true := code_word (m := ⟨8, 1⟩) (meth := k8m1) (c := k8c1) (by decide +kernel) rfl rfl rfl (by decide +kernel)
set_option maxRecDepth 65536 in
theorem w_c4 : (Jvm.Cond.code ({ cls := "java/lang/String", name := "isLatin1", desc := "()Z" } : Jvm.MethodName) jdk_42_method_154_code (1 : Nat) (Option.some Jvm.ClassFile.FieldType.boolean)).before args0 about1 = true := code_word (m := ⟨8, 2⟩) (meth := k8m2) (c := k8c2) (by decide +kernel) rfl rfl rfl (by decide +kernel)
set_option maxRecDepth 65536 in
theorem w_c5 : (Jvm.Cond.code ({ cls := "java/lang/StringLatin1", name := "charAt", desc := "([BI)C" } : Jvm.MethodName) jdk_43_method_2_code (2 : Nat) (Option.some Jvm.ClassFile.FieldType.char)).before args0 about1 = true := code_word (m := ⟨9, 1⟩) (meth := k9m1) (c := k9c1) (by decide +kernel) rfl rfl rfl (by decide +kernel)
set_option maxRecDepth 65536 in
theorem w_c6 : (Jvm.Cond.code ({ cls := "java/lang/String", name := "checkIndex", desc := "(II)V" } : Jvm.MethodName) jdk_42_method_155_code (2 : Nat) (Option.none : Option Jvm.ClassFile.FieldType)).before args0 about1 = true := code_word (m := ⟨8, 3⟩) (meth := k8m3) (c := k8c3) (by decide +kernel) rfl rfl rfl (by decide +kernel)
set_option maxRecDepth 65536 in
theorem w_c7 : (Jvm.Cond.code ({ cls := "jdk/internal/util/Preconditions", name := "checkIndex", desc := "(IILjava/util/function/BiFunction;)I" } : Jvm.MethodName) jdk_41_method_11_code (3 : Nat) (Option.some Jvm.ClassFile.FieldType.int)).before args0 about1 = true := code_word (m := ⟨10, 1⟩) (meth := k10m1) (c := k10c1) (by decide +kernel) rfl rfl rfl (by decide +kernel)
def codes1 : List Jvm.Cond := [Jvm.Cond.code x code maxLocals ret, Jvm.Cond.code ({ cls := "org/forwardtrace/reading/PrintedTextToLowerCasePinLaw", name := "draw", desc := "(II)C" } : Jvm.MethodName) method_2_code (2 : Nat) (Option.some Jvm.ClassFile.FieldType.char), Jvm.Cond.code ({ cls := "org/forwardtrace/reading/PrintedText", name := "toLowerCase", desc := "(C)C" } : Jvm.MethodName) prog_51_method_13_code (1 : Nat) (Option.some Jvm.ClassFile.FieldType.char), Jvm.Cond.code ({ cls := "java/lang/String", name := "charAt", desc := "(I)C" } : Jvm.MethodName) jdk_42_method_56_code (2 : Nat) (Option.some Jvm.ClassFile.FieldType.char), Jvm.Cond.code ({ cls := "java/lang/String", name := "isLatin1", desc := "()Z" } : Jvm.MethodName) jdk_42_method_154_code (1 : Nat) (Option.some Jvm.ClassFile.FieldType.boolean), Jvm.Cond.code ({ cls := "java/lang/StringLatin1", name := "charAt", desc := "([BI)C" } : Jvm.MethodName) jdk_43_method_2_code (2 : Nat) (Option.some Jvm.ClassFile.FieldType.char), Jvm.Cond.code ({ cls := "java/lang/String", name := "checkIndex", desc := "(II)V" } : Jvm.MethodName) jdk_42_method_155_code (2 : Nat) (Option.none : Option Jvm.ClassFile.FieldType), Jvm.Cond.code ({ cls := "jdk/internal/util/Preconditions", name := "checkIndex", desc := "(IILjava/util/function/BiFunction;)I" } : Jvm.MethodName) jdk_41_method_11_code (3 : Nat) (Option.some Jvm.ClassFile.FieldType.int)]
set_option maxRecDepth 65536 in
theorem codes_eq : words1.filter isCode = codes1 := rfl
theorem w_codes : ∀ c ∈ words1.filter isCode, c.before args0 about1 = true := by
  rw [codes_eq]
  intro c hc
  simp only [codes1, List.mem_cons, List.not_mem_nil, or_false] at hc
  rcases hc with rfl | rfl | rfl | rfl | rfl | rfl | rfl | rfl
  · exact w_c0
  · exact w_c1
  · exact w_c2
  · exact w_c3
  · exact w_c4
  · exact w_c5
  · exact w_c6
  · exact w_c7
set_option maxRecDepth 65536 in
theorem w_t1 : (words1.take 24).all (fun c => isCode c || c.before args0 about1) = true := by decide +kernel
set_option maxRecDepth 65536 in
theorem w_t2 : (words1.drop 24).all (fun c => isCode c || c.before args0 about1) = true := by decide +kernel
theorem w_tables : (allAtoms (Jvm.Cond.code x code maxLocals ret :: tables_1)).before args0 about1 = true := by
  rw [allAtoms_all]
  show words1.all (fun c => c.before args0 about1) = true
  refine all_split ?_ w_codes
  rw [← List.take_append_drop 24 words1, List.all_append, w_t1, w_t2]
  rfl
set_option maxRecDepth 65536 in
theorem w_rest : rest_1_c.before args0 about1 = true := by decide +kernel
set_option maxRecDepth 65536 in
theorem w_case : (Jvm.Cond.and given_1 narrow_1).before args0 about1 = true := by decide +kernel
set_option maxRecDepth 65536 in
theorem w_consts : constsHeld consts_1 about1 := Jvm.Lit.constsHeldB_iff.mp (by decide +kernel)
theorem w_applies : (headSpec (Jvm.Cond.code x code maxLocals ret :: tables_1) room_1).applies x e0.platform about1 = true :=
  (Spec.applies_iff w_frames).mpr ⟨w_running, w_runnable, w_alone, w_named, w_hears, w_ripe, w_room, w_tables⟩
theorem atStart : AtStart classFile x code maxLocals ret World_1 tables_1 room_1 Calls_1 rest_1 Pre_1 launch0 p0 e0 about1 theMethod args0 below0 :=
  ⟨lists_1, trivial, launch0.admits_env _ _ _, launch0.least_env, fairChoices_fair.cas, fairChoices_fair.clock, w_frames, w_args, w_heap, w_applies, ⟨w_consts, trivial⟩, w_rest, w_case⟩
end start1
theorem witness_1 : WitnessClaimed_1 := ⟨start1.p0, start1.e0, start1.about1, start1.theMethod, start1.args0, start1.below0, start1.atStart⟩
end Jvm.Pilot.@@N@@
