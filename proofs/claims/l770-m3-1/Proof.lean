import JvmDerived
import JvmDerived.Pilot.@@N@@Statement
import JvmDerived.Pilot.@@N@@Code
set_option linter.unusedVariables false
set_option linter.unusedSimpArgs false
namespace Jvm.RoadKit
open Sem ClassFile Op Lib Jvm.Stand Jvm.Free Jvm.LawKit
section New
variable {p : Program} {l : Launch} {e : Env} {R : Room} {s : State} {m : MethodId} {args : Array Value} {below : List Frame} {meth : Method} {c : Code} {T : State} {locs : List Loc} {cells slots : Nat}
theorem retI (X : Stand p l e R s m args below meth c T locs cells slots) (hx : p.tables.exec = Jvm.exec) {pc : Nat} {Ls : Array Slot} {z : Int32} {rest : List Value} (hret : meth.sig.returnType = some .int) (hd : decode c.code pc = .ok (.ireturn, 1)) {fs : List Frame}
    (hl : ∀ (f : JFrame) (acts : List Action), f.method = m → f.locked = none → f.entered = [] → (doReturn e (T.setTop f) acts (some (.int z))).1 = T.setFrames fs) : Steps p.tables e below (T.setTop (mkF m pc Ls (.int z :: rest))) (T.setFrames fs) := by
  have hm' : T.vm.method? m = some meth := X.method'
  have hn : narrow .int (.int z) = .int z := rfl
  show Steps p.tables e below (T.setTop { method := m, pc := pc, locals := Ls, stack := _ :: rest, locked := none }) _
  jvm_step X.here [X.here.top, hx, hd, hm', hret, hn]
  first | (intro acts; rw [hl _ acts rfl rfl rfl]) | rw [hl _ _ rfl rfl rfl]
  exact Steps.refl _
theorem retAddr (X : Stand p l e R s m args below meth c T locs cells slots) (hx : p.tables.exec = Jvm.exec) {pc : Nat} {Ls : Array Slot} {z : Addr} {rest : List Value} {t : FieldType} (hret : meth.sig.returnType = some t) (ht : t.isReference = true) (hd : decode c.code pc = .ok (.areturn, 1)) {fs : List Frame}
    (hl : ∀ (f : JFrame) (acts : List Action), f.method = m → f.locked = none → f.entered = [] → (doReturn e (T.setTop f) acts (some (.ref z))).1 = T.setFrames fs) : Steps p.tables e below (T.setTop (mkF m pc Ls (.ref z :: rest))) (T.setFrames fs) := by
  have hm' : T.vm.method? m = some meth := X.method'
  show Steps p.tables e below (T.setTop { method := m, pc := pc, locals := Ls, stack := _ :: rest, locked := none }) _
  jvm_step X.here [X.here.top, hx, hd, hm', hret, ht, Value.isRef]
  first | (intro acts; rw [hl _ acts rfl rfl rfl]) | rw [hl _ _ rfl rfl rfl]
  exact Steps.refl _
end New
end Jvm.RoadKit
namespace Jvm.Pilot.@@N@@
open Jvm Jvm.ClassFile Sem Op Lib Jvm.Free Jvm.Stand Jvm.LawKit Jvm.RoadKit Bundle Jvm.Pilot.@@N@@.Jvm.D
/-- from A the run ends, returning, as Q says of the value, the heap and the places written -/
def own_Fin (tb : Tables) (e : Env) (below : List Frame) (s : State) (C S : Nat) (Q : Option Value → Heap → List Loc → Prop) (A : State) : Prop :=
  ∃ s₂ o, Steps tb e below A s₂ ∧ s₂.status = .running ∧ Ended s₂ below o ∧ ∃ v L, o = .returned v ∧ Q v s₂.heap L ∧ FrameEnd s o s₂ L C S
theorem own_st {tb : Tables} {e : Env} {below : List Frame} {s : State} {C S : Nat} {Q : Option Value → Heap → List Loc → Prop} {A B : State} (h : ∀ t, Steps tb e below B t → Steps tb e below A t) (k : own_Fin tb e below s C S Q B) : own_Fin tb e below s C S Q A := by
  obtain ⟨s₂, o, h1, h2⟩ := k
  exact ⟨s₂, o, h _ h1, h2⟩
section Ret
variable {p : Program} {l : Launch} {e : Env} {R : Room} {s : State} {m : MethodId} {args : Array Value} {below : List Frame} {meth : Method} {c : Code} {T : State} {locs : List Loc} {cells slots : Nat} {Q : Option Value → Heap → List Loc → Prop} {C S : Nat}
theorem own_retN (X : Stand p l e R s m args below meth c T locs cells slots) (hx : p.tables.exec = Jvm.exec) (hk : meth.locks = false) {t : FieldType} (hret : meth.sig.returnType = some t) (ht : t = .boolean ∨ t = .byte ∨ t = .char ∨ t = .short) {pc : Nat} {Ls : Array Slot} {z : Int32} {rest : List Value} (hd : decode c.code pc = .ok (.ireturn, 1)) (hC : cells ≤ C) (hS : slots ≤ S) (hq : Q (some (.int (nar t z))) T.heap locs) : own_Fin p.tables e below s C S Q (T.setTop (mkF m pc Ls (.int z :: rest))) := by
  obtain ⟨fs, hr, hrun, hended, hW, hsame⟩ := X.leave (v := some (.int (nar t z))) (fun h => by rw [hret] at h; cases h)
  exact ⟨_, _, retN X hx hret ht hd hr, hrun, hended, _, _, rfl, hq, ⟨_, rfl⟩, hW, hsame.mono hC hS⟩
theorem own_retI (X : Stand p l e R s m args below meth c T locs cells slots) (hx : p.tables.exec = Jvm.exec) (hk : meth.locks = false) (hret : meth.sig.returnType = some .int) {pc : Nat} {Ls : Array Slot} {z : Int32} {rest : List Value} (hd : decode c.code pc = .ok (.ireturn, 1)) (hC : cells ≤ C) (hS : slots ≤ S) (hq : Q (some (.int z)) T.heap locs) : own_Fin p.tables e below s C S Q (T.setTop (mkF m pc Ls (.int z :: rest))) := by
  obtain ⟨fs, hr, hrun, hended, hW, hsame⟩ := X.leave (v := some (.int z)) (fun h => by rw [hret] at h; cases h)
  exact ⟨_, _, retI X hx hret hd hr, hrun, hended, _, _, rfl, hq, ⟨_, rfl⟩, hW, hsame.mono hC hS⟩
theorem own_retA (X : Stand p l e R s m args below meth c T locs cells slots) (hx : p.tables.exec = Jvm.exec) (hk : meth.locks = false) {t : FieldType} (hret : meth.sig.returnType = some t) (ht : t.isReference = true) {pc : Nat} {Ls : Array Slot} {z : Addr} {rest : List Value} (hd : decode c.code pc = .ok (.areturn, 1)) (hC : cells ≤ C) (hS : slots ≤ S) (hq : Q (some (.ref z)) T.heap locs) : own_Fin p.tables e below s C S Q (T.setTop (mkF m pc Ls (.ref z :: rest))) := by
  obtain ⟨fs, hr, hrun, hended, hW, hsame⟩ := X.leave (v := some (.ref z)) (fun h => by rw [hret] at h; cases h)
  exact ⟨_, _, retAddr X hx hret ht hd hr, hrun, hended, _, _, rfl, hq, ⟨_, rfl⟩, hW, hsame.mono hC hS⟩
theorem own_retJ (X : Stand p l e R s m args below meth c T locs cells slots) (hx : p.tables.exec = Jvm.exec) (hk : meth.locks = false) (hret : meth.sig.returnType = some .long) {pc : Nat} {Ls : Array Slot} {z : Int64} (hd : decode c.code pc = .ok (.lreturn, 1)) (hC : cells ≤ C) (hS : slots ≤ S) (hq : Q (some (.long z)) T.heap locs) : own_Fin p.tables e below s C S Q (T.setTop (mkF m pc Ls [.long z])) := by
  obtain ⟨fs, hr, hrun, hended, hW, hsame⟩ := X.leave (v := some (.long z)) (fun h => by rw [hret] at h; cases h)
  exact ⟨_, _, X.lreturnOut hx hret hd hr, hrun, hended, _, _, rfl, hq, ⟨_, rfl⟩, hW, hsame.mono hC hS⟩
theorem own_retV (X : Stand p l e R s m args below meth c T locs cells slots) (hx : p.tables.exec = Jvm.exec) (hk : meth.locks = false) (hret : meth.sig.returnType = none) {pc : Nat} {Ls : Array Slot} (hd : decode c.code pc = .ok (.return_, 1)) (hC : cells ≤ C) (hS : slots ≤ S) (hq : Q none T.heap locs) : own_Fin p.tables e below s C S Q (T.setTop (mkF m pc Ls [])) := by
  obtain ⟨fs, hr, hrun, hended, hW, hsame⟩ := X.leave (v := none) (fun _ => rfl)
  exact ⟨_, _, X.returnOut hx hret hd hr, hrun, hended, _, _, rfl, hq, ⟨_, rfl⟩, hW, hsame.mono hC hS⟩
end Ret
theorem own_ltT {a b : Int64} (h : a < b) : ifCond.holds .lt (lcmpW a b) = true ∧ ifCond.holds .ge (lcmpW a b) = false := by
  have q := (lw_lt a b).mpr h
  exact ⟨(if0 _ _).trans (tlt q).1, (if0 _ _).trans (tlt q).2.1⟩
theorem own_ltF {a b : Int64} (h : ¬ a < b) : ifCond.holds .lt (lcmpW a b) = false ∧ ifCond.holds .ge (lcmpW a b) = true := by
  have q := mt (lw_lt a b).mp h
  exact ⟨(if0 _ _).trans (flt q).1, (if0 _ _).trans (flt q).2.1⟩
theorem own_gtT {a b : Int64} (h : b < a) : ifCond.holds .gt (lcmpW a b) = true ∧ ifCond.holds .le (lcmpW a b) = false := by
  have q := (lw_gt a b).mpr h
  exact ⟨(if0 _ _).trans (tlt q).2.2.1, (if0 _ _).trans (tlt q).2.2.2⟩
theorem own_gtF {a b : Int64} (h : ¬ b < a) : ifCond.holds .gt (lcmpW a b) = false ∧ ifCond.holds .le (lcmpW a b) = true := by
  have q := mt (lw_gt a b).mp h
  exact ⟨(if0 _ _).trans (flt q).2.2.1, (if0 _ _).trans (flt q).2.2.2⟩
theorem own_eqT {a b : Int64} (h : a = b) : ifCond.holds .eq (lcmpW a b) = true ∧ ifCond.holds .ne (lcmpW a b) = false := by
  have q := (lw_eq a b).mpr h
  exact ⟨(if0 _ _).trans (teq q).1, (if0 _ _).trans (teq q).2⟩
theorem own_eqF {a b : Int64} (h : ¬ a = b) : ifCond.holds .eq (lcmpW a b) = false ∧ ifCond.holds .ne (lcmpW a b) = true := by
  have q := mt (lw_eq a b).mp h
  exact ⟨(if0 _ _).trans (feq q).1, (if0 _ _).trans (feq q).2⟩
theorem d1_0 : decode prog_14_method_80_code 0 = .ok (.lload_n 0, 1) := by decide +kernel
theorem d1_1 : decode prog_14_method_80_code 1 = .ok (.lload_n 2, 1) := by decide +kernel
theorem d1_2 : decode prog_14_method_80_code 2 = .ok (.lcmp, 1) := by decide +kernel
theorem d1_3 : decode prog_14_method_80_code 3 = .ok (.ifCond .le 9, 3) := by decide +kernel
theorem d1_6 : decode prog_14_method_80_code 6 = .ok (.lload_n 0, 1) := by decide +kernel
theorem d1_7 : decode prog_14_method_80_code 7 = .ok (.lload_n 2, 1) := by decide +kernel
theorem d1_8 : decode prog_14_method_80_code 8 = .ok (.lsub, 1) := by decide +kernel
theorem d1_9 : decode prog_14_method_80_code 9 = .ok (.goto 6, 3) := by decide +kernel
theorem d1_12 : decode prog_14_method_80_code 12 = .ok (.lload_n 2, 1) := by decide +kernel
theorem d1_13 : decode prog_14_method_80_code 13 = .ok (.lload_n 0, 1) := by decide +kernel
theorem d1_14 : decode prog_14_method_80_code 14 = .ok (.lsub, 1) := by decide +kernel
theorem d1_15 : decode prog_14_method_80_code 15 = .ok (.lreturn, 1) := by decide +kernel
theorem pn_1 : plainFor (⟨"com/example/unsettle/unsettle/Draws", "distance", "(JJ)J"⟩ : MethodName) = true := plainFor_of_name (x := (⟨"com/example/unsettle/unsettle/Draws", "distance", "(JJ)J"⟩ : MethodName)) (by first | (simp [plainName, overriddenIn]; done) | decide +kernel)
theorem ef_1 (m : MethodId) (q1 : Int64) (q2 : Int64) : entryFrame m #[(.long q1), (.long q2)] 4 = mkF m 0 #[.val (.long q1), .second, .val (.long q2), .second] [] := by first | (simp [entryFrame, mkF, argsToLocals, Value.category]; done) | rfl
def own_F1 (q1 : Int64) (q2 : Int64) : Int64 := (if q2 < q1 then (q1 - q2) else (q2 - q1))
def own_Q1 (q1 : Int64) (q2 : Int64) (h0 : Heap) (n0 : Nat) (v : Option Value) (h : Heap) (L : List Loc) : Prop := v = some (.long (own_F1 q1 q2)) ∧ Fr n0 L ∧ h = h0
set_option maxRecDepth 65536 in
set_option maxHeartbeats 40000000 in
theorem rm1 (l : Launch) (Z : State) (a0 : Array Value) (hw : ∀ d ∈ tables_1, d.before a0 Z = true) (ws : List Jvm.Cond) (q1 : Int64) (q2 : Int64) (h0 : Heap) (n0 : Nat) (Z0 : n0 ≤ h0.size) :
    MetFree l (⟨"com/example/unsettle/unsettle/Draws", "distance", "(JJ)J"⟩ : MethodName) (head1 (Jvm.Cond.code (⟨"com/example/unsettle/unsettle/Draws", "distance", "(JJ)J"⟩ : MethodName) prog_14_method_80_code 4 (some .long) :: ws) ({ frames := 0, cells := 0, slots := 0, locals := 0 } : Room)) (fun a U => a = #[(.long q1), (.long q2)] ∧ Z.Warmed39 U.vm ∧ U.heap = h0) (fun _ _ _ _ _ => True) (fun _ U o U' => ∃ v L, o = .returned v ∧ own_Q1 q1 q2 h0 n0 v U'.heap L ∧ FrameEnd U o U' L ({ frames := 0, cells := 0, slots := 0, locals := 0 } : Room).cells ({ frames := 0, cells := 0, slots := 0, locals := 0 } : Room).slots) := by
  refine MetFree.of_bodySF pn_1 hisR ?_
  intro p e s m args below meth c s₁ Bd hml0 hP hK
  obtain ⟨rfl, hZ, hh⟩ := hP
  have hx := Bd.exec
  have hby := Bd.bytes
  have hml : c.maxLocals = 4 := hml0
  have hown : s.vm.findClass "com/example/unsettle/unsettle/Draws" = some m.cls := findClass_of_methodNamed Bd.named
  have X0 : Stand p l e ({ frames := 0, cells := 0, slots := 0, locals := 0 } : Room) s m #[(.long q1), (.long q2)] below meth c s₁ [] 0 0 := Stand.of_body Bd
  have e0 : s₁.heap = h0 := by rw [← hh, Bd.state]; rfl
  have N0 := Fr.nil n0
  show own_Fin p.tables e below s (({ frames := 0, cells := 0, slots := 0, locals := 0 } : Room).cells) (({ frames := 0, cells := 0, slots := 0, locals := 0 } : Room).slots) (own_Q1 q1 q2 h0 n0) (s₁.setTop (entryFrame m #[(.long q1), (.long q2)] 4))
  rw [ef_1 m q1 q2]
  show own_Fin _ _ _ _ _ _ _ (s₁.setTop (mkF m 0 #[.val (.long q1), .second, .val (.long q2), .second] []))
  refine own_st (fun t k => XS.lloadN X0.here hx rfl (hb hby d1_0) rfl k) ?_
  show own_Fin _ _ _ _ _ _ _ (s₁.setTop (mkF m 1 #[.val (.long q1), .second, .val (.long q2), .second] [(.long q1)]))
  refine own_st (fun t k => XS.lloadN X0.here hx rfl (hb hby d1_1) rfl k) ?_
  show own_Fin _ _ _ _ _ _ _ (s₁.setTop (mkF m 2 #[.val (.long q1), .second, .val (.long q2), .second] [(.long q2), (.long q1)]))
  refine own_st (fun t k => XS.lcmp X0.here hx rfl (hb hby d1_2) rfl k) ?_
  show own_Fin _ _ _ _ _ _ _ (s₁.setTop (mkF m 3 #[.val (.long q1), .second, .val (.long q2), .second] [(.int (lcmpW q1 q2))]))
  by_cases hc3_1 : q2 < q1
  · refine own_st (fun t k => XS.ifNo X0.here hx rfl (hb hby d1_3) rfl (own_gtT hc3_1).2 k) ?_
    show own_Fin _ _ _ _ _ _ _ (s₁.setTop (mkF m 6 #[.val (.long q1), .second, .val (.long q2), .second] []))
    refine own_st (fun t k => XS.lloadN X0.here hx rfl (hb hby d1_6) rfl k) ?_
    show own_Fin _ _ _ _ _ _ _ (s₁.setTop (mkF m 7 #[.val (.long q1), .second, .val (.long q2), .second] [(.long q1)]))
    refine own_st (fun t k => XS.lloadN X0.here hx rfl (hb hby d1_7) rfl k) ?_
    show own_Fin _ _ _ _ _ _ _ (s₁.setTop (mkF m 8 #[.val (.long q1), .second, .val (.long q2), .second] [(.long q2), (.long q1)]))
    refine own_st (fun t k => XS.lsub X0.here hx rfl (hb hby d1_8) rfl k) ?_
    show own_Fin _ _ _ _ _ _ _ (s₁.setTop (mkF m 9 #[.val (.long q1), .second, .val (.long q2), .second] [(.long (q1 - q2))]))
    refine own_st (fun t k => XS.goto X0.here hx rfl (pc0 := 9) (pc' := 15) rfl (hb hby d1_9) (by decide) (by decide) k) ?_
    show own_Fin _ _ _ _ _ _ _ (s₁.setTop (mkF m 15 #[.val (.long q1), .second, .val (.long q2), .second] [(.long (q1 - q2))]))
    have hv : own_F1 q1 q2 = (q1 - q2) := by unfold own_F1; rw [if_pos hc3_1]
    exact own_retJ X0 hx Bd.notSynchronized Bd.returns (hb hby d1_15) (by decide) (by decide) ⟨congrArg (fun z => some (Value.long z)) hv.symm, N0, e0⟩
  · refine own_st (fun t k => XS.ifYes X0.here hx rfl (pc0 := 3) (pc' := 12) rfl (hb hby d1_3) rfl (own_gtF hc3_1).2 (by decide) (by decide) k) ?_
    show own_Fin _ _ _ _ _ _ _ (s₁.setTop (mkF m 12 #[.val (.long q1), .second, .val (.long q2), .second] []))
    refine own_st (fun t k => XS.lloadN X0.here hx rfl (hb hby d1_12) rfl k) ?_
    show own_Fin _ _ _ _ _ _ _ (s₁.setTop (mkF m 13 #[.val (.long q1), .second, .val (.long q2), .second] [(.long q2)]))
    refine own_st (fun t k => XS.lloadN X0.here hx rfl (hb hby d1_13) rfl k) ?_
    show own_Fin _ _ _ _ _ _ _ (s₁.setTop (mkF m 14 #[.val (.long q1), .second, .val (.long q2), .second] [(.long q1), (.long q2)]))
    refine own_st (fun t k => XS.lsub X0.here hx rfl (hb hby d1_14) rfl k) ?_
    show own_Fin _ _ _ _ _ _ _ (s₁.setTop (mkF m 15 #[.val (.long q1), .second, .val (.long q2), .second] [(.long (q2 - q1))]))
    have hv : own_F1 q1 q2 = (q2 - q1) := by unfold own_F1; rw [if_neg hc3_1]
    exact own_retJ X0 hx Bd.notSynchronized Bd.returns (hb hby d1_15) (by decide) (by decide) ⟨congrArg (fun z => some (Value.long z)) hv.symm, N0, e0⟩
theorem pn_0 : plainFor x = true := plainFor_of_name (x := x) (by first | (simp [plainName, overriddenIn]; done) | decide +kernel)
theorem pd_0_0 : parseMethodDescriptor "(JJ)J" = some ⟨[.long, .long], some .long⟩ := by decide +kernel
theorem ef_0 (m : MethodId) (q1 : Int64) (q2 : Int64) : entryFrame m #[(.long q1), (.long q2)] maxLocals = mkF m 0 #[.val (.long q1), .second, .val (.long q2), .second, .unset, .unset, .unset] [] := by first | (simp [entryFrame, mkF, argsToLocals, Value.category, maxLocals]; done) | rfl
def own_F0 (q1 : Int64) (q2 : Int64) : Int32 := (if q1 < q2 then (if (q1 + (own_F1 q1 q2)) = q2 then (1 : Int32) else (0 : Int32)) else (if (q2 + (own_F1 q1 q2)) = q1 then (1 : Int32) else (0 : Int32)))
def own_Q0 (q1 : Int64) (q2 : Int64) (h0 : Heap) (n0 : Nat) (v : Option Value) (h : Heap) (L : List Loc) : Prop := v = some (.int (own_F0 q1 q2)) ∧ Fr n0 L ∧ h = h0
set_option maxRecDepth 65536 in
set_option maxHeartbeats 40000000 in
theorem rm0 (l : Launch) (Z : State) (a0 : Array Value) (hw : ∀ d ∈ tables_1, d.before a0 Z = true) (ws : List Jvm.Cond) (q1 : Int64) (q2 : Int64) (h0 : Heap) (n0 : Nat) (Z0 : n0 ≤ h0.size) :
    MetFree l x (head1 (Jvm.Cond.code x code maxLocals ret :: ws) room_1) (fun a U => a = #[(.long q1), (.long q2)] ∧ Z.Warmed39 U.vm ∧ U.heap = h0) (fun _ _ _ _ _ => True) (fun _ U o U' => ∃ v L, o = .returned v ∧ own_Q0 q1 q2 h0 n0 v U'.heap L ∧ FrameEnd U o U' L 0 0) := by
  refine MetFree.of_bodySF pn_0 hisR ?_
  intro p e s m args below meth c s₁ Bd hml0 hP hK
  obtain ⟨rfl, hZ, hh⟩ := hP
  have hx := Bd.exec
  have hby := Bd.bytes
  have hml : c.maxLocals = 7 := hml0
  have hown : s.vm.findClass "com/example/unsettle/unsettle/DrawsDistancePinLaw" = some m.cls := findClass_of_methodNamed Bd.named
  have X0 : Stand p l e room_1 s m #[(.long q1), (.long q2)] below meth c s₁ [] 0 0 := Stand.of_body Bd
  have e0 : s₁.heap = h0 := by rw [← hh, Bd.state]; rfl
  have N0 := Fr.nil n0
  show own_Fin p.tables e below s (0) (0) (own_Q0 q1 q2 h0 n0) (s₁.setTop (entryFrame m #[(.long q1), (.long q2)] maxLocals))
  rw [ef_0 m q1 q2]
  show own_Fin _ _ _ _ _ _ _ (s₁.setTop (mkF m 0 #[.val (.long q1), .second, .val (.long q2), .second, .unset, .unset, .unset] []))
  refine own_st (fun t k => XS.lloadN X0.here hx rfl (hb hby at_0) rfl k) ?_
  show own_Fin _ _ _ _ _ _ _ (s₁.setTop (mkF m 1 #[.val (.long q1), .second, .val (.long q2), .second, .unset, .unset, .unset] [(.long q1)]))
  refine own_st (fun t k => XS.lloadN X0.here hx rfl (hb hby at_1) rfl k) ?_
  show own_Fin _ _ _ _ _ _ _ (s₁.setTop (mkF m 2 #[.val (.long q1), .second, .val (.long q2), .second, .unset, .unset, .unset] [(.long q2), (.long q1)]))
  obtain ⟨_, _, ⟨T1, L1, k1, n1⟩, -, X1, ⟨Lc1, hQ1, l1, y1, z1⟩, st1⟩ := Jvm.LawKit.callS X0 hx (y := (⟨"com/example/unsettle/unsettle/Draws", "distance", "(JJ)J"⟩ : MethodName)) hown (mvT hZ (hw _ (List.mem_of_getElem? (i := 0) rfl))) (mvT hZ (hw _ (List.mem_of_getElem? (i := 1) rfl))) (mvT hZ (hw _ (List.mem_of_getElem? (i := 2) rfl))) (mvT hZ (hw _ (List.mem_of_getElem? (i := 3) rfl))) (by decide) (backOf (W := 0) (rm1 l Z a0 hw [] q1 q2 h0 n0 Z0) hZ (hw _ (List.mem_of_getElem? (i := 3) rfl)) (hw _ (List.mem_of_getElem? (i := 2) rfl)) (by decide) (by decide)) (g := (mkF m 2 #[.val (.long q1), .second, .val (.long q2), .second, .unset, .unset, .unset] [(.long q2), (.long q1)])) rfl (by rw [hml]; rfl) (argsL := [(.long q1), (.long q2)]) (rest := []) (lenOf pd_0_0 rfl) rfl (by show 2 * 0 + _ ≤ _; exact Nat.le_of_eq rfl) (hb hby at_2) (fun _ _ => ⟨rfl, e0, (by decide : 0 + 0 ≤ _), (by decide : 0 + 0 ≤ _)⟩)
  dsimp only [Pt.U, Pt.locs, Pt.cells, Pt.slots] at X1 l1 y1 z1 st1 hQ1
  subst l1 y1 z1
  obtain ⟨rfl, N1q, e1⟩ := hQ1
  have N1 := Fr.app N0 N1q
  refine own_st st1 ?_
  show own_Fin _ _ _ _ _ _ _ (T1.setTop (mkF m 5 #[.val (.long q1), .second, .val (.long q2), .second, .unset, .unset, .unset] [(.long (own_F1 q1 q2))]))
  refine own_st (fun t k => XS.lstore X1.here hx rfl (hb hby at_5) rfl (l' := #[.val (.long q1), .second, .val (.long q2), .second, .val (.long (own_F1 q1 q2)), .second, .unset]) rfl k) ?_
  show own_Fin _ _ _ _ _ _ _ (T1.setTop (mkF m 7 #[.val (.long q1), .second, .val (.long q2), .second, .val (.long (own_F1 q1 q2)), .second, .unset] []))
  refine own_st (fun t k => XS.lloadN X1.here hx rfl (hb hby at_7) rfl k) ?_
  show own_Fin _ _ _ _ _ _ _ (T1.setTop (mkF m 8 #[.val (.long q1), .second, .val (.long q2), .second, .val (.long (own_F1 q1 q2)), .second, .unset] [(.long q1)]))
  refine own_st (fun t k => XS.lloadN X1.here hx rfl (hb hby at_8) rfl k) ?_
  show own_Fin _ _ _ _ _ _ _ (T1.setTop (mkF m 9 #[.val (.long q1), .second, .val (.long q2), .second, .val (.long (own_F1 q1 q2)), .second, .unset] [(.long q2), (.long q1)]))
  refine own_st (fun t k => XS.lcmp X1.here hx rfl (hb hby at_9) rfl k) ?_
  show own_Fin _ _ _ _ _ _ _ (T1.setTop (mkF m 10 #[.val (.long q1), .second, .val (.long q2), .second, .val (.long (own_F1 q1 q2)), .second, .unset] [(.int (lcmpW q1 q2))]))
  by_cases hc10_2 : q1 < q2
  · refine own_st (fun t k => XS.ifYes X1.here hx rfl (pc0 := 10) (pc' := 32) rfl (hb hby at_10) rfl (own_ltT hc10_2).1 (by decide) (by decide) k) ?_
    show own_Fin _ _ _ _ _ _ _ (T1.setTop (mkF m 32 #[.val (.long q1), .second, .val (.long q2), .second, .val (.long (own_F1 q1 q2)), .second, .unset] []))
    refine own_st (fun t k => XS.lloadN X1.here hx rfl (hb hby at_32) rfl k) ?_
    show own_Fin _ _ _ _ _ _ _ (T1.setTop (mkF m 33 #[.val (.long q1), .second, .val (.long q2), .second, .val (.long (own_F1 q1 q2)), .second, .unset] [(.long q1)]))
    refine own_st (fun t k => XS.lload X1.here hx rfl (hb hby at_33) rfl k) ?_
    show own_Fin _ _ _ _ _ _ _ (T1.setTop (mkF m 35 #[.val (.long q1), .second, .val (.long q2), .second, .val (.long (own_F1 q1 q2)), .second, .unset] [(.long (own_F1 q1 q2)), (.long q1)]))
    refine own_st (fun t k => XS.ladd X1.here hx rfl (hb hby at_35) rfl k) ?_
    show own_Fin _ _ _ _ _ _ _ (T1.setTop (mkF m 36 #[.val (.long q1), .second, .val (.long q2), .second, .val (.long (own_F1 q1 q2)), .second, .unset] [(.long (q1 + (own_F1 q1 q2)))]))
    refine own_st (fun t k => XS.lloadN X1.here hx rfl (hb hby at_36) rfl k) ?_
    show own_Fin _ _ _ _ _ _ _ (T1.setTop (mkF m 37 #[.val (.long q1), .second, .val (.long q2), .second, .val (.long (own_F1 q1 q2)), .second, .unset] [(.long q2), (.long (q1 + (own_F1 q1 q2)))]))
    refine own_st (fun t k => XS.lcmp X1.here hx rfl (hb hby at_37) rfl k) ?_
    show own_Fin _ _ _ _ _ _ _ (T1.setTop (mkF m 38 #[.val (.long q1), .second, .val (.long q2), .second, .val (.long (own_F1 q1 q2)), .second, .unset] [(.int (lcmpW (q1 + (own_F1 q1 q2)) q2))]))
    by_cases hc38_3 : (q1 + (own_F1 q1 q2)) = q2
    · refine own_st (fun t k => XS.ifNo X1.here hx rfl (hb hby at_38) rfl (own_eqT hc38_3).2 k) ?_
      show own_Fin _ _ _ _ _ _ _ (T1.setTop (mkF m 41 #[.val (.long q1), .second, .val (.long q2), .second, .val (.long (own_F1 q1 q2)), .second, .unset] []))
      refine own_st (fun t k => XS.iconst X1.here hx rfl (hb hby at_41) k) ?_
      show own_Fin _ _ _ _ _ _ _ (T1.setTop (mkF m 42 #[.val (.long q1), .second, .val (.long q2), .second, .val (.long (own_F1 q1 q2)), .second, .unset] [(.int (1 : Int32))]))
      refine own_st (fun t k => XS.goto X1.here hx rfl (pc0 := 42) (pc' := 46) rfl (hb hby at_42) (by decide) (by decide) k) ?_
      show own_Fin _ _ _ _ _ _ _ (T1.setTop (mkF m 46 #[.val (.long q1), .second, .val (.long q2), .second, .val (.long (own_F1 q1 q2)), .second, .unset] [(.int (1 : Int32))]))
      refine own_st (fun t k => XS.istore X1.here hx rfl (hb hby at_46) rfl (l' := #[.val (.long q1), .second, .val (.long q2), .second, .val (.long (own_F1 q1 q2)), .second, .val (.int (1 : Int32))]) rfl k) ?_
      show own_Fin _ _ _ _ _ _ _ (T1.setTop (mkF m 48 #[.val (.long q1), .second, .val (.long q2), .second, .val (.long (own_F1 q1 q2)), .second, .val (.int (1 : Int32))] []))
      refine own_st (fun t k => XS.iload X1.here hx rfl (hb hby at_48) rfl k) ?_
      show own_Fin _ _ _ _ _ _ _ (T1.setTop (mkF m 50 #[.val (.long q1), .second, .val (.long q2), .second, .val (.long (own_F1 q1 q2)), .second, .val (.int (1 : Int32))] [(.int (1 : Int32))]))
      have hv : own_F0 q1 q2 = (1 : Int32) := by unfold own_F0; rw [if_pos hc10_2, if_pos hc38_3]
      exact own_retN X1 hx Bd.notSynchronized (t := .boolean) Bd.returns (by simp) (hb hby at_50) (by decide) (by decide) ⟨congrArg (fun z => some (Value.int z)) hv.symm, N1, e1⟩
    · refine own_st (fun t k => XS.ifYes X1.here hx rfl (pc0 := 38) (pc' := 45) rfl (hb hby at_38) rfl (own_eqF hc38_3).2 (by decide) (by decide) k) ?_
      show own_Fin _ _ _ _ _ _ _ (T1.setTop (mkF m 45 #[.val (.long q1), .second, .val (.long q2), .second, .val (.long (own_F1 q1 q2)), .second, .unset] []))
      refine own_st (fun t k => XS.iconst X1.here hx rfl (hb hby at_45) k) ?_
      show own_Fin _ _ _ _ _ _ _ (T1.setTop (mkF m 46 #[.val (.long q1), .second, .val (.long q2), .second, .val (.long (own_F1 q1 q2)), .second, .unset] [(.int (0 : Int32))]))
      refine own_st (fun t k => XS.istore X1.here hx rfl (hb hby at_46) rfl (l' := #[.val (.long q1), .second, .val (.long q2), .second, .val (.long (own_F1 q1 q2)), .second, .val (.int (0 : Int32))]) rfl k) ?_
      show own_Fin _ _ _ _ _ _ _ (T1.setTop (mkF m 48 #[.val (.long q1), .second, .val (.long q2), .second, .val (.long (own_F1 q1 q2)), .second, .val (.int (0 : Int32))] []))
      refine own_st (fun t k => XS.iload X1.here hx rfl (hb hby at_48) rfl k) ?_
      show own_Fin _ _ _ _ _ _ _ (T1.setTop (mkF m 50 #[.val (.long q1), .second, .val (.long q2), .second, .val (.long (own_F1 q1 q2)), .second, .val (.int (0 : Int32))] [(.int (0 : Int32))]))
      have hv : own_F0 q1 q2 = (0 : Int32) := by unfold own_F0; rw [if_pos hc10_2, if_neg hc38_3]
      exact own_retN X1 hx Bd.notSynchronized (t := .boolean) Bd.returns (by simp) (hb hby at_50) (by decide) (by decide) ⟨congrArg (fun z => some (Value.int z)) hv.symm, N1, e1⟩
  · refine own_st (fun t k => XS.ifNo X1.here hx rfl (hb hby at_10) rfl (own_ltF hc10_2).1 k) ?_
    show own_Fin _ _ _ _ _ _ _ (T1.setTop (mkF m 13 #[.val (.long q1), .second, .val (.long q2), .second, .val (.long (own_F1 q1 q2)), .second, .unset] []))
    refine own_st (fun t k => XS.lloadN X1.here hx rfl (hb hby at_13) rfl k) ?_
    show own_Fin _ _ _ _ _ _ _ (T1.setTop (mkF m 14 #[.val (.long q1), .second, .val (.long q2), .second, .val (.long (own_F1 q1 q2)), .second, .unset] [(.long q2)]))
    refine own_st (fun t k => XS.lload X1.here hx rfl (hb hby at_14) rfl k) ?_
    show own_Fin _ _ _ _ _ _ _ (T1.setTop (mkF m 16 #[.val (.long q1), .second, .val (.long q2), .second, .val (.long (own_F1 q1 q2)), .second, .unset] [(.long (own_F1 q1 q2)), (.long q2)]))
    refine own_st (fun t k => XS.ladd X1.here hx rfl (hb hby at_16) rfl k) ?_
    show own_Fin _ _ _ _ _ _ _ (T1.setTop (mkF m 17 #[.val (.long q1), .second, .val (.long q2), .second, .val (.long (own_F1 q1 q2)), .second, .unset] [(.long (q2 + (own_F1 q1 q2)))]))
    refine own_st (fun t k => XS.lloadN X1.here hx rfl (hb hby at_17) rfl k) ?_
    show own_Fin _ _ _ _ _ _ _ (T1.setTop (mkF m 18 #[.val (.long q1), .second, .val (.long q2), .second, .val (.long (own_F1 q1 q2)), .second, .unset] [(.long q1), (.long (q2 + (own_F1 q1 q2)))]))
    refine own_st (fun t k => XS.lcmp X1.here hx rfl (hb hby at_18) rfl k) ?_
    show own_Fin _ _ _ _ _ _ _ (T1.setTop (mkF m 19 #[.val (.long q1), .second, .val (.long q2), .second, .val (.long (own_F1 q1 q2)), .second, .unset] [(.int (lcmpW (q2 + (own_F1 q1 q2)) q1))]))
    by_cases hc19_4 : (q2 + (own_F1 q1 q2)) = q1
    · refine own_st (fun t k => XS.ifNo X1.here hx rfl (hb hby at_19) rfl (own_eqT hc19_4).2 k) ?_
      show own_Fin _ _ _ _ _ _ _ (T1.setTop (mkF m 22 #[.val (.long q1), .second, .val (.long q2), .second, .val (.long (own_F1 q1 q2)), .second, .unset] []))
      refine own_st (fun t k => XS.iconst X1.here hx rfl (hb hby at_22) k) ?_
      show own_Fin _ _ _ _ _ _ _ (T1.setTop (mkF m 23 #[.val (.long q1), .second, .val (.long q2), .second, .val (.long (own_F1 q1 q2)), .second, .unset] [(.int (1 : Int32))]))
      refine own_st (fun t k => XS.goto X1.here hx rfl (pc0 := 23) (pc' := 27) rfl (hb hby at_23) (by decide) (by decide) k) ?_
      show own_Fin _ _ _ _ _ _ _ (T1.setTop (mkF m 27 #[.val (.long q1), .second, .val (.long q2), .second, .val (.long (own_F1 q1 q2)), .second, .unset] [(.int (1 : Int32))]))
      refine own_st (fun t k => XS.istore X1.here hx rfl (hb hby at_27) rfl (l' := #[.val (.long q1), .second, .val (.long q2), .second, .val (.long (own_F1 q1 q2)), .second, .val (.int (1 : Int32))]) rfl k) ?_
      show own_Fin _ _ _ _ _ _ _ (T1.setTop (mkF m 29 #[.val (.long q1), .second, .val (.long q2), .second, .val (.long (own_F1 q1 q2)), .second, .val (.int (1 : Int32))] []))
      refine own_st (fun t k => XS.goto X1.here hx rfl (pc0 := 29) (pc' := 48) rfl (hb hby at_29) (by decide) (by decide) k) ?_
      show own_Fin _ _ _ _ _ _ _ (T1.setTop (mkF m 48 #[.val (.long q1), .second, .val (.long q2), .second, .val (.long (own_F1 q1 q2)), .second, .val (.int (1 : Int32))] []))
      refine own_st (fun t k => XS.iload X1.here hx rfl (hb hby at_48) rfl k) ?_
      show own_Fin _ _ _ _ _ _ _ (T1.setTop (mkF m 50 #[.val (.long q1), .second, .val (.long q2), .second, .val (.long (own_F1 q1 q2)), .second, .val (.int (1 : Int32))] [(.int (1 : Int32))]))
      have hv : own_F0 q1 q2 = (1 : Int32) := by unfold own_F0; rw [if_neg hc10_2, if_pos hc19_4]
      exact own_retN X1 hx Bd.notSynchronized (t := .boolean) Bd.returns (by simp) (hb hby at_50) (by decide) (by decide) ⟨congrArg (fun z => some (Value.int z)) hv.symm, N1, e1⟩
    · refine own_st (fun t k => XS.ifYes X1.here hx rfl (pc0 := 19) (pc' := 26) rfl (hb hby at_19) rfl (own_eqF hc19_4).2 (by decide) (by decide) k) ?_
      show own_Fin _ _ _ _ _ _ _ (T1.setTop (mkF m 26 #[.val (.long q1), .second, .val (.long q2), .second, .val (.long (own_F1 q1 q2)), .second, .unset] []))
      refine own_st (fun t k => XS.iconst X1.here hx rfl (hb hby at_26) k) ?_
      show own_Fin _ _ _ _ _ _ _ (T1.setTop (mkF m 27 #[.val (.long q1), .second, .val (.long q2), .second, .val (.long (own_F1 q1 q2)), .second, .unset] [(.int (0 : Int32))]))
      refine own_st (fun t k => XS.istore X1.here hx rfl (hb hby at_27) rfl (l' := #[.val (.long q1), .second, .val (.long q2), .second, .val (.long (own_F1 q1 q2)), .second, .val (.int (0 : Int32))]) rfl k) ?_
      show own_Fin _ _ _ _ _ _ _ (T1.setTop (mkF m 29 #[.val (.long q1), .second, .val (.long q2), .second, .val (.long (own_F1 q1 q2)), .second, .val (.int (0 : Int32))] []))
      refine own_st (fun t k => XS.goto X1.here hx rfl (pc0 := 29) (pc' := 48) rfl (hb hby at_29) (by decide) (by decide) k) ?_
      show own_Fin _ _ _ _ _ _ _ (T1.setTop (mkF m 48 #[.val (.long q1), .second, .val (.long q2), .second, .val (.long (own_F1 q1 q2)), .second, .val (.int (0 : Int32))] []))
      refine own_st (fun t k => XS.iload X1.here hx rfl (hb hby at_48) rfl k) ?_
      show own_Fin _ _ _ _ _ _ _ (T1.setTop (mkF m 50 #[.val (.long q1), .second, .val (.long q2), .second, .val (.long (own_F1 q1 q2)), .second, .val (.int (0 : Int32))] [(.int (0 : Int32))]))
      have hv : own_F0 q1 q2 = (0 : Int32) := by unfold own_F0; rw [if_neg hc10_2, if_neg hc19_4]
      exact own_retN X1 hx Bd.notSynchronized (t := .boolean) Bd.returns (by simp) (hb hby at_50) (by decide) (by decide) ⟨congrArg (fun z => some (Value.int z)) hv.symm, N1, e1⟩
theorem own_plain (q0 q1 : Int64) : own_F0 q0 q1 = 1 := by
  have a1 := c_lsub q0 q1
  have a2 := c_lsub q1 q0
  have a3 := c_ladd q0 (q1 - q0)
  have a4 := c_ladd q1 (q0 - q1)
  have a5 := c_ladd q1 (q1 - q0)
  have b0 := rng64 q0
  have b1 := rng64 q1
  have b2 := rng64 (q0 - q1)
  have b3 := rng64 (q1 - q0)
  have b4 := rng64 (q0 + (q1 - q0))
  have b5 := rng64 (q1 + (q0 - q1))
  have b6 := rng64 (q1 + (q1 - q0))
  unfold own_F0
  by_cases h : q0 < q1
  · have h' := Int64.lt_iff_toInt_lt.mp h
    have e : own_F1 q0 q1 = q1 - q0 := by
      unfold own_F1
      rw [if_neg (fun q => by have q' := Int64.lt_iff_toInt_lt.mp q; omega)]
    rw [if_pos h, e, if_pos (Int64.toInt_inj.mp (by omega))]
  · have h' : ¬ q0.toInt < q1.toInt := fun q => h (Int64.lt_iff_toInt_lt.mpr q)
    rw [if_neg h]
    by_cases h2 : q1 < q0
    · have e : own_F1 q0 q1 = q0 - q1 := by unfold own_F1; rw [if_pos h2]
      rw [e, if_pos (Int64.toInt_inj.mp (by omega))]
    · have h2' : ¬ q1.toInt < q0.toInt := fun q => h2 (Int64.lt_iff_toInt_lt.mpr q)
      have e : own_F1 q0 q1 = q1 - q0 := by unfold own_F1; rw [if_neg h2]
      rw [e, if_pos (Int64.toInt_inj.mp (by omega))]
set_option maxRecDepth 65536 in
set_option maxHeartbeats 40000000 in
theorem comes_1 {Post : Tables → Env → Array Value → State → Outcome → State → Prop} (hpost : ∀ tb e args s v u, (limb_1_1.after args s (.returned v) u = true ∧ limb_1_2.after args s (.returned v) u = true ∧ True) → FrameEnd s (.returned v) u (Jvm.fieldLocs frame_1_writes args s ++ Jvm.arrayLocs frame_1_arrays args s ++ Jvm.staticLocs frame_1_statics s) 0 0 → Post tb e args s (.returned v) u) :
    ArmFor flags0 classFile x code maxLocals ret World_1 tables_1 room_1 Calls_1 rest_1 Pre_1 Post := by
  intro l hfl _ _ p e ha hc hk s m args below hf hA hF happ hP
  obtain ⟨hcalls, hrest, hpre⟩ := hP
  obtain ⟨-, -, -, hnamed, -, -, -, hat⟩ := (Spec.applies_iff hf).mp happ
  obtain ⟨hg, hn⟩ := and_e (Cond.before_iff.mp (show (Jvm.Cond.and given_1 narrow_1).before args s = true from hpre))
  obtain ⟨g3, g4⟩ := and_e hg
  obtain ⟨g5, g6⟩ := and_e g4
  obtain ⟨w0, w1, rfl⟩ : ∃ w0 w1 : Value, args = #[w0, w1] := by
    have hs : args.size = 2 := by simpa [Cond.value, given_1] using g3
    obtain ⟨L⟩ := args
    match L, hs with
    | [w0, w1], _ => exact ⟨w0, w1, rfl⟩
  have hw := fun d (hd : d ∈ tables_1) => atoms_spec (ws := Jvm.Cond.code x code maxLocals ret :: tables_1) hat d (List.mem_cons_of_mem _ hd)
  obtain ⟨i0, ei0⟩ := isL_v g5
  obtain rfl : w0 = (.long i0) := Option.some.inj ei0
  obtain ⟨i1, ei1⟩ := isL_v g6
  obtain rfl : w1 = (.long i1) := Option.some.inj ei1
  obtain ⟨n, o, h1, h2, h3, v, L, rfl, ⟨hv, N, -⟩, hq⟩ := rm0 l s _ hw tables_1 i0 i1 s.heap s.heap.size (Nat.le_refl _) p e ha hc hk s m _ below hf ((Spec.applies_iff_loose hf).mp happ).1 ⟨rfl, State.Warmed39.refl s, rfl⟩ trivial
  rw [own_plain i0 i1] at hv
  subst hv
  refine ⟨n, _, h1, h2, h3, hpost _ _ _ _ _ _ ⟨Cond.after_iff.mpr rfl, Cond.after_iff.mpr (eq_i res_at (Term.int_eval (1)) rfl), trivial⟩ ⟨hq.1, hq.2.1, (hq.2.2.sift fun y hy => Or.inr (N y hy)).mono (by decide) (by decide)⟩⟩
theorem main_1_1 : Claimed_1_1 := comes_1 fun _ _ _ _ _ _ h hF => ⟨h.1, hF⟩
theorem main_1_2 : Claimed_1_2 := comes_1 fun _ _ _ _ _ _ h hF => ⟨h.2.1, hF⟩
end Jvm.Pilot.@@N@@
namespace Jvm.Pilot.@@N@@
open Jvm Jvm.ClassFile Sem Op Lib Jvm.Free Jvm.Stand Jvm.Pilot.@@N@@.Jvm.D
/-! MADE BY PROGRAM (witnessworld.py) out of the Statement's table words and the real class files: 9 classes; the members and pool entries that the words name. The judged class is class 1, her method 1. -/
namespace start1
open Jvm.ClassFile
def u (s : String) : CpInfo := .utf8 (stringToUtf16 s)
/-- a pool by its gaps: so many unusable entries, then the entry; so many at the end -/
def gap : Nat → List CpInfo → List CpInfo
  | 0, r => r
  | n + 1, r => .unusable :: gap n r
def poolList (es : List (Nat × CpInfo)) (last : Nat) : List CpInfo := es.foldr (fun e r => gap e.1 (e.2 :: r)) (gap last [])
def pool (es : List (Nat × CpInfo)) (last : Nat) : Array CpInfo := ⟨poolList es last⟩
def fileOf (pool : Array CpInfo) (this : Nat) (attrs : Array Attribute := #[]) (ms : Array MethodInfo := #[]) (fl : Nat := 33) (sup : Nat := 0) (ifs : Array Nat := #[]) (fds : Array FieldInfo := #[]) : ClassFile where
  minorVersion := 0
  majorVersion := 65
  constantPool := pool
  accessFlags := fl
  thisClass := this
  superClass := sup
  interfaces := ifs
  fields := fds
  methods := ms
  attributes := attrs
def plain (name : String) (sup : Option ClassId) : Class where
  name := name
  kind := .ordinary
  loader := none
  accessFlags := 33
  super := sup
  interfaces := #[]
  cf := none
  fields := #[]
  methods := #[]
  instanceTypes := #[]
  staticTypes := #[]
  resolved := #[]
  callSites := []
  init := .initialized
  statics := none
  mirror := none

def pool0 : Array CpInfo := pool [(5, u "<init>"), (0, u "()V"), (1, .class_ 10), (1, u "java/lang/Object")] 113

def k0m0 : Method := { name := "<init>", desc := "()V", sig := { parameters := [], returnType := none }, accessFlags := 1, code := none }
/-- java/lang/Object -/
def k0 : Class := { plain "java/lang/Object" none with
  accessFlags := 33
  interfaces := #[]
  cf := some (fileOf pool0 8 #[] #[{ accessFlags := 1, nameIndex := 5, descriptorIndex := 6, attributes := #[] }] 33 0 #[] #[])
  fields := #[]
  methods := #[k0m0]
  instanceTypes := #[]
  staticTypes := #[]
  resolved := Array.replicate 124 none
  statics := none }

def pool1 : Array CpInfo := pool [(2, .class_ 4), (1, u "java/lang/Object"), (0, u "<init>"), (0, u "()V"), (0, .methodref 8 9), (0, .class_ 10), (0, .nameAndType 11 12), (0, u "com/example/unsettle/unsettle/Draws"), (0, u "distance"), (0, u "(JJ)J"), (0, .class_ 14), (0, u "com/example/unsettle/unsettle/DrawsDistancePinLaw"), (2, u "law"), (0, u "(JJ)Z")] 3

def k1m0 : Method := { name := "<init>", desc := "()V", sig := { parameters := [], returnType := none }, accessFlags := 2, code := none }
def k1c1 : Code := { maxStack := 4, maxLocals := 7, code := code, exceptionTable := #[], attributes := #[] }
def k1m1 : Method := { name := "law", desc := "(JJ)Z", sig := { parameters := [.long, .long], returnType := some .boolean }, accessFlags := 9, code := some k1c1 }
/-- com/example/unsettle/unsettle/DrawsDistancePinLaw -/
def k1 : Class := { plain "com/example/unsettle/unsettle/DrawsDistancePinLaw" (some 0) with
  accessFlags := 49
  interfaces := #[]
  cf := some (fileOf pool1 13 #[] #[{ accessFlags := 2, nameIndex := 5, descriptorIndex := 6, attributes := #[] }, { accessFlags := 9, nameIndex := 17, descriptorIndex := 18, attributes := #[] }] 49 2 #[] #[])
  fields := #[]
  methods := #[k1m0, k1m1]
  instanceTypes := #[]
  staticTypes := #[]
  resolved := Array.replicate 22 none
  statics := none }

def pool2 : Array CpInfo := pool [(2, .class_ 4), (1, u "java/lang/Object"), (3, .class_ 10), (1, u "com/example/unsettle/unsettle/Draws"), (0, u "values"), (0, u "[J"), (2, u "mins"), (2, u "maxs"), (2, u "partsEnds"), (0, u "[I"), (2, u "marks"), (0, u "[Lcom/example/unsettle/unsettle/Draws$Mark;"), (2, u "elementStarts"), (2, u "elementEnds"), (2, u "sizeDraws"), (2, u "repeats"), (0, u "Ljava/util/BitSet;"), (2, u "argumentStarts"), (2, u "argumentEnds"), (2, u "previousSiblings"), (16, u "(JJ)J"), (90, u "collectionEnds"), (19, u "holders"), (90, u "UNCOUNTED"), (0, u "I"), (56, u "distance"), (6, .class_ 333), (0, u "com/example/unsettle/unsettle/Draws$Recorder"), (0, .class_ 335), (0, u "com/example/unsettle/unsettle/Draws$Mark")] 17

def k2c0 : Code := { maxStack := 4, maxLocals := 4, code := prog_14_method_80_code, exceptionTable := #[], attributes := #[] }
def k2m0 : Method := { name := "distance", desc := "(JJ)J", sig := { parameters := [.long, .long], returnType := some .long }, accessFlags := 8, code := some k2c0 }
/-- com/example/unsettle/unsettle/Draws -/
def k2 : Class := { plain "com/example/unsettle/unsettle/Draws" (some 0) with
  accessFlags := 48
  interfaces := #[]
  cf := some (fileOf pool2 8 #[.nestMembers #[332, 334]] #[{ accessFlags := 8, nameIndex := 325, descriptorIndex := 65, attributes := #[] }] 48 2 #[] #[{ accessFlags := 24, nameIndex := 267, descriptorIndex := 268, attributes := #[] }, { accessFlags := 18, nameIndex := 11, descriptorIndex := 12, attributes := #[] }, { accessFlags := 18, nameIndex := 15, descriptorIndex := 12, attributes := #[] }, { accessFlags := 18, nameIndex := 18, descriptorIndex := 12, attributes := #[] }, { accessFlags := 18, nameIndex := 21, descriptorIndex := 22, attributes := #[] }, { accessFlags := 18, nameIndex := 25, descriptorIndex := 26, attributes := #[] }, { accessFlags := 18, nameIndex := 29, descriptorIndex := 22, attributes := #[] }, { accessFlags := 18, nameIndex := 32, descriptorIndex := 22, attributes := #[] }, { accessFlags := 18, nameIndex := 35, descriptorIndex := 22, attributes := #[] }, { accessFlags := 18, nameIndex := 38, descriptorIndex := 39, attributes := #[] }, { accessFlags := 18, nameIndex := 42, descriptorIndex := 22, attributes := #[] }, { accessFlags := 18, nameIndex := 45, descriptorIndex := 22, attributes := #[] }, { accessFlags := 18, nameIndex := 48, descriptorIndex := 22, attributes := #[] }, { accessFlags := 2, nameIndex := 176, descriptorIndex := 22, attributes := #[] }, { accessFlags := 2, nameIndex := 156, descriptorIndex := 22, attributes := #[] }])
  fields := #[{ name := "UNCOUNTED", type := .int, accessFlags := 24, slot := 0, constantValue := 0 }, { name := "values", type := (.array .long), accessFlags := 18, slot := 0, constantValue := 0 }, { name := "mins", type := (.array .long), accessFlags := 18, slot := 1, constantValue := 0 }, { name := "maxs", type := (.array .long), accessFlags := 18, slot := 2, constantValue := 0 }, { name := "partsEnds", type := (.array .int), accessFlags := 18, slot := 3, constantValue := 0 }, { name := "marks", type := (.array (.object "com/example/unsettle/unsettle/Draws$Mark")), accessFlags := 18, slot := 4, constantValue := 0 }, { name := "elementStarts", type := (.array .int), accessFlags := 18, slot := 5, constantValue := 0 }, { name := "elementEnds", type := (.array .int), accessFlags := 18, slot := 6, constantValue := 0 }, { name := "sizeDraws", type := (.array .int), accessFlags := 18, slot := 7, constantValue := 0 }, { name := "repeats", type := (.object "java/util/BitSet"), accessFlags := 18, slot := 8, constantValue := 0 }, { name := "argumentStarts", type := (.array .int), accessFlags := 18, slot := 9, constantValue := 0 }, { name := "argumentEnds", type := (.array .int), accessFlags := 18, slot := 10, constantValue := 0 }, { name := "previousSiblings", type := (.array .int), accessFlags := 18, slot := 11, constantValue := 0 }, { name := "holders", type := (.array .int), accessFlags := 2, slot := 12, constantValue := 0 }, { name := "collectionEnds", type := (.array .int), accessFlags := 2, slot := 13, constantValue := 0 }]
  methods := #[k2m0]
  instanceTypes := #[(.array .long), (.array .long), (.array .long), (.array .int), (.array (.object "com/example/unsettle/unsettle/Draws$Mark")), (.array .int), (.array .int), (.array .int), (.object "java/util/BitSet"), (.array .int), (.array .int), (.array .int), (.array .int), (.array .int)]
  staticTypes := #[.int]
  resolved := Array.replicate 353 none
  statics := none }

def pool3 : Array CpInfo := pool [(1, u "java/lang/Cloneable"), (0, .class_ 1), (0, u "java/lang/Object"), (0, .class_ 3)] 3

/-- java/lang/Cloneable -/
def k3 : Class := { plain "java/lang/Cloneable" (some 0) with
  accessFlags := 1537
  interfaces := #[]
  cf := some (fileOf pool3 2 #[] #[] 1537 4 #[] #[])
  fields := #[]
  methods := #[]
  instanceTypes := #[]
  staticTypes := #[]
  resolved := Array.replicate 8 none
  statics := none }

def pool4 : Array CpInfo := pool [(1, u "java/io/Serializable"), (0, .class_ 1), (0, u "java/lang/Object"), (0, .class_ 3)] 3

/-- java/io/Serializable -/
def k4 : Class := { plain "java/io/Serializable" (some 0) with
  accessFlags := 1537
  interfaces := #[]
  cf := some (fileOf pool4 2 #[] #[] 1537 4 #[] #[])
  fields := #[]
  methods := #[]
  instanceTypes := #[]
  staticTypes := #[]
  resolved := Array.replicate 8 none
  statics := none }

/-- the primitive byte -/
def k5 : Class := { plain "byte" none with kind := .primitive 'B', accessFlags := 0x411 }
/-- [B -/
def k6 : Class := { plain "[B" (some 0) with kind := .array 5 .byte, interfaces := #[3, 4], accessFlags := 1041 }

/-- the primitive int -/
def k7 : Class := { plain "int" none with kind := .primitive 'I', accessFlags := 0x411 }
/-- [I -/
def k8 : Class := { plain "[I" (some 0) with kind := .array 7 .int, interfaces := #[3, 4], accessFlags := 1041 }

def heap : Heap := #[]
def classes : Array Class := #[k0, k1, k2, k3, k4, k5, k6, k7, k8]
def interned : List (Array UInt16 × Addr) := []
def slotsUsed : Nat := 0
def theMethod : MethodId := ⟨1, 1⟩
def args0 : Array Value := #[.long 5, .long 3]
def aboutOver (below : List Frame) : State where
  vm := { classes := classes, interned := interned.toArray }
  heap := heap
  slotsUsed := slotsUsed
  threads := #[{ frames := .invoking theMethod args0 :: below }]
def below0 : List Frame := [.native { method := ⟨0, 0⟩, args := #[] }]
def about1 : State := aboutOver below0
def p0 : Program := .bare "" "" ""
def e0 : Env := launch0.env 0 0 0
theorem w_frames : about1.frames = Frame.invoking theMethod args0 :: below0 := rfl
set_option maxRecDepth 65536 in
theorem w_args : argsFit about1.vm theMethod args0 = true := by decide +kernel
set_option maxRecDepth 65536 in
theorem w_heap : heapFits about1 = true := by decide +kernel
set_option maxRecDepth 65536 in
theorem w_runnable : about1.curStatus? = some .runnable := by decide +kernel
set_option maxRecDepth 65536 in
theorem w_alone : about1.alone = true := by decide +kernel
set_option maxRecDepth 65536 in
theorem w_named : about1.methodNamed? x = some theMethod := by decide +kernel
set_option maxRecDepth 65536 in
theorem w_hears : about1.hears theMethod below0 = true := by decide +kernel
set_option maxRecDepth 65536 in
theorem w_ripe : about1.ripe theMethod args0 below0 = true := by decide +kernel
theorem w_running : about1.status = .running := rfl
set_option maxRecDepth 65536 in
theorem w_room : about1.hasRoom e0.platform room_1 = true :=
  launch0.hasRoom_least _ room_1 (by decide +kernel) (by decide +kernel) (by decide +kernel) (by decide +kernel) (by decide +kernel) (by decide +kernel)
theorem allAtoms_all (ts : List Jvm.Cond) (a : Array Jvm.Value) (st : Jvm.State) : (allAtoms ts).before a st = ts.all (fun c => c.before a st) := by
  induction ts with
  | nil => rfl
  | cons c t ih =>
    show (Jvm.Cond.and c (allAtoms t)).before a st = _
    rw [Jvm.Cond.before_and, ih, List.all_cons]
def words1 : List Jvm.Cond := Jvm.Cond.code x code maxLocals ret :: tables_1
/-- a 'code' word, met by the world's own term for the bytes: nothing is compared byte by byte -/
theorem code_word {y : MethodName} {bytes : ByteArray} {mx : Nat} {rt : Option FieldType} {a : Array Value} {s : State} {m : MethodId} {meth : Method} {c : Code} (h1 : s.methodNamed? y = some m) (h2 : s.vm.method? m = some meth) (h3 : meth.code = some c) (h4 : c.code = bytes)
    (h5 : (c.maxLocals == mx && c.exceptionTable.isEmpty && decide (c.maxStack ≤ mostOperands) && decide (meth.sig.returnType = rt) && !meth.locks && decide (parseMethodDescriptor y.desc = some meth.sig)) = true) : (Jvm.Cond.code y bytes mx rt).before a s = true := by
  simp only [Bool.and_eq_true, beq_iff_eq, Bool.not_eq_true', decide_eq_true_eq] at h5
  obtain ⟨⟨⟨⟨⟨g1, g2⟩, g3⟩, g4⟩, g5⟩, g6⟩ := h5
  simp [Cond.before, Cond.holds, Cond.value, h1, h2, h3, h4, g1, g2, g3, g4, g5, g6]
def isCode : Jvm.Cond → Bool
  | .code _ _ _ _ => true
  | _ => false
theorem all_split {L : List Jvm.Cond} {P : Jvm.Cond → Bool} (h1 : L.all (fun c => isCode c || P c) = true) (h2 : ∀ c ∈ L.filter isCode, P c = true) : L.all P = true := by
  refine List.all_eq_true.mpr fun c hc => ?_
  have h := List.all_eq_true.mp h1 c hc
  rcases Bool.eq_false_or_eq_true (isCode c) with hi | hi
  · exact h2 c (List.mem_filter.mpr ⟨hc, hi⟩)
  · simpa [hi] using h
set_option maxRecDepth 65536 in
theorem w_c0 : (Jvm.Cond.code x code maxLocals ret).before args0 about1 = true := code_word (m := ⟨1, 1⟩) (meth := k1m1) (c := k1c1) (by decide +kernel) rfl rfl rfl (by decide +kernel)
set_option maxRecDepth 65536 in
theorem w_c1 : (Jvm.Cond.code ({ cls := "com/example/unsettle/unsettle/Draws", name := "distance", desc := "(JJ)J" } : Jvm.MethodName) prog_14_method_80_code (4 : Nat) (Option.some Jvm.ClassFile.FieldType.long)).before args0 about1 = true := code_word (m := ⟨2, 0⟩) (meth := k2m0) (c := k2c0) (by decide +kernel) rfl rfl rfl (by decide +kernel)
def codes1 : List Jvm.Cond := [Jvm.Cond.code x code maxLocals ret, Jvm.Cond.code ({ cls := "com/example/unsettle/unsettle/Draws", name := "distance", desc := "(JJ)J" } : Jvm.MethodName) prog_14_method_80_code (4 : Nat) (Option.some Jvm.ClassFile.FieldType.long)]
set_option maxRecDepth 65536 in
theorem codes_eq : words1.filter isCode = codes1 := rfl
theorem w_codes : ∀ c ∈ words1.filter isCode, c.before args0 about1 = true := by
  rw [codes_eq]
  intro c hc
  simp only [codes1, List.mem_cons, List.not_mem_nil, or_false] at hc
  rcases hc with rfl | rfl
  · exact w_c0
  · exact w_c1
set_option maxRecDepth 65536 in
theorem w_t1 : words1.all (fun c => isCode c || c.before args0 about1) = true := by decide +kernel
theorem w_tables : (allAtoms (Jvm.Cond.code x code maxLocals ret :: tables_1)).before args0 about1 = true := by
  rw [allAtoms_all]
  show words1.all (fun c => c.before args0 about1) = true
  refine all_split ?_ w_codes
  rw [w_t1]
set_option maxRecDepth 65536 in
theorem w_case : (Jvm.Cond.and given_1 narrow_1).before args0 about1 = true := by decide +kernel
theorem w_applies : (headSpec (Jvm.Cond.code x code maxLocals ret :: tables_1) room_1).applies x e0.platform about1 = true :=
  (Spec.applies_iff w_frames).mpr ⟨w_running, w_runnable, w_alone, w_named, w_hears, w_ripe, w_room, w_tables⟩
theorem atStart : AtStart classFile x code maxLocals ret World_1 tables_1 room_1 Calls_1 rest_1 Pre_1 launch0 p0 e0 about1 theMethod args0 below0 :=
  ⟨lists_1, trivial, launch0.admits_env _ _ _, launch0.least_env, fairChoices_fair.cas, fairChoices_fair.clock, w_frames, w_args, w_heap, w_applies, trivial, trivial, w_case⟩
end start1
theorem witness_1 : WitnessClaimed_1 := ⟨start1.p0, start1.e0, start1.about1, start1.theMethod, start1.args0, start1.below0, start1.atStart⟩
end Jvm.Pilot.@@N@@
