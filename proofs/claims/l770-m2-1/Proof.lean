import JvmDerived
import JvmDerived.Pilot.@@N@@Statement
import JvmDerived.Pilot.@@N@@Code
set_option linter.unusedVariables false
set_option linter.unusedSimpArgs false
namespace Jvm.RoadKit
open Sem ClassFile Op Lib Jvm.Stand Jvm.Free Jvm.LawKit
section New
variable {p : Program} {l : Launch} {e : Env} {R : Room} {s : State} {m : MethodId} {args : Array Value} {below : List Frame} {meth : Method} {c : Code} {T : State} {locs : List Loc} {cells slots : Nat}
theorem retI (X : Stand p l e R s m args below meth c T locs cells slots) (hx : p.tables.exec = Jvm.exec) {pc : Nat} {Ls : Array Slot} {z : Int32} {rest : List Value} (hret : meth.sig.returnType = some .int) (hd : decode c.code pc = .ok (.ireturn, 1)) {fs : List Frame}
    (hl : ∀ (f : JFrame) (acts : List Action), f.method = m → f.locked = none → f.entered = [] → (doReturn e (T.setTop f) acts (some (.int z))).1 = T.setFrames fs) : Steps p.tables e below (T.setTop (mkF m pc Ls (.int z :: rest))) (T.setFrames fs) := by
  have hm' : T.vm.method? m = some meth := X.method'
  have hn : narrow .int (.int z) = .int z := rfl
  show Steps p.tables e below (T.setTop { method := m, pc := pc, locals := Ls, stack := _ :: rest, locked := none }) _
  jvm_step X.here [X.here.top, hx, hd, hm', hret, hn]
  first | (intro acts; rw [hl _ acts rfl rfl rfl]) | rw [hl _ _ rfl rfl rfl]
  exact Steps.refl _
theorem retAddr (X : Stand p l e R s m args below meth c T locs cells slots) (hx : p.tables.exec = Jvm.exec) {pc : Nat} {Ls : Array Slot} {z : Addr} {rest : List Value} {t : FieldType} (hret : meth.sig.returnType = some t) (ht : t.isReference = true) (hd : decode c.code pc = .ok (.areturn, 1)) {fs : List Frame}
    (hl : ∀ (f : JFrame) (acts : List Action), f.method = m → f.locked = none → f.entered = [] → (doReturn e (T.setTop f) acts (some (.ref z))).1 = T.setFrames fs) : Steps p.tables e below (T.setTop (mkF m pc Ls (.ref z :: rest))) (T.setFrames fs) := by
  have hm' : T.vm.method? m = some meth := X.method'
  show Steps p.tables e below (T.setTop { method := m, pc := pc, locals := Ls, stack := _ :: rest, locked := none }) _
  jvm_step X.here [X.here.top, hx, hd, hm', hret, ht, Value.isRef]
  first | (intro acts; rw [hl _ acts rfl rfl rfl]) | rw [hl _ _ rfl rfl rfl]
  exact Steps.refl _
end New
end Jvm.RoadKit
namespace Jvm.Pilot.@@N@@
open Jvm Jvm.ClassFile Sem Op Lib Jvm.Free Jvm.Stand Jvm.LawKit Jvm.RoadKit Bundle Jvm.Pilot.@@N@@.Jvm.D
/-- from A the run ends, returning, as Q says of the value, the heap and the places written -/
def own_Fin (tb : Tables) (e : Env) (below : List Frame) (s : State) (C S : Nat) (Q : Option Value → Heap → List Loc → Prop) (A : State) : Prop :=
  ∃ s₂ o, Steps tb e below A s₂ ∧ s₂.status = .running ∧ Ended s₂ below o ∧ ∃ v L, o = .returned v ∧ Q v s₂.heap L ∧ FrameEnd s o s₂ L C S
theorem own_st {tb : Tables} {e : Env} {below : List Frame} {s : State} {C S : Nat} {Q : Option Value → Heap → List Loc → Prop} {A B : State} (h : ∀ t, Steps tb e below B t → Steps tb e below A t) (k : own_Fin tb e below s C S Q B) : own_Fin tb e below s C S Q A := by
  obtain ⟨s₂, o, h1, h2⟩ := k
  exact ⟨s₂, o, h _ h1, h2⟩
section Ret
variable {p : Program} {l : Launch} {e : Env} {R : Room} {s : State} {m : MethodId} {args : Array Value} {below : List Frame} {meth : Method} {c : Code} {T : State} {locs : List Loc} {cells slots : Nat} {Q : Option Value → Heap → List Loc → Prop} {C S : Nat}
theorem own_retN (X : Stand p l e R s m args below meth c T locs cells slots) (hx : p.tables.exec = Jvm.exec) (hk : meth.locks = false) {t : FieldType} (hret : meth.sig.returnType = some t) (ht : t = .boolean ∨ t = .byte ∨ t = .char ∨ t = .short) {pc : Nat} {Ls : Array Slot} {z : Int32} {rest : List Value} (hd : decode c.code pc = .ok (.ireturn, 1)) (hC : cells ≤ C) (hS : slots ≤ S) (hq : Q (some (.int (nar t z))) T.heap locs) : own_Fin p.tables e below s C S Q (T.setTop (mkF m pc Ls (.int z :: rest))) := by
  obtain ⟨fs, hr, hrun, hended, hW, hsame⟩ := X.leave (v := some (.int (nar t z))) (fun h => by rw [hret] at h; cases h)
  exact ⟨_, _, retN X hx hret ht hd hr, hrun, hended, _, _, rfl, hq, ⟨_, rfl⟩, hW, hsame.mono hC hS⟩
theorem own_retI (X : Stand p l e R s m args below meth c T locs cells slots) (hx : p.tables.exec = Jvm.exec) (hk : meth.locks = false) (hret : meth.sig.returnType = some .int) {pc : Nat} {Ls : Array Slot} {z : Int32} {rest : List Value} (hd : decode c.code pc = .ok (.ireturn, 1)) (hC : cells ≤ C) (hS : slots ≤ S) (hq : Q (some (.int z)) T.heap locs) : own_Fin p.tables e below s C S Q (T.setTop (mkF m pc Ls (.int z :: rest))) := by
  obtain ⟨fs, hr, hrun, hended, hW, hsame⟩ := X.leave (v := some (.int z)) (fun h => by rw [hret] at h; cases h)
  exact ⟨_, _, retI X hx hret hd hr, hrun, hended, _, _, rfl, hq, ⟨_, rfl⟩, hW, hsame.mono hC hS⟩
theorem own_retA (X : Stand p l e R s m args below meth c T locs cells slots) (hx : p.tables.exec = Jvm.exec) (hk : meth.locks = false) {t : FieldType} (hret : meth.sig.returnType = some t) (ht : t.isReference = true) {pc : Nat} {Ls : Array Slot} {z : Addr} {rest : List Value} (hd : decode c.code pc = .ok (.areturn, 1)) (hC : cells ≤ C) (hS : slots ≤ S) (hq : Q (some (.ref z)) T.heap locs) : own_Fin p.tables e below s C S Q (T.setTop (mkF m pc Ls (.ref z :: rest))) := by
  obtain ⟨fs, hr, hrun, hended, hW, hsame⟩ := X.leave (v := some (.ref z)) (fun h => by rw [hret] at h; cases h)
  exact ⟨_, _, retAddr X hx hret ht hd hr, hrun, hended, _, _, rfl, hq, ⟨_, rfl⟩, hW, hsame.mono hC hS⟩
theorem own_retJ (X : Stand p l e R s m args below meth c T locs cells slots) (hx : p.tables.exec = Jvm.exec) (hk : meth.locks = false) (hret : meth.sig.returnType = some .long) {pc : Nat} {Ls : Array Slot} {z : Int64} (hd : decode c.code pc = .ok (.lreturn, 1)) (hC : cells ≤ C) (hS : slots ≤ S) (hq : Q (some (.long z)) T.heap locs) : own_Fin p.tables e below s C S Q (T.setTop (mkF m pc Ls [.long z])) := by
  obtain ⟨fs, hr, hrun, hended, hW, hsame⟩ := X.leave (v := some (.long z)) (fun h => by rw [hret] at h; cases h)
  exact ⟨_, _, X.lreturnOut hx hret hd hr, hrun, hended, _, _, rfl, hq, ⟨_, rfl⟩, hW, hsame.mono hC hS⟩
theorem own_retV (X : Stand p l e R s m args below meth c T locs cells slots) (hx : p.tables.exec = Jvm.exec) (hk : meth.locks = false) (hret : meth.sig.returnType = none) {pc : Nat} {Ls : Array Slot} (hd : decode c.code pc = .ok (.return_, 1)) (hC : cells ≤ C) (hS : slots ≤ S) (hq : Q none T.heap locs) : own_Fin p.tables e below s C S Q (T.setTop (mkF m pc Ls [])) := by
  obtain ⟨fs, hr, hrun, hended, hW, hsame⟩ := X.leave (v := none) (fun _ => rfl)
  exact ⟨_, _, X.returnOut hx hret hd hr, hrun, hended, _, _, rfl, hq, ⟨_, rfl⟩, hW, hsame.mono hC hS⟩
end Ret
theorem own_ltT {a b : Int64} (h : a < b) : ifCond.holds .lt (lcmpW a b) = true ∧ ifCond.holds .ge (lcmpW a b) = false := by
  have q := (lw_lt a b).mpr h
  exact ⟨(if0 _ _).trans (tlt q).1, (if0 _ _).trans (tlt q).2.1⟩
theorem own_ltF {a b : Int64} (h : ¬ a < b) : ifCond.holds .lt (lcmpW a b) = false ∧ ifCond.holds .ge (lcmpW a b) = true := by
  have q := mt (lw_lt a b).mp h
  exact ⟨(if0 _ _).trans (flt q).1, (if0 _ _).trans (flt q).2.1⟩
theorem own_gtT {a b : Int64} (h : b < a) : ifCond.holds .gt (lcmpW a b) = true ∧ ifCond.holds .le (lcmpW a b) = false := by
  have q := (lw_gt a b).mpr h
  exact ⟨(if0 _ _).trans (tlt q).2.2.1, (if0 _ _).trans (tlt q).2.2.2⟩
theorem own_gtF {a b : Int64} (h : ¬ b < a) : ifCond.holds .gt (lcmpW a b) = false ∧ ifCond.holds .le (lcmpW a b) = true := by
  have q := mt (lw_gt a b).mp h
  exact ⟨(if0 _ _).trans (flt q).2.2.1, (if0 _ _).trans (flt q).2.2.2⟩
theorem own_eqT {a b : Int64} (h : a = b) : ifCond.holds .eq (lcmpW a b) = true ∧ ifCond.holds .ne (lcmpW a b) = false := by
  have q := (lw_eq a b).mpr h
  exact ⟨(if0 _ _).trans (teq q).1, (if0 _ _).trans (teq q).2⟩
theorem own_eqF {a b : Int64} (h : ¬ a = b) : ifCond.holds .eq (lcmpW a b) = false ∧ ifCond.holds .ne (lcmpW a b) = true := by
  have q := mt (lw_eq a b).mp h
  exact ⟨(if0 _ _).trans (feq q).1, (if0 _ _).trans (feq q).2⟩
theorem d1_0 : decode prog_14_method_83_code 0 = .ok (.iload_n 2, 1) := by decide +kernel
theorem d1_1 : decode prog_14_method_83_code 1 = .ok (.ifCond .eq 11, 3) := by decide +kernel
theorem d1_4 : decode prog_14_method_83_code 4 = .ok (.lload_n 0, 1) := by decide +kernel
theorem d1_5 : decode prog_14_method_83_code 5 = .ok (.lneg, 1) := by decide +kernel
theorem d1_6 : decode prog_14_method_83_code 6 = .ok (.lconst 1, 1) := by decide +kernel
theorem d1_7 : decode prog_14_method_83_code 7 = .ok (.lsub, 1) := by decide +kernel
theorem d1_8 : decode prog_14_method_83_code 8 = .ok (.lstore_n 3, 1) := by decide +kernel
theorem d1_9 : decode prog_14_method_83_code 9 = .ok (.goto 18, 3) := by decide +kernel
theorem d1_12 : decode prog_14_method_83_code 12 = .ok (.lload_n 0, 1) := by decide +kernel
theorem d1_13 : decode prog_14_method_83_code 13 = .ok (.lconst 0, 1) := by decide +kernel
theorem d1_14 : decode prog_14_method_83_code 14 = .ok (.lcmp, 1) := by decide +kernel
theorem d1_15 : decode prog_14_method_83_code 15 = .ok (.ifCond .ne 8, 3) := by decide +kernel
theorem d1_18 : decode prog_14_method_83_code 18 = .ok (.lconst 0, 1) := by decide +kernel
theorem d1_19 : decode prog_14_method_83_code 19 = .ok (.lstore_n 3, 1) := by decide +kernel
theorem d1_20 : decode prog_14_method_83_code 20 = .ok (.goto 7, 3) := by decide +kernel
theorem d1_23 : decode prog_14_method_83_code 23 = .ok (.lload_n 0, 1) := by decide +kernel
theorem d1_24 : decode prog_14_method_83_code 24 = .ok (.lconst 1, 1) := by decide +kernel
theorem d1_25 : decode prog_14_method_83_code 25 = .ok (.ladd, 1) := by decide +kernel
theorem d1_26 : decode prog_14_method_83_code 26 = .ok (.lstore_n 3, 1) := by decide +kernel
theorem d1_27 : decode prog_14_method_83_code 27 = .ok (.lload_n 3, 1) := by decide +kernel
theorem d1_28 : decode prog_14_method_83_code 28 = .ok (.lreturn, 1) := by decide +kernel
theorem pn_1 : plainFor (⟨"com/example/unsettle/unsettle/Draws", "stepOf", "(JZ)J"⟩ : MethodName) = true := plainFor_of_name (x := (⟨"com/example/unsettle/unsettle/Draws", "stepOf", "(JZ)J"⟩ : MethodName)) (by first | (simp [plainName, overriddenIn]; done) | decide +kernel)
theorem ef_1 (m : MethodId) (q1 : Int64) (p2 : Int32) : entryFrame m #[(.long q1), (.int p2)] 5 = mkF m 0 #[.val (.long q1), .second, .val (.int p2), .unset, .unset] [] := by first | (simp [entryFrame, mkF, argsToLocals, Value.category]; done) | rfl
def own_F1 (q1 : Int64) (p2 : Int32) : Int64 := (if p2 = (0 : Int32) then (if q1 = (0 : Int64) then (0 : Int64) else (q1 + (1 : Int64))) else ((-q1) - (1 : Int64)))
def own_Q1 (q1 : Int64) (p2 : Int32) (h0 : Heap) (n0 : Nat) (v : Option Value) (h : Heap) (L : List Loc) : Prop := v = some (.long (own_F1 q1 p2)) ∧ Fr n0 L ∧ h = h0
set_option maxRecDepth 65536 in
set_option maxHeartbeats 40000000 in
theorem rm1 (l : Launch) (Z : State) (a0 : Array Value) (hw : ∀ d ∈ tables_1, d.before a0 Z = true) (ws : List Jvm.Cond) (q1 : Int64) (p2 : Int32) (h0 : Heap) (n0 : Nat) (Z0 : n0 ≤ h0.size) :
    MetFree l (⟨"com/example/unsettle/unsettle/Draws", "stepOf", "(JZ)J"⟩ : MethodName) (head1 (Jvm.Cond.code (⟨"com/example/unsettle/unsettle/Draws", "stepOf", "(JZ)J"⟩ : MethodName) prog_14_method_83_code 5 (some .long) :: ws) ({ frames := 0, cells := 0, slots := 0, locals := 0 } : Room)) (fun a U => a = #[(.long q1), (.int p2)] ∧ Z.Warmed39 U.vm ∧ U.heap = h0) (fun _ _ _ _ _ => True) (fun _ U o U' => ∃ v L, o = .returned v ∧ own_Q1 q1 p2 h0 n0 v U'.heap L ∧ FrameEnd U o U' L ({ frames := 0, cells := 0, slots := 0, locals := 0 } : Room).cells ({ frames := 0, cells := 0, slots := 0, locals := 0 } : Room).slots) := by
  refine MetFree.of_bodySF pn_1 hisR ?_
  intro p e s m args below meth c s₁ Bd hml0 hP hK
  obtain ⟨rfl, hZ, hh⟩ := hP
  have hx := Bd.exec
  have hby := Bd.bytes
  have hml : c.maxLocals = 5 := hml0
  have hown : s.vm.findClass "com/example/unsettle/unsettle/Draws" = some m.cls := findClass_of_methodNamed Bd.named
  have X0 : Stand p l e ({ frames := 0, cells := 0, slots := 0, locals := 0 } : Room) s m #[(.long q1), (.int p2)] below meth c s₁ [] 0 0 := Stand.of_body Bd
  have e0 : s₁.heap = h0 := by rw [← hh, Bd.state]; rfl
  have N0 := Fr.nil n0
  show own_Fin p.tables e below s (({ frames := 0, cells := 0, slots := 0, locals := 0 } : Room).cells) (({ frames := 0, cells := 0, slots := 0, locals := 0 } : Room).slots) (own_Q1 q1 p2 h0 n0) (s₁.setTop (entryFrame m #[(.long q1), (.int p2)] 5))
  rw [ef_1 m q1 p2]
  show own_Fin _ _ _ _ _ _ _ (s₁.setTop (mkF m 0 #[.val (.long q1), .second, .val (.int p2), .unset, .unset] []))
  refine own_st (fun t k => XS.iloadN X0.here hx rfl (hb hby d1_0) rfl k) ?_
  show own_Fin _ _ _ _ _ _ _ (s₁.setTop (mkF m 1 #[.val (.long q1), .second, .val (.int p2), .unset, .unset] [(.int p2)]))
  by_cases hc1_1 : p2 = (0 : Int32)
  · refine own_st (fun t k => XS.ifYes X0.here hx rfl (pc0 := 1) (pc' := 12) rfl (hb hby d1_1) rfl ((if0 _ _).trans (teq hc1_1).1) (by decide) (by decide) k) ?_
    show own_Fin _ _ _ _ _ _ _ (s₁.setTop (mkF m 12 #[.val (.long q1), .second, .val (.int p2), .unset, .unset] []))
    refine own_st (fun t k => XS.lloadN X0.here hx rfl (hb hby d1_12) rfl k) ?_
    show own_Fin _ _ _ _ _ _ _ (s₁.setTop (mkF m 13 #[.val (.long q1), .second, .val (.int p2), .unset, .unset] [(.long q1)]))
    refine own_st (fun t k => XS.lconst X0.here hx rfl (hb hby d1_13) k) ?_
    show own_Fin _ _ _ _ _ _ _ (s₁.setTop (mkF m 14 #[.val (.long q1), .second, .val (.int p2), .unset, .unset] [(.long (0 : Int64)), (.long q1)]))
    refine own_st (fun t k => XS.lcmp X0.here hx rfl (hb hby d1_14) rfl k) ?_
    show own_Fin _ _ _ _ _ _ _ (s₁.setTop (mkF m 15 #[.val (.long q1), .second, .val (.int p2), .unset, .unset] [(.int (lcmpW q1 (0 : Int64)))]))
    by_cases hc15_2 : q1 = (0 : Int64)
    · refine own_st (fun t k => XS.ifNo X0.here hx rfl (hb hby d1_15) rfl (own_eqT hc15_2).2 k) ?_
      show own_Fin _ _ _ _ _ _ _ (s₁.setTop (mkF m 18 #[.val (.long q1), .second, .val (.int p2), .unset, .unset] []))
      refine own_st (fun t k => XS.lconst X0.here hx rfl (hb hby d1_18) k) ?_
      show own_Fin _ _ _ _ _ _ _ (s₁.setTop (mkF m 19 #[.val (.long q1), .second, .val (.int p2), .unset, .unset] [(.long (0 : Int64))]))
      refine own_st (fun t k => XS.lstoreN X0.here hx rfl (hb hby d1_19) rfl (l' := #[.val (.long q1), .second, .val (.int p2), .val (.long (0 : Int64)), .second]) rfl k) ?_
      show own_Fin _ _ _ _ _ _ _ (s₁.setTop (mkF m 20 #[.val (.long q1), .second, .val (.int p2), .val (.long (0 : Int64)), .second] []))
      refine own_st (fun t k => XS.goto X0.here hx rfl (pc0 := 20) (pc' := 27) rfl (hb hby d1_20) (by decide) (by decide) k) ?_
      show own_Fin _ _ _ _ _ _ _ (s₁.setTop (mkF m 27 #[.val (.long q1), .second, .val (.int p2), .val (.long (0 : Int64)), .second] []))
      refine own_st (fun t k => XS.lloadN X0.here hx rfl (hb hby d1_27) rfl k) ?_
      show own_Fin _ _ _ _ _ _ _ (s₁.setTop (mkF m 28 #[.val (.long q1), .second, .val (.int p2), .val (.long (0 : Int64)), .second] [(.long (0 : Int64))]))
      have hv : own_F1 q1 p2 = (0 : Int64) := by unfold own_F1; rw [if_pos hc1_1, if_pos hc15_2]
      exact own_retJ X0 hx Bd.notSynchronized Bd.returns (hb hby d1_28) (by decide) (by decide) ⟨congrArg (fun z => some (Value.long z)) hv.symm, N0, e0⟩
    · refine own_st (fun t k => XS.ifYes X0.here hx rfl (pc0 := 15) (pc' := 23) rfl (hb hby d1_15) rfl (own_eqF hc15_2).2 (by decide) (by decide) k) ?_
      show own_Fin _ _ _ _ _ _ _ (s₁.setTop (mkF m 23 #[.val (.long q1), .second, .val (.int p2), .unset, .unset] []))
      refine own_st (fun t k => XS.lloadN X0.here hx rfl (hb hby d1_23) rfl k) ?_
      show own_Fin _ _ _ _ _ _ _ (s₁.setTop (mkF m 24 #[.val (.long q1), .second, .val (.int p2), .unset, .unset] [(.long q1)]))
      refine own_st (fun t k => XS.lconst X0.here hx rfl (hb hby d1_24) k) ?_
      show own_Fin _ _ _ _ _ _ _ (s₁.setTop (mkF m 25 #[.val (.long q1), .second, .val (.int p2), .unset, .unset] [(.long (1 : Int64)), (.long q1)]))
      refine own_st (fun t k => XS.ladd X0.here hx rfl (hb hby d1_25) rfl k) ?_
      show own_Fin _ _ _ _ _ _ _ (s₁.setTop (mkF m 26 #[.val (.long q1), .second, .val (.int p2), .unset, .unset] [(.long (q1 + (1 : Int64)))]))
      refine own_st (fun t k => XS.lstoreN X0.here hx rfl (hb hby d1_26) rfl (l' := #[.val (.long q1), .second, .val (.int p2), .val (.long (q1 + (1 : Int64))), .second]) rfl k) ?_
      show own_Fin _ _ _ _ _ _ _ (s₁.setTop (mkF m 27 #[.val (.long q1), .second, .val (.int p2), .val (.long (q1 + (1 : Int64))), .second] []))
      refine own_st (fun t k => XS.lloadN X0.here hx rfl (hb hby d1_27) rfl k) ?_
      show own_Fin _ _ _ _ _ _ _ (s₁.setTop (mkF m 28 #[.val (.long q1), .second, .val (.int p2), .val (.long (q1 + (1 : Int64))), .second] [(.long (q1 + (1 : Int64)))]))
      have hv : own_F1 q1 p2 = (q1 + (1 : Int64)) := by unfold own_F1; rw [if_pos hc1_1, if_neg hc15_2]
      exact own_retJ X0 hx Bd.notSynchronized Bd.returns (hb hby d1_28) (by decide) (by decide) ⟨congrArg (fun z => some (Value.long z)) hv.symm, N0, e0⟩
  · refine own_st (fun t k => XS.ifNo X0.here hx rfl (hb hby d1_1) rfl ((if0 _ _).trans (feq hc1_1).1) k) ?_
    show own_Fin _ _ _ _ _ _ _ (s₁.setTop (mkF m 4 #[.val (.long q1), .second, .val (.int p2), .unset, .unset] []))
    refine own_st (fun t k => XS.lloadN X0.here hx rfl (hb hby d1_4) rfl k) ?_
    show own_Fin _ _ _ _ _ _ _ (s₁.setTop (mkF m 5 #[.val (.long q1), .second, .val (.int p2), .unset, .unset] [(.long q1)]))
    refine own_st (fun t k => XS.lneg X0.here hx rfl (hb hby d1_5) rfl k) ?_
    show own_Fin _ _ _ _ _ _ _ (s₁.setTop (mkF m 6 #[.val (.long q1), .second, .val (.int p2), .unset, .unset] [(.long (-q1))]))
    refine own_st (fun t k => XS.lconst X0.here hx rfl (hb hby d1_6) k) ?_
    show own_Fin _ _ _ _ _ _ _ (s₁.setTop (mkF m 7 #[.val (.long q1), .second, .val (.int p2), .unset, .unset] [(.long (1 : Int64)), (.long (-q1))]))
    refine own_st (fun t k => XS.lsub X0.here hx rfl (hb hby d1_7) rfl k) ?_
    show own_Fin _ _ _ _ _ _ _ (s₁.setTop (mkF m 8 #[.val (.long q1), .second, .val (.int p2), .unset, .unset] [(.long ((-q1) - (1 : Int64)))]))
    refine own_st (fun t k => XS.lstoreN X0.here hx rfl (hb hby d1_8) rfl (l' := #[.val (.long q1), .second, .val (.int p2), .val (.long ((-q1) - (1 : Int64))), .second]) rfl k) ?_
    show own_Fin _ _ _ _ _ _ _ (s₁.setTop (mkF m 9 #[.val (.long q1), .second, .val (.int p2), .val (.long ((-q1) - (1 : Int64))), .second] []))
    refine own_st (fun t k => XS.goto X0.here hx rfl (pc0 := 9) (pc' := 27) rfl (hb hby d1_9) (by decide) (by decide) k) ?_
    show own_Fin _ _ _ _ _ _ _ (s₁.setTop (mkF m 27 #[.val (.long q1), .second, .val (.int p2), .val (.long ((-q1) - (1 : Int64))), .second] []))
    refine own_st (fun t k => XS.lloadN X0.here hx rfl (hb hby d1_27) rfl k) ?_
    show own_Fin _ _ _ _ _ _ _ (s₁.setTop (mkF m 28 #[.val (.long q1), .second, .val (.int p2), .val (.long ((-q1) - (1 : Int64))), .second] [(.long ((-q1) - (1 : Int64)))]))
    have hv : own_F1 q1 p2 = ((-q1) - (1 : Int64)) := by unfold own_F1; rw [if_neg hc1_1]
    exact own_retJ X0 hx Bd.notSynchronized Bd.returns (hb hby d1_28) (by decide) (by decide) ⟨congrArg (fun z => some (Value.long z)) hv.symm, N0, e0⟩
theorem d3_0 : decode jdk_29_method_61_code 0 = .ok (.lload_n 0, 1) := by decide +kernel
theorem d3_1 : decode jdk_29_method_61_code 1 = .ok (.lconst 0, 1) := by decide +kernel
theorem d3_2 : decode jdk_29_method_61_code 2 = .ok (.lcmp, 1) := by decide +kernel
theorem d3_3 : decode jdk_29_method_61_code 3 = .ok (.ifCond .ge 8, 3) := by decide +kernel
theorem d3_6 : decode jdk_29_method_61_code 6 = .ok (.lload_n 0, 1) := by decide +kernel
theorem d3_7 : decode jdk_29_method_61_code 7 = .ok (.lneg, 1) := by decide +kernel
theorem d3_8 : decode jdk_29_method_61_code 8 = .ok (.goto 4, 3) := by decide +kernel
theorem d3_11 : decode jdk_29_method_61_code 11 = .ok (.lload_n 0, 1) := by decide +kernel
theorem d3_12 : decode jdk_29_method_61_code 12 = .ok (.lreturn, 1) := by decide +kernel
theorem pn_3 : plainFor (⟨"java/lang/Math", "abs", "(J)J"⟩ : MethodName) = true := Jvm.Free.JP.mathPlain rfl (by decide)
theorem ef_3 (m : MethodId) (q1 : Int64) : entryFrame m #[(.long q1)] 2 = mkF m 0 #[.val (.long q1), .second] [] := by first | (simp [entryFrame, mkF, argsToLocals, Value.category]; done) | rfl
def own_F3 (q1 : Int64) : Int64 := (if q1 < (0 : Int64) then (-q1) else q1)
def own_Q3 (q1 : Int64) (h0 : Heap) (n0 : Nat) (v : Option Value) (h : Heap) (L : List Loc) : Prop := v = some (.long (own_F3 q1)) ∧ Fr n0 L ∧ h = h0
set_option maxRecDepth 65536 in
set_option maxHeartbeats 40000000 in
theorem rm3 (l : Launch) (Z : State) (a0 : Array Value) (hw : ∀ d ∈ tables_1, d.before a0 Z = true) (ws : List Jvm.Cond) (q1 : Int64) (h0 : Heap) (n0 : Nat) (Z0 : n0 ≤ h0.size) :
    MetFree l (⟨"java/lang/Math", "abs", "(J)J"⟩ : MethodName) (head1 (Jvm.Cond.code (⟨"java/lang/Math", "abs", "(J)J"⟩ : MethodName) jdk_29_method_61_code 2 (some .long) :: ws) ({ frames := 0, cells := 0, slots := 0, locals := 0 } : Room)) (fun a U => a = #[(.long q1)] ∧ Z.Warmed39 U.vm ∧ U.heap = h0) (fun _ _ _ _ _ => True) (fun _ U o U' => ∃ v L, o = .returned v ∧ own_Q3 q1 h0 n0 v U'.heap L ∧ FrameEnd U o U' L ({ frames := 0, cells := 0, slots := 0, locals := 0 } : Room).cells ({ frames := 0, cells := 0, slots := 0, locals := 0 } : Room).slots) := by
  refine MetFree.of_bodySF pn_3 hisR ?_
  intro p e s m args below meth c s₁ Bd hml0 hP hK
  obtain ⟨rfl, hZ, hh⟩ := hP
  have hx := Bd.exec
  have hby := Bd.bytes
  have hml : c.maxLocals = 2 := hml0
  have hown : s.vm.findClass "java/lang/Math" = some m.cls := findClass_of_methodNamed Bd.named
  have X0 : Stand p l e ({ frames := 0, cells := 0, slots := 0, locals := 0 } : Room) s m #[(.long q1)] below meth c s₁ [] 0 0 := Stand.of_body Bd
  have e0 : s₁.heap = h0 := by rw [← hh, Bd.state]; rfl
  have N0 := Fr.nil n0
  show own_Fin p.tables e below s (({ frames := 0, cells := 0, slots := 0, locals := 0 } : Room).cells) (({ frames := 0, cells := 0, slots := 0, locals := 0 } : Room).slots) (own_Q3 q1 h0 n0) (s₁.setTop (entryFrame m #[(.long q1)] 2))
  rw [ef_3 m q1]
  show own_Fin _ _ _ _ _ _ _ (s₁.setTop (mkF m 0 #[.val (.long q1), .second] []))
  refine own_st (fun t k => XS.lloadN X0.here hx rfl (hb hby d3_0) rfl k) ?_
  show own_Fin _ _ _ _ _ _ _ (s₁.setTop (mkF m 1 #[.val (.long q1), .second] [(.long q1)]))
  refine own_st (fun t k => XS.lconst X0.here hx rfl (hb hby d3_1) k) ?_
  show own_Fin _ _ _ _ _ _ _ (s₁.setTop (mkF m 2 #[.val (.long q1), .second] [(.long (0 : Int64)), (.long q1)]))
  refine own_st (fun t k => XS.lcmp X0.here hx rfl (hb hby d3_2) rfl k) ?_
  show own_Fin _ _ _ _ _ _ _ (s₁.setTop (mkF m 3 #[.val (.long q1), .second] [(.int (lcmpW q1 (0 : Int64)))]))
  by_cases hc3_1 : q1 < (0 : Int64)
  · refine own_st (fun t k => XS.ifNo X0.here hx rfl (hb hby d3_3) rfl (own_ltT hc3_1).2 k) ?_
    show own_Fin _ _ _ _ _ _ _ (s₁.setTop (mkF m 6 #[.val (.long q1), .second] []))
    refine own_st (fun t k => XS.lloadN X0.here hx rfl (hb hby d3_6) rfl k) ?_
    show own_Fin _ _ _ _ _ _ _ (s₁.setTop (mkF m 7 #[.val (.long q1), .second] [(.long q1)]))
    refine own_st (fun t k => XS.lneg X0.here hx rfl (hb hby d3_7) rfl k) ?_
    show own_Fin _ _ _ _ _ _ _ (s₁.setTop (mkF m 8 #[.val (.long q1), .second] [(.long (-q1))]))
    refine own_st (fun t k => XS.goto X0.here hx rfl (pc0 := 8) (pc' := 12) rfl (hb hby d3_8) (by decide) (by decide) k) ?_
    show own_Fin _ _ _ _ _ _ _ (s₁.setTop (mkF m 12 #[.val (.long q1), .second] [(.long (-q1))]))
    have hv : own_F3 q1 = (-q1) := by unfold own_F3; rw [if_pos hc3_1]
    exact own_retJ X0 hx Bd.notSynchronized Bd.returns (hb hby d3_12) (by decide) (by decide) ⟨congrArg (fun z => some (Value.long z)) hv.symm, N0, e0⟩
  · refine own_st (fun t k => XS.ifYes X0.here hx rfl (pc0 := 3) (pc' := 11) rfl (hb hby d3_3) rfl (own_ltF hc3_1).2 (by decide) (by decide) k) ?_
    show own_Fin _ _ _ _ _ _ _ (s₁.setTop (mkF m 11 #[.val (.long q1), .second] []))
    refine own_st (fun t k => XS.lloadN X0.here hx rfl (hb hby d3_11) rfl k) ?_
    show own_Fin _ _ _ _ _ _ _ (s₁.setTop (mkF m 12 #[.val (.long q1), .second] [(.long q1)]))
    have hv : own_F3 q1 = q1 := by unfold own_F3; rw [if_neg hc3_1]
    exact own_retJ X0 hx Bd.notSynchronized Bd.returns (hb hby d3_12) (by decide) (by decide) ⟨congrArg (fun z => some (Value.long z)) hv.symm, N0, e0⟩
theorem d4_0 : decode jdk_29_method_66_code 0 = .ok (.lload_n 0, 1) := by decide +kernel
theorem d4_1 : decode jdk_29_method_66_code 1 = .ok (.lload_n 2, 1) := by decide +kernel
theorem d4_2 : decode jdk_29_method_66_code 2 = .ok (.lcmp, 1) := by decide +kernel
theorem d4_3 : decode jdk_29_method_66_code 3 = .ok (.ifCond .lt 7, 3) := by decide +kernel
theorem d4_6 : decode jdk_29_method_66_code 6 = .ok (.lload_n 0, 1) := by decide +kernel
theorem d4_7 : decode jdk_29_method_66_code 7 = .ok (.goto 4, 3) := by decide +kernel
theorem d4_10 : decode jdk_29_method_66_code 10 = .ok (.lload_n 2, 1) := by decide +kernel
theorem d4_11 : decode jdk_29_method_66_code 11 = .ok (.lreturn, 1) := by decide +kernel
theorem pn_4 : plainFor (⟨"java/lang/Math", "max", "(JJ)J"⟩ : MethodName) = true := Jvm.Free.JP.mathPlain rfl (by decide)
theorem ef_4 (m : MethodId) (q1 : Int64) (q2 : Int64) : entryFrame m #[(.long q1), (.long q2)] 4 = mkF m 0 #[.val (.long q1), .second, .val (.long q2), .second] [] := by first | (simp [entryFrame, mkF, argsToLocals, Value.category]; done) | rfl
def own_F4 (q1 : Int64) (q2 : Int64) : Int64 := (if q1 < q2 then q2 else q1)
def own_Q4 (q1 : Int64) (q2 : Int64) (h0 : Heap) (n0 : Nat) (v : Option Value) (h : Heap) (L : List Loc) : Prop := v = some (.long (own_F4 q1 q2)) ∧ Fr n0 L ∧ h = h0
set_option maxRecDepth 65536 in
set_option maxHeartbeats 40000000 in
theorem rm4 (l : Launch) (Z : State) (a0 : Array Value) (hw : ∀ d ∈ tables_1, d.before a0 Z = true) (ws : List Jvm.Cond) (q1 : Int64) (q2 : Int64) (h0 : Heap) (n0 : Nat) (Z0 : n0 ≤ h0.size) :
    MetFree l (⟨"java/lang/Math", "max", "(JJ)J"⟩ : MethodName) (head1 (Jvm.Cond.code (⟨"java/lang/Math", "max", "(JJ)J"⟩ : MethodName) jdk_29_method_66_code 4 (some .long) :: ws) ({ frames := 0, cells := 0, slots := 0, locals := 0 } : Room)) (fun a U => a = #[(.long q1), (.long q2)] ∧ Z.Warmed39 U.vm ∧ U.heap = h0) (fun _ _ _ _ _ => True) (fun _ U o U' => ∃ v L, o = .returned v ∧ own_Q4 q1 q2 h0 n0 v U'.heap L ∧ FrameEnd U o U' L ({ frames := 0, cells := 0, slots := 0, locals := 0 } : Room).cells ({ frames := 0, cells := 0, slots := 0, locals := 0 } : Room).slots) := by
  refine MetFree.of_bodySF pn_4 hisR ?_
  intro p e s m args below meth c s₁ Bd hml0 hP hK
  obtain ⟨rfl, hZ, hh⟩ := hP
  have hx := Bd.exec
  have hby := Bd.bytes
  have hml : c.maxLocals = 4 := hml0
  have hown : s.vm.findClass "java/lang/Math" = some m.cls := findClass_of_methodNamed Bd.named
  have X0 : Stand p l e ({ frames := 0, cells := 0, slots := 0, locals := 0 } : Room) s m #[(.long q1), (.long q2)] below meth c s₁ [] 0 0 := Stand.of_body Bd
  have e0 : s₁.heap = h0 := by rw [← hh, Bd.state]; rfl
  have N0 := Fr.nil n0
  show own_Fin p.tables e below s (({ frames := 0, cells := 0, slots := 0, locals := 0 } : Room).cells) (({ frames := 0, cells := 0, slots := 0, locals := 0 } : Room).slots) (own_Q4 q1 q2 h0 n0) (s₁.setTop (entryFrame m #[(.long q1), (.long q2)] 4))
  rw [ef_4 m q1 q2]
  show own_Fin _ _ _ _ _ _ _ (s₁.setTop (mkF m 0 #[.val (.long q1), .second, .val (.long q2), .second] []))
  refine own_st (fun t k => XS.lloadN X0.here hx rfl (hb hby d4_0) rfl k) ?_
  show own_Fin _ _ _ _ _ _ _ (s₁.setTop (mkF m 1 #[.val (.long q1), .second, .val (.long q2), .second] [(.long q1)]))
  refine own_st (fun t k => XS.lloadN X0.here hx rfl (hb hby d4_1) rfl k) ?_
  show own_Fin _ _ _ _ _ _ _ (s₁.setTop (mkF m 2 #[.val (.long q1), .second, .val (.long q2), .second] [(.long q2), (.long q1)]))
  refine own_st (fun t k => XS.lcmp X0.here hx rfl (hb hby d4_2) rfl k) ?_
  show own_Fin _ _ _ _ _ _ _ (s₁.setTop (mkF m 3 #[.val (.long q1), .second, .val (.long q2), .second] [(.int (lcmpW q1 q2))]))
  by_cases hc3_1 : q1 < q2
  · refine own_st (fun t k => XS.ifYes X0.here hx rfl (pc0 := 3) (pc' := 10) rfl (hb hby d4_3) rfl (own_ltT hc3_1).1 (by decide) (by decide) k) ?_
    show own_Fin _ _ _ _ _ _ _ (s₁.setTop (mkF m 10 #[.val (.long q1), .second, .val (.long q2), .second] []))
    refine own_st (fun t k => XS.lloadN X0.here hx rfl (hb hby d4_10) rfl k) ?_
    show own_Fin _ _ _ _ _ _ _ (s₁.setTop (mkF m 11 #[.val (.long q1), .second, .val (.long q2), .second] [(.long q2)]))
    have hv : own_F4 q1 q2 = q2 := by unfold own_F4; rw [if_pos hc3_1]
    exact own_retJ X0 hx Bd.notSynchronized Bd.returns (hb hby d4_11) (by decide) (by decide) ⟨congrArg (fun z => some (Value.long z)) hv.symm, N0, e0⟩
  · refine own_st (fun t k => XS.ifNo X0.here hx rfl (hb hby d4_3) rfl (own_ltF hc3_1).1 k) ?_
    show own_Fin _ _ _ _ _ _ _ (s₁.setTop (mkF m 6 #[.val (.long q1), .second, .val (.long q2), .second] []))
    refine own_st (fun t k => XS.lloadN X0.here hx rfl (hb hby d4_6) rfl k) ?_
    show own_Fin _ _ _ _ _ _ _ (s₁.setTop (mkF m 7 #[.val (.long q1), .second, .val (.long q2), .second] [(.long q1)]))
    refine own_st (fun t k => XS.goto X0.here hx rfl (pc0 := 7) (pc' := 11) rfl (hb hby d4_7) (by decide) (by decide) k) ?_
    show own_Fin _ _ _ _ _ _ _ (s₁.setTop (mkF m 11 #[.val (.long q1), .second, .val (.long q2), .second] [(.long q1)]))
    have hv : own_F4 q1 q2 = q1 := by unfold own_F4; rw [if_neg hc3_1]
    exact own_retJ X0 hx Bd.notSynchronized Bd.returns (hb hby d4_11) (by decide) (by decide) ⟨congrArg (fun z => some (Value.long z)) hv.symm, N0, e0⟩
theorem d2_0 : decode prog_14_method_82_code 0 = .ok (.lload_n 0, 1) := by decide +kernel
theorem d2_1 : decode prog_14_method_82_code 1 = .ok (.invokestatic 263, 3) := by decide +kernel
theorem d2_4 : decode prog_14_method_82_code 4 = .ok (.lconst 1, 1) := by decide +kernel
theorem d2_5 : decode prog_14_method_82_code 5 = .ok (.lsub, 1) := by decide +kernel
theorem d2_6 : decode prog_14_method_82_code 6 = .ok (.lconst 0, 1) := by decide +kernel
theorem d2_7 : decode prog_14_method_82_code 7 = .ok (.invokestatic 66, 3) := by decide +kernel
theorem d2_10 : decode prog_14_method_82_code 10 = .ok (.lreturn, 1) := by decide +kernel
theorem pn_2 : plainFor (⟨"com/example/unsettle/unsettle/Draws", "offsetOfStep", "(J)J"⟩ : MethodName) = true := plainFor_of_name (x := (⟨"com/example/unsettle/unsettle/Draws", "offsetOfStep", "(J)J"⟩ : MethodName)) (by first | (simp [plainName, overriddenIn]; done) | decide +kernel)
theorem pd_2_0 : parseMethodDescriptor "(J)J" = some ⟨[.long], some .long⟩ := by decide +kernel
theorem pd_2_1 : parseMethodDescriptor "(JJ)J" = some ⟨[.long, .long], some .long⟩ := by decide +kernel
theorem ef_2 (m : MethodId) (q1 : Int64) : entryFrame m #[(.long q1)] 2 = mkF m 0 #[.val (.long q1), .second] [] := by first | (simp [entryFrame, mkF, argsToLocals, Value.category]; done) | rfl
def own_F2 (q1 : Int64) : Int64 := (own_F4 ((own_F3 q1) - (1 : Int64)) (0 : Int64))
def own_Q2 (q1 : Int64) (h0 : Heap) (n0 : Nat) (v : Option Value) (h : Heap) (L : List Loc) : Prop := v = some (.long (own_F2 q1)) ∧ Fr n0 L ∧ h = h0
set_option maxRecDepth 65536 in
set_option maxHeartbeats 40000000 in
theorem rm2 (l : Launch) (Z : State) (a0 : Array Value) (hw : ∀ d ∈ tables_1, d.before a0 Z = true) (ws : List Jvm.Cond) (q1 : Int64) (h0 : Heap) (n0 : Nat) (Z0 : n0 ≤ h0.size) :
    MetFree l (⟨"com/example/unsettle/unsettle/Draws", "offsetOfStep", "(J)J"⟩ : MethodName) (head1 (Jvm.Cond.code (⟨"com/example/unsettle/unsettle/Draws", "offsetOfStep", "(J)J"⟩ : MethodName) prog_14_method_82_code 2 (some .long) :: ws) ({ frames := 1, cells := 0, slots := 0, locals := 15 } : Room)) (fun a U => a = #[(.long q1)] ∧ Z.Warmed39 U.vm ∧ U.heap = h0) (fun _ _ _ _ _ => True) (fun _ U o U' => ∃ v L, o = .returned v ∧ own_Q2 q1 h0 n0 v U'.heap L ∧ FrameEnd U o U' L ({ frames := 1, cells := 0, slots := 0, locals := 15 } : Room).cells ({ frames := 1, cells := 0, slots := 0, locals := 15 } : Room).slots) := by
  refine MetFree.of_bodySF pn_2 hisR ?_
  intro p e s m args below meth c s₁ Bd hml0 hP hK
  obtain ⟨rfl, hZ, hh⟩ := hP
  have hx := Bd.exec
  have hby := Bd.bytes
  have hml : c.maxLocals = 2 := hml0
  have hown : s.vm.findClass "com/example/unsettle/unsettle/Draws" = some m.cls := findClass_of_methodNamed Bd.named
  have X0 : Stand p l e ({ frames := 1, cells := 0, slots := 0, locals := 15 } : Room) s m #[(.long q1)] below meth c s₁ [] 0 0 := Stand.of_body Bd
  have e0 : s₁.heap = h0 := by rw [← hh, Bd.state]; rfl
  have N0 := Fr.nil n0
  show own_Fin p.tables e below s (({ frames := 1, cells := 0, slots := 0, locals := 15 } : Room).cells) (({ frames := 1, cells := 0, slots := 0, locals := 15 } : Room).slots) (own_Q2 q1 h0 n0) (s₁.setTop (entryFrame m #[(.long q1)] 2))
  rw [ef_2 m q1]
  show own_Fin _ _ _ _ _ _ _ (s₁.setTop (mkF m 0 #[.val (.long q1), .second] []))
  refine own_st (fun t k => XS.lloadN X0.here hx rfl (hb hby d2_0) rfl k) ?_
  show own_Fin _ _ _ _ _ _ _ (s₁.setTop (mkF m 1 #[.val (.long q1), .second] [(.long q1)]))
  obtain ⟨_, _, ⟨T1, L1, k1, n1⟩, -, X1, ⟨Lc1, hQ1, l1, y1, z1⟩, st1⟩ := Jvm.LawKit.callS X0 hx (y := (⟨"java/lang/Math", "abs", "(J)J"⟩ : MethodName)) hown (mvT hZ (hw _ (List.mem_of_getElem? (i := 8) rfl))) (mvT hZ (hw _ (List.mem_of_getElem? (i := 9) rfl))) (mvT hZ (hw _ (List.mem_of_getElem? (i := 10) rfl))) (mvT hZ (hw _ (List.mem_of_getElem? (i := 11) rfl))) (by decide) (backOf (W := 0) (rm3 l Z a0 hw [] q1 h0 n0 Z0) hZ (hw _ (List.mem_of_getElem? (i := 11) rfl)) (hw _ (List.mem_of_getElem? (i := 10) rfl)) (by decide) (by decide)) (g := (mkF m 1 #[.val (.long q1), .second] [(.long q1)])) rfl (by rw [hml]; rfl) (argsL := [(.long q1)]) (rest := []) (lenOf pd_2_0 rfl) rfl (by show 2 * 0 + _ ≤ _; exact Nat.le_of_eq rfl) (hb hby d2_1) (fun _ _ => ⟨rfl, e0, (by decide : 0 + 0 ≤ _), (by decide : 0 + 0 ≤ _)⟩)
  dsimp only [Pt.U, Pt.locs, Pt.cells, Pt.slots] at X1 l1 y1 z1 st1 hQ1
  subst l1 y1 z1
  obtain ⟨rfl, N1q, e1⟩ := hQ1
  have N1 := Fr.app N0 N1q
  refine own_st st1 ?_
  show own_Fin _ _ _ _ _ _ _ (T1.setTop (mkF m 4 #[.val (.long q1), .second] [(.long (own_F3 q1))]))
  refine own_st (fun t k => XS.lconst X1.here hx rfl (hb hby d2_4) k) ?_
  show own_Fin _ _ _ _ _ _ _ (T1.setTop (mkF m 5 #[.val (.long q1), .second] [(.long (1 : Int64)), (.long (own_F3 q1))]))
  refine own_st (fun t k => XS.lsub X1.here hx rfl (hb hby d2_5) rfl k) ?_
  show own_Fin _ _ _ _ _ _ _ (T1.setTop (mkF m 6 #[.val (.long q1), .second] [(.long ((own_F3 q1) - (1 : Int64)))]))
  refine own_st (fun t k => XS.lconst X1.here hx rfl (hb hby d2_6) k) ?_
  show own_Fin _ _ _ _ _ _ _ (T1.setTop (mkF m 7 #[.val (.long q1), .second] [(.long (0 : Int64)), (.long ((own_F3 q1) - (1 : Int64)))]))
  obtain ⟨_, _, ⟨T2, L2, k2, n2⟩, -, X2, ⟨Lc2, hQ2, l2, y2, z2⟩, st2⟩ := Jvm.LawKit.callS X1 hx (y := (⟨"java/lang/Math", "max", "(JJ)J"⟩ : MethodName)) hown (mvT hZ (hw _ (List.mem_of_getElem? (i := 12) rfl))) (mvT hZ (hw _ (List.mem_of_getElem? (i := 13) rfl))) (mvT hZ (hw _ (List.mem_of_getElem? (i := 10) rfl))) (mvT hZ (hw _ (List.mem_of_getElem? (i := 14) rfl))) (by decide) (backOf (W := 0) (rm4 l Z a0 hw [] ((own_F3 q1) - (1 : Int64)) (0 : Int64) h0 n0 Z0) hZ (hw _ (List.mem_of_getElem? (i := 14) rfl)) (hw _ (List.mem_of_getElem? (i := 10) rfl)) (by decide) (by decide)) (g := (mkF m 7 #[.val (.long q1), .second] [(.long (0 : Int64)), (.long ((own_F3 q1) - (1 : Int64)))])) rfl (by rw [hml]; rfl) (argsL := [(.long ((own_F3 q1) - (1 : Int64))), (.long (0 : Int64))]) (rest := []) (lenOf pd_2_1 rfl) rfl (by show 2 * 0 + _ ≤ _; exact Nat.le_of_eq rfl) (hb hby d2_7) (fun _ _ => ⟨rfl, e1, (by decide : 0 + 0 ≤ _), (by decide : 0 + 0 ≤ _)⟩)
  dsimp only [Pt.U, Pt.locs, Pt.cells, Pt.slots] at X2 l2 y2 z2 st2 hQ2
  subst l2 y2 z2
  obtain ⟨rfl, N2q, e2⟩ := hQ2
  have N2 := Fr.app N1 N2q
  refine own_st st2 ?_
  show own_Fin _ _ _ _ _ _ _ (T2.setTop (mkF m 10 #[.val (.long q1), .second] [(.long (own_F4 ((own_F3 q1) - (1 : Int64)) (0 : Int64)))]))
  have hv : own_F2 q1 = (own_F4 ((own_F3 q1) - (1 : Int64)) (0 : Int64)) := rfl
  exact own_retJ X2 hx Bd.notSynchronized Bd.returns (hb hby d2_10) (by decide) (by decide) ⟨congrArg (fun z => some (Value.long z)) hv.symm, N2, e2⟩
theorem pn_0 : plainFor x = true := plainFor_of_name (x := x) (by first | (simp [plainName, overriddenIn]; done) | decide +kernel)
theorem pd_0_0 : parseMethodDescriptor "(JZ)J" = some ⟨[.long, .boolean], some .long⟩ := by decide +kernel
theorem pd_0_1 : parseMethodDescriptor "(J)J" = some ⟨[.long], some .long⟩ := by decide +kernel
theorem ef_0 (m : MethodId) (q1 : Int64) (p2 : Int32) : entryFrame m #[(.long q1), (.int p2)] maxLocals = mkF m 0 #[.val (.long q1), .second, .val (.int p2), .unset, .unset, .unset, .unset, .unset, .unset, .unset, .unset] [] := by first | (simp [entryFrame, mkF, argsToLocals, Value.category, maxLocals]; done) | rfl
def own_F0 (q1 : Int64) (p2 : Int32) : Int32 := (if (p2 &&& (1 : Int32)) = (0 : Int32) then (if (own_F2 (own_F1 (q1 &&& (9223372036854775807 : Int64)) (0 : Int32))) = (q1 &&& (9223372036854775807 : Int64)) then (if (q1 &&& (9223372036854775807 : Int64)) = (9223372036854775807 : Int64) then (if (q1 &&& (9223372036854775807 : Int64)) = (0 : Int64) then (if (own_F1 (q1 &&& (9223372036854775807 : Int64)) (0 : Int32)) = (0 : Int64) then (1 : Int32) else (0 : Int32)) else (1 : Int32)) else (if (own_F1 (q1 &&& (9223372036854775807 : Int64)) (0 : Int32)) < (0 : Int64) then (if (q1 &&& (9223372036854775807 : Int64)) = (0 : Int64) then (if (own_F1 (q1 &&& (9223372036854775807 : Int64)) (0 : Int32)) = (0 : Int64) then (0 : Int32) else (0 : Int32)) else (0 : Int32)) else (if (q1 &&& (9223372036854775807 : Int64)) = (0 : Int64) then (if (own_F1 (q1 &&& (9223372036854775807 : Int64)) (0 : Int32)) = (0 : Int64) then (1 : Int32) else (0 : Int32)) else (1 : Int32)))) else (if (q1 &&& (9223372036854775807 : Int64)) = (9223372036854775807 : Int64) then (if (q1 &&& (9223372036854775807 : Int64)) = (0 : Int64) then (if (own_F1 (q1 &&& (9223372036854775807 : Int64)) (0 : Int32)) = (0 : Int64) then (0 : Int32) else (0 : Int32)) else (0 : Int32)) else (if (own_F1 (q1 &&& (9223372036854775807 : Int64)) (0 : Int32)) < (0 : Int64) then (if (q1 &&& (9223372036854775807 : Int64)) = (0 : Int64) then (if (own_F1 (q1 &&& (9223372036854775807 : Int64)) (0 : Int32)) = (0 : Int64) then (0 : Int32) else (0 : Int32)) else (0 : Int32)) else (if (q1 &&& (9223372036854775807 : Int64)) = (0 : Int64) then (if (own_F1 (q1 &&& (9223372036854775807 : Int64)) (0 : Int32)) = (0 : Int64) then (0 : Int32) else (0 : Int32)) else (0 : Int32))))) else (if (own_F2 (own_F1 (q1 &&& (9223372036854775807 : Int64)) (1 : Int32))) = (q1 &&& (9223372036854775807 : Int64)) then (if (own_F1 (q1 &&& (9223372036854775807 : Int64)) (1 : Int32)) < (0 : Int64) then (1 : Int32) else (0 : Int32)) else (if (own_F1 (q1 &&& (9223372036854775807 : Int64)) (1 : Int32)) < (0 : Int64) then (0 : Int32) else (0 : Int32))))
def own_Q0 (q1 : Int64) (p2 : Int32) (h0 : Heap) (n0 : Nat) (v : Option Value) (h : Heap) (L : List Loc) : Prop := v = some (.int (own_F0 q1 p2)) ∧ Fr n0 L ∧ h = h0
set_option maxRecDepth 65536 in
set_option maxHeartbeats 40000000 in
theorem rm0 (l : Launch) (Z : State) (a0 : Array Value) (hw : ∀ d ∈ tables_1, d.before a0 Z = true) (ws : List Jvm.Cond) (q1 : Int64) (p2 : Int32) (h0 : Heap) (n0 : Nat) (Z0 : n0 ≤ h0.size) :
    MetFree l x (head1 (Jvm.Cond.code x code maxLocals ret :: ws) room_1) (fun a U => a = #[(.long q1), (.int p2)] ∧ Z.Warmed39 U.vm ∧ U.heap = h0) (fun _ _ _ _ _ => True) (fun _ U o U' => ∃ v L, o = .returned v ∧ own_Q0 q1 p2 h0 n0 v U'.heap L ∧ FrameEnd U o U' L 0 0) := by
  refine MetFree.of_bodySF pn_0 hisR ?_
  intro p e s m args below meth c s₁ Bd hml0 hP hK
  obtain ⟨rfl, hZ, hh⟩ := hP
  have hx := Bd.exec
  have hby := Bd.bytes
  have hml : c.maxLocals = 11 := hml0
  have hown : s.vm.findClass "com/example/unsettle/unsettle/DrawsStepOfPinLaw" = some m.cls := findClass_of_methodNamed Bd.named
  have X0 : Stand p l e room_1 s m #[(.long q1), (.int p2)] below meth c s₁ [] 0 0 := Stand.of_body Bd
  have e0 : s₁.heap = h0 := by rw [← hh, Bd.state]; rfl
  have N0 := Fr.nil n0
  show own_Fin p.tables e below s (0) (0) (own_Q0 q1 p2 h0 n0) (s₁.setTop (entryFrame m #[(.long q1), (.int p2)] maxLocals))
  rw [ef_0 m q1 p2]
  show own_Fin _ _ _ _ _ _ _ (s₁.setTop (mkF m 0 #[.val (.long q1), .second, .val (.int p2), .unset, .unset, .unset, .unset, .unset, .unset, .unset, .unset] []))
  refine own_st (fun t k => XS.lloadN X0.here hx rfl (hb hby at_0) rfl k) ?_
  show own_Fin _ _ _ _ _ _ _ (s₁.setTop (mkF m 1 #[.val (.long q1), .second, .val (.int p2), .unset, .unset, .unset, .unset, .unset, .unset, .unset, .unset] [(.long q1)]))
  refine own_st (X0.ldc2Long hx hown (mvT hZ (hw _ (List.mem_of_getElem? (i := 0) rfl))) (g := (mkF m 1 #[.val (.long q1), .second, .val (.int p2), .unset, .unset, .unset, .unset, .unset, .unset, .unset, .unset] [(.long q1)])) rfl (hb hby at_1)) ?_
  show own_Fin _ _ _ _ _ _ _ (s₁.setTop (mkF m 4 #[.val (.long q1), .second, .val (.int p2), .unset, .unset, .unset, .unset, .unset, .unset, .unset, .unset] [(.long (9223372036854775807 : Int64)), (.long q1)]))
  refine own_st (fun t k => XS.land X0.here hx rfl (hb hby at_4) rfl k) ?_
  show own_Fin _ _ _ _ _ _ _ (s₁.setTop (mkF m 5 #[.val (.long q1), .second, .val (.int p2), .unset, .unset, .unset, .unset, .unset, .unset, .unset, .unset] [(.long (q1 &&& (9223372036854775807 : Int64)))]))
  refine own_st (fun t k => XS.lstoreN X0.here hx rfl (hb hby at_5) rfl (l' := #[.val (.long q1), .second, .val (.int p2), .val (.long (q1 &&& (9223372036854775807 : Int64))), .second, .unset, .unset, .unset, .unset, .unset, .unset]) rfl k) ?_
  show own_Fin _ _ _ _ _ _ _ (s₁.setTop (mkF m 6 #[.val (.long q1), .second, .val (.int p2), .val (.long (q1 &&& (9223372036854775807 : Int64))), .second, .unset, .unset, .unset, .unset, .unset, .unset] []))
  refine own_st (fun t k => XS.iloadN X0.here hx rfl (hb hby at_6) rfl k) ?_
  show own_Fin _ _ _ _ _ _ _ (s₁.setTop (mkF m 7 #[.val (.long q1), .second, .val (.int p2), .val (.long (q1 &&& (9223372036854775807 : Int64))), .second, .unset, .unset, .unset, .unset, .unset, .unset] [(.int p2)]))
  refine own_st (fun t k => XS.iconst X0.here hx rfl (hb hby at_7) k) ?_
  show own_Fin _ _ _ _ _ _ _ (s₁.setTop (mkF m 8 #[.val (.long q1), .second, .val (.int p2), .val (.long (q1 &&& (9223372036854775807 : Int64))), .second, .unset, .unset, .unset, .unset, .unset, .unset] [(.int (1 : Int32)), (.int p2)]))
  refine own_st (fun t k => XS.iand X0.here hx rfl (hb hby at_8) rfl k) ?_
  show own_Fin _ _ _ _ _ _ _ (s₁.setTop (mkF m 9 #[.val (.long q1), .second, .val (.int p2), .val (.long (q1 &&& (9223372036854775807 : Int64))), .second, .unset, .unset, .unset, .unset, .unset, .unset] [(.int (p2 &&& (1 : Int32)))]))
  by_cases hc9_1 : (p2 &&& (1 : Int32)) = (0 : Int32)
  · refine own_st (fun t k => XS.ifYes X0.here hx rfl (pc0 := 9) (pc' := 16) rfl (hb hby at_9) rfl ((if0 _ _).trans (teq hc9_1).1) (by decide) (by decide) k) ?_
    show own_Fin _ _ _ _ _ _ _ (s₁.setTop (mkF m 16 #[.val (.long q1), .second, .val (.int p2), .val (.long (q1 &&& (9223372036854775807 : Int64))), .second, .unset, .unset, .unset, .unset, .unset, .unset] []))
    refine own_st (fun t k => XS.iconst X0.here hx rfl (hb hby at_16) k) ?_
    show own_Fin _ _ _ _ _ _ _ (s₁.setTop (mkF m 17 #[.val (.long q1), .second, .val (.int p2), .val (.long (q1 &&& (9223372036854775807 : Int64))), .second, .unset, .unset, .unset, .unset, .unset, .unset] [(.int (0 : Int32))]))
    refine own_st (fun t k => XS.istore X0.here hx rfl (hb hby at_17) rfl (l' := #[.val (.long q1), .second, .val (.int p2), .val (.long (q1 &&& (9223372036854775807 : Int64))), .second, .val (.int (0 : Int32)), .unset, .unset, .unset, .unset, .unset]) rfl k) ?_
    show own_Fin _ _ _ _ _ _ _ (s₁.setTop (mkF m 19 #[.val (.long q1), .second, .val (.int p2), .val (.long (q1 &&& (9223372036854775807 : Int64))), .second, .val (.int (0 : Int32)), .unset, .unset, .unset, .unset, .unset] []))
    refine own_st (fun t k => XS.lloadN X0.here hx rfl (hb hby at_19) rfl k) ?_
    show own_Fin _ _ _ _ _ _ _ (s₁.setTop (mkF m 20 #[.val (.long q1), .second, .val (.int p2), .val (.long (q1 &&& (9223372036854775807 : Int64))), .second, .val (.int (0 : Int32)), .unset, .unset, .unset, .unset, .unset] [(.long (q1 &&& (9223372036854775807 : Int64)))]))
    refine own_st (fun t k => XS.iload X0.here hx rfl (hb hby at_20) rfl k) ?_
    show own_Fin _ _ _ _ _ _ _ (s₁.setTop (mkF m 22 #[.val (.long q1), .second, .val (.int p2), .val (.long (q1 &&& (9223372036854775807 : Int64))), .second, .val (.int (0 : Int32)), .unset, .unset, .unset, .unset, .unset] [(.int (0 : Int32)), (.long (q1 &&& (9223372036854775807 : Int64)))]))
    obtain ⟨_, _, ⟨T2, L2, k2, n2⟩, -, X2, ⟨Lc2, hQ2, l2, y2, z2⟩, st2⟩ := Jvm.LawKit.callS X0 hx (y := (⟨"com/example/unsettle/unsettle/Draws", "stepOf", "(JZ)J"⟩ : MethodName)) hown (mvT hZ (hw _ (List.mem_of_getElem? (i := 1) rfl))) (mvT hZ (hw _ (List.mem_of_getElem? (i := 2) rfl))) (mvT hZ (hw _ (List.mem_of_getElem? (i := 3) rfl))) (mvT hZ (hw _ (List.mem_of_getElem? (i := 4) rfl))) (by decide) (backOf (W := 0) (rm1 l Z a0 hw [] (q1 &&& (9223372036854775807 : Int64)) (0 : Int32) h0 n0 Z0) hZ (hw _ (List.mem_of_getElem? (i := 4) rfl)) (hw _ (List.mem_of_getElem? (i := 3) rfl)) (by decide) (by decide)) (g := (mkF m 22 #[.val (.long q1), .second, .val (.int p2), .val (.long (q1 &&& (9223372036854775807 : Int64))), .second, .val (.int (0 : Int32)), .unset, .unset, .unset, .unset, .unset] [(.int (0 : Int32)), (.long (q1 &&& (9223372036854775807 : Int64)))])) rfl (by rw [hml]; rfl) (argsL := [(.long (q1 &&& (9223372036854775807 : Int64))), (.int (0 : Int32))]) (rest := []) (lenOf pd_0_0 rfl) rfl (by show 2 * 0 + _ ≤ _; exact Nat.le_of_eq rfl) (hb hby at_22) (fun _ _ => ⟨rfl, e0, (by decide : 0 + 0 ≤ _), (by decide : 0 + 0 ≤ _)⟩)
    dsimp only [Pt.U, Pt.locs, Pt.cells, Pt.slots] at X2 l2 y2 z2 st2 hQ2
    subst l2 y2 z2
    obtain ⟨rfl, N2q, e2⟩ := hQ2
    have N2 := Fr.app N0 N2q
    refine own_st st2 ?_
    show own_Fin _ _ _ _ _ _ _ (T2.setTop (mkF m 25 #[.val (.long q1), .second, .val (.int p2), .val (.long (q1 &&& (9223372036854775807 : Int64))), .second, .val (.int (0 : Int32)), .unset, .unset, .unset, .unset, .unset] [(.long (own_F1 (q1 &&& (9223372036854775807 : Int64)) (0 : Int32)))]))
    refine own_st (fun t k => XS.lstore X2.here hx rfl (hb hby at_25) rfl (l' := #[.val (.long q1), .second, .val (.int p2), .val (.long (q1 &&& (9223372036854775807 : Int64))), .second, .val (.int (0 : Int32)), .val (.long (own_F1 (q1 &&& (9223372036854775807 : Int64)) (0 : Int32))), .second, .unset, .unset, .unset]) rfl k) ?_
    show own_Fin _ _ _ _ _ _ _ (T2.setTop (mkF m 27 #[.val (.long q1), .second, .val (.int p2), .val (.long (q1 &&& (9223372036854775807 : Int64))), .second, .val (.int (0 : Int32)), .val (.long (own_F1 (q1 &&& (9223372036854775807 : Int64)) (0 : Int32))), .second, .unset, .unset, .unset] []))
    refine own_st (fun t k => XS.lload X2.here hx rfl (hb hby at_27) rfl k) ?_
    show own_Fin _ _ _ _ _ _ _ (T2.setTop (mkF m 29 #[.val (.long q1), .second, .val (.int p2), .val (.long (q1 &&& (9223372036854775807 : Int64))), .second, .val (.int (0 : Int32)), .val (.long (own_F1 (q1 &&& (9223372036854775807 : Int64)) (0 : Int32))), .second, .unset, .unset, .unset] [(.long (own_F1 (q1 &&& (9223372036854775807 : Int64)) (0 : Int32)))]))
    obtain ⟨_, _, ⟨T3, L3, k3, n3⟩, -, X3, ⟨Lc3, hQ3, l3, y3, z3⟩, st3⟩ := Jvm.LawKit.callS X2 hx (y := (⟨"com/example/unsettle/unsettle/Draws", "offsetOfStep", "(J)J"⟩ : MethodName)) hown (mvT hZ (hw _ (List.mem_of_getElem? (i := 5) rfl))) (mvT hZ (hw _ (List.mem_of_getElem? (i := 6) rfl))) (mvT hZ (hw _ (List.mem_of_getElem? (i := 3) rfl))) (mvT hZ (hw _ (List.mem_of_getElem? (i := 7) rfl))) (by decide) (backOf (W := 0) (rm2 l Z a0 hw [] (own_F1 (q1 &&& (9223372036854775807 : Int64)) (0 : Int32)) h0 n0 Z0) hZ (hw _ (List.mem_of_getElem? (i := 7) rfl)) (hw _ (List.mem_of_getElem? (i := 3) rfl)) (by decide) (by decide)) (g := (mkF m 29 #[.val (.long q1), .second, .val (.int p2), .val (.long (q1 &&& (9223372036854775807 : Int64))), .second, .val (.int (0 : Int32)), .val (.long (own_F1 (q1 &&& (9223372036854775807 : Int64)) (0 : Int32))), .second, .unset, .unset, .unset] [(.long (own_F1 (q1 &&& (9223372036854775807 : Int64)) (0 : Int32)))])) rfl (by rw [hml]; rfl) (argsL := [(.long (own_F1 (q1 &&& (9223372036854775807 : Int64)) (0 : Int32)))]) (rest := []) (lenOf pd_0_1 rfl) rfl (by show 2 * 0 + _ ≤ _; exact Nat.le_of_eq rfl) (hb hby at_29) (fun _ _ => ⟨rfl, e2, (by decide : 0 + 0 ≤ _), (by decide : 0 + 0 ≤ _)⟩)
    dsimp only [Pt.U, Pt.locs, Pt.cells, Pt.slots] at X3 l3 y3 z3 st3 hQ3
    subst l3 y3 z3
    obtain ⟨rfl, N3q, e3⟩ := hQ3
    have N3 := Fr.app N2 N3q
    refine own_st st3 ?_
    show own_Fin _ _ _ _ _ _ _ (T3.setTop (mkF m 32 #[.val (.long q1), .second, .val (.int p2), .val (.long (q1 &&& (9223372036854775807 : Int64))), .second, .val (.int (0 : Int32)), .val (.long (own_F1 (q1 &&& (9223372036854775807 : Int64)) (0 : Int32))), .second, .unset, .unset, .unset] [(.long (own_F2 (own_F1 (q1 &&& (9223372036854775807 : Int64)) (0 : Int32))))]))
    refine own_st (fun t k => XS.lloadN X3.here hx rfl (hb hby at_32) rfl k) ?_
    show own_Fin _ _ _ _ _ _ _ (T3.setTop (mkF m 33 #[.val (.long q1), .second, .val (.int p2), .val (.long (q1 &&& (9223372036854775807 : Int64))), .second, .val (.int (0 : Int32)), .val (.long (own_F1 (q1 &&& (9223372036854775807 : Int64)) (0 : Int32))), .second, .unset, .unset, .unset] [(.long (q1 &&& (9223372036854775807 : Int64))), (.long (own_F2 (own_F1 (q1 &&& (9223372036854775807 : Int64)) (0 : Int32))))]))
    refine own_st (fun t k => XS.lcmp X3.here hx rfl (hb hby at_33) rfl k) ?_
    show own_Fin _ _ _ _ _ _ _ (T3.setTop (mkF m 34 #[.val (.long q1), .second, .val (.int p2), .val (.long (q1 &&& (9223372036854775807 : Int64))), .second, .val (.int (0 : Int32)), .val (.long (own_F1 (q1 &&& (9223372036854775807 : Int64)) (0 : Int32))), .second, .unset, .unset, .unset] [(.int (lcmpW (own_F2 (own_F1 (q1 &&& (9223372036854775807 : Int64)) (0 : Int32))) (q1 &&& (9223372036854775807 : Int64))))]))
    by_cases hc34_4 : (own_F2 (own_F1 (q1 &&& (9223372036854775807 : Int64)) (0 : Int32))) = (q1 &&& (9223372036854775807 : Int64))
    · refine own_st (fun t k => XS.ifNo X3.here hx rfl (hb hby at_34) rfl (own_eqT hc34_4).2 k) ?_
      show own_Fin _ _ _ _ _ _ _ (T3.setTop (mkF m 37 #[.val (.long q1), .second, .val (.int p2), .val (.long (q1 &&& (9223372036854775807 : Int64))), .second, .val (.int (0 : Int32)), .val (.long (own_F1 (q1 &&& (9223372036854775807 : Int64)) (0 : Int32))), .second, .unset, .unset, .unset] []))
      refine own_st (fun t k => XS.iconst X3.here hx rfl (hb hby at_37) k) ?_
      show own_Fin _ _ _ _ _ _ _ (T3.setTop (mkF m 38 #[.val (.long q1), .second, .val (.int p2), .val (.long (q1 &&& (9223372036854775807 : Int64))), .second, .val (.int (0 : Int32)), .val (.long (own_F1 (q1 &&& (9223372036854775807 : Int64)) (0 : Int32))), .second, .unset, .unset, .unset] [(.int (1 : Int32))]))
      refine own_st (fun t k => XS.goto X3.here hx rfl (pc0 := 38) (pc' := 42) rfl (hb hby at_38) (by decide) (by decide) k) ?_
      show own_Fin _ _ _ _ _ _ _ (T3.setTop (mkF m 42 #[.val (.long q1), .second, .val (.int p2), .val (.long (q1 &&& (9223372036854775807 : Int64))), .second, .val (.int (0 : Int32)), .val (.long (own_F1 (q1 &&& (9223372036854775807 : Int64)) (0 : Int32))), .second, .unset, .unset, .unset] [(.int (1 : Int32))]))
      refine own_st (fun t k => XS.istore X3.here hx rfl (hb hby at_42) rfl (l' := #[.val (.long q1), .second, .val (.int p2), .val (.long (q1 &&& (9223372036854775807 : Int64))), .second, .val (.int (0 : Int32)), .val (.long (own_F1 (q1 &&& (9223372036854775807 : Int64)) (0 : Int32))), .second, .val (.int (1 : Int32)), .unset, .unset]) rfl k) ?_
      show own_Fin _ _ _ _ _ _ _ (T3.setTop (mkF m 44 #[.val (.long q1), .second, .val (.int p2), .val (.long (q1 &&& (9223372036854775807 : Int64))), .second, .val (.int (0 : Int32)), .val (.long (own_F1 (q1 &&& (9223372036854775807 : Int64)) (0 : Int32))), .second, .val (.int (1 : Int32)), .unset, .unset] []))
      refine own_st (fun t k => XS.iload X3.here hx rfl (hb hby at_44) rfl k) ?_
      show own_Fin _ _ _ _ _ _ _ (T3.setTop (mkF m 46 #[.val (.long q1), .second, .val (.int p2), .val (.long (q1 &&& (9223372036854775807 : Int64))), .second, .val (.int (0 : Int32)), .val (.long (own_F1 (q1 &&& (9223372036854775807 : Int64)) (0 : Int32))), .second, .val (.int (1 : Int32)), .unset, .unset] [(.int (0 : Int32))]))
      refine own_st (fun t k => XS.ifYes X3.here hx rfl (pc0 := 46) (pc' := 66) rfl (hb hby at_46) rfl ((if0 _ _).trans (teq (by decide : (0 : Int32) = (0 : Int32))).1) (by decide) (by decide) k) ?_
      show own_Fin _ _ _ _ _ _ _ (T3.setTop (mkF m 66 #[.val (.long q1), .second, .val (.int p2), .val (.long (q1 &&& (9223372036854775807 : Int64))), .second, .val (.int (0 : Int32)), .val (.long (own_F1 (q1 &&& (9223372036854775807 : Int64)) (0 : Int32))), .second, .val (.int (1 : Int32)), .unset, .unset] []))
      refine own_st (fun t k => XS.lloadN X3.here hx rfl (hb hby at_66) rfl k) ?_
      show own_Fin _ _ _ _ _ _ _ (T3.setTop (mkF m 67 #[.val (.long q1), .second, .val (.int p2), .val (.long (q1 &&& (9223372036854775807 : Int64))), .second, .val (.int (0 : Int32)), .val (.long (own_F1 (q1 &&& (9223372036854775807 : Int64)) (0 : Int32))), .second, .val (.int (1 : Int32)), .unset, .unset] [(.long (q1 &&& (9223372036854775807 : Int64)))]))
      refine own_st (X3.ldc2Long hx hown (mvT hZ (hw _ (List.mem_of_getElem? (i := 0) rfl))) (g := (mkF m 67 #[.val (.long q1), .second, .val (.int p2), .val (.long (q1 &&& (9223372036854775807 : Int64))), .second, .val (.int (0 : Int32)), .val (.long (own_F1 (q1 &&& (9223372036854775807 : Int64)) (0 : Int32))), .second, .val (.int (1 : Int32)), .unset, .unset] [(.long (q1 &&& (9223372036854775807 : Int64)))])) rfl (hb hby at_67)) ?_
      show own_Fin _ _ _ _ _ _ _ (T3.setTop (mkF m 70 #[.val (.long q1), .second, .val (.int p2), .val (.long (q1 &&& (9223372036854775807 : Int64))), .second, .val (.int (0 : Int32)), .val (.long (own_F1 (q1 &&& (9223372036854775807 : Int64)) (0 : Int32))), .second, .val (.int (1 : Int32)), .unset, .unset] [(.long (9223372036854775807 : Int64)), (.long (q1 &&& (9223372036854775807 : Int64)))]))
      refine own_st (fun t k => XS.lcmp X3.here hx rfl (hb hby at_70) rfl k) ?_
      show own_Fin _ _ _ _ _ _ _ (T3.setTop (mkF m 71 #[.val (.long q1), .second, .val (.int p2), .val (.long (q1 &&& (9223372036854775807 : Int64))), .second, .val (.int (0 : Int32)), .val (.long (own_F1 (q1 &&& (9223372036854775807 : Int64)) (0 : Int32))), .second, .val (.int (1 : Int32)), .unset, .unset] [(.int (lcmpW (q1 &&& (9223372036854775807 : Int64)) (9223372036854775807 : Int64)))]))
      by_cases hc71_5 : (q1 &&& (9223372036854775807 : Int64)) = (9223372036854775807 : Int64)
      · refine own_st (fun t k => XS.ifNo X3.here hx rfl (hb hby at_71) rfl (own_eqT hc71_5).2 k) ?_
        show own_Fin _ _ _ _ _ _ _ (T3.setTop (mkF m 74 #[.val (.long q1), .second, .val (.int p2), .val (.long (q1 &&& (9223372036854775807 : Int64))), .second, .val (.int (0 : Int32)), .val (.long (own_F1 (q1 &&& (9223372036854775807 : Int64)) (0 : Int32))), .second, .val (.int (1 : Int32)), .unset, .unset] []))
        refine own_st (fun t k => XS.iconst X3.here hx rfl (hb hby at_74) k) ?_
        show own_Fin _ _ _ _ _ _ _ (T3.setTop (mkF m 75 #[.val (.long q1), .second, .val (.int p2), .val (.long (q1 &&& (9223372036854775807 : Int64))), .second, .val (.int (0 : Int32)), .val (.long (own_F1 (q1 &&& (9223372036854775807 : Int64)) (0 : Int32))), .second, .val (.int (1 : Int32)), .unset, .unset] [(.int (1 : Int32))]))
        refine own_st (fun t k => XS.istore X3.here hx rfl (hb hby at_75) rfl (l' := #[.val (.long q1), .second, .val (.int p2), .val (.long (q1 &&& (9223372036854775807 : Int64))), .second, .val (.int (0 : Int32)), .val (.long (own_F1 (q1 &&& (9223372036854775807 : Int64)) (0 : Int32))), .second, .val (.int (1 : Int32)), .val (.int (1 : Int32)), .unset]) rfl k) ?_
        show own_Fin _ _ _ _ _ _ _ (T3.setTop (mkF m 77 #[.val (.long q1), .second, .val (.int p2), .val (.long (q1 &&& (9223372036854775807 : Int64))), .second, .val (.int (0 : Int32)), .val (.long (own_F1 (q1 &&& (9223372036854775807 : Int64)) (0 : Int32))), .second, .val (.int (1 : Int32)), .val (.int (1 : Int32)), .unset] []))
        refine own_st (fun t k => XS.goto X3.here hx rfl (pc0 := 77) (pc' := 94) rfl (hb hby at_77) (by decide) (by decide) k) ?_
        show own_Fin _ _ _ _ _ _ _ (T3.setTop (mkF m 94 #[.val (.long q1), .second, .val (.int p2), .val (.long (q1 &&& (9223372036854775807 : Int64))), .second, .val (.int (0 : Int32)), .val (.long (own_F1 (q1 &&& (9223372036854775807 : Int64)) (0 : Int32))), .second, .val (.int (1 : Int32)), .val (.int (1 : Int32)), .unset] []))
        refine own_st (fun t k => XS.iload X3.here hx rfl (hb hby at_94) rfl k) ?_
        show own_Fin _ _ _ _ _ _ _ (T3.setTop (mkF m 96 #[.val (.long q1), .second, .val (.int p2), .val (.long (q1 &&& (9223372036854775807 : Int64))), .second, .val (.int (0 : Int32)), .val (.long (own_F1 (q1 &&& (9223372036854775807 : Int64)) (0 : Int32))), .second, .val (.int (1 : Int32)), .val (.int (1 : Int32)), .unset] [(.int (0 : Int32))]))
        refine own_st (fun t k => XS.ifNo X3.here hx rfl (hb hby at_96) rfl ((if0 _ _).trans (teq (by decide : (0 : Int32) = (0 : Int32))).2) k) ?_
        show own_Fin _ _ _ _ _ _ _ (T3.setTop (mkF m 99 #[.val (.long q1), .second, .val (.int p2), .val (.long (q1 &&& (9223372036854775807 : Int64))), .second, .val (.int (0 : Int32)), .val (.long (own_F1 (q1 &&& (9223372036854775807 : Int64)) (0 : Int32))), .second, .val (.int (1 : Int32)), .val (.int (1 : Int32)), .unset] []))
        refine own_st (fun t k => XS.lloadN X3.here hx rfl (hb hby at_99) rfl k) ?_
        show own_Fin _ _ _ _ _ _ _ (T3.setTop (mkF m 100 #[.val (.long q1), .second, .val (.int p2), .val (.long (q1 &&& (9223372036854775807 : Int64))), .second, .val (.int (0 : Int32)), .val (.long (own_F1 (q1 &&& (9223372036854775807 : Int64)) (0 : Int32))), .second, .val (.int (1 : Int32)), .val (.int (1 : Int32)), .unset] [(.long (q1 &&& (9223372036854775807 : Int64)))]))
        refine own_st (fun t k => XS.lconst X3.here hx rfl (hb hby at_100) k) ?_
        show own_Fin _ _ _ _ _ _ _ (T3.setTop (mkF m 101 #[.val (.long q1), .second, .val (.int p2), .val (.long (q1 &&& (9223372036854775807 : Int64))), .second, .val (.int (0 : Int32)), .val (.long (own_F1 (q1 &&& (9223372036854775807 : Int64)) (0 : Int32))), .second, .val (.int (1 : Int32)), .val (.int (1 : Int32)), .unset] [(.long (0 : Int64)), (.long (q1 &&& (9223372036854775807 : Int64)))]))
        refine own_st (fun t k => XS.lcmp X3.here hx rfl (hb hby at_101) rfl k) ?_
        show own_Fin _ _ _ _ _ _ _ (T3.setTop (mkF m 102 #[.val (.long q1), .second, .val (.int p2), .val (.long (q1 &&& (9223372036854775807 : Int64))), .second, .val (.int (0 : Int32)), .val (.long (own_F1 (q1 &&& (9223372036854775807 : Int64)) (0 : Int32))), .second, .val (.int (1 : Int32)), .val (.int (1 : Int32)), .unset] [(.int (lcmpW (q1 &&& (9223372036854775807 : Int64)) (0 : Int64)))]))
        by_cases hc102_6 : (q1 &&& (9223372036854775807 : Int64)) = (0 : Int64)
        · refine own_st (fun t k => XS.ifNo X3.here hx rfl (hb hby at_102) rfl (own_eqT hc102_6).2 k) ?_
          show own_Fin _ _ _ _ _ _ _ (T3.setTop (mkF m 105 #[.val (.long q1), .second, .val (.int p2), .val (.long (q1 &&& (9223372036854775807 : Int64))), .second, .val (.int (0 : Int32)), .val (.long (own_F1 (q1 &&& (9223372036854775807 : Int64)) (0 : Int32))), .second, .val (.int (1 : Int32)), .val (.int (1 : Int32)), .unset] []))
          refine own_st (fun t k => XS.lload X3.here hx rfl (hb hby at_105) rfl k) ?_
          show own_Fin _ _ _ _ _ _ _ (T3.setTop (mkF m 107 #[.val (.long q1), .second, .val (.int p2), .val (.long (q1 &&& (9223372036854775807 : Int64))), .second, .val (.int (0 : Int32)), .val (.long (own_F1 (q1 &&& (9223372036854775807 : Int64)) (0 : Int32))), .second, .val (.int (1 : Int32)), .val (.int (1 : Int32)), .unset] [(.long (own_F1 (q1 &&& (9223372036854775807 : Int64)) (0 : Int32)))]))
          refine own_st (fun t k => XS.lconst X3.here hx rfl (hb hby at_107) k) ?_
          show own_Fin _ _ _ _ _ _ _ (T3.setTop (mkF m 108 #[.val (.long q1), .second, .val (.int p2), .val (.long (q1 &&& (9223372036854775807 : Int64))), .second, .val (.int (0 : Int32)), .val (.long (own_F1 (q1 &&& (9223372036854775807 : Int64)) (0 : Int32))), .second, .val (.int (1 : Int32)), .val (.int (1 : Int32)), .unset] [(.long (0 : Int64)), (.long (own_F1 (q1 &&& (9223372036854775807 : Int64)) (0 : Int32)))]))
          refine own_st (fun t k => XS.lcmp X3.here hx rfl (hb hby at_108) rfl k) ?_
          show own_Fin _ _ _ _ _ _ _ (T3.setTop (mkF m 109 #[.val (.long q1), .second, .val (.int p2), .val (.long (q1 &&& (9223372036854775807 : Int64))), .second, .val (.int (0 : Int32)), .val (.long (own_F1 (q1 &&& (9223372036854775807 : Int64)) (0 : Int32))), .second, .val (.int (1 : Int32)), .val (.int (1 : Int32)), .unset] [(.int (lcmpW (own_F1 (q1 &&& (9223372036854775807 : Int64)) (0 : Int32)) (0 : Int64)))]))
          by_cases hc109_7 : (own_F1 (q1 &&& (9223372036854775807 : Int64)) (0 : Int32)) = (0 : Int64)
          · refine own_st (fun t k => XS.ifNo X3.here hx rfl (hb hby at_109) rfl (own_eqT hc109_7).2 k) ?_
            show own_Fin _ _ _ _ _ _ _ (T3.setTop (mkF m 112 #[.val (.long q1), .second, .val (.int p2), .val (.long (q1 &&& (9223372036854775807 : Int64))), .second, .val (.int (0 : Int32)), .val (.long (own_F1 (q1 &&& (9223372036854775807 : Int64)) (0 : Int32))), .second, .val (.int (1 : Int32)), .val (.int (1 : Int32)), .unset] []))
            refine own_st (fun t k => XS.iconst X3.here hx rfl (hb hby at_112) k) ?_
            show own_Fin _ _ _ _ _ _ _ (T3.setTop (mkF m 113 #[.val (.long q1), .second, .val (.int p2), .val (.long (q1 &&& (9223372036854775807 : Int64))), .second, .val (.int (0 : Int32)), .val (.long (own_F1 (q1 &&& (9223372036854775807 : Int64)) (0 : Int32))), .second, .val (.int (1 : Int32)), .val (.int (1 : Int32)), .unset] [(.int (1 : Int32))]))
            refine own_st (fun t k => XS.goto X3.here hx rfl (pc0 := 113) (pc' := 117) rfl (hb hby at_113) (by decide) (by decide) k) ?_
            show own_Fin _ _ _ _ _ _ _ (T3.setTop (mkF m 117 #[.val (.long q1), .second, .val (.int p2), .val (.long (q1 &&& (9223372036854775807 : Int64))), .second, .val (.int (0 : Int32)), .val (.long (own_F1 (q1 &&& (9223372036854775807 : Int64)) (0 : Int32))), .second, .val (.int (1 : Int32)), .val (.int (1 : Int32)), .unset] [(.int (1 : Int32))]))
            refine own_st (fun t k => XS.istore X3.here hx rfl (hb hby at_117) rfl (l' := #[.val (.long q1), .second, .val (.int p2), .val (.long (q1 &&& (9223372036854775807 : Int64))), .second, .val (.int (0 : Int32)), .val (.long (own_F1 (q1 &&& (9223372036854775807 : Int64)) (0 : Int32))), .second, .val (.int (1 : Int32)), .val (.int (1 : Int32)), .val (.int (1 : Int32))]) rfl k) ?_
            show own_Fin _ _ _ _ _ _ _ (T3.setTop (mkF m 119 #[.val (.long q1), .second, .val (.int p2), .val (.long (q1 &&& (9223372036854775807 : Int64))), .second, .val (.int (0 : Int32)), .val (.long (own_F1 (q1 &&& (9223372036854775807 : Int64)) (0 : Int32))), .second, .val (.int (1 : Int32)), .val (.int (1 : Int32)), .val (.int (1 : Int32))] []))
            refine own_st (fun t k => XS.iload X3.here hx rfl (hb hby at_119) rfl k) ?_
            show own_Fin _ _ _ _ _ _ _ (T3.setTop (mkF m 121 #[.val (.long q1), .second, .val (.int p2), .val (.long (q1 &&& (9223372036854775807 : Int64))), .second, .val (.int (0 : Int32)), .val (.long (own_F1 (q1 &&& (9223372036854775807 : Int64)) (0 : Int32))), .second, .val (.int (1 : Int32)), .val (.int (1 : Int32)), .val (.int (1 : Int32))] [(.int (1 : Int32))]))
            refine own_st (fun t k => XS.ifNo X3.here hx rfl (hb hby at_121) rfl ((if0 _ _).trans (feq (by decide : ¬ ((1 : Int32) = (0 : Int32)))).1) k) ?_
            show own_Fin _ _ _ _ _ _ _ (T3.setTop (mkF m 124 #[.val (.long q1), .second, .val (.int p2), .val (.long (q1 &&& (9223372036854775807 : Int64))), .second, .val (.int (0 : Int32)), .val (.long (own_F1 (q1 &&& (9223372036854775807 : Int64)) (0 : Int32))), .second, .val (.int (1 : Int32)), .val (.int (1 : Int32)), .val (.int (1 : Int32))] []))
            refine own_st (fun t k => XS.iload X3.here hx rfl (hb hby at_124) rfl k) ?_
            show own_Fin _ _ _ _ _ _ _ (T3.setTop (mkF m 126 #[.val (.long q1), .second, .val (.int p2), .val (.long (q1 &&& (9223372036854775807 : Int64))), .second, .val (.int (0 : Int32)), .val (.long (own_F1 (q1 &&& (9223372036854775807 : Int64)) (0 : Int32))), .second, .val (.int (1 : Int32)), .val (.int (1 : Int32)), .val (.int (1 : Int32))] [(.int (1 : Int32))]))
            refine own_st (fun t k => XS.ifNo X3.here hx rfl (hb hby at_126) rfl ((if0 _ _).trans (feq (by decide : ¬ ((1 : Int32) = (0 : Int32)))).1) k) ?_
            show own_Fin _ _ _ _ _ _ _ (T3.setTop (mkF m 129 #[.val (.long q1), .second, .val (.int p2), .val (.long (q1 &&& (9223372036854775807 : Int64))), .second, .val (.int (0 : Int32)), .val (.long (own_F1 (q1 &&& (9223372036854775807 : Int64)) (0 : Int32))), .second, .val (.int (1 : Int32)), .val (.int (1 : Int32)), .val (.int (1 : Int32))] []))
            refine own_st (fun t k => XS.iload X3.here hx rfl (hb hby at_129) rfl k) ?_
            show own_Fin _ _ _ _ _ _ _ (T3.setTop (mkF m 131 #[.val (.long q1), .second, .val (.int p2), .val (.long (q1 &&& (9223372036854775807 : Int64))), .second, .val (.int (0 : Int32)), .val (.long (own_F1 (q1 &&& (9223372036854775807 : Int64)) (0 : Int32))), .second, .val (.int (1 : Int32)), .val (.int (1 : Int32)), .val (.int (1 : Int32))] [(.int (1 : Int32))]))
            refine own_st (fun t k => XS.ifNo X3.here hx rfl (hb hby at_131) rfl ((if0 _ _).trans (feq (by decide : ¬ ((1 : Int32) = (0 : Int32)))).1) k) ?_
            show own_Fin _ _ _ _ _ _ _ (T3.setTop (mkF m 134 #[.val (.long q1), .second, .val (.int p2), .val (.long (q1 &&& (9223372036854775807 : Int64))), .second, .val (.int (0 : Int32)), .val (.long (own_F1 (q1 &&& (9223372036854775807 : Int64)) (0 : Int32))), .second, .val (.int (1 : Int32)), .val (.int (1 : Int32)), .val (.int (1 : Int32))] []))
            refine own_st (fun t k => XS.iconst X3.here hx rfl (hb hby at_134) k) ?_
            show own_Fin _ _ _ _ _ _ _ (T3.setTop (mkF m 135 #[.val (.long q1), .second, .val (.int p2), .val (.long (q1 &&& (9223372036854775807 : Int64))), .second, .val (.int (0 : Int32)), .val (.long (own_F1 (q1 &&& (9223372036854775807 : Int64)) (0 : Int32))), .second, .val (.int (1 : Int32)), .val (.int (1 : Int32)), .val (.int (1 : Int32))] [(.int (1 : Int32))]))
            refine own_st (fun t k => XS.goto X3.here hx rfl (pc0 := 135) (pc' := 139) rfl (hb hby at_135) (by decide) (by decide) k) ?_
            show own_Fin _ _ _ _ _ _ _ (T3.setTop (mkF m 139 #[.val (.long q1), .second, .val (.int p2), .val (.long (q1 &&& (9223372036854775807 : Int64))), .second, .val (.int (0 : Int32)), .val (.long (own_F1 (q1 &&& (9223372036854775807 : Int64)) (0 : Int32))), .second, .val (.int (1 : Int32)), .val (.int (1 : Int32)), .val (.int (1 : Int32))] [(.int (1 : Int32))]))
            have hv : own_F0 q1 p2 = (1 : Int32) := by unfold own_F0; rw [if_pos hc9_1, if_pos hc34_4, if_pos hc71_5, if_pos hc102_6, if_pos hc109_7]
            exact own_retN X3 hx Bd.notSynchronized (t := .boolean) Bd.returns (by simp) (hb hby at_139) (by decide) (by decide) ⟨congrArg (fun z => some (Value.int z)) hv.symm, N3, e3⟩
          · refine own_st (fun t k => XS.ifYes X3.here hx rfl (pc0 := 109) (pc' := 116) rfl (hb hby at_109) rfl (own_eqF hc109_7).2 (by decide) (by decide) k) ?_
            show own_Fin _ _ _ _ _ _ _ (T3.setTop (mkF m 116 #[.val (.long q1), .second, .val (.int p2), .val (.long (q1 &&& (9223372036854775807 : Int64))), .second, .val (.int (0 : Int32)), .val (.long (own_F1 (q1 &&& (9223372036854775807 : Int64)) (0 : Int32))), .second, .val (.int (1 : Int32)), .val (.int (1 : Int32)), .unset] []))
            refine own_st (fun t k => XS.iconst X3.here hx rfl (hb hby at_116) k) ?_
            show own_Fin _ _ _ _ _ _ _ (T3.setTop (mkF m 117 #[.val (.long q1), .second, .val (.int p2), .val (.long (q1 &&& (9223372036854775807 : Int64))), .second, .val (.int (0 : Int32)), .val (.long (own_F1 (q1 &&& (9223372036854775807 : Int64)) (0 : Int32))), .second, .val (.int (1 : Int32)), .val (.int (1 : Int32)), .unset] [(.int (0 : Int32))]))
            refine own_st (fun t k => XS.istore X3.here hx rfl (hb hby at_117) rfl (l' := #[.val (.long q1), .second, .val (.int p2), .val (.long (q1 &&& (9223372036854775807 : Int64))), .second, .val (.int (0 : Int32)), .val (.long (own_F1 (q1 &&& (9223372036854775807 : Int64)) (0 : Int32))), .second, .val (.int (1 : Int32)), .val (.int (1 : Int32)), .val (.int (0 : Int32))]) rfl k) ?_
            show own_Fin _ _ _ _ _ _ _ (T3.setTop (mkF m 119 #[.val (.long q1), .second, .val (.int p2), .val (.long (q1 &&& (9223372036854775807 : Int64))), .second, .val (.int (0 : Int32)), .val (.long (own_F1 (q1 &&& (9223372036854775807 : Int64)) (0 : Int32))), .second, .val (.int (1 : Int32)), .val (.int (1 : Int32)), .val (.int (0 : Int32))] []))
            refine own_st (fun t k => XS.iload X3.here hx rfl (hb hby at_119) rfl k) ?_
            show own_Fin _ _ _ _ _ _ _ (T3.setTop (mkF m 121 #[.val (.long q1), .second, .val (.int p2), .val (.long (q1 &&& (9223372036854775807 : Int64))), .second, .val (.int (0 : Int32)), .val (.long (own_F1 (q1 &&& (9223372036854775807 : Int64)) (0 : Int32))), .second, .val (.int (1 : Int32)), .val (.int (1 : Int32)), .val (.int (0 : Int32))] [(.int (1 : Int32))]))
            refine own_st (fun t k => XS.ifNo X3.here hx rfl (hb hby at_121) rfl ((if0 _ _).trans (feq (by decide : ¬ ((1 : Int32) = (0 : Int32)))).1) k) ?_
            show own_Fin _ _ _ _ _ _ _ (T3.setTop (mkF m 124 #[.val (.long q1), .second, .val (.int p2), .val (.long (q1 &&& (9223372036854775807 : Int64))), .second, .val (.int (0 : Int32)), .val (.long (own_F1 (q1 &&& (9223372036854775807 : Int64)) (0 : Int32))), .second, .val (.int (1 : Int32)), .val (.int (1 : Int32)), .val (.int (0 : Int32))] []))
            refine own_st (fun t k => XS.iload X3.here hx rfl (hb hby at_124) rfl k) ?_
            show own_Fin _ _ _ _ _ _ _ (T3.setTop (mkF m 126 #[.val (.long q1), .second, .val (.int p2), .val (.long (q1 &&& (9223372036854775807 : Int64))), .second, .val (.int (0 : Int32)), .val (.long (own_F1 (q1 &&& (9223372036854775807 : Int64)) (0 : Int32))), .second, .val (.int (1 : Int32)), .val (.int (1 : Int32)), .val (.int (0 : Int32))] [(.int (1 : Int32))]))
            refine own_st (fun t k => XS.ifNo X3.here hx rfl (hb hby at_126) rfl ((if0 _ _).trans (feq (by decide : ¬ ((1 : Int32) = (0 : Int32)))).1) k) ?_
            show own_Fin _ _ _ _ _ _ _ (T3.setTop (mkF m 129 #[.val (.long q1), .second, .val (.int p2), .val (.long (q1 &&& (9223372036854775807 : Int64))), .second, .val (.int (0 : Int32)), .val (.long (own_F1 (q1 &&& (9223372036854775807 : Int64)) (0 : Int32))), .second, .val (.int (1 : Int32)), .val (.int (1 : Int32)), .val (.int (0 : Int32))] []))
            refine own_st (fun t k => XS.iload X3.here hx rfl (hb hby at_129) rfl k) ?_
            show own_Fin _ _ _ _ _ _ _ (T3.setTop (mkF m 131 #[.val (.long q1), .second, .val (.int p2), .val (.long (q1 &&& (9223372036854775807 : Int64))), .second, .val (.int (0 : Int32)), .val (.long (own_F1 (q1 &&& (9223372036854775807 : Int64)) (0 : Int32))), .second, .val (.int (1 : Int32)), .val (.int (1 : Int32)), .val (.int (0 : Int32))] [(.int (0 : Int32))]))
            refine own_st (fun t k => XS.ifYes X3.here hx rfl (pc0 := 131) (pc' := 138) rfl (hb hby at_131) rfl ((if0 _ _).trans (teq (by decide : (0 : Int32) = (0 : Int32))).1) (by decide) (by decide) k) ?_
            show own_Fin _ _ _ _ _ _ _ (T3.setTop (mkF m 138 #[.val (.long q1), .second, .val (.int p2), .val (.long (q1 &&& (9223372036854775807 : Int64))), .second, .val (.int (0 : Int32)), .val (.long (own_F1 (q1 &&& (9223372036854775807 : Int64)) (0 : Int32))), .second, .val (.int (1 : Int32)), .val (.int (1 : Int32)), .val (.int (0 : Int32))] []))
            refine own_st (fun t k => XS.iconst X3.here hx rfl (hb hby at_138) k) ?_
            show own_Fin _ _ _ _ _ _ _ (T3.setTop (mkF m 139 #[.val (.long q1), .second, .val (.int p2), .val (.long (q1 &&& (9223372036854775807 : Int64))), .second, .val (.int (0 : Int32)), .val (.long (own_F1 (q1 &&& (9223372036854775807 : Int64)) (0 : Int32))), .second, .val (.int (1 : Int32)), .val (.int (1 : Int32)), .val (.int (0 : Int32))] [(.int (0 : Int32))]))
            have hv : own_F0 q1 p2 = (0 : Int32) := by unfold own_F0; rw [if_pos hc9_1, if_pos hc34_4, if_pos hc71_5, if_pos hc102_6, if_neg hc109_7]
            exact own_retN X3 hx Bd.notSynchronized (t := .boolean) Bd.returns (by simp) (hb hby at_139) (by decide) (by decide) ⟨congrArg (fun z => some (Value.int z)) hv.symm, N3, e3⟩
        · refine own_st (fun t k => XS.ifYes X3.here hx rfl (pc0 := 102) (pc' := 112) rfl (hb hby at_102) rfl (own_eqF hc102_6).2 (by decide) (by decide) k) ?_
          show own_Fin _ _ _ _ _ _ _ (T3.setTop (mkF m 112 #[.val (.long q1), .second, .val (.int p2), .val (.long (q1 &&& (9223372036854775807 : Int64))), .second, .val (.int (0 : Int32)), .val (.long (own_F1 (q1 &&& (9223372036854775807 : Int64)) (0 : Int32))), .second, .val (.int (1 : Int32)), .val (.int (1 : Int32)), .unset] []))
          refine own_st (fun t k => XS.iconst X3.here hx rfl (hb hby at_112) k) ?_
          show own_Fin _ _ _ _ _ _ _ (T3.setTop (mkF m 113 #[.val (.long q1), .second, .val (.int p2), .val (.long (q1 &&& (9223372036854775807 : Int64))), .second, .val (.int (0 : Int32)), .val (.long (own_F1 (q1 &&& (9223372036854775807 : Int64)) (0 : Int32))), .second, .val (.int (1 : Int32)), .val (.int (1 : Int32)), .unset] [(.int (1 : Int32))]))
          refine own_st (fun t k => XS.goto X3.here hx rfl (pc0 := 113) (pc' := 117) rfl (hb hby at_113) (by decide) (by decide) k) ?_
          show own_Fin _ _ _ _ _ _ _ (T3.setTop (mkF m 117 #[.val (.long q1), .second, .val (.int p2), .val (.long (q1 &&& (9223372036854775807 : Int64))), .second, .val (.int (0 : Int32)), .val (.long (own_F1 (q1 &&& (9223372036854775807 : Int64)) (0 : Int32))), .second, .val (.int (1 : Int32)), .val (.int (1 : Int32)), .unset] [(.int (1 : Int32))]))
          refine own_st (fun t k => XS.istore X3.here hx rfl (hb hby at_117) rfl (l' := #[.val (.long q1), .second, .val (.int p2), .val (.long (q1 &&& (9223372036854775807 : Int64))), .second, .val (.int (0 : Int32)), .val (.long (own_F1 (q1 &&& (9223372036854775807 : Int64)) (0 : Int32))), .second, .val (.int (1 : Int32)), .val (.int (1 : Int32)), .val (.int (1 : Int32))]) rfl k) ?_
          show own_Fin _ _ _ _ _ _ _ (T3.setTop (mkF m 119 #[.val (.long q1), .second, .val (.int p2), .val (.long (q1 &&& (9223372036854775807 : Int64))), .second, .val (.int (0 : Int32)), .val (.long (own_F1 (q1 &&& (9223372036854775807 : Int64)) (0 : Int32))), .second, .val (.int (1 : Int32)), .val (.int (1 : Int32)), .val (.int (1 : Int32))] []))
          refine own_st (fun t k => XS.iload X3.here hx rfl (hb hby at_119) rfl k) ?_
          show own_Fin _ _ _ _ _ _ _ (T3.setTop (mkF m 121 #[.val (.long q1), .second, .val (.int p2), .val (.long (q1 &&& (9223372036854775807 : Int64))), .second, .val (.int (0 : Int32)), .val (.long (own_F1 (q1 &&& (9223372036854775807 : Int64)) (0 : Int32))), .second, .val (.int (1 : Int32)), .val (.int (1 : Int32)), .val (.int (1 : Int32))] [(.int (1 : Int32))]))
          refine own_st (fun t k => XS.ifNo X3.here hx rfl (hb hby at_121) rfl ((if0 _ _).trans (feq (by decide : ¬ ((1 : Int32) = (0 : Int32)))).1) k) ?_
          show own_Fin _ _ _ _ _ _ _ (T3.setTop (mkF m 124 #[.val (.long q1), .second, .val (.int p2), .val (.long (q1 &&& (9223372036854775807 : Int64))), .second, .val (.int (0 : Int32)), .val (.long (own_F1 (q1 &&& (9223372036854775807 : Int64)) (0 : Int32))), .second, .val (.int (1 : Int32)), .val (.int (1 : Int32)), .val (.int (1 : Int32))] []))
          refine own_st (fun t k => XS.iload X3.here hx rfl (hb hby at_124) rfl k) ?_
          show own_Fin _ _ _ _ _ _ _ (T3.setTop (mkF m 126 #[.val (.long q1), .second, .val (.int p2), .val (.long (q1 &&& (9223372036854775807 : Int64))), .second, .val (.int (0 : Int32)), .val (.long (own_F1 (q1 &&& (9223372036854775807 : Int64)) (0 : Int32))), .second, .val (.int (1 : Int32)), .val (.int (1 : Int32)), .val (.int (1 : Int32))] [(.int (1 : Int32))]))
          refine own_st (fun t k => XS.ifNo X3.here hx rfl (hb hby at_126) rfl ((if0 _ _).trans (feq (by decide : ¬ ((1 : Int32) = (0 : Int32)))).1) k) ?_
          show own_Fin _ _ _ _ _ _ _ (T3.setTop (mkF m 129 #[.val (.long q1), .second, .val (.int p2), .val (.long (q1 &&& (9223372036854775807 : Int64))), .second, .val (.int (0 : Int32)), .val (.long (own_F1 (q1 &&& (9223372036854775807 : Int64)) (0 : Int32))), .second, .val (.int (1 : Int32)), .val (.int (1 : Int32)), .val (.int (1 : Int32))] []))
          refine own_st (fun t k => XS.iload X3.here hx rfl (hb hby at_129) rfl k) ?_
          show own_Fin _ _ _ _ _ _ _ (T3.setTop (mkF m 131 #[.val (.long q1), .second, .val (.int p2), .val (.long (q1 &&& (9223372036854775807 : Int64))), .second, .val (.int (0 : Int32)), .val (.long (own_F1 (q1 &&& (9223372036854775807 : Int64)) (0 : Int32))), .second, .val (.int (1 : Int32)), .val (.int (1 : Int32)), .val (.int (1 : Int32))] [(.int (1 : Int32))]))
          refine own_st (fun t k => XS.ifNo X3.here hx rfl (hb hby at_131) rfl ((if0 _ _).trans (feq (by decide : ¬ ((1 : Int32) = (0 : Int32)))).1) k) ?_
          show own_Fin _ _ _ _ _ _ _ (T3.setTop (mkF m 134 #[.val (.long q1), .second, .val (.int p2), .val (.long (q1 &&& (9223372036854775807 : Int64))), .second, .val (.int (0 : Int32)), .val (.long (own_F1 (q1 &&& (9223372036854775807 : Int64)) (0 : Int32))), .second, .val (.int (1 : Int32)), .val (.int (1 : Int32)), .val (.int (1 : Int32))] []))
          refine own_st (fun t k => XS.iconst X3.here hx rfl (hb hby at_134) k) ?_
          show own_Fin _ _ _ _ _ _ _ (T3.setTop (mkF m 135 #[.val (.long q1), .second, .val (.int p2), .val (.long (q1 &&& (9223372036854775807 : Int64))), .second, .val (.int (0 : Int32)), .val (.long (own_F1 (q1 &&& (9223372036854775807 : Int64)) (0 : Int32))), .second, .val (.int (1 : Int32)), .val (.int (1 : Int32)), .val (.int (1 : Int32))] [(.int (1 : Int32))]))
          refine own_st (fun t k => XS.goto X3.here hx rfl (pc0 := 135) (pc' := 139) rfl (hb hby at_135) (by decide) (by decide) k) ?_
          show own_Fin _ _ _ _ _ _ _ (T3.setTop (mkF m 139 #[.val (.long q1), .second, .val (.int p2), .val (.long (q1 &&& (9223372036854775807 : Int64))), .second, .val (.int (0 : Int32)), .val (.long (own_F1 (q1 &&& (9223372036854775807 : Int64)) (0 : Int32))), .second, .val (.int (1 : Int32)), .val (.int (1 : Int32)), .val (.int (1 : Int32))] [(.int (1 : Int32))]))
          have hv : own_F0 q1 p2 = (1 : Int32) := by unfold own_F0; rw [if_pos hc9_1, if_pos hc34_4, if_pos hc71_5, if_neg hc102_6]
          exact own_retN X3 hx Bd.notSynchronized (t := .boolean) Bd.returns (by simp) (hb hby at_139) (by decide) (by decide) ⟨congrArg (fun z => some (Value.int z)) hv.symm, N3, e3⟩
      · refine own_st (fun t k => XS.ifYes X3.here hx rfl (pc0 := 71) (pc' := 80) rfl (hb hby at_71) rfl (own_eqF hc71_5).2 (by decide) (by decide) k) ?_
        show own_Fin _ _ _ _ _ _ _ (T3.setTop (mkF m 80 #[.val (.long q1), .second, .val (.int p2), .val (.long (q1 &&& (9223372036854775807 : Int64))), .second, .val (.int (0 : Int32)), .val (.long (own_F1 (q1 &&& (9223372036854775807 : Int64)) (0 : Int32))), .second, .val (.int (1 : Int32)), .unset, .unset] []))
        refine own_st (fun t k => XS.lload X3.here hx rfl (hb hby at_80) rfl k) ?_
        show own_Fin _ _ _ _ _ _ _ (T3.setTop (mkF m 82 #[.val (.long q1), .second, .val (.int p2), .val (.long (q1 &&& (9223372036854775807 : Int64))), .second, .val (.int (0 : Int32)), .val (.long (own_F1 (q1 &&& (9223372036854775807 : Int64)) (0 : Int32))), .second, .val (.int (1 : Int32)), .unset, .unset] [(.long (own_F1 (q1 &&& (9223372036854775807 : Int64)) (0 : Int32)))]))
        refine own_st (fun t k => XS.lconst X3.here hx rfl (hb hby at_82) k) ?_
        show own_Fin _ _ _ _ _ _ _ (T3.setTop (mkF m 83 #[.val (.long q1), .second, .val (.int p2), .val (.long (q1 &&& (9223372036854775807 : Int64))), .second, .val (.int (0 : Int32)), .val (.long (own_F1 (q1 &&& (9223372036854775807 : Int64)) (0 : Int32))), .second, .val (.int (1 : Int32)), .unset, .unset] [(.long (0 : Int64)), (.long (own_F1 (q1 &&& (9223372036854775807 : Int64)) (0 : Int32)))]))
        refine own_st (fun t k => XS.lcmp X3.here hx rfl (hb hby at_83) rfl k) ?_
        show own_Fin _ _ _ _ _ _ _ (T3.setTop (mkF m 84 #[.val (.long q1), .second, .val (.int p2), .val (.long (q1 &&& (9223372036854775807 : Int64))), .second, .val (.int (0 : Int32)), .val (.long (own_F1 (q1 &&& (9223372036854775807 : Int64)) (0 : Int32))), .second, .val (.int (1 : Int32)), .unset, .unset] [(.int (lcmpW (own_F1 (q1 &&& (9223372036854775807 : Int64)) (0 : Int32)) (0 : Int64)))]))
        by_cases hc84_8 : (own_F1 (q1 &&& (9223372036854775807 : Int64)) (0 : Int32)) < (0 : Int64)
        · refine own_st (fun t k => XS.ifYes X3.here hx rfl (pc0 := 84) (pc' := 91) rfl (hb hby at_84) rfl (own_ltT hc84_8).1 (by decide) (by decide) k) ?_
          show own_Fin _ _ _ _ _ _ _ (T3.setTop (mkF m 91 #[.val (.long q1), .second, .val (.int p2), .val (.long (q1 &&& (9223372036854775807 : Int64))), .second, .val (.int (0 : Int32)), .val (.long (own_F1 (q1 &&& (9223372036854775807 : Int64)) (0 : Int32))), .second, .val (.int (1 : Int32)), .unset, .unset] []))
          refine own_st (fun t k => XS.iconst X3.here hx rfl (hb hby at_91) k) ?_
          show own_Fin _ _ _ _ _ _ _ (T3.setTop (mkF m 92 #[.val (.long q1), .second, .val (.int p2), .val (.long (q1 &&& (9223372036854775807 : Int64))), .second, .val (.int (0 : Int32)), .val (.long (own_F1 (q1 &&& (9223372036854775807 : Int64)) (0 : Int32))), .second, .val (.int (1 : Int32)), .unset, .unset] [(.int (0 : Int32))]))
          refine own_st (fun t k => XS.istore X3.here hx rfl (hb hby at_92) rfl (l' := #[.val (.long q1), .second, .val (.int p2), .val (.long (q1 &&& (9223372036854775807 : Int64))), .second, .val (.int (0 : Int32)), .val (.long (own_F1 (q1 &&& (9223372036854775807 : Int64)) (0 : Int32))), .second, .val (.int (1 : Int32)), .val (.int (0 : Int32)), .unset]) rfl k) ?_
          show own_Fin _ _ _ _ _ _ _ (T3.setTop (mkF m 94 #[.val (.long q1), .second, .val (.int p2), .val (.long (q1 &&& (9223372036854775807 : Int64))), .second, .val (.int (0 : Int32)), .val (.long (own_F1 (q1 &&& (9223372036854775807 : Int64)) (0 : Int32))), .second, .val (.int (1 : Int32)), .val (.int (0 : Int32)), .unset] []))
          refine own_st (fun t k => XS.iload X3.here hx rfl (hb hby at_94) rfl k) ?_
          show own_Fin _ _ _ _ _ _ _ (T3.setTop (mkF m 96 #[.val (.long q1), .second, .val (.int p2), .val (.long (q1 &&& (9223372036854775807 : Int64))), .second, .val (.int (0 : Int32)), .val (.long (own_F1 (q1 &&& (9223372036854775807 : Int64)) (0 : Int32))), .second, .val (.int (1 : Int32)), .val (.int (0 : Int32)), .unset] [(.int (0 : Int32))]))
          refine own_st (fun t k => XS.ifNo X3.here hx rfl (hb hby at_96) rfl ((if0 _ _).trans (teq (by decide : (0 : Int32) = (0 : Int32))).2) k) ?_
          show own_Fin _ _ _ _ _ _ _ (T3.setTop (mkF m 99 #[.val (.long q1), .second, .val (.int p2), .val (.long (q1 &&& (9223372036854775807 : Int64))), .second, .val (.int (0 : Int32)), .val (.long (own_F1 (q1 &&& (9223372036854775807 : Int64)) (0 : Int32))), .second, .val (.int (1 : Int32)), .val (.int (0 : Int32)), .unset] []))
          refine own_st (fun t k => XS.lloadN X3.here hx rfl (hb hby at_99) rfl k) ?_
          show own_Fin _ _ _ _ _ _ _ (T3.setTop (mkF m 100 #[.val (.long q1), .second, .val (.int p2), .val (.long (q1 &&& (9223372036854775807 : Int64))), .second, .val (.int (0 : Int32)), .val (.long (own_F1 (q1 &&& (9223372036854775807 : Int64)) (0 : Int32))), .second, .val (.int (1 : Int32)), .val (.int (0 : Int32)), .unset] [(.long (q1 &&& (9223372036854775807 : Int64)))]))
          refine own_st (fun t k => XS.lconst X3.here hx rfl (hb hby at_100) k) ?_
          show own_Fin _ _ _ _ _ _ _ (T3.setTop (mkF m 101 #[.val (.long q1), .second, .val (.int p2), .val (.long (q1 &&& (9223372036854775807 : Int64))), .second, .val (.int (0 : Int32)), .val (.long (own_F1 (q1 &&& (9223372036854775807 : Int64)) (0 : Int32))), .second, .val (.int (1 : Int32)), .val (.int (0 : Int32)), .unset] [(.long (0 : Int64)), (.long (q1 &&& (9223372036854775807 : Int64)))]))
          refine own_st (fun t k => XS.lcmp X3.here hx rfl (hb hby at_101) rfl k) ?_
          show own_Fin _ _ _ _ _ _ _ (T3.setTop (mkF m 102 #[.val (.long q1), .second, .val (.int p2), .val (.long (q1 &&& (9223372036854775807 : Int64))), .second, .val (.int (0 : Int32)), .val (.long (own_F1 (q1 &&& (9223372036854775807 : Int64)) (0 : Int32))), .second, .val (.int (1 : Int32)), .val (.int (0 : Int32)), .unset] [(.int (lcmpW (q1 &&& (9223372036854775807 : Int64)) (0 : Int64)))]))
          by_cases hc102_9 : (q1 &&& (9223372036854775807 : Int64)) = (0 : Int64)
          · refine own_st (fun t k => XS.ifNo X3.here hx rfl (hb hby at_102) rfl (own_eqT hc102_9).2 k) ?_
            show own_Fin _ _ _ _ _ _ _ (T3.setTop (mkF m 105 #[.val (.long q1), .second, .val (.int p2), .val (.long (q1 &&& (9223372036854775807 : Int64))), .second, .val (.int (0 : Int32)), .val (.long (own_F1 (q1 &&& (9223372036854775807 : Int64)) (0 : Int32))), .second, .val (.int (1 : Int32)), .val (.int (0 : Int32)), .unset] []))
            refine own_st (fun t k => XS.lload X3.here hx rfl (hb hby at_105) rfl k) ?_
            show own_Fin _ _ _ _ _ _ _ (T3.setTop (mkF m 107 #[.val (.long q1), .second, .val (.int p2), .val (.long (q1 &&& (9223372036854775807 : Int64))), .second, .val (.int (0 : Int32)), .val (.long (own_F1 (q1 &&& (9223372036854775807 : Int64)) (0 : Int32))), .second, .val (.int (1 : Int32)), .val (.int (0 : Int32)), .unset] [(.long (own_F1 (q1 &&& (9223372036854775807 : Int64)) (0 : Int32)))]))
            refine own_st (fun t k => XS.lconst X3.here hx rfl (hb hby at_107) k) ?_
            show own_Fin _ _ _ _ _ _ _ (T3.setTop (mkF m 108 #[.val (.long q1), .second, .val (.int p2), .val (.long (q1 &&& (9223372036854775807 : Int64))), .second, .val (.int (0 : Int32)), .val (.long (own_F1 (q1 &&& (9223372036854775807 : Int64)) (0 : Int32))), .second, .val (.int (1 : Int32)), .val (.int (0 : Int32)), .unset] [(.long (0 : Int64)), (.long (own_F1 (q1 &&& (9223372036854775807 : Int64)) (0 : Int32)))]))
            refine own_st (fun t k => XS.lcmp X3.here hx rfl (hb hby at_108) rfl k) ?_
            show own_Fin _ _ _ _ _ _ _ (T3.setTop (mkF m 109 #[.val (.long q1), .second, .val (.int p2), .val (.long (q1 &&& (9223372036854775807 : Int64))), .second, .val (.int (0 : Int32)), .val (.long (own_F1 (q1 &&& (9223372036854775807 : Int64)) (0 : Int32))), .second, .val (.int (1 : Int32)), .val (.int (0 : Int32)), .unset] [(.int (lcmpW (own_F1 (q1 &&& (9223372036854775807 : Int64)) (0 : Int32)) (0 : Int64)))]))
            by_cases hc109_10 : (own_F1 (q1 &&& (9223372036854775807 : Int64)) (0 : Int32)) = (0 : Int64)
            · refine own_st (fun t k => XS.ifNo X3.here hx rfl (hb hby at_109) rfl (own_eqT hc109_10).2 k) ?_
              show own_Fin _ _ _ _ _ _ _ (T3.setTop (mkF m 112 #[.val (.long q1), .second, .val (.int p2), .val (.long (q1 &&& (9223372036854775807 : Int64))), .second, .val (.int (0 : Int32)), .val (.long (own_F1 (q1 &&& (9223372036854775807 : Int64)) (0 : Int32))), .second, .val (.int (1 : Int32)), .val (.int (0 : Int32)), .unset] []))
              refine own_st (fun t k => XS.iconst X3.here hx rfl (hb hby at_112) k) ?_
              show own_Fin _ _ _ _ _ _ _ (T3.setTop (mkF m 113 #[.val (.long q1), .second, .val (.int p2), .val (.long (q1 &&& (9223372036854775807 : Int64))), .second, .val (.int (0 : Int32)), .val (.long (own_F1 (q1 &&& (9223372036854775807 : Int64)) (0 : Int32))), .second, .val (.int (1 : Int32)), .val (.int (0 : Int32)), .unset] [(.int (1 : Int32))]))
              refine own_st (fun t k => XS.goto X3.here hx rfl (pc0 := 113) (pc' := 117) rfl (hb hby at_113) (by decide) (by decide) k) ?_
              show own_Fin _ _ _ _ _ _ _ (T3.setTop (mkF m 117 #[.val (.long q1), .second, .val (.int p2), .val (.long (q1 &&& (9223372036854775807 : Int64))), .second, .val (.int (0 : Int32)), .val (.long (own_F1 (q1 &&& (9223372036854775807 : Int64)) (0 : Int32))), .second, .val (.int (1 : Int32)), .val (.int (0 : Int32)), .unset] [(.int (1 : Int32))]))
              refine own_st (fun t k => XS.istore X3.here hx rfl (hb hby at_117) rfl (l' := #[.val (.long q1), .second, .val (.int p2), .val (.long (q1 &&& (9223372036854775807 : Int64))), .second, .val (.int (0 : Int32)), .val (.long (own_F1 (q1 &&& (9223372036854775807 : Int64)) (0 : Int32))), .second, .val (.int (1 : Int32)), .val (.int (0 : Int32)), .val (.int (1 : Int32))]) rfl k) ?_
              show own_Fin _ _ _ _ _ _ _ (T3.setTop (mkF m 119 #[.val (.long q1), .second, .val (.int p2), .val (.long (q1 &&& (9223372036854775807 : Int64))), .second, .val (.int (0 : Int32)), .val (.long (own_F1 (q1 &&& (9223372036854775807 : Int64)) (0 : Int32))), .second, .val (.int (1 : Int32)), .val (.int (0 : Int32)), .val (.int (1 : Int32))] []))
              refine own_st (fun t k => XS.iload X3.here hx rfl (hb hby at_119) rfl k) ?_
              show own_Fin _ _ _ _ _ _ _ (T3.setTop (mkF m 121 #[.val (.long q1), .second, .val (.int p2), .val (.long (q1 &&& (9223372036854775807 : Int64))), .second, .val (.int (0 : Int32)), .val (.long (own_F1 (q1 &&& (9223372036854775807 : Int64)) (0 : Int32))), .second, .val (.int (1 : Int32)), .val (.int (0 : Int32)), .val (.int (1 : Int32))] [(.int (1 : Int32))]))
              refine own_st (fun t k => XS.ifNo X3.here hx rfl (hb hby at_121) rfl ((if0 _ _).trans (feq (by decide : ¬ ((1 : Int32) = (0 : Int32)))).1) k) ?_
              show own_Fin _ _ _ _ _ _ _ (T3.setTop (mkF m 124 #[.val (.long q1), .second, .val (.int p2), .val (.long (q1 &&& (9223372036854775807 : Int64))), .second, .val (.int (0 : Int32)), .val (.long (own_F1 (q1 &&& (9223372036854775807 : Int64)) (0 : Int32))), .second, .val (.int (1 : Int32)), .val (.int (0 : Int32)), .val (.int (1 : Int32))] []))
              refine own_st (fun t k => XS.iload X3.here hx rfl (hb hby at_124) rfl k) ?_
              show own_Fin _ _ _ _ _ _ _ (T3.setTop (mkF m 126 #[.val (.long q1), .second, .val (.int p2), .val (.long (q1 &&& (9223372036854775807 : Int64))), .second, .val (.int (0 : Int32)), .val (.long (own_F1 (q1 &&& (9223372036854775807 : Int64)) (0 : Int32))), .second, .val (.int (1 : Int32)), .val (.int (0 : Int32)), .val (.int (1 : Int32))] [(.int (0 : Int32))]))
              refine own_st (fun t k => XS.ifYes X3.here hx rfl (pc0 := 126) (pc' := 138) rfl (hb hby at_126) rfl ((if0 _ _).trans (teq (by decide : (0 : Int32) = (0 : Int32))).1) (by decide) (by decide) k) ?_
              show own_Fin _ _ _ _ _ _ _ (T3.setTop (mkF m 138 #[.val (.long q1), .second, .val (.int p2), .val (.long (q1 &&& (9223372036854775807 : Int64))), .second, .val (.int (0 : Int32)), .val (.long (own_F1 (q1 &&& (9223372036854775807 : Int64)) (0 : Int32))), .second, .val (.int (1 : Int32)), .val (.int (0 : Int32)), .val (.int (1 : Int32))] []))
              refine own_st (fun t k => XS.iconst X3.here hx rfl (hb hby at_138) k) ?_
              show own_Fin _ _ _ _ _ _ _ (T3.setTop (mkF m 139 #[.val (.long q1), .second, .val (.int p2), .val (.long (q1 &&& (9223372036854775807 : Int64))), .second, .val (.int (0 : Int32)), .val (.long (own_F1 (q1 &&& (9223372036854775807 : Int64)) (0 : Int32))), .second, .val (.int (1 : Int32)), .val (.int (0 : Int32)), .val (.int (1 : Int32))] [(.int (0 : Int32))]))
              have hv : own_F0 q1 p2 = (0 : Int32) := by unfold own_F0; rw [if_pos hc9_1, if_pos hc34_4, if_neg hc71_5, if_pos hc84_8, if_pos hc102_9, if_pos hc109_10]
              exact own_retN X3 hx Bd.notSynchronized (t := .boolean) Bd.returns (by simp) (hb hby at_139) (by decide) (by decide) ⟨congrArg (fun z => some (Value.int z)) hv.symm, N3, e3⟩
            · refine own_st (fun t k => XS.ifYes X3.here hx rfl (pc0 := 109) (pc' := 116) rfl (hb hby at_109) rfl (own_eqF hc109_10).2 (by decide) (by decide) k) ?_
              show own_Fin _ _ _ _ _ _ _ (T3.setTop (mkF m 116 #[.val (.long q1), .second, .val (.int p2), .val (.long (q1 &&& (9223372036854775807 : Int64))), .second, .val (.int (0 : Int32)), .val (.long (own_F1 (q1 &&& (9223372036854775807 : Int64)) (0 : Int32))), .second, .val (.int (1 : Int32)), .val (.int (0 : Int32)), .unset] []))
              refine own_st (fun t k => XS.iconst X3.here hx rfl (hb hby at_116) k) ?_
              show own_Fin _ _ _ _ _ _ _ (T3.setTop (mkF m 117 #[.val (.long q1), .second, .val (.int p2), .val (.long (q1 &&& (9223372036854775807 : Int64))), .second, .val (.int (0 : Int32)), .val (.long (own_F1 (q1 &&& (9223372036854775807 : Int64)) (0 : Int32))), .second, .val (.int (1 : Int32)), .val (.int (0 : Int32)), .unset] [(.int (0 : Int32))]))
              refine own_st (fun t k => XS.istore X3.here hx rfl (hb hby at_117) rfl (l' := #[.val (.long q1), .second, .val (.int p2), .val (.long (q1 &&& (9223372036854775807 : Int64))), .second, .val (.int (0 : Int32)), .val (.long (own_F1 (q1 &&& (9223372036854775807 : Int64)) (0 : Int32))), .second, .val (.int (1 : Int32)), .val (.int (0 : Int32)), .val (.int (0 : Int32))]) rfl k) ?_
              show own_Fin _ _ _ _ _ _ _ (T3.setTop (mkF m 119 #[.val (.long q1), .second, .val (.int p2), .val (.long (q1 &&& (9223372036854775807 : Int64))), .second, .val (.int (0 : Int32)), .val (.long (own_F1 (q1 &&& (9223372036854775807 : Int64)) (0 : Int32))), .second, .val (.int (1 : Int32)), .val (.int (0 : Int32)), .val (.int (0 : Int32))] []))
              refine own_st (fun t k => XS.iload X3.here hx rfl (hb hby at_119) rfl k) ?_
              show own_Fin _ _ _ _ _ _ _ (T3.setTop (mkF m 121 #[.val (.long q1), .second, .val (.int p2), .val (.long (q1 &&& (9223372036854775807 : Int64))), .second, .val (.int (0 : Int32)), .val (.long (own_F1 (q1 &&& (9223372036854775807 : Int64)) (0 : Int32))), .second, .val (.int (1 : Int32)), .val (.int (0 : Int32)), .val (.int (0 : Int32))] [(.int (1 : Int32))]))
              refine own_st (fun t k => XS.ifNo X3.here hx rfl (hb hby at_121) rfl ((if0 _ _).trans (feq (by decide : ¬ ((1 : Int32) = (0 : Int32)))).1) k) ?_
              show own_Fin _ _ _ _ _ _ _ (T3.setTop (mkF m 124 #[.val (.long q1), .second, .val (.int p2), .val (.long (q1 &&& (9223372036854775807 : Int64))), .second, .val (.int (0 : Int32)), .val (.long (own_F1 (q1 &&& (9223372036854775807 : Int64)) (0 : Int32))), .second, .val (.int (1 : Int32)), .val (.int (0 : Int32)), .val (.int (0 : Int32))] []))
              refine own_st (fun t k => XS.iload X3.here hx rfl (hb hby at_124) rfl k) ?_
              show own_Fin _ _ _ _ _ _ _ (T3.setTop (mkF m 126 #[.val (.long q1), .second, .val (.int p2), .val (.long (q1 &&& (9223372036854775807 : Int64))), .second, .val (.int (0 : Int32)), .val (.long (own_F1 (q1 &&& (9223372036854775807 : Int64)) (0 : Int32))), .second, .val (.int (1 : Int32)), .val (.int (0 : Int32)), .val (.int (0 : Int32))] [(.int (0 : Int32))]))
              refine own_st (fun t k => XS.ifYes X3.here hx rfl (pc0 := 126) (pc' := 138) rfl (hb hby at_126) rfl ((if0 _ _).trans (teq (by decide : (0 : Int32) = (0 : Int32))).1) (by decide) (by decide) k) ?_
              show own_Fin _ _ _ _ _ _ _ (T3.setTop (mkF m 138 #[.val (.long q1), .second, .val (.int p2), .val (.long (q1 &&& (9223372036854775807 : Int64))), .second, .val (.int (0 : Int32)), .val (.long (own_F1 (q1 &&& (9223372036854775807 : Int64)) (0 : Int32))), .second, .val (.int (1 : Int32)), .val (.int (0 : Int32)), .val (.int (0 : Int32))] []))
              refine own_st (fun t k => XS.iconst X3.here hx rfl (hb hby at_138) k) ?_
              show own_Fin _ _ _ _ _ _ _ (T3.setTop (mkF m 139 #[.val (.long q1), .second, .val (.int p2), .val (.long (q1 &&& (9223372036854775807 : Int64))), .second, .val (.int (0 : Int32)), .val (.long (own_F1 (q1 &&& (9223372036854775807 : Int64)) (0 : Int32))), .second, .val (.int (1 : Int32)), .val (.int (0 : Int32)), .val (.int (0 : Int32))] [(.int (0 : Int32))]))
              have hv : own_F0 q1 p2 = (0 : Int32) := by unfold own_F0; rw [if_pos hc9_1, if_pos hc34_4, if_neg hc71_5, if_pos hc84_8, if_pos hc102_9, if_neg hc109_10]
              exact own_retN X3 hx Bd.notSynchronized (t := .boolean) Bd.returns (by simp) (hb hby at_139) (by decide) (by decide) ⟨congrArg (fun z => some (Value.int z)) hv.symm, N3, e3⟩
          · refine own_st (fun t k => XS.ifYes X3.here hx rfl (pc0 := 102) (pc' := 112) rfl (hb hby at_102) rfl (own_eqF hc102_9).2 (by decide) (by decide) k) ?_
            show own_Fin _ _ _ _ _ _ _ (T3.setTop (mkF m 112 #[.val (.long q1), .second, .val (.int p2), .val (.long (q1 &&& (9223372036854775807 : Int64))), .second, .val (.int (0 : Int32)), .val (.long (own_F1 (q1 &&& (9223372036854775807 : Int64)) (0 : Int32))), .second, .val (.int (1 : Int32)), .val (.int (0 : Int32)), .unset] []))
            refine own_st (fun t k => XS.iconst X3.here hx rfl (hb hby at_112) k) ?_
            show own_Fin _ _ _ _ _ _ _ (T3.setTop (mkF m 113 #[.val (.long q1), .second, .val (.int p2), .val (.long (q1 &&& (9223372036854775807 : Int64))), .second, .val (.int (0 : Int32)), .val (.long (own_F1 (q1 &&& (9223372036854775807 : Int64)) (0 : Int32))), .second, .val (.int (1 : Int32)), .val (.int (0 : Int32)), .unset] [(.int (1 : Int32))]))
            refine own_st (fun t k => XS.goto X3.here hx rfl (pc0 := 113) (pc' := 117) rfl (hb hby at_113) (by decide) (by decide) k) ?_
            show own_Fin _ _ _ _ _ _ _ (T3.setTop (mkF m 117 #[.val (.long q1), .second, .val (.int p2), .val (.long (q1 &&& (9223372036854775807 : Int64))), .second, .val (.int (0 : Int32)), .val (.long (own_F1 (q1 &&& (9223372036854775807 : Int64)) (0 : Int32))), .second, .val (.int (1 : Int32)), .val (.int (0 : Int32)), .unset] [(.int (1 : Int32))]))
            refine own_st (fun t k => XS.istore X3.here hx rfl (hb hby at_117) rfl (l' := #[.val (.long q1), .second, .val (.int p2), .val (.long (q1 &&& (9223372036854775807 : Int64))), .second, .val (.int (0 : Int32)), .val (.long (own_F1 (q1 &&& (9223372036854775807 : Int64)) (0 : Int32))), .second, .val (.int (1 : Int32)), .val (.int (0 : Int32)), .val (.int (1 : Int32))]) rfl k) ?_
            show own_Fin _ _ _ _ _ _ _ (T3.setTop (mkF m 119 #[.val (.long q1), .second, .val (.int p2), .val (.long (q1 &&& (9223372036854775807 : Int64))), .second, .val (.int (0 : Int32)), .val (.long (own_F1 (q1 &&& (9223372036854775807 : Int64)) (0 : Int32))), .second, .val (.int (1 : Int32)), .val (.int (0 : Int32)), .val (.int (1 : Int32))] []))
            refine own_st (fun t k => XS.iload X3.here hx rfl (hb hby at_119) rfl k) ?_
            show own_Fin _ _ _ _ _ _ _ (T3.setTop (mkF m 121 #[.val (.long q1), .second, .val (.int p2), .val (.long (q1 &&& (9223372036854775807 : Int64))), .second, .val (.int (0 : Int32)), .val (.long (own_F1 (q1 &&& (9223372036854775807 : Int64)) (0 : Int32))), .second, .val (.int (1 : Int32)), .val (.int (0 : Int32)), .val (.int (1 : Int32))] [(.int (1 : Int32))]))
            refine own_st (fun t k => XS.ifNo X3.here hx rfl (hb hby at_121) rfl ((if0 _ _).trans (feq (by decide : ¬ ((1 : Int32) = (0 : Int32)))).1) k) ?_
            show own_Fin _ _ _ _ _ _ _ (T3.setTop (mkF m 124 #[.val (.long q1), .second, .val (.int p2), .val (.long (q1 &&& (9223372036854775807 : Int64))), .second, .val (.int (0 : Int32)), .val (.long (own_F1 (q1 &&& (9223372036854775807 : Int64)) (0 : Int32))), .second, .val (.int (1 : Int32)), .val (.int (0 : Int32)), .val (.int (1 : Int32))] []))
            refine own_st (fun t k => XS.iload X3.here hx rfl (hb hby at_124) rfl k) ?_
            show own_Fin _ _ _ _ _ _ _ (T3.setTop (mkF m 126 #[.val (.long q1), .second, .val (.int p2), .val (.long (q1 &&& (9223372036854775807 : Int64))), .second, .val (.int (0 : Int32)), .val (.long (own_F1 (q1 &&& (9223372036854775807 : Int64)) (0 : Int32))), .second, .val (.int (1 : Int32)), .val (.int (0 : Int32)), .val (.int (1 : Int32))] [(.int (0 : Int32))]))
            refine own_st (fun t k => XS.ifYes X3.here hx rfl (pc0 := 126) (pc' := 138) rfl (hb hby at_126) rfl ((if0 _ _).trans (teq (by decide : (0 : Int32) = (0 : Int32))).1) (by decide) (by decide) k) ?_
            show own_Fin _ _ _ _ _ _ _ (T3.setTop (mkF m 138 #[.val (.long q1), .second, .val (.int p2), .val (.long (q1 &&& (9223372036854775807 : Int64))), .second, .val (.int (0 : Int32)), .val (.long (own_F1 (q1 &&& (9223372036854775807 : Int64)) (0 : Int32))), .second, .val (.int (1 : Int32)), .val (.int (0 : Int32)), .val (.int (1 : Int32))] []))
            refine own_st (fun t k => XS.iconst X3.here hx rfl (hb hby at_138) k) ?_
            show own_Fin _ _ _ _ _ _ _ (T3.setTop (mkF m 139 #[.val (.long q1), .second, .val (.int p2), .val (.long (q1 &&& (9223372036854775807 : Int64))), .second, .val (.int (0 : Int32)), .val (.long (own_F1 (q1 &&& (9223372036854775807 : Int64)) (0 : Int32))), .second, .val (.int (1 : Int32)), .val (.int (0 : Int32)), .val (.int (1 : Int32))] [(.int (0 : Int32))]))
            have hv : own_F0 q1 p2 = (0 : Int32) := by unfold own_F0; rw [if_pos hc9_1, if_pos hc34_4, if_neg hc71_5, if_pos hc84_8, if_neg hc102_9]
            exact own_retN X3 hx Bd.notSynchronized (t := .boolean) Bd.returns (by simp) (hb hby at_139) (by decide) (by decide) ⟨congrArg (fun z => some (Value.int z)) hv.symm, N3, e3⟩
        · refine own_st (fun t k => XS.ifNo X3.here hx rfl (hb hby at_84) rfl (own_ltF hc84_8).1 k) ?_
          show own_Fin _ _ _ _ _ _ _ (T3.setTop (mkF m 87 #[.val (.long q1), .second, .val (.int p2), .val (.long (q1 &&& (9223372036854775807 : Int64))), .second, .val (.int (0 : Int32)), .val (.long (own_F1 (q1 &&& (9223372036854775807 : Int64)) (0 : Int32))), .second, .val (.int (1 : Int32)), .unset, .unset] []))
          refine own_st (fun t k => XS.iconst X3.here hx rfl (hb hby at_87) k) ?_
          show own_Fin _ _ _ _ _ _ _ (T3.setTop (mkF m 88 #[.val (.long q1), .second, .val (.int p2), .val (.long (q1 &&& (9223372036854775807 : Int64))), .second, .val (.int (0 : Int32)), .val (.long (own_F1 (q1 &&& (9223372036854775807 : Int64)) (0 : Int32))), .second, .val (.int (1 : Int32)), .unset, .unset] [(.int (1 : Int32))]))
          refine own_st (fun t k => XS.goto X3.here hx rfl (pc0 := 88) (pc' := 92) rfl (hb hby at_88) (by decide) (by decide) k) ?_
          show own_Fin _ _ _ _ _ _ _ (T3.setTop (mkF m 92 #[.val (.long q1), .second, .val (.int p2), .val (.long (q1 &&& (9223372036854775807 : Int64))), .second, .val (.int (0 : Int32)), .val (.long (own_F1 (q1 &&& (9223372036854775807 : Int64)) (0 : Int32))), .second, .val (.int (1 : Int32)), .unset, .unset] [(.int (1 : Int32))]))
          refine own_st (fun t k => XS.istore X3.here hx rfl (hb hby at_92) rfl (l' := #[.val (.long q1), .second, .val (.int p2), .val (.long (q1 &&& (9223372036854775807 : Int64))), .second, .val (.int (0 : Int32)), .val (.long (own_F1 (q1 &&& (9223372036854775807 : Int64)) (0 : Int32))), .second, .val (.int (1 : Int32)), .val (.int (1 : Int32)), .unset]) rfl k) ?_
          show own_Fin _ _ _ _ _ _ _ (T3.setTop (mkF m 94 #[.val (.long q1), .second, .val (.int p2), .val (.long (q1 &&& (9223372036854775807 : Int64))), .second, .val (.int (0 : Int32)), .val (.long (own_F1 (q1 &&& (9223372036854775807 : Int64)) (0 : Int32))), .second, .val (.int (1 : Int32)), .val (.int (1 : Int32)), .unset] []))
          refine own_st (fun t k => XS.iload X3.here hx rfl (hb hby at_94) rfl k) ?_
          show own_Fin _ _ _ _ _ _ _ (T3.setTop (mkF m 96 #[.val (.long q1), .second, .val (.int p2), .val (.long (q1 &&& (9223372036854775807 : Int64))), .second, .val (.int (0 : Int32)), .val (.long (own_F1 (q1 &&& (9223372036854775807 : Int64)) (0 : Int32))), .second, .val (.int (1 : Int32)), .val (.int (1 : Int32)), .unset] [(.int (0 : Int32))]))
          refine own_st (fun t k => XS.ifNo X3.here hx rfl (hb hby at_96) rfl ((if0 _ _).trans (teq (by decide : (0 : Int32) = (0 : Int32))).2) k) ?_
          show own_Fin _ _ _ _ _ _ _ (T3.setTop (mkF m 99 #[.val (.long q1), .second, .val (.int p2), .val (.long (q1 &&& (9223372036854775807 : Int64))), .second, .val (.int (0 : Int32)), .val (.long (own_F1 (q1 &&& (9223372036854775807 : Int64)) (0 : Int32))), .second, .val (.int (1 : Int32)), .val (.int (1 : Int32)), .unset] []))
          refine own_st (fun t k => XS.lloadN X3.here hx rfl (hb hby at_99) rfl k) ?_
          show own_Fin _ _ _ _ _ _ _ (T3.setTop (mkF m 100 #[.val (.long q1), .second, .val (.int p2), .val (.long (q1 &&& (9223372036854775807 : Int64))), .second, .val (.int (0 : Int32)), .val (.long (own_F1 (q1 &&& (9223372036854775807 : Int64)) (0 : Int32))), .second, .val (.int (1 : Int32)), .val (.int (1 : Int32)), .unset] [(.long (q1 &&& (9223372036854775807 : Int64)))]))
          refine own_st (fun t k => XS.lconst X3.here hx rfl (hb hby at_100) k) ?_
          show own_Fin _ _ _ _ _ _ _ (T3.setTop (mkF m 101 #[.val (.long q1), .second, .val (.int p2), .val (.long (q1 &&& (9223372036854775807 : Int64))), .second, .val (.int (0 : Int32)), .val (.long (own_F1 (q1 &&& (9223372036854775807 : Int64)) (0 : Int32))), .second, .val (.int (1 : Int32)), .val (.int (1 : Int32)), .unset] [(.long (0 : Int64)), (.long (q1 &&& (9223372036854775807 : Int64)))]))
          refine own_st (fun t k => XS.lcmp X3.here hx rfl (hb hby at_101) rfl k) ?_
          show own_Fin _ _ _ _ _ _ _ (T3.setTop (mkF m 102 #[.val (.long q1), .second, .val (.int p2), .val (.long (q1 &&& (9223372036854775807 : Int64))), .second, .val (.int (0 : Int32)), .val (.long (own_F1 (q1 &&& (9223372036854775807 : Int64)) (0 : Int32))), .second, .val (.int (1 : Int32)), .val (.int (1 : Int32)), .unset] [(.int (lcmpW (q1 &&& (9223372036854775807 : Int64)) (0 : Int64)))]))
          by_cases hc102_11 : (q1 &&& (9223372036854775807 : Int64)) = (0 : Int64)
          · refine own_st (fun t k => XS.ifNo X3.here hx rfl (hb hby at_102) rfl (own_eqT hc102_11).2 k) ?_
            show own_Fin _ _ _ _ _ _ _ (T3.setTop (mkF m 105 #[.val (.long q1), .second, .val (.int p2), .val (.long (q1 &&& (9223372036854775807 : Int64))), .second, .val (.int (0 : Int32)), .val (.long (own_F1 (q1 &&& (9223372036854775807 : Int64)) (0 : Int32))), .second, .val (.int (1 : Int32)), .val (.int (1 : Int32)), .unset] []))
            refine own_st (fun t k => XS.lload X3.here hx rfl (hb hby at_105) rfl k) ?_
            show own_Fin _ _ _ _ _ _ _ (T3.setTop (mkF m 107 #[.val (.long q1), .second, .val (.int p2), .val (.long (q1 &&& (9223372036854775807 : Int64))), .second, .val (.int (0 : Int32)), .val (.long (own_F1 (q1 &&& (9223372036854775807 : Int64)) (0 : Int32))), .second, .val (.int (1 : Int32)), .val (.int (1 : Int32)), .unset] [(.long (own_F1 (q1 &&& (9223372036854775807 : Int64)) (0 : Int32)))]))
            refine own_st (fun t k => XS.lconst X3.here hx rfl (hb hby at_107) k) ?_
            show own_Fin _ _ _ _ _ _ _ (T3.setTop (mkF m 108 #[.val (.long q1), .second, .val (.int p2), .val (.long (q1 &&& (9223372036854775807 : Int64))), .second, .val (.int (0 : Int32)), .val (.long (own_F1 (q1 &&& (9223372036854775807 : Int64)) (0 : Int32))), .second, .val (.int (1 : Int32)), .val (.int (1 : Int32)), .unset] [(.long (0 : Int64)), (.long (own_F1 (q1 &&& (9223372036854775807 : Int64)) (0 : Int32)))]))
            refine own_st (fun t k => XS.lcmp X3.here hx rfl (hb hby at_108) rfl k) ?_
            show own_Fin _ _ _ _ _ _ _ (T3.setTop (mkF m 109 #[.val (.long q1), .second, .val (.int p2), .val (.long (q1 &&& (9223372036854775807 : Int64))), .second, .val (.int (0 : Int32)), .val (.long (own_F1 (q1 &&& (9223372036854775807 : Int64)) (0 : Int32))), .second, .val (.int (1 : Int32)), .val (.int (1 : Int32)), .unset] [(.int (lcmpW (own_F1 (q1 &&& (9223372036854775807 : Int64)) (0 : Int32)) (0 : Int64)))]))
            by_cases hc109_12 : (own_F1 (q1 &&& (9223372036854775807 : Int64)) (0 : Int32)) = (0 : Int64)
            · refine own_st (fun t k => XS.ifNo X3.here hx rfl (hb hby at_109) rfl (own_eqT hc109_12).2 k) ?_
              show own_Fin _ _ _ _ _ _ _ (T3.setTop (mkF m 112 #[.val (.long q1), .second, .val (.int p2), .val (.long (q1 &&& (9223372036854775807 : Int64))), .second, .val (.int (0 : Int32)), .val (.long (own_F1 (q1 &&& (9223372036854775807 : Int64)) (0 : Int32))), .second, .val (.int (1 : Int32)), .val (.int (1 : Int32)), .unset] []))
              refine own_st (fun t k => XS.iconst X3.here hx rfl (hb hby at_112) k) ?_
              show own_Fin _ _ _ _ _ _ _ (T3.setTop (mkF m 113 #[.val (.long q1), .second, .val (.int p2), .val (.long (q1 &&& (9223372036854775807 : Int64))), .second, .val (.int (0 : Int32)), .val (.long (own_F1 (q1 &&& (9223372036854775807 : Int64)) (0 : Int32))), .second, .val (.int (1 : Int32)), .val (.int (1 : Int32)), .unset] [(.int (1 : Int32))]))
              refine own_st (fun t k => XS.goto X3.here hx rfl (pc0 := 113) (pc' := 117) rfl (hb hby at_113) (by decide) (by decide) k) ?_
              show own_Fin _ _ _ _ _ _ _ (T3.setTop (mkF m 117 #[.val (.long q1), .second, .val (.int p2), .val (.long (q1 &&& (9223372036854775807 : Int64))), .second, .val (.int (0 : Int32)), .val (.long (own_F1 (q1 &&& (9223372036854775807 : Int64)) (0 : Int32))), .second, .val (.int (1 : Int32)), .val (.int (1 : Int32)), .unset] [(.int (1 : Int32))]))
              refine own_st (fun t k => XS.istore X3.here hx rfl (hb hby at_117) rfl (l' := #[.val (.long q1), .second, .val (.int p2), .val (.long (q1 &&& (9223372036854775807 : Int64))), .second, .val (.int (0 : Int32)), .val (.long (own_F1 (q1 &&& (9223372036854775807 : Int64)) (0 : Int32))), .second, .val (.int (1 : Int32)), .val (.int (1 : Int32)), .val (.int (1 : Int32))]) rfl k) ?_
              show own_Fin _ _ _ _ _ _ _ (T3.setTop (mkF m 119 #[.val (.long q1), .second, .val (.int p2), .val (.long (q1 &&& (9223372036854775807 : Int64))), .second, .val (.int (0 : Int32)), .val (.long (own_F1 (q1 &&& (9223372036854775807 : Int64)) (0 : Int32))), .second, .val (.int (1 : Int32)), .val (.int (1 : Int32)), .val (.int (1 : Int32))] []))
              refine own_st (fun t k => XS.iload X3.here hx rfl (hb hby at_119) rfl k) ?_
              show own_Fin _ _ _ _ _ _ _ (T3.setTop (mkF m 121 #[.val (.long q1), .second, .val (.int p2), .val (.long (q1 &&& (9223372036854775807 : Int64))), .second, .val (.int (0 : Int32)), .val (.long (own_F1 (q1 &&& (9223372036854775807 : Int64)) (0 : Int32))), .second, .val (.int (1 : Int32)), .val (.int (1 : Int32)), .val (.int (1 : Int32))] [(.int (1 : Int32))]))
              refine own_st (fun t k => XS.ifNo X3.here hx rfl (hb hby at_121) rfl ((if0 _ _).trans (feq (by decide : ¬ ((1 : Int32) = (0 : Int32)))).1) k) ?_
              show own_Fin _ _ _ _ _ _ _ (T3.setTop (mkF m 124 #[.val (.long q1), .second, .val (.int p2), .val (.long (q1 &&& (9223372036854775807 : Int64))), .second, .val (.int (0 : Int32)), .val (.long (own_F1 (q1 &&& (9223372036854775807 : Int64)) (0 : Int32))), .second, .val (.int (1 : Int32)), .val (.int (1 : Int32)), .val (.int (1 : Int32))] []))
              refine own_st (fun t k => XS.iload X3.here hx rfl (hb hby at_124) rfl k) ?_
              show own_Fin _ _ _ _ _ _ _ (T3.setTop (mkF m 126 #[.val (.long q1), .second, .val (.int p2), .val (.long (q1 &&& (9223372036854775807 : Int64))), .second, .val (.int (0 : Int32)), .val (.long (own_F1 (q1 &&& (9223372036854775807 : Int64)) (0 : Int32))), .second, .val (.int (1 : Int32)), .val (.int (1 : Int32)), .val (.int (1 : Int32))] [(.int (1 : Int32))]))
              refine own_st (fun t k => XS.ifNo X3.here hx rfl (hb hby at_126) rfl ((if0 _ _).trans (feq (by decide : ¬ ((1 : Int32) = (0 : Int32)))).1) k) ?_
              show own_Fin _ _ _ _ _ _ _ (T3.setTop (mkF m 129 #[.val (.long q1), .second, .val (.int p2), .val (.long (q1 &&& (9223372036854775807 : Int64))), .second, .val (.int (0 : Int32)), .val (.long (own_F1 (q1 &&& (9223372036854775807 : Int64)) (0 : Int32))), .second, .val (.int (1 : Int32)), .val (.int (1 : Int32)), .val (.int (1 : Int32))] []))
              refine own_st (fun t k => XS.iload X3.here hx rfl (hb hby at_129) rfl k) ?_
              show own_Fin _ _ _ _ _ _ _ (T3.setTop (mkF m 131 #[.val (.long q1), .second, .val (.int p2), .val (.long (q1 &&& (9223372036854775807 : Int64))), .second, .val (.int (0 : Int32)), .val (.long (own_F1 (q1 &&& (9223372036854775807 : Int64)) (0 : Int32))), .second, .val (.int (1 : Int32)), .val (.int (1 : Int32)), .val (.int (1 : Int32))] [(.int (1 : Int32))]))
              refine own_st (fun t k => XS.ifNo X3.here hx rfl (hb hby at_131) rfl ((if0 _ _).trans (feq (by decide : ¬ ((1 : Int32) = (0 : Int32)))).1) k) ?_
              show own_Fin _ _ _ _ _ _ _ (T3.setTop (mkF m 134 #[.val (.long q1), .second, .val (.int p2), .val (.long (q1 &&& (9223372036854775807 : Int64))), .second, .val (.int (0 : Int32)), .val (.long (own_F1 (q1 &&& (9223372036854775807 : Int64)) (0 : Int32))), .second, .val (.int (1 : Int32)), .val (.int (1 : Int32)), .val (.int (1 : Int32))] []))
              refine own_st (fun t k => XS.iconst X3.here hx rfl (hb hby at_134) k) ?_
              show own_Fin _ _ _ _ _ _ _ (T3.setTop (mkF m 135 #[.val (.long q1), .second, .val (.int p2), .val (.long (q1 &&& (9223372036854775807 : Int64))), .second, .val (.int (0 : Int32)), .val (.long (own_F1 (q1 &&& (9223372036854775807 : Int64)) (0 : Int32))), .second, .val (.int (1 : Int32)), .val (.int (1 : Int32)), .val (.int (1 : Int32))] [(.int (1 : Int32))]))
              refine own_st (fun t k => XS.goto X3.here hx rfl (pc0 := 135) (pc' := 139) rfl (hb hby at_135) (by decide) (by decide) k) ?_
              show own_Fin _ _ _ _ _ _ _ (T3.setTop (mkF m 139 #[.val (.long q1), .second, .val (.int p2), .val (.long (q1 &&& (9223372036854775807 : Int64))), .second, .val (.int (0 : Int32)), .val (.long (own_F1 (q1 &&& (9223372036854775807 : Int64)) (0 : Int32))), .second, .val (.int (1 : Int32)), .val (.int (1 : Int32)), .val (.int (1 : Int32))] [(.int (1 : Int32))]))
              have hv : own_F0 q1 p2 = (1 : Int32) := by unfold own_F0; rw [if_pos hc9_1, if_pos hc34_4, if_neg hc71_5, if_neg hc84_8, if_pos hc102_11, if_pos hc109_12]
              exact own_retN X3 hx Bd.notSynchronized (t := .boolean) Bd.returns (by simp) (hb hby at_139) (by decide) (by decide) ⟨congrArg (fun z => some (Value.int z)) hv.symm, N3, e3⟩
            · refine own_st (fun t k => XS.ifYes X3.here hx rfl (pc0 := 109) (pc' := 116) rfl (hb hby at_109) rfl (own_eqF hc109_12).2 (by decide) (by decide) k) ?_
              show own_Fin _ _ _ _ _ _ _ (T3.setTop (mkF m 116 #[.val (.long q1), .second, .val (.int p2), .val (.long (q1 &&& (9223372036854775807 : Int64))), .second, .val (.int (0 : Int32)), .val (.long (own_F1 (q1 &&& (9223372036854775807 : Int64)) (0 : Int32))), .second, .val (.int (1 : Int32)), .val (.int (1 : Int32)), .unset] []))
              refine own_st (fun t k => XS.iconst X3.here hx rfl (hb hby at_116) k) ?_
              show own_Fin _ _ _ _ _ _ _ (T3.setTop (mkF m 117 #[.val (.long q1), .second, .val (.int p2), .val (.long (q1 &&& (9223372036854775807 : Int64))), .second, .val (.int (0 : Int32)), .val (.long (own_F1 (q1 &&& (9223372036854775807 : Int64)) (0 : Int32))), .second, .val (.int (1 : Int32)), .val (.int (1 : Int32)), .unset] [(.int (0 : Int32))]))
              refine own_st (fun t k => XS.istore X3.here hx rfl (hb hby at_117) rfl (l' := #[.val (.long q1), .second, .val (.int p2), .val (.long (q1 &&& (9223372036854775807 : Int64))), .second, .val (.int (0 : Int32)), .val (.long (own_F1 (q1 &&& (9223372036854775807 : Int64)) (0 : Int32))), .second, .val (.int (1 : Int32)), .val (.int (1 : Int32)), .val (.int (0 : Int32))]) rfl k) ?_
              show own_Fin _ _ _ _ _ _ _ (T3.setTop (mkF m 119 #[.val (.long q1), .second, .val (.int p2), .val (.long (q1 &&& (9223372036854775807 : Int64))), .second, .val (.int (0 : Int32)), .val (.long (own_F1 (q1 &&& (9223372036854775807 : Int64)) (0 : Int32))), .second, .val (.int (1 : Int32)), .val (.int (1 : Int32)), .val (.int (0 : Int32))] []))
              refine own_st (fun t k => XS.iload X3.here hx rfl (hb hby at_119) rfl k) ?_
              show own_Fin _ _ _ _ _ _ _ (T3.setTop (mkF m 121 #[.val (.long q1), .second, .val (.int p2), .val (.long (q1 &&& (9223372036854775807 : Int64))), .second, .val (.int (0 : Int32)), .val (.long (own_F1 (q1 &&& (9223372036854775807 : Int64)) (0 : Int32))), .second, .val (.int (1 : Int32)), .val (.int (1 : Int32)), .val (.int (0 : Int32))] [(.int (1 : Int32))]))
              refine own_st (fun t k => XS.ifNo X3.here hx rfl (hb hby at_121) rfl ((if0 _ _).trans (feq (by decide : ¬ ((1 : Int32) = (0 : Int32)))).1) k) ?_
              show own_Fin _ _ _ _ _ _ _ (T3.setTop (mkF m 124 #[.val (.long q1), .second, .val (.int p2), .val (.long (q1 &&& (9223372036854775807 : Int64))), .second, .val (.int (0 : Int32)), .val (.long (own_F1 (q1 &&& (9223372036854775807 : Int64)) (0 : Int32))), .second, .val (.int (1 : Int32)), .val (.int (1 : Int32)), .val (.int (0 : Int32))] []))
              refine own_st (fun t k => XS.iload X3.here hx rfl (hb hby at_124) rfl k) ?_
              show own_Fin _ _ _ _ _ _ _ (T3.setTop (mkF m 126 #[.val (.long q1), .second, .val (.int p2), .val (.long (q1 &&& (9223372036854775807 : Int64))), .second, .val (.int (0 : Int32)), .val (.long (own_F1 (q1 &&& (9223372036854775807 : Int64)) (0 : Int32))), .second, .val (.int (1 : Int32)), .val (.int (1 : Int32)), .val (.int (0 : Int32))] [(.int (1 : Int32))]))
              refine own_st (fun t k => XS.ifNo X3.here hx rfl (hb hby at_126) rfl ((if0 _ _).trans (feq (by decide : ¬ ((1 : Int32) = (0 : Int32)))).1) k) ?_
              show own_Fin _ _ _ _ _ _ _ (T3.setTop (mkF m 129 #[.val (.long q1), .second, .val (.int p2), .val (.long (q1 &&& (9223372036854775807 : Int64))), .second, .val (.int (0 : Int32)), .val (.long (own_F1 (q1 &&& (9223372036854775807 : Int64)) (0 : Int32))), .second, .val (.int (1 : Int32)), .val (.int (1 : Int32)), .val (.int (0 : Int32))] []))
              refine own_st (fun t k => XS.iload X3.here hx rfl (hb hby at_129) rfl k) ?_
              show own_Fin _ _ _ _ _ _ _ (T3.setTop (mkF m 131 #[.val (.long q1), .second, .val (.int p2), .val (.long (q1 &&& (9223372036854775807 : Int64))), .second, .val (.int (0 : Int32)), .val (.long (own_F1 (q1 &&& (9223372036854775807 : Int64)) (0 : Int32))), .second, .val (.int (1 : Int32)), .val (.int (1 : Int32)), .val (.int (0 : Int32))] [(.int (0 : Int32))]))
              refine own_st (fun t k => XS.ifYes X3.here hx rfl (pc0 := 131) (pc' := 138) rfl (hb hby at_131) rfl ((if0 _ _).trans (teq (by decide : (0 : Int32) = (0 : Int32))).1) (by decide) (by decide) k) ?_
              show own_Fin _ _ _ _ _ _ _ (T3.setTop (mkF m 138 #[.val (.long q1), .second, .val (.int p2), .val (.long (q1 &&& (9223372036854775807 : Int64))), .second, .val (.int (0 : Int32)), .val (.long (own_F1 (q1 &&& (9223372036854775807 : Int64)) (0 : Int32))), .second, .val (.int (1 : Int32)), .val (.int (1 : Int32)), .val (.int (0 : Int32))] []))
              refine own_st (fun t k => XS.iconst X3.here hx rfl (hb hby at_138) k) ?_
              show own_Fin _ _ _ _ _ _ _ (T3.setTop (mkF m 139 #[.val (.long q1), .second, .val (.int p2), .val (.long (q1 &&& (9223372036854775807 : Int64))), .second, .val (.int (0 : Int32)), .val (.long (own_F1 (q1 &&& (9223372036854775807 : Int64)) (0 : Int32))), .second, .val (.int (1 : Int32)), .val (.int (1 : Int32)), .val (.int (0 : Int32))] [(.int (0 : Int32))]))
              have hv : own_F0 q1 p2 = (0 : Int32) := by unfold own_F0; rw [if_pos hc9_1, if_pos hc34_4, if_neg hc71_5, if_neg hc84_8, if_pos hc102_11, if_neg hc109_12]
              exact own_retN X3 hx Bd.notSynchronized (t := .boolean) Bd.returns (by simp) (hb hby at_139) (by decide) (by decide) ⟨congrArg (fun z => some (Value.int z)) hv.symm, N3, e3⟩
          · refine own_st (fun t k => XS.ifYes X3.here hx rfl (pc0 := 102) (pc' := 112) rfl (hb hby at_102) rfl (own_eqF hc102_11).2 (by decide) (by decide) k) ?_
            show own_Fin _ _ _ _ _ _ _ (T3.setTop (mkF m 112 #[.val (.long q1), .second, .val (.int p2), .val (.long (q1 &&& (9223372036854775807 : Int64))), .second, .val (.int (0 : Int32)), .val (.long (own_F1 (q1 &&& (9223372036854775807 : Int64)) (0 : Int32))), .second, .val (.int (1 : Int32)), .val (.int (1 : Int32)), .unset] []))
            refine own_st (fun t k => XS.iconst X3.here hx rfl (hb hby at_112) k) ?_
            show own_Fin _ _ _ _ _ _ _ (T3.setTop (mkF m 113 #[.val (.long q1), .second, .val (.int p2), .val (.long (q1 &&& (9223372036854775807 : Int64))), .second, .val (.int (0 : Int32)), .val (.long (own_F1 (q1 &&& (9223372036854775807 : Int64)) (0 : Int32))), .second, .val (.int (1 : Int32)), .val (.int (1 : Int32)), .unset] [(.int (1 : Int32))]))
            refine own_st (fun t k => XS.goto X3.here hx rfl (pc0 := 113) (pc' := 117) rfl (hb hby at_113) (by decide) (by decide) k) ?_
            show own_Fin _ _ _ _ _ _ _ (T3.setTop (mkF m 117 #[.val (.long q1), .second, .val (.int p2), .val (.long (q1 &&& (9223372036854775807 : Int64))), .second, .val (.int (0 : Int32)), .val (.long (own_F1 (q1 &&& (9223372036854775807 : Int64)) (0 : Int32))), .second, .val (.int (1 : Int32)), .val (.int (1 : Int32)), .unset] [(.int (1 : Int32))]))
            refine own_st (fun t k => XS.istore X3.here hx rfl (hb hby at_117) rfl (l' := #[.val (.long q1), .second, .val (.int p2), .val (.long (q1 &&& (9223372036854775807 : Int64))), .second, .val (.int (0 : Int32)), .val (.long (own_F1 (q1 &&& (9223372036854775807 : Int64)) (0 : Int32))), .second, .val (.int (1 : Int32)), .val (.int (1 : Int32)), .val (.int (1 : Int32))]) rfl k) ?_
            show own_Fin _ _ _ _ _ _ _ (T3.setTop (mkF m 119 #[.val (.long q1), .second, .val (.int p2), .val (.long (q1 &&& (9223372036854775807 : Int64))), .second, .val (.int (0 : Int32)), .val (.long (own_F1 (q1 &&& (9223372036854775807 : Int64)) (0 : Int32))), .second, .val (.int (1 : Int32)), .val (.int (1 : Int32)), .val (.int (1 : Int32))] []))
            refine own_st (fun t k => XS.iload X3.here hx rfl (hb hby at_119) rfl k) ?_
            show own_Fin _ _ _ _ _ _ _ (T3.setTop (mkF m 121 #[.val (.long q1), .second, .val (.int p2), .val (.long (q1 &&& (9223372036854775807 : Int64))), .second, .val (.int (0 : Int32)), .val (.long (own_F1 (q1 &&& (9223372036854775807 : Int64)) (0 : Int32))), .second, .val (.int (1 : Int32)), .val (.int (1 : Int32)), .val (.int (1 : Int32))] [(.int (1 : Int32))]))
            refine own_st (fun t k => XS.ifNo X3.here hx rfl (hb hby at_121) rfl ((if0 _ _).trans (feq (by decide : ¬ ((1 : Int32) = (0 : Int32)))).1) k) ?_
            show own_Fin _ _ _ _ _ _ _ (T3.setTop (mkF m 124 #[.val (.long q1), .second, .val (.int p2), .val (.long (q1 &&& (9223372036854775807 : Int64))), .second, .val (.int (0 : Int32)), .val (.long (own_F1 (q1 &&& (9223372036854775807 : Int64)) (0 : Int32))), .second, .val (.int (1 : Int32)), .val (.int (1 : Int32)), .val (.int (1 : Int32))] []))
            refine own_st (fun t k => XS.iload X3.here hx rfl (hb hby at_124) rfl k) ?_
            show own_Fin _ _ _ _ _ _ _ (T3.setTop (mkF m 126 #[.val (.long q1), .second, .val (.int p2), .val (.long (q1 &&& (9223372036854775807 : Int64))), .second, .val (.int (0 : Int32)), .val (.long (own_F1 (q1 &&& (9223372036854775807 : Int64)) (0 : Int32))), .second, .val (.int (1 : Int32)), .val (.int (1 : Int32)), .val (.int (1 : Int32))] [(.int (1 : Int32))]))
            refine own_st (fun t k => XS.ifNo X3.here hx rfl (hb hby at_126) rfl ((if0 _ _).trans (feq (by decide : ¬ ((1 : Int32) = (0 : Int32)))).1) k) ?_
            show own_Fin _ _ _ _ _ _ _ (T3.setTop (mkF m 129 #[.val (.long q1), .second, .val (.int p2), .val (.long (q1 &&& (9223372036854775807 : Int64))), .second, .val (.int (0 : Int32)), .val (.long (own_F1 (q1 &&& (9223372036854775807 : Int64)) (0 : Int32))), .second, .val (.int (1 : Int32)), .val (.int (1 : Int32)), .val (.int (1 : Int32))] []))
            refine own_st (fun t k => XS.iload X3.here hx rfl (hb hby at_129) rfl k) ?_
            show own_Fin _ _ _ _ _ _ _ (T3.setTop (mkF m 131 #[.val (.long q1), .second, .val (.int p2), .val (.long (q1 &&& (9223372036854775807 : Int64))), .second, .val (.int (0 : Int32)), .val (.long (own_F1 (q1 &&& (9223372036854775807 : Int64)) (0 : Int32))), .second, .val (.int (1 : Int32)), .val (.int (1 : Int32)), .val (.int (1 : Int32))] [(.int (1 : Int32))]))
            refine own_st (fun t k => XS.ifNo X3.here hx rfl (hb hby at_131) rfl ((if0 _ _).trans (feq (by decide : ¬ ((1 : Int32) = (0 : Int32)))).1) k) ?_
            show own_Fin _ _ _ _ _ _ _ (T3.setTop (mkF m 134 #[.val (.long q1), .second, .val (.int p2), .val (.long (q1 &&& (9223372036854775807 : Int64))), .second, .val (.int (0 : Int32)), .val (.long (own_F1 (q1 &&& (9223372036854775807 : Int64)) (0 : Int32))), .second, .val (.int (1 : Int32)), .val (.int (1 : Int32)), .val (.int (1 : Int32))] []))
            refine own_st (fun t k => XS.iconst X3.here hx rfl (hb hby at_134) k) ?_
            show own_Fin _ _ _ _ _ _ _ (T3.setTop (mkF m 135 #[.val (.long q1), .second, .val (.int p2), .val (.long (q1 &&& (9223372036854775807 : Int64))), .second, .val (.int (0 : Int32)), .val (.long (own_F1 (q1 &&& (9223372036854775807 : Int64)) (0 : Int32))), .second, .val (.int (1 : Int32)), .val (.int (1 : Int32)), .val (.int (1 : Int32))] [(.int (1 : Int32))]))
            refine own_st (fun t k => XS.goto X3.here hx rfl (pc0 := 135) (pc' := 139) rfl (hb hby at_135) (by decide) (by decide) k) ?_
            show own_Fin _ _ _ _ _ _ _ (T3.setTop (mkF m 139 #[.val (.long q1), .second, .val (.int p2), .val (.long (q1 &&& (9223372036854775807 : Int64))), .second, .val (.int (0 : Int32)), .val (.long (own_F1 (q1 &&& (9223372036854775807 : Int64)) (0 : Int32))), .second, .val (.int (1 : Int32)), .val (.int (1 : Int32)), .val (.int (1 : Int32))] [(.int (1 : Int32))]))
            have hv : own_F0 q1 p2 = (1 : Int32) := by unfold own_F0; rw [if_pos hc9_1, if_pos hc34_4, if_neg hc71_5, if_neg hc84_8, if_neg hc102_11]
            exact own_retN X3 hx Bd.notSynchronized (t := .boolean) Bd.returns (by simp) (hb hby at_139) (by decide) (by decide) ⟨congrArg (fun z => some (Value.int z)) hv.symm, N3, e3⟩
    · refine own_st (fun t k => XS.ifYes X3.here hx rfl (pc0 := 34) (pc' := 41) rfl (hb hby at_34) rfl (own_eqF hc34_4).2 (by decide) (by decide) k) ?_
      show own_Fin _ _ _ _ _ _ _ (T3.setTop (mkF m 41 #[.val (.long q1), .second, .val (.int p2), .val (.long (q1 &&& (9223372036854775807 : Int64))), .second, .val (.int (0 : Int32)), .val (.long (own_F1 (q1 &&& (9223372036854775807 : Int64)) (0 : Int32))), .second, .unset, .unset, .unset] []))
      refine own_st (fun t k => XS.iconst X3.here hx rfl (hb hby at_41) k) ?_
      show own_Fin _ _ _ _ _ _ _ (T3.setTop (mkF m 42 #[.val (.long q1), .second, .val (.int p2), .val (.long (q1 &&& (9223372036854775807 : Int64))), .second, .val (.int (0 : Int32)), .val (.long (own_F1 (q1 &&& (9223372036854775807 : Int64)) (0 : Int32))), .second, .unset, .unset, .unset] [(.int (0 : Int32))]))
      refine own_st (fun t k => XS.istore X3.here hx rfl (hb hby at_42) rfl (l' := #[.val (.long q1), .second, .val (.int p2), .val (.long (q1 &&& (9223372036854775807 : Int64))), .second, .val (.int (0 : Int32)), .val (.long (own_F1 (q1 &&& (9223372036854775807 : Int64)) (0 : Int32))), .second, .val (.int (0 : Int32)), .unset, .unset]) rfl k) ?_
      show own_Fin _ _ _ _ _ _ _ (T3.setTop (mkF m 44 #[.val (.long q1), .second, .val (.int p2), .val (.long (q1 &&& (9223372036854775807 : Int64))), .second, .val (.int (0 : Int32)), .val (.long (own_F1 (q1 &&& (9223372036854775807 : Int64)) (0 : Int32))), .second, .val (.int (0 : Int32)), .unset, .unset] []))
      refine own_st (fun t k => XS.iload X3.here hx rfl (hb hby at_44) rfl k) ?_
      show own_Fin _ _ _ _ _ _ _ (T3.setTop (mkF m 46 #[.val (.long q1), .second, .val (.int p2), .val (.long (q1 &&& (9223372036854775807 : Int64))), .second, .val (.int (0 : Int32)), .val (.long (own_F1 (q1 &&& (9223372036854775807 : Int64)) (0 : Int32))), .second, .val (.int (0 : Int32)), .unset, .unset] [(.int (0 : Int32))]))
      refine own_st (fun t k => XS.ifYes X3.here hx rfl (pc0 := 46) (pc' := 66) rfl (hb hby at_46) rfl ((if0 _ _).trans (teq (by decide : (0 : Int32) = (0 : Int32))).1) (by decide) (by decide) k) ?_
      show own_Fin _ _ _ _ _ _ _ (T3.setTop (mkF m 66 #[.val (.long q1), .second, .val (.int p2), .val (.long (q1 &&& (9223372036854775807 : Int64))), .second, .val (.int (0 : Int32)), .val (.long (own_F1 (q1 &&& (9223372036854775807 : Int64)) (0 : Int32))), .second, .val (.int (0 : Int32)), .unset, .unset] []))
      refine own_st (fun t k => XS.lloadN X3.here hx rfl (hb hby at_66) rfl k) ?_
      show own_Fin _ _ _ _ _ _ _ (T3.setTop (mkF m 67 #[.val (.long q1), .second, .val (.int p2), .val (.long (q1 &&& (9223372036854775807 : Int64))), .second, .val (.int (0 : Int32)), .val (.long (own_F1 (q1 &&& (9223372036854775807 : Int64)) (0 : Int32))), .second, .val (.int (0 : Int32)), .unset, .unset] [(.long (q1 &&& (9223372036854775807 : Int64)))]))
      refine own_st (X3.ldc2Long hx hown (mvT hZ (hw _ (List.mem_of_getElem? (i := 0) rfl))) (g := (mkF m 67 #[.val (.long q1), .second, .val (.int p2), .val (.long (q1 &&& (9223372036854775807 : Int64))), .second, .val (.int (0 : Int32)), .val (.long (own_F1 (q1 &&& (9223372036854775807 : Int64)) (0 : Int32))), .second, .val (.int (0 : Int32)), .unset, .unset] [(.long (q1 &&& (9223372036854775807 : Int64)))])) rfl (hb hby at_67)) ?_
      show own_Fin _ _ _ _ _ _ _ (T3.setTop (mkF m 70 #[.val (.long q1), .second, .val (.int p2), .val (.long (q1 &&& (9223372036854775807 : Int64))), .second, .val (.int (0 : Int32)), .val (.long (own_F1 (q1 &&& (9223372036854775807 : Int64)) (0 : Int32))), .second, .val (.int (0 : Int32)), .unset, .unset] [(.long (9223372036854775807 : Int64)), (.long (q1 &&& (9223372036854775807 : Int64)))]))
      refine own_st (fun t k => XS.lcmp X3.here hx rfl (hb hby at_70) rfl k) ?_
      show own_Fin _ _ _ _ _ _ _ (T3.setTop (mkF m 71 #[.val (.long q1), .second, .val (.int p2), .val (.long (q1 &&& (9223372036854775807 : Int64))), .second, .val (.int (0 : Int32)), .val (.long (own_F1 (q1 &&& (9223372036854775807 : Int64)) (0 : Int32))), .second, .val (.int (0 : Int32)), .unset, .unset] [(.int (lcmpW (q1 &&& (9223372036854775807 : Int64)) (9223372036854775807 : Int64)))]))
      by_cases hc71_13 : (q1 &&& (9223372036854775807 : Int64)) = (9223372036854775807 : Int64)
      · refine own_st (fun t k => XS.ifNo X3.here hx rfl (hb hby at_71) rfl (own_eqT hc71_13).2 k) ?_
        show own_Fin _ _ _ _ _ _ _ (T3.setTop (mkF m 74 #[.val (.long q1), .second, .val (.int p2), .val (.long (q1 &&& (9223372036854775807 : Int64))), .second, .val (.int (0 : Int32)), .val (.long (own_F1 (q1 &&& (9223372036854775807 : Int64)) (0 : Int32))), .second, .val (.int (0 : Int32)), .unset, .unset] []))
        refine own_st (fun t k => XS.iconst X3.here hx rfl (hb hby at_74) k) ?_
        show own_Fin _ _ _ _ _ _ _ (T3.setTop (mkF m 75 #[.val (.long q1), .second, .val (.int p2), .val (.long (q1 &&& (9223372036854775807 : Int64))), .second, .val (.int (0 : Int32)), .val (.long (own_F1 (q1 &&& (9223372036854775807 : Int64)) (0 : Int32))), .second, .val (.int (0 : Int32)), .unset, .unset] [(.int (1 : Int32))]))
        refine own_st (fun t k => XS.istore X3.here hx rfl (hb hby at_75) rfl (l' := #[.val (.long q1), .second, .val (.int p2), .val (.long (q1 &&& (9223372036854775807 : Int64))), .second, .val (.int (0 : Int32)), .val (.long (own_F1 (q1 &&& (9223372036854775807 : Int64)) (0 : Int32))), .second, .val (.int (0 : Int32)), .val (.int (1 : Int32)), .unset]) rfl k) ?_
        show own_Fin _ _ _ _ _ _ _ (T3.setTop (mkF m 77 #[.val (.long q1), .second, .val (.int p2), .val (.long (q1 &&& (9223372036854775807 : Int64))), .second, .val (.int (0 : Int32)), .val (.long (own_F1 (q1 &&& (9223372036854775807 : Int64)) (0 : Int32))), .second, .val (.int (0 : Int32)), .val (.int (1 : Int32)), .unset] []))
        refine own_st (fun t k => XS.goto X3.here hx rfl (pc0 := 77) (pc' := 94) rfl (hb hby at_77) (by decide) (by decide) k) ?_
        show own_Fin _ _ _ _ _ _ _ (T3.setTop (mkF m 94 #[.val (.long q1), .second, .val (.int p2), .val (.long (q1 &&& (9223372036854775807 : Int64))), .second, .val (.int (0 : Int32)), .val (.long (own_F1 (q1 &&& (9223372036854775807 : Int64)) (0 : Int32))), .second, .val (.int (0 : Int32)), .val (.int (1 : Int32)), .unset] []))
        refine own_st (fun t k => XS.iload X3.here hx rfl (hb hby at_94) rfl k) ?_
        show own_Fin _ _ _ _ _ _ _ (T3.setTop (mkF m 96 #[.val (.long q1), .second, .val (.int p2), .val (.long (q1 &&& (9223372036854775807 : Int64))), .second, .val (.int (0 : Int32)), .val (.long (own_F1 (q1 &&& (9223372036854775807 : Int64)) (0 : Int32))), .second, .val (.int (0 : Int32)), .val (.int (1 : Int32)), .unset] [(.int (0 : Int32))]))
        refine own_st (fun t k => XS.ifNo X3.here hx rfl (hb hby at_96) rfl ((if0 _ _).trans (teq (by decide : (0 : Int32) = (0 : Int32))).2) k) ?_
        show own_Fin _ _ _ _ _ _ _ (T3.setTop (mkF m 99 #[.val (.long q1), .second, .val (.int p2), .val (.long (q1 &&& (9223372036854775807 : Int64))), .second, .val (.int (0 : Int32)), .val (.long (own_F1 (q1 &&& (9223372036854775807 : Int64)) (0 : Int32))), .second, .val (.int (0 : Int32)), .val (.int (1 : Int32)), .unset] []))
        refine own_st (fun t k => XS.lloadN X3.here hx rfl (hb hby at_99) rfl k) ?_
        show own_Fin _ _ _ _ _ _ _ (T3.setTop (mkF m 100 #[.val (.long q1), .second, .val (.int p2), .val (.long (q1 &&& (9223372036854775807 : Int64))), .second, .val (.int (0 : Int32)), .val (.long (own_F1 (q1 &&& (9223372036854775807 : Int64)) (0 : Int32))), .second, .val (.int (0 : Int32)), .val (.int (1 : Int32)), .unset] [(.long (q1 &&& (9223372036854775807 : Int64)))]))
        refine own_st (fun t k => XS.lconst X3.here hx rfl (hb hby at_100) k) ?_
        show own_Fin _ _ _ _ _ _ _ (T3.setTop (mkF m 101 #[.val (.long q1), .second, .val (.int p2), .val (.long (q1 &&& (9223372036854775807 : Int64))), .second, .val (.int (0 : Int32)), .val (.long (own_F1 (q1 &&& (9223372036854775807 : Int64)) (0 : Int32))), .second, .val (.int (0 : Int32)), .val (.int (1 : Int32)), .unset] [(.long (0 : Int64)), (.long (q1 &&& (9223372036854775807 : Int64)))]))
        refine own_st (fun t k => XS.lcmp X3.here hx rfl (hb hby at_101) rfl k) ?_
        show own_Fin _ _ _ _ _ _ _ (T3.setTop (mkF m 102 #[.val (.long q1), .second, .val (.int p2), .val (.long (q1 &&& (9223372036854775807 : Int64))), .second, .val (.int (0 : Int32)), .val (.long (own_F1 (q1 &&& (9223372036854775807 : Int64)) (0 : Int32))), .second, .val (.int (0 : Int32)), .val (.int (1 : Int32)), .unset] [(.int (lcmpW (q1 &&& (9223372036854775807 : Int64)) (0 : Int64)))]))
        by_cases hc102_14 : (q1 &&& (9223372036854775807 : Int64)) = (0 : Int64)
        · refine own_st (fun t k => XS.ifNo X3.here hx rfl (hb hby at_102) rfl (own_eqT hc102_14).2 k) ?_
          show own_Fin _ _ _ _ _ _ _ (T3.setTop (mkF m 105 #[.val (.long q1), .second, .val (.int p2), .val (.long (q1 &&& (9223372036854775807 : Int64))), .second, .val (.int (0 : Int32)), .val (.long (own_F1 (q1 &&& (9223372036854775807 : Int64)) (0 : Int32))), .second, .val (.int (0 : Int32)), .val (.int (1 : Int32)), .unset] []))
          refine own_st (fun t k => XS.lload X3.here hx rfl (hb hby at_105) rfl k) ?_
          show own_Fin _ _ _ _ _ _ _ (T3.setTop (mkF m 107 #[.val (.long q1), .second, .val (.int p2), .val (.long (q1 &&& (9223372036854775807 : Int64))), .second, .val (.int (0 : Int32)), .val (.long (own_F1 (q1 &&& (9223372036854775807 : Int64)) (0 : Int32))), .second, .val (.int (0 : Int32)), .val (.int (1 : Int32)), .unset] [(.long (own_F1 (q1 &&& (9223372036854775807 : Int64)) (0 : Int32)))]))
          refine own_st (fun t k => XS.lconst X3.here hx rfl (hb hby at_107) k) ?_
          show own_Fin _ _ _ _ _ _ _ (T3.setTop (mkF m 108 #[.val (.long q1), .second, .val (.int p2), .val (.long (q1 &&& (9223372036854775807 : Int64))), .second, .val (.int (0 : Int32)), .val (.long (own_F1 (q1 &&& (9223372036854775807 : Int64)) (0 : Int32))), .second, .val (.int (0 : Int32)), .val (.int (1 : Int32)), .unset] [(.long (0 : Int64)), (.long (own_F1 (q1 &&& (9223372036854775807 : Int64)) (0 : Int32)))]))
          refine own_st (fun t k => XS.lcmp X3.here hx rfl (hb hby at_108) rfl k) ?_
          show own_Fin _ _ _ _ _ _ _ (T3.setTop (mkF m 109 #[.val (.long q1), .second, .val (.int p2), .val (.long (q1 &&& (9223372036854775807 : Int64))), .second, .val (.int (0 : Int32)), .val (.long (own_F1 (q1 &&& (9223372036854775807 : Int64)) (0 : Int32))), .second, .val (.int (0 : Int32)), .val (.int (1 : Int32)), .unset] [(.int (lcmpW (own_F1 (q1 &&& (9223372036854775807 : Int64)) (0 : Int32)) (0 : Int64)))]))
          by_cases hc109_15 : (own_F1 (q1 &&& (9223372036854775807 : Int64)) (0 : Int32)) = (0 : Int64)
          · refine own_st (fun t k => XS.ifNo X3.here hx rfl (hb hby at_109) rfl (own_eqT hc109_15).2 k) ?_
            show own_Fin _ _ _ _ _ _ _ (T3.setTop (mkF m 112 #[.val (.long q1), .second, .val (.int p2), .val (.long (q1 &&& (9223372036854775807 : Int64))), .second, .val (.int (0 : Int32)), .val (.long (own_F1 (q1 &&& (9223372036854775807 : Int64)) (0 : Int32))), .second, .val (.int (0 : Int32)), .val (.int (1 : Int32)), .unset] []))
            refine own_st (fun t k => XS.iconst X3.here hx rfl (hb hby at_112) k) ?_
            show own_Fin _ _ _ _ _ _ _ (T3.setTop (mkF m 113 #[.val (.long q1), .second, .val (.int p2), .val (.long (q1 &&& (9223372036854775807 : Int64))), .second, .val (.int (0 : Int32)), .val (.long (own_F1 (q1 &&& (9223372036854775807 : Int64)) (0 : Int32))), .second, .val (.int (0 : Int32)), .val (.int (1 : Int32)), .unset] [(.int (1 : Int32))]))
            refine own_st (fun t k => XS.goto X3.here hx rfl (pc0 := 113) (pc' := 117) rfl (hb hby at_113) (by decide) (by decide) k) ?_
            show own_Fin _ _ _ _ _ _ _ (T3.setTop (mkF m 117 #[.val (.long q1), .second, .val (.int p2), .val (.long (q1 &&& (9223372036854775807 : Int64))), .second, .val (.int (0 : Int32)), .val (.long (own_F1 (q1 &&& (9223372036854775807 : Int64)) (0 : Int32))), .second, .val (.int (0 : Int32)), .val (.int (1 : Int32)), .unset] [(.int (1 : Int32))]))
            refine own_st (fun t k => XS.istore X3.here hx rfl (hb hby at_117) rfl (l' := #[.val (.long q1), .second, .val (.int p2), .val (.long (q1 &&& (9223372036854775807 : Int64))), .second, .val (.int (0 : Int32)), .val (.long (own_F1 (q1 &&& (9223372036854775807 : Int64)) (0 : Int32))), .second, .val (.int (0 : Int32)), .val (.int (1 : Int32)), .val (.int (1 : Int32))]) rfl k) ?_
            show own_Fin _ _ _ _ _ _ _ (T3.setTop (mkF m 119 #[.val (.long q1), .second, .val (.int p2), .val (.long (q1 &&& (9223372036854775807 : Int64))), .second, .val (.int (0 : Int32)), .val (.long (own_F1 (q1 &&& (9223372036854775807 : Int64)) (0 : Int32))), .second, .val (.int (0 : Int32)), .val (.int (1 : Int32)), .val (.int (1 : Int32))] []))
            refine own_st (fun t k => XS.iload X3.here hx rfl (hb hby at_119) rfl k) ?_
            show own_Fin _ _ _ _ _ _ _ (T3.setTop (mkF m 121 #[.val (.long q1), .second, .val (.int p2), .val (.long (q1 &&& (9223372036854775807 : Int64))), .second, .val (.int (0 : Int32)), .val (.long (own_F1 (q1 &&& (9223372036854775807 : Int64)) (0 : Int32))), .second, .val (.int (0 : Int32)), .val (.int (1 : Int32)), .val (.int (1 : Int32))] [(.int (0 : Int32))]))
            refine own_st (fun t k => XS.ifYes X3.here hx rfl (pc0 := 121) (pc' := 138) rfl (hb hby at_121) rfl ((if0 _ _).trans (teq (by decide : (0 : Int32) = (0 : Int32))).1) (by decide) (by decide) k) ?_
            show own_Fin _ _ _ _ _ _ _ (T3.setTop (mkF m 138 #[.val (.long q1), .second, .val (.int p2), .val (.long (q1 &&& (9223372036854775807 : Int64))), .second, .val (.int (0 : Int32)), .val (.long (own_F1 (q1 &&& (9223372036854775807 : Int64)) (0 : Int32))), .second, .val (.int (0 : Int32)), .val (.int (1 : Int32)), .val (.int (1 : Int32))] []))
            refine own_st (fun t k => XS.iconst X3.here hx rfl (hb hby at_138) k) ?_
            show own_Fin _ _ _ _ _ _ _ (T3.setTop (mkF m 139 #[.val (.long q1), .second, .val (.int p2), .val (.long (q1 &&& (9223372036854775807 : Int64))), .second, .val (.int (0 : Int32)), .val (.long (own_F1 (q1 &&& (9223372036854775807 : Int64)) (0 : Int32))), .second, .val (.int (0 : Int32)), .val (.int (1 : Int32)), .val (.int (1 : Int32))] [(.int (0 : Int32))]))
            have hv : own_F0 q1 p2 = (0 : Int32) := by unfold own_F0; rw [if_pos hc9_1, if_neg hc34_4, if_pos hc71_13, if_pos hc102_14, if_pos hc109_15]
            exact own_retN X3 hx Bd.notSynchronized (t := .boolean) Bd.returns (by simp) (hb hby at_139) (by decide) (by decide) ⟨congrArg (fun z => some (Value.int z)) hv.symm, N3, e3⟩
          · refine own_st (fun t k => XS.ifYes X3.here hx rfl (pc0 := 109) (pc' := 116) rfl (hb hby at_109) rfl (own_eqF hc109_15).2 (by decide) (by decide) k) ?_
            show own_Fin _ _ _ _ _ _ _ (T3.setTop (mkF m 116 #[.val (.long q1), .second, .val (.int p2), .val (.long (q1 &&& (9223372036854775807 : Int64))), .second, .val (.int (0 : Int32)), .val (.long (own_F1 (q1 &&& (9223372036854775807 : Int64)) (0 : Int32))), .second, .val (.int (0 : Int32)), .val (.int (1 : Int32)), .unset] []))
            refine own_st (fun t k => XS.iconst X3.here hx rfl (hb hby at_116) k) ?_
            show own_Fin _ _ _ _ _ _ _ (T3.setTop (mkF m 117 #[.val (.long q1), .second, .val (.int p2), .val (.long (q1 &&& (9223372036854775807 : Int64))), .second, .val (.int (0 : Int32)), .val (.long (own_F1 (q1 &&& (9223372036854775807 : Int64)) (0 : Int32))), .second, .val (.int (0 : Int32)), .val (.int (1 : Int32)), .unset] [(.int (0 : Int32))]))
            refine own_st (fun t k => XS.istore X3.here hx rfl (hb hby at_117) rfl (l' := #[.val (.long q1), .second, .val (.int p2), .val (.long (q1 &&& (9223372036854775807 : Int64))), .second, .val (.int (0 : Int32)), .val (.long (own_F1 (q1 &&& (9223372036854775807 : Int64)) (0 : Int32))), .second, .val (.int (0 : Int32)), .val (.int (1 : Int32)), .val (.int (0 : Int32))]) rfl k) ?_
            show own_Fin _ _ _ _ _ _ _ (T3.setTop (mkF m 119 #[.val (.long q1), .second, .val (.int p2), .val (.long (q1 &&& (9223372036854775807 : Int64))), .second, .val (.int (0 : Int32)), .val (.long (own_F1 (q1 &&& (9223372036854775807 : Int64)) (0 : Int32))), .second, .val (.int (0 : Int32)), .val (.int (1 : Int32)), .val (.int (0 : Int32))] []))
            refine own_st (fun t k => XS.iload X3.here hx rfl (hb hby at_119) rfl k) ?_
            show own_Fin _ _ _ _ _ _ _ (T3.setTop (mkF m 121 #[.val (.long q1), .second, .val (.int p2), .val (.long (q1 &&& (9223372036854775807 : Int64))), .second, .val (.int (0 : Int32)), .val (.long (own_F1 (q1 &&& (9223372036854775807 : Int64)) (0 : Int32))), .second, .val (.int (0 : Int32)), .val (.int (1 : Int32)), .val (.int (0 : Int32))] [(.int (0 : Int32))]))
            refine own_st (fun t k => XS.ifYes X3.here hx rfl (pc0 := 121) (pc' := 138) rfl (hb hby at_121) rfl ((if0 _ _).trans (teq (by decide : (0 : Int32) = (0 : Int32))).1) (by decide) (by decide) k) ?_
            show own_Fin _ _ _ _ _ _ _ (T3.setTop (mkF m 138 #[.val (.long q1), .second, .val (.int p2), .val (.long (q1 &&& (9223372036854775807 : Int64))), .second, .val (.int (0 : Int32)), .val (.long (own_F1 (q1 &&& (9223372036854775807 : Int64)) (0 : Int32))), .second, .val (.int (0 : Int32)), .val (.int (1 : Int32)), .val (.int (0 : Int32))] []))
            refine own_st (fun t k => XS.iconst X3.here hx rfl (hb hby at_138) k) ?_
            show own_Fin _ _ _ _ _ _ _ (T3.setTop (mkF m 139 #[.val (.long q1), .second, .val (.int p2), .val (.long (q1 &&& (9223372036854775807 : Int64))), .second, .val (.int (0 : Int32)), .val (.long (own_F1 (q1 &&& (9223372036854775807 : Int64)) (0 : Int32))), .second, .val (.int (0 : Int32)), .val (.int (1 : Int32)), .val (.int (0 : Int32))] [(.int (0 : Int32))]))
            have hv : own_F0 q1 p2 = (0 : Int32) := by unfold own_F0; rw [if_pos hc9_1, if_neg hc34_4, if_pos hc71_13, if_pos hc102_14, if_neg hc109_15]
            exact own_retN X3 hx Bd.notSynchronized (t := .boolean) Bd.returns (by simp) (hb hby at_139) (by decide) (by decide) ⟨congrArg (fun z => some (Value.int z)) hv.symm, N3, e3⟩
        · refine own_st (fun t k => XS.ifYes X3.here hx rfl (pc0 := 102) (pc' := 112) rfl (hb hby at_102) rfl (own_eqF hc102_14).2 (by decide) (by decide) k) ?_
          show own_Fin _ _ _ _ _ _ _ (T3.setTop (mkF m 112 #[.val (.long q1), .second, .val (.int p2), .val (.long (q1 &&& (9223372036854775807 : Int64))), .second, .val (.int (0 : Int32)), .val (.long (own_F1 (q1 &&& (9223372036854775807 : Int64)) (0 : Int32))), .second, .val (.int (0 : Int32)), .val (.int (1 : Int32)), .unset] []))
          refine own_st (fun t k => XS.iconst X3.here hx rfl (hb hby at_112) k) ?_
          show own_Fin _ _ _ _ _ _ _ (T3.setTop (mkF m 113 #[.val (.long q1), .second, .val (.int p2), .val (.long (q1 &&& (9223372036854775807 : Int64))), .second, .val (.int (0 : Int32)), .val (.long (own_F1 (q1 &&& (9223372036854775807 : Int64)) (0 : Int32))), .second, .val (.int (0 : Int32)), .val (.int (1 : Int32)), .unset] [(.int (1 : Int32))]))
          refine own_st (fun t k => XS.goto X3.here hx rfl (pc0 := 113) (pc' := 117) rfl (hb hby at_113) (by decide) (by decide) k) ?_
          show own_Fin _ _ _ _ _ _ _ (T3.setTop (mkF m 117 #[.val (.long q1), .second, .val (.int p2), .val (.long (q1 &&& (9223372036854775807 : Int64))), .second, .val (.int (0 : Int32)), .val (.long (own_F1 (q1 &&& (9223372036854775807 : Int64)) (0 : Int32))), .second, .val (.int (0 : Int32)), .val (.int (1 : Int32)), .unset] [(.int (1 : Int32))]))
          refine own_st (fun t k => XS.istore X3.here hx rfl (hb hby at_117) rfl (l' := #[.val (.long q1), .second, .val (.int p2), .val (.long (q1 &&& (9223372036854775807 : Int64))), .second, .val (.int (0 : Int32)), .val (.long (own_F1 (q1 &&& (9223372036854775807 : Int64)) (0 : Int32))), .second, .val (.int (0 : Int32)), .val (.int (1 : Int32)), .val (.int (1 : Int32))]) rfl k) ?_
          show own_Fin _ _ _ _ _ _ _ (T3.setTop (mkF m 119 #[.val (.long q1), .second, .val (.int p2), .val (.long (q1 &&& (9223372036854775807 : Int64))), .second, .val (.int (0 : Int32)), .val (.long (own_F1 (q1 &&& (9223372036854775807 : Int64)) (0 : Int32))), .second, .val (.int (0 : Int32)), .val (.int (1 : Int32)), .val (.int (1 : Int32))] []))
          refine own_st (fun t k => XS.iload X3.here hx rfl (hb hby at_119) rfl k) ?_
          show own_Fin _ _ _ _ _ _ _ (T3.setTop (mkF m 121 #[.val (.long q1), .second, .val (.int p2), .val (.long (q1 &&& (9223372036854775807 : Int64))), .second, .val (.int (0 : Int32)), .val (.long (own_F1 (q1 &&& (9223372036854775807 : Int64)) (0 : Int32))), .second, .val (.int (0 : Int32)), .val (.int (1 : Int32)), .val (.int (1 : Int32))] [(.int (0 : Int32))]))
          refine own_st (fun t k => XS.ifYes X3.here hx rfl (pc0 := 121) (pc' := 138) rfl (hb hby at_121) rfl ((if0 _ _).trans (teq (by decide : (0 : Int32) = (0 : Int32))).1) (by decide) (by decide) k) ?_
          show own_Fin _ _ _ _ _ _ _ (T3.setTop (mkF m 138 #[.val (.long q1), .second, .val (.int p2), .val (.long (q1 &&& (9223372036854775807 : Int64))), .second, .val (.int (0 : Int32)), .val (.long (own_F1 (q1 &&& (9223372036854775807 : Int64)) (0 : Int32))), .second, .val (.int (0 : Int32)), .val (.int (1 : Int32)), .val (.int (1 : Int32))] []))
          refine own_st (fun t k => XS.iconst X3.here hx rfl (hb hby at_138) k) ?_
          show own_Fin _ _ _ _ _ _ _ (T3.setTop (mkF m 139 #[.val (.long q1), .second, .val (.int p2), .val (.long (q1 &&& (9223372036854775807 : Int64))), .second, .val (.int (0 : Int32)), .val (.long (own_F1 (q1 &&& (9223372036854775807 : Int64)) (0 : Int32))), .second, .val (.int (0 : Int32)), .val (.int (1 : Int32)), .val (.int (1 : Int32))] [(.int (0 : Int32))]))
          have hv : own_F0 q1 p2 = (0 : Int32) := by unfold own_F0; rw [if_pos hc9_1, if_neg hc34_4, if_pos hc71_13, if_neg hc102_14]
          exact own_retN X3 hx Bd.notSynchronized (t := .boolean) Bd.returns (by simp) (hb hby at_139) (by decide) (by decide) ⟨congrArg (fun z => some (Value.int z)) hv.symm, N3, e3⟩
      · refine own_st (fun t k => XS.ifYes X3.here hx rfl (pc0 := 71) (pc' := 80) rfl (hb hby at_71) rfl (own_eqF hc71_13).2 (by decide) (by decide) k) ?_
        show own_Fin _ _ _ _ _ _ _ (T3.setTop (mkF m 80 #[.val (.long q1), .second, .val (.int p2), .val (.long (q1 &&& (9223372036854775807 : Int64))), .second, .val (.int (0 : Int32)), .val (.long (own_F1 (q1 &&& (9223372036854775807 : Int64)) (0 : Int32))), .second, .val (.int (0 : Int32)), .unset, .unset] []))
        refine own_st (fun t k => XS.lload X3.here hx rfl (hb hby at_80) rfl k) ?_
        show own_Fin _ _ _ _ _ _ _ (T3.setTop (mkF m 82 #[.val (.long q1), .second, .val (.int p2), .val (.long (q1 &&& (9223372036854775807 : Int64))), .second, .val (.int (0 : Int32)), .val (.long (own_F1 (q1 &&& (9223372036854775807 : Int64)) (0 : Int32))), .second, .val (.int (0 : Int32)), .unset, .unset] [(.long (own_F1 (q1 &&& (9223372036854775807 : Int64)) (0 : Int32)))]))
        refine own_st (fun t k => XS.lconst X3.here hx rfl (hb hby at_82) k) ?_
        show own_Fin _ _ _ _ _ _ _ (T3.setTop (mkF m 83 #[.val (.long q1), .second, .val (.int p2), .val (.long (q1 &&& (9223372036854775807 : Int64))), .second, .val (.int (0 : Int32)), .val (.long (own_F1 (q1 &&& (9223372036854775807 : Int64)) (0 : Int32))), .second, .val (.int (0 : Int32)), .unset, .unset] [(.long (0 : Int64)), (.long (own_F1 (q1 &&& (9223372036854775807 : Int64)) (0 : Int32)))]))
        refine own_st (fun t k => XS.lcmp X3.here hx rfl (hb hby at_83) rfl k) ?_
        show own_Fin _ _ _ _ _ _ _ (T3.setTop (mkF m 84 #[.val (.long q1), .second, .val (.int p2), .val (.long (q1 &&& (9223372036854775807 : Int64))), .second, .val (.int (0 : Int32)), .val (.long (own_F1 (q1 &&& (9223372036854775807 : Int64)) (0 : Int32))), .second, .val (.int (0 : Int32)), .unset, .unset] [(.int (lcmpW (own_F1 (q1 &&& (9223372036854775807 : Int64)) (0 : Int32)) (0 : Int64)))]))
        by_cases hc84_16 : (own_F1 (q1 &&& (9223372036854775807 : Int64)) (0 : Int32)) < (0 : Int64)
        · refine own_st (fun t k => XS.ifYes X3.here hx rfl (pc0 := 84) (pc' := 91) rfl (hb hby at_84) rfl (own_ltT hc84_16).1 (by decide) (by decide) k) ?_
          show own_Fin _ _ _ _ _ _ _ (T3.setTop (mkF m 91 #[.val (.long q1), .second, .val (.int p2), .val (.long (q1 &&& (9223372036854775807 : Int64))), .second, .val (.int (0 : Int32)), .val (.long (own_F1 (q1 &&& (9223372036854775807 : Int64)) (0 : Int32))), .second, .val (.int (0 : Int32)), .unset, .unset] []))
          refine own_st (fun t k => XS.iconst X3.here hx rfl (hb hby at_91) k) ?_
          show own_Fin _ _ _ _ _ _ _ (T3.setTop (mkF m 92 #[.val (.long q1), .second, .val (.int p2), .val (.long (q1 &&& (9223372036854775807 : Int64))), .second, .val (.int (0 : Int32)), .val (.long (own_F1 (q1 &&& (9223372036854775807 : Int64)) (0 : Int32))), .second, .val (.int (0 : Int32)), .unset, .unset] [(.int (0 : Int32))]))
          refine own_st (fun t k => XS.istore X3.here hx rfl (hb hby at_92) rfl (l' := #[.val (.long q1), .second, .val (.int p2), .val (.long (q1 &&& (9223372036854775807 : Int64))), .second, .val (.int (0 : Int32)), .val (.long (own_F1 (q1 &&& (9223372036854775807 : Int64)) (0 : Int32))), .second, .val (.int (0 : Int32)), .val (.int (0 : Int32)), .unset]) rfl k) ?_
          show own_Fin _ _ _ _ _ _ _ (T3.setTop (mkF m 94 #[.val (.long q1), .second, .val (.int p2), .val (.long (q1 &&& (9223372036854775807 : Int64))), .second, .val (.int (0 : Int32)), .val (.long (own_F1 (q1 &&& (9223372036854775807 : Int64)) (0 : Int32))), .second, .val (.int (0 : Int32)), .val (.int (0 : Int32)), .unset] []))
          refine own_st (fun t k => XS.iload X3.here hx rfl (hb hby at_94) rfl k) ?_
          show own_Fin _ _ _ _ _ _ _ (T3.setTop (mkF m 96 #[.val (.long q1), .second, .val (.int p2), .val (.long (q1 &&& (9223372036854775807 : Int64))), .second, .val (.int (0 : Int32)), .val (.long (own_F1 (q1 &&& (9223372036854775807 : Int64)) (0 : Int32))), .second, .val (.int (0 : Int32)), .val (.int (0 : Int32)), .unset] [(.int (0 : Int32))]))
          refine own_st (fun t k => XS.ifNo X3.here hx rfl (hb hby at_96) rfl ((if0 _ _).trans (teq (by decide : (0 : Int32) = (0 : Int32))).2) k) ?_
          show own_Fin _ _ _ _ _ _ _ (T3.setTop (mkF m 99 #[.val (.long q1), .second, .val (.int p2), .val (.long (q1 &&& (9223372036854775807 : Int64))), .second, .val (.int (0 : Int32)), .val (.long (own_F1 (q1 &&& (9223372036854775807 : Int64)) (0 : Int32))), .second, .val (.int (0 : Int32)), .val (.int (0 : Int32)), .unset] []))
          refine own_st (fun t k => XS.lloadN X3.here hx rfl (hb hby at_99) rfl k) ?_
          show own_Fin _ _ _ _ _ _ _ (T3.setTop (mkF m 100 #[.val (.long q1), .second, .val (.int p2), .val (.long (q1 &&& (9223372036854775807 : Int64))), .second, .val (.int (0 : Int32)), .val (.long (own_F1 (q1 &&& (9223372036854775807 : Int64)) (0 : Int32))), .second, .val (.int (0 : Int32)), .val (.int (0 : Int32)), .unset] [(.long (q1 &&& (9223372036854775807 : Int64)))]))
          refine own_st (fun t k => XS.lconst X3.here hx rfl (hb hby at_100) k) ?_
          show own_Fin _ _ _ _ _ _ _ (T3.setTop (mkF m 101 #[.val (.long q1), .second, .val (.int p2), .val (.long (q1 &&& (9223372036854775807 : Int64))), .second, .val (.int (0 : Int32)), .val (.long (own_F1 (q1 &&& (9223372036854775807 : Int64)) (0 : Int32))), .second, .val (.int (0 : Int32)), .val (.int (0 : Int32)), .unset] [(.long (0 : Int64)), (.long (q1 &&& (9223372036854775807 : Int64)))]))
          refine own_st (fun t k => XS.lcmp X3.here hx rfl (hb hby at_101) rfl k) ?_
          show own_Fin _ _ _ _ _ _ _ (T3.setTop (mkF m 102 #[.val (.long q1), .second, .val (.int p2), .val (.long (q1 &&& (9223372036854775807 : Int64))), .second, .val (.int (0 : Int32)), .val (.long (own_F1 (q1 &&& (9223372036854775807 : Int64)) (0 : Int32))), .second, .val (.int (0 : Int32)), .val (.int (0 : Int32)), .unset] [(.int (lcmpW (q1 &&& (9223372036854775807 : Int64)) (0 : Int64)))]))
          by_cases hc102_17 : (q1 &&& (9223372036854775807 : Int64)) = (0 : Int64)
          · refine own_st (fun t k => XS.ifNo X3.here hx rfl (hb hby at_102) rfl (own_eqT hc102_17).2 k) ?_
            show own_Fin _ _ _ _ _ _ _ (T3.setTop (mkF m 105 #[.val (.long q1), .second, .val (.int p2), .val (.long (q1 &&& (9223372036854775807 : Int64))), .second, .val (.int (0 : Int32)), .val (.long (own_F1 (q1 &&& (9223372036854775807 : Int64)) (0 : Int32))), .second, .val (.int (0 : Int32)), .val (.int (0 : Int32)), .unset] []))
            refine own_st (fun t k => XS.lload X3.here hx rfl (hb hby at_105) rfl k) ?_
            show own_Fin _ _ _ _ _ _ _ (T3.setTop (mkF m 107 #[.val (.long q1), .second, .val (.int p2), .val (.long (q1 &&& (9223372036854775807 : Int64))), .second, .val (.int (0 : Int32)), .val (.long (own_F1 (q1 &&& (9223372036854775807 : Int64)) (0 : Int32))), .second, .val (.int (0 : Int32)), .val (.int (0 : Int32)), .unset] [(.long (own_F1 (q1 &&& (9223372036854775807 : Int64)) (0 : Int32)))]))
            refine own_st (fun t k => XS.lconst X3.here hx rfl (hb hby at_107) k) ?_
            show own_Fin _ _ _ _ _ _ _ (T3.setTop (mkF m 108 #[.val (.long q1), .second, .val (.int p2), .val (.long (q1 &&& (9223372036854775807 : Int64))), .second, .val (.int (0 : Int32)), .val (.long (own_F1 (q1 &&& (9223372036854775807 : Int64)) (0 : Int32))), .second, .val (.int (0 : Int32)), .val (.int (0 : Int32)), .unset] [(.long (0 : Int64)), (.long (own_F1 (q1 &&& (9223372036854775807 : Int64)) (0 : Int32)))]))
            refine own_st (fun t k => XS.lcmp X3.here hx rfl (hb hby at_108) rfl k) ?_
            show own_Fin _ _ _ _ _ _ _ (T3.setTop (mkF m 109 #[.val (.long q1), .second, .val (.int p2), .val (.long (q1 &&& (9223372036854775807 : Int64))), .second, .val (.int (0 : Int32)), .val (.long (own_F1 (q1 &&& (9223372036854775807 : Int64)) (0 : Int32))), .second, .val (.int (0 : Int32)), .val (.int (0 : Int32)), .unset] [(.int (lcmpW (own_F1 (q1 &&& (9223372036854775807 : Int64)) (0 : Int32)) (0 : Int64)))]))
            by_cases hc109_18 : (own_F1 (q1 &&& (9223372036854775807 : Int64)) (0 : Int32)) = (0 : Int64)
            · refine own_st (fun t k => XS.ifNo X3.here hx rfl (hb hby at_109) rfl (own_eqT hc109_18).2 k) ?_
              show own_Fin _ _ _ _ _ _ _ (T3.setTop (mkF m 112 #[.val (.long q1), .second, .val (.int p2), .val (.long (q1 &&& (9223372036854775807 : Int64))), .second, .val (.int (0 : Int32)), .val (.long (own_F1 (q1 &&& (9223372036854775807 : Int64)) (0 : Int32))), .second, .val (.int (0 : Int32)), .val (.int (0 : Int32)), .unset] []))
              refine own_st (fun t k => XS.iconst X3.here hx rfl (hb hby at_112) k) ?_
              show own_Fin _ _ _ _ _ _ _ (T3.setTop (mkF m 113 #[.val (.long q1), .second, .val (.int p2), .val (.long (q1 &&& (9223372036854775807 : Int64))), .second, .val (.int (0 : Int32)), .val (.long (own_F1 (q1 &&& (9223372036854775807 : Int64)) (0 : Int32))), .second, .val (.int (0 : Int32)), .val (.int (0 : Int32)), .unset] [(.int (1 : Int32))]))
              refine own_st (fun t k => XS.goto X3.here hx rfl (pc0 := 113) (pc' := 117) rfl (hb hby at_113) (by decide) (by decide) k) ?_
              show own_Fin _ _ _ _ _ _ _ (T3.setTop (mkF m 117 #[.val (.long q1), .second, .val (.int p2), .val (.long (q1 &&& (9223372036854775807 : Int64))), .second, .val (.int (0 : Int32)), .val (.long (own_F1 (q1 &&& (9223372036854775807 : Int64)) (0 : Int32))), .second, .val (.int (0 : Int32)), .val (.int (0 : Int32)), .unset] [(.int (1 : Int32))]))
              refine own_st (fun t k => XS.istore X3.here hx rfl (hb hby at_117) rfl (l' := #[.val (.long q1), .second, .val (.int p2), .val (.long (q1 &&& (9223372036854775807 : Int64))), .second, .val (.int (0 : Int32)), .val (.long (own_F1 (q1 &&& (9223372036854775807 : Int64)) (0 : Int32))), .second, .val (.int (0 : Int32)), .val (.int (0 : Int32)), .val (.int (1 : Int32))]) rfl k) ?_
              show own_Fin _ _ _ _ _ _ _ (T3.setTop (mkF m 119 #[.val (.long q1), .second, .val (.int p2), .val (.long (q1 &&& (9223372036854775807 : Int64))), .second, .val (.int (0 : Int32)), .val (.long (own_F1 (q1 &&& (9223372036854775807 : Int64)) (0 : Int32))), .second, .val (.int (0 : Int32)), .val (.int (0 : Int32)), .val (.int (1 : Int32))] []))
              refine own_st (fun t k => XS.iload X3.here hx rfl (hb hby at_119) rfl k) ?_
              show own_Fin _ _ _ _ _ _ _ (T3.setTop (mkF m 121 #[.val (.long q1), .second, .val (.int p2), .val (.long (q1 &&& (9223372036854775807 : Int64))), .second, .val (.int (0 : Int32)), .val (.long (own_F1 (q1 &&& (9223372036854775807 : Int64)) (0 : Int32))), .second, .val (.int (0 : Int32)), .val (.int (0 : Int32)), .val (.int (1 : Int32))] [(.int (0 : Int32))]))
              refine own_st (fun t k => XS.ifYes X3.here hx rfl (pc0 := 121) (pc' := 138) rfl (hb hby at_121) rfl ((if0 _ _).trans (teq (by decide : (0 : Int32) = (0 : Int32))).1) (by decide) (by decide) k) ?_
              show own_Fin _ _ _ _ _ _ _ (T3.setTop (mkF m 138 #[.val (.long q1), .second, .val (.int p2), .val (.long (q1 &&& (9223372036854775807 : Int64))), .second, .val (.int (0 : Int32)), .val (.long (own_F1 (q1 &&& (9223372036854775807 : Int64)) (0 : Int32))), .second, .val (.int (0 : Int32)), .val (.int (0 : Int32)), .val (.int (1 : Int32))] []))
              refine own_st (fun t k => XS.iconst X3.here hx rfl (hb hby at_138) k) ?_
              show own_Fin _ _ _ _ _ _ _ (T3.setTop (mkF m 139 #[.val (.long q1), .second, .val (.int p2), .val (.long (q1 &&& (9223372036854775807 : Int64))), .second, .val (.int (0 : Int32)), .val (.long (own_F1 (q1 &&& (9223372036854775807 : Int64)) (0 : Int32))), .second, .val (.int (0 : Int32)), .val (.int (0 : Int32)), .val (.int (1 : Int32))] [(.int (0 : Int32))]))
              have hv : own_F0 q1 p2 = (0 : Int32) := by unfold own_F0; rw [if_pos hc9_1, if_neg hc34_4, if_neg hc71_13, if_pos hc84_16, if_pos hc102_17, if_pos hc109_18]
              exact own_retN X3 hx Bd.notSynchronized (t := .boolean) Bd.returns (by simp) (hb hby at_139) (by decide) (by decide) ⟨congrArg (fun z => some (Value.int z)) hv.symm, N3, e3⟩
            · refine own_st (fun t k => XS.ifYes X3.here hx rfl (pc0 := 109) (pc' := 116) rfl (hb hby at_109) rfl (own_eqF hc109_18).2 (by decide) (by decide) k) ?_
              show own_Fin _ _ _ _ _ _ _ (T3.setTop (mkF m 116 #[.val (.long q1), .second, .val (.int p2), .val (.long (q1 &&& (9223372036854775807 : Int64))), .second, .val (.int (0 : Int32)), .val (.long (own_F1 (q1 &&& (9223372036854775807 : Int64)) (0 : Int32))), .second, .val (.int (0 : Int32)), .val (.int (0 : Int32)), .unset] []))
              refine own_st (fun t k => XS.iconst X3.here hx rfl (hb hby at_116) k) ?_
              show own_Fin _ _ _ _ _ _ _ (T3.setTop (mkF m 117 #[.val (.long q1), .second, .val (.int p2), .val (.long (q1 &&& (9223372036854775807 : Int64))), .second, .val (.int (0 : Int32)), .val (.long (own_F1 (q1 &&& (9223372036854775807 : Int64)) (0 : Int32))), .second, .val (.int (0 : Int32)), .val (.int (0 : Int32)), .unset] [(.int (0 : Int32))]))
              refine own_st (fun t k => XS.istore X3.here hx rfl (hb hby at_117) rfl (l' := #[.val (.long q1), .second, .val (.int p2), .val (.long (q1 &&& (9223372036854775807 : Int64))), .second, .val (.int (0 : Int32)), .val (.long (own_F1 (q1 &&& (9223372036854775807 : Int64)) (0 : Int32))), .second, .val (.int (0 : Int32)), .val (.int (0 : Int32)), .val (.int (0 : Int32))]) rfl k) ?_
              show own_Fin _ _ _ _ _ _ _ (T3.setTop (mkF m 119 #[.val (.long q1), .second, .val (.int p2), .val (.long (q1 &&& (9223372036854775807 : Int64))), .second, .val (.int (0 : Int32)), .val (.long (own_F1 (q1 &&& (9223372036854775807 : Int64)) (0 : Int32))), .second, .val (.int (0 : Int32)), .val (.int (0 : Int32)), .val (.int (0 : Int32))] []))
              refine own_st (fun t k => XS.iload X3.here hx rfl (hb hby at_119) rfl k) ?_
              show own_Fin _ _ _ _ _ _ _ (T3.setTop (mkF m 121 #[.val (.long q1), .second, .val (.int p2), .val (.long (q1 &&& (9223372036854775807 : Int64))), .second, .val (.int (0 : Int32)), .val (.long (own_F1 (q1 &&& (9223372036854775807 : Int64)) (0 : Int32))), .second, .val (.int (0 : Int32)), .val (.int (0 : Int32)), .val (.int (0 : Int32))] [(.int (0 : Int32))]))
              refine own_st (fun t k => XS.ifYes X3.here hx rfl (pc0 := 121) (pc' := 138) rfl (hb hby at_121) rfl ((if0 _ _).trans (teq (by decide : (0 : Int32) = (0 : Int32))).1) (by decide) (by decide) k) ?_
              show own_Fin _ _ _ _ _ _ _ (T3.setTop (mkF m 138 #[.val (.long q1), .second, .val (.int p2), .val (.long (q1 &&& (9223372036854775807 : Int64))), .second, .val (.int (0 : Int32)), .val (.long (own_F1 (q1 &&& (9223372036854775807 : Int64)) (0 : Int32))), .second, .val (.int (0 : Int32)), .val (.int (0 : Int32)), .val (.int (0 : Int32))] []))
              refine own_st (fun t k => XS.iconst X3.here hx rfl (hb hby at_138) k) ?_
              show own_Fin _ _ _ _ _ _ _ (T3.setTop (mkF m 139 #[.val (.long q1), .second, .val (.int p2), .val (.long (q1 &&& (9223372036854775807 : Int64))), .second, .val (.int (0 : Int32)), .val (.long (own_F1 (q1 &&& (9223372036854775807 : Int64)) (0 : Int32))), .second, .val (.int (0 : Int32)), .val (.int (0 : Int32)), .val (.int (0 : Int32))] [(.int (0 : Int32))]))
              have hv : own_F0 q1 p2 = (0 : Int32) := by unfold own_F0; rw [if_pos hc9_1, if_neg hc34_4, if_neg hc71_13, if_pos hc84_16, if_pos hc102_17, if_neg hc109_18]
              exact own_retN X3 hx Bd.notSynchronized (t := .boolean) Bd.returns (by simp) (hb hby at_139) (by decide) (by decide) ⟨congrArg (fun z => some (Value.int z)) hv.symm, N3, e3⟩
          · refine own_st (fun t k => XS.ifYes X3.here hx rfl (pc0 := 102) (pc' := 112) rfl (hb hby at_102) rfl (own_eqF hc102_17).2 (by decide) (by decide) k) ?_
            show own_Fin _ _ _ _ _ _ _ (T3.setTop (mkF m 112 #[.val (.long q1), .second, .val (.int p2), .val (.long (q1 &&& (9223372036854775807 : Int64))), .second, .val (.int (0 : Int32)), .val (.long (own_F1 (q1 &&& (9223372036854775807 : Int64)) (0 : Int32))), .second, .val (.int (0 : Int32)), .val (.int (0 : Int32)), .unset] []))
            refine own_st (fun t k => XS.iconst X3.here hx rfl (hb hby at_112) k) ?_
            show own_Fin _ _ _ _ _ _ _ (T3.setTop (mkF m 113 #[.val (.long q1), .second, .val (.int p2), .val (.long (q1 &&& (9223372036854775807 : Int64))), .second, .val (.int (0 : Int32)), .val (.long (own_F1 (q1 &&& (9223372036854775807 : Int64)) (0 : Int32))), .second, .val (.int (0 : Int32)), .val (.int (0 : Int32)), .unset] [(.int (1 : Int32))]))
            refine own_st (fun t k => XS.goto X3.here hx rfl (pc0 := 113) (pc' := 117) rfl (hb hby at_113) (by decide) (by decide) k) ?_
            show own_Fin _ _ _ _ _ _ _ (T3.setTop (mkF m 117 #[.val (.long q1), .second, .val (.int p2), .val (.long (q1 &&& (9223372036854775807 : Int64))), .second, .val (.int (0 : Int32)), .val (.long (own_F1 (q1 &&& (9223372036854775807 : Int64)) (0 : Int32))), .second, .val (.int (0 : Int32)), .val (.int (0 : Int32)), .unset] [(.int (1 : Int32))]))
            refine own_st (fun t k => XS.istore X3.here hx rfl (hb hby at_117) rfl (l' := #[.val (.long q1), .second, .val (.int p2), .val (.long (q1 &&& (9223372036854775807 : Int64))), .second, .val (.int (0 : Int32)), .val (.long (own_F1 (q1 &&& (9223372036854775807 : Int64)) (0 : Int32))), .second, .val (.int (0 : Int32)), .val (.int (0 : Int32)), .val (.int (1 : Int32))]) rfl k) ?_
            show own_Fin _ _ _ _ _ _ _ (T3.setTop (mkF m 119 #[.val (.long q1), .second, .val (.int p2), .val (.long (q1 &&& (9223372036854775807 : Int64))), .second, .val (.int (0 : Int32)), .val (.long (own_F1 (q1 &&& (9223372036854775807 : Int64)) (0 : Int32))), .second, .val (.int (0 : Int32)), .val (.int (0 : Int32)), .val (.int (1 : Int32))] []))
            refine own_st (fun t k => XS.iload X3.here hx rfl (hb hby at_119) rfl k) ?_
            show own_Fin _ _ _ _ _ _ _ (T3.setTop (mkF m 121 #[.val (.long q1), .second, .val (.int p2), .val (.long (q1 &&& (9223372036854775807 : Int64))), .second, .val (.int (0 : Int32)), .val (.long (own_F1 (q1 &&& (9223372036854775807 : Int64)) (0 : Int32))), .second, .val (.int (0 : Int32)), .val (.int (0 : Int32)), .val (.int (1 : Int32))] [(.int (0 : Int32))]))
            refine own_st (fun t k => XS.ifYes X3.here hx rfl (pc0 := 121) (pc' := 138) rfl (hb hby at_121) rfl ((if0 _ _).trans (teq (by decide : (0 : Int32) = (0 : Int32))).1) (by decide) (by decide) k) ?_
            show own_Fin _ _ _ _ _ _ _ (T3.setTop (mkF m 138 #[.val (.long q1), .second, .val (.int p2), .val (.long (q1 &&& (9223372036854775807 : Int64))), .second, .val (.int (0 : Int32)), .val (.long (own_F1 (q1 &&& (9223372036854775807 : Int64)) (0 : Int32))), .second, .val (.int (0 : Int32)), .val (.int (0 : Int32)), .val (.int (1 : Int32))] []))
            refine own_st (fun t k => XS.iconst X3.here hx rfl (hb hby at_138) k) ?_
            show own_Fin _ _ _ _ _ _ _ (T3.setTop (mkF m 139 #[.val (.long q1), .second, .val (.int p2), .val (.long (q1 &&& (9223372036854775807 : Int64))), .second, .val (.int (0 : Int32)), .val (.long (own_F1 (q1 &&& (9223372036854775807 : Int64)) (0 : Int32))), .second, .val (.int (0 : Int32)), .val (.int (0 : Int32)), .val (.int (1 : Int32))] [(.int (0 : Int32))]))
            have hv : own_F0 q1 p2 = (0 : Int32) := by unfold own_F0; rw [if_pos hc9_1, if_neg hc34_4, if_neg hc71_13, if_pos hc84_16, if_neg hc102_17]
            exact own_retN X3 hx Bd.notSynchronized (t := .boolean) Bd.returns (by simp) (hb hby at_139) (by decide) (by decide) ⟨congrArg (fun z => some (Value.int z)) hv.symm, N3, e3⟩
        · refine own_st (fun t k => XS.ifNo X3.here hx rfl (hb hby at_84) rfl (own_ltF hc84_16).1 k) ?_
          show own_Fin _ _ _ _ _ _ _ (T3.setTop (mkF m 87 #[.val (.long q1), .second, .val (.int p2), .val (.long (q1 &&& (9223372036854775807 : Int64))), .second, .val (.int (0 : Int32)), .val (.long (own_F1 (q1 &&& (9223372036854775807 : Int64)) (0 : Int32))), .second, .val (.int (0 : Int32)), .unset, .unset] []))
          refine own_st (fun t k => XS.iconst X3.here hx rfl (hb hby at_87) k) ?_
          show own_Fin _ _ _ _ _ _ _ (T3.setTop (mkF m 88 #[.val (.long q1), .second, .val (.int p2), .val (.long (q1 &&& (9223372036854775807 : Int64))), .second, .val (.int (0 : Int32)), .val (.long (own_F1 (q1 &&& (9223372036854775807 : Int64)) (0 : Int32))), .second, .val (.int (0 : Int32)), .unset, .unset] [(.int (1 : Int32))]))
          refine own_st (fun t k => XS.goto X3.here hx rfl (pc0 := 88) (pc' := 92) rfl (hb hby at_88) (by decide) (by decide) k) ?_
          show own_Fin _ _ _ _ _ _ _ (T3.setTop (mkF m 92 #[.val (.long q1), .second, .val (.int p2), .val (.long (q1 &&& (9223372036854775807 : Int64))), .second, .val (.int (0 : Int32)), .val (.long (own_F1 (q1 &&& (9223372036854775807 : Int64)) (0 : Int32))), .second, .val (.int (0 : Int32)), .unset, .unset] [(.int (1 : Int32))]))
          refine own_st (fun t k => XS.istore X3.here hx rfl (hb hby at_92) rfl (l' := #[.val (.long q1), .second, .val (.int p2), .val (.long (q1 &&& (9223372036854775807 : Int64))), .second, .val (.int (0 : Int32)), .val (.long (own_F1 (q1 &&& (9223372036854775807 : Int64)) (0 : Int32))), .second, .val (.int (0 : Int32)), .val (.int (1 : Int32)), .unset]) rfl k) ?_
          show own_Fin _ _ _ _ _ _ _ (T3.setTop (mkF m 94 #[.val (.long q1), .second, .val (.int p2), .val (.long (q1 &&& (9223372036854775807 : Int64))), .second, .val (.int (0 : Int32)), .val (.long (own_F1 (q1 &&& (9223372036854775807 : Int64)) (0 : Int32))), .second, .val (.int (0 : Int32)), .val (.int (1 : Int32)), .unset] []))
          refine own_st (fun t k => XS.iload X3.here hx rfl (hb hby at_94) rfl k) ?_
          show own_Fin _ _ _ _ _ _ _ (T3.setTop (mkF m 96 #[.val (.long q1), .second, .val (.int p2), .val (.long (q1 &&& (9223372036854775807 : Int64))), .second, .val (.int (0 : Int32)), .val (.long (own_F1 (q1 &&& (9223372036854775807 : Int64)) (0 : Int32))), .second, .val (.int (0 : Int32)), .val (.int (1 : Int32)), .unset] [(.int (0 : Int32))]))
          refine own_st (fun t k => XS.ifNo X3.here hx rfl (hb hby at_96) rfl ((if0 _ _).trans (teq (by decide : (0 : Int32) = (0 : Int32))).2) k) ?_
          show own_Fin _ _ _ _ _ _ _ (T3.setTop (mkF m 99 #[.val (.long q1), .second, .val (.int p2), .val (.long (q1 &&& (9223372036854775807 : Int64))), .second, .val (.int (0 : Int32)), .val (.long (own_F1 (q1 &&& (9223372036854775807 : Int64)) (0 : Int32))), .second, .val (.int (0 : Int32)), .val (.int (1 : Int32)), .unset] []))
          refine own_st (fun t k => XS.lloadN X3.here hx rfl (hb hby at_99) rfl k) ?_
          show own_Fin _ _ _ _ _ _ _ (T3.setTop (mkF m 100 #[.val (.long q1), .second, .val (.int p2), .val (.long (q1 &&& (9223372036854775807 : Int64))), .second, .val (.int (0 : Int32)), .val (.long (own_F1 (q1 &&& (9223372036854775807 : Int64)) (0 : Int32))), .second, .val (.int (0 : Int32)), .val (.int (1 : Int32)), .unset] [(.long (q1 &&& (9223372036854775807 : Int64)))]))
          refine own_st (fun t k => XS.lconst X3.here hx rfl (hb hby at_100) k) ?_
          show own_Fin _ _ _ _ _ _ _ (T3.setTop (mkF m 101 #[.val (.long q1), .second, .val (.int p2), .val (.long (q1 &&& (9223372036854775807 : Int64))), .second, .val (.int (0 : Int32)), .val (.long (own_F1 (q1 &&& (9223372036854775807 : Int64)) (0 : Int32))), .second, .val (.int (0 : Int32)), .val (.int (1 : Int32)), .unset] [(.long (0 : Int64)), (.long (q1 &&& (9223372036854775807 : Int64)))]))
          refine own_st (fun t k => XS.lcmp X3.here hx rfl (hb hby at_101) rfl k) ?_
          show own_Fin _ _ _ _ _ _ _ (T3.setTop (mkF m 102 #[.val (.long q1), .second, .val (.int p2), .val (.long (q1 &&& (9223372036854775807 : Int64))), .second, .val (.int (0 : Int32)), .val (.long (own_F1 (q1 &&& (9223372036854775807 : Int64)) (0 : Int32))), .second, .val (.int (0 : Int32)), .val (.int (1 : Int32)), .unset] [(.int (lcmpW (q1 &&& (9223372036854775807 : Int64)) (0 : Int64)))]))
          by_cases hc102_19 : (q1 &&& (9223372036854775807 : Int64)) = (0 : Int64)
          · refine own_st (fun t k => XS.ifNo X3.here hx rfl (hb hby at_102) rfl (own_eqT hc102_19).2 k) ?_
            show own_Fin _ _ _ _ _ _ _ (T3.setTop (mkF m 105 #[.val (.long q1), .second, .val (.int p2), .val (.long (q1 &&& (9223372036854775807 : Int64))), .second, .val (.int (0 : Int32)), .val (.long (own_F1 (q1 &&& (9223372036854775807 : Int64)) (0 : Int32))), .second, .val (.int (0 : Int32)), .val (.int (1 : Int32)), .unset] []))
            refine own_st (fun t k => XS.lload X3.here hx rfl (hb hby at_105) rfl k) ?_
            show own_Fin _ _ _ _ _ _ _ (T3.setTop (mkF m 107 #[.val (.long q1), .second, .val (.int p2), .val (.long (q1 &&& (9223372036854775807 : Int64))), .second, .val (.int (0 : Int32)), .val (.long (own_F1 (q1 &&& (9223372036854775807 : Int64)) (0 : Int32))), .second, .val (.int (0 : Int32)), .val (.int (1 : Int32)), .unset] [(.long (own_F1 (q1 &&& (9223372036854775807 : Int64)) (0 : Int32)))]))
            refine own_st (fun t k => XS.lconst X3.here hx rfl (hb hby at_107) k) ?_
            show own_Fin _ _ _ _ _ _ _ (T3.setTop (mkF m 108 #[.val (.long q1), .second, .val (.int p2), .val (.long (q1 &&& (9223372036854775807 : Int64))), .second, .val (.int (0 : Int32)), .val (.long (own_F1 (q1 &&& (9223372036854775807 : Int64)) (0 : Int32))), .second, .val (.int (0 : Int32)), .val (.int (1 : Int32)), .unset] [(.long (0 : Int64)), (.long (own_F1 (q1 &&& (9223372036854775807 : Int64)) (0 : Int32)))]))
            refine own_st (fun t k => XS.lcmp X3.here hx rfl (hb hby at_108) rfl k) ?_
            show own_Fin _ _ _ _ _ _ _ (T3.setTop (mkF m 109 #[.val (.long q1), .second, .val (.int p2), .val (.long (q1 &&& (9223372036854775807 : Int64))), .second, .val (.int (0 : Int32)), .val (.long (own_F1 (q1 &&& (9223372036854775807 : Int64)) (0 : Int32))), .second, .val (.int (0 : Int32)), .val (.int (1 : Int32)), .unset] [(.int (lcmpW (own_F1 (q1 &&& (9223372036854775807 : Int64)) (0 : Int32)) (0 : Int64)))]))
            by_cases hc109_20 : (own_F1 (q1 &&& (9223372036854775807 : Int64)) (0 : Int32)) = (0 : Int64)
            · refine own_st (fun t k => XS.ifNo X3.here hx rfl (hb hby at_109) rfl (own_eqT hc109_20).2 k) ?_
              show own_Fin _ _ _ _ _ _ _ (T3.setTop (mkF m 112 #[.val (.long q1), .second, .val (.int p2), .val (.long (q1 &&& (9223372036854775807 : Int64))), .second, .val (.int (0 : Int32)), .val (.long (own_F1 (q1 &&& (9223372036854775807 : Int64)) (0 : Int32))), .second, .val (.int (0 : Int32)), .val (.int (1 : Int32)), .unset] []))
              refine own_st (fun t k => XS.iconst X3.here hx rfl (hb hby at_112) k) ?_
              show own_Fin _ _ _ _ _ _ _ (T3.setTop (mkF m 113 #[.val (.long q1), .second, .val (.int p2), .val (.long (q1 &&& (9223372036854775807 : Int64))), .second, .val (.int (0 : Int32)), .val (.long (own_F1 (q1 &&& (9223372036854775807 : Int64)) (0 : Int32))), .second, .val (.int (0 : Int32)), .val (.int (1 : Int32)), .unset] [(.int (1 : Int32))]))
              refine own_st (fun t k => XS.goto X3.here hx rfl (pc0 := 113) (pc' := 117) rfl (hb hby at_113) (by decide) (by decide) k) ?_
              show own_Fin _ _ _ _ _ _ _ (T3.setTop (mkF m 117 #[.val (.long q1), .second, .val (.int p2), .val (.long (q1 &&& (9223372036854775807 : Int64))), .second, .val (.int (0 : Int32)), .val (.long (own_F1 (q1 &&& (9223372036854775807 : Int64)) (0 : Int32))), .second, .val (.int (0 : Int32)), .val (.int (1 : Int32)), .unset] [(.int (1 : Int32))]))
              refine own_st (fun t k => XS.istore X3.here hx rfl (hb hby at_117) rfl (l' := #[.val (.long q1), .second, .val (.int p2), .val (.long (q1 &&& (9223372036854775807 : Int64))), .second, .val (.int (0 : Int32)), .val (.long (own_F1 (q1 &&& (9223372036854775807 : Int64)) (0 : Int32))), .second, .val (.int (0 : Int32)), .val (.int (1 : Int32)), .val (.int (1 : Int32))]) rfl k) ?_
              show own_Fin _ _ _ _ _ _ _ (T3.setTop (mkF m 119 #[.val (.long q1), .second, .val (.int p2), .val (.long (q1 &&& (9223372036854775807 : Int64))), .second, .val (.int (0 : Int32)), .val (.long (own_F1 (q1 &&& (9223372036854775807 : Int64)) (0 : Int32))), .second, .val (.int (0 : Int32)), .val (.int (1 : Int32)), .val (.int (1 : Int32))] []))
              refine own_st (fun t k => XS.iload X3.here hx rfl (hb hby at_119) rfl k) ?_
              show own_Fin _ _ _ _ _ _ _ (T3.setTop (mkF m 121 #[.val (.long q1), .second, .val (.int p2), .val (.long (q1 &&& (9223372036854775807 : Int64))), .second, .val (.int (0 : Int32)), .val (.long (own_F1 (q1 &&& (9223372036854775807 : Int64)) (0 : Int32))), .second, .val (.int (0 : Int32)), .val (.int (1 : Int32)), .val (.int (1 : Int32))] [(.int (0 : Int32))]))
              refine own_st (fun t k => XS.ifYes X3.here hx rfl (pc0 := 121) (pc' := 138) rfl (hb hby at_121) rfl ((if0 _ _).trans (teq (by decide : (0 : Int32) = (0 : Int32))).1) (by decide) (by decide) k) ?_
              show own_Fin _ _ _ _ _ _ _ (T3.setTop (mkF m 138 #[.val (.long q1), .second, .val (.int p2), .val (.long (q1 &&& (9223372036854775807 : Int64))), .second, .val (.int (0 : Int32)), .val (.long (own_F1 (q1 &&& (9223372036854775807 : Int64)) (0 : Int32))), .second, .val (.int (0 : Int32)), .val (.int (1 : Int32)), .val (.int (1 : Int32))] []))
              refine own_st (fun t k => XS.iconst X3.here hx rfl (hb hby at_138) k) ?_
              show own_Fin _ _ _ _ _ _ _ (T3.setTop (mkF m 139 #[.val (.long q1), .second, .val (.int p2), .val (.long (q1 &&& (9223372036854775807 : Int64))), .second, .val (.int (0 : Int32)), .val (.long (own_F1 (q1 &&& (9223372036854775807 : Int64)) (0 : Int32))), .second, .val (.int (0 : Int32)), .val (.int (1 : Int32)), .val (.int (1 : Int32))] [(.int (0 : Int32))]))
              have hv : own_F0 q1 p2 = (0 : Int32) := by unfold own_F0; rw [if_pos hc9_1, if_neg hc34_4, if_neg hc71_13, if_neg hc84_16, if_pos hc102_19, if_pos hc109_20]
              exact own_retN X3 hx Bd.notSynchronized (t := .boolean) Bd.returns (by simp) (hb hby at_139) (by decide) (by decide) ⟨congrArg (fun z => some (Value.int z)) hv.symm, N3, e3⟩
            · refine own_st (fun t k => XS.ifYes X3.here hx rfl (pc0 := 109) (pc' := 116) rfl (hb hby at_109) rfl (own_eqF hc109_20).2 (by decide) (by decide) k) ?_
              show own_Fin _ _ _ _ _ _ _ (T3.setTop (mkF m 116 #[.val (.long q1), .second, .val (.int p2), .val (.long (q1 &&& (9223372036854775807 : Int64))), .second, .val (.int (0 : Int32)), .val (.long (own_F1 (q1 &&& (9223372036854775807 : Int64)) (0 : Int32))), .second, .val (.int (0 : Int32)), .val (.int (1 : Int32)), .unset] []))
              refine own_st (fun t k => XS.iconst X3.here hx rfl (hb hby at_116) k) ?_
              show own_Fin _ _ _ _ _ _ _ (T3.setTop (mkF m 117 #[.val (.long q1), .second, .val (.int p2), .val (.long (q1 &&& (9223372036854775807 : Int64))), .second, .val (.int (0 : Int32)), .val (.long (own_F1 (q1 &&& (9223372036854775807 : Int64)) (0 : Int32))), .second, .val (.int (0 : Int32)), .val (.int (1 : Int32)), .unset] [(.int (0 : Int32))]))
              refine own_st (fun t k => XS.istore X3.here hx rfl (hb hby at_117) rfl (l' := #[.val (.long q1), .second, .val (.int p2), .val (.long (q1 &&& (9223372036854775807 : Int64))), .second, .val (.int (0 : Int32)), .val (.long (own_F1 (q1 &&& (9223372036854775807 : Int64)) (0 : Int32))), .second, .val (.int (0 : Int32)), .val (.int (1 : Int32)), .val (.int (0 : Int32))]) rfl k) ?_
              show own_Fin _ _ _ _ _ _ _ (T3.setTop (mkF m 119 #[.val (.long q1), .second, .val (.int p2), .val (.long (q1 &&& (9223372036854775807 : Int64))), .second, .val (.int (0 : Int32)), .val (.long (own_F1 (q1 &&& (9223372036854775807 : Int64)) (0 : Int32))), .second, .val (.int (0 : Int32)), .val (.int (1 : Int32)), .val (.int (0 : Int32))] []))
              refine own_st (fun t k => XS.iload X3.here hx rfl (hb hby at_119) rfl k) ?_
              show own_Fin _ _ _ _ _ _ _ (T3.setTop (mkF m 121 #[.val (.long q1), .second, .val (.int p2), .val (.long (q1 &&& (9223372036854775807 : Int64))), .second, .val (.int (0 : Int32)), .val (.long (own_F1 (q1 &&& (9223372036854775807 : Int64)) (0 : Int32))), .second, .val (.int (0 : Int32)), .val (.int (1 : Int32)), .val (.int (0 : Int32))] [(.int (0 : Int32))]))
              refine own_st (fun t k => XS.ifYes X3.here hx rfl (pc0 := 121) (pc' := 138) rfl (hb hby at_121) rfl ((if0 _ _).trans (teq (by decide : (0 : Int32) = (0 : Int32))).1) (by decide) (by decide) k) ?_
              show own_Fin _ _ _ _ _ _ _ (T3.setTop (mkF m 138 #[.val (.long q1), .second, .val (.int p2), .val (.long (q1 &&& (9223372036854775807 : Int64))), .second, .val (.int (0 : Int32)), .val (.long (own_F1 (q1 &&& (9223372036854775807 : Int64)) (0 : Int32))), .second, .val (.int (0 : Int32)), .val (.int (1 : Int32)), .val (.int (0 : Int32))] []))
              refine own_st (fun t k => XS.iconst X3.here hx rfl (hb hby at_138) k) ?_
              show own_Fin _ _ _ _ _ _ _ (T3.setTop (mkF m 139 #[.val (.long q1), .second, .val (.int p2), .val (.long (q1 &&& (9223372036854775807 : Int64))), .second, .val (.int (0 : Int32)), .val (.long (own_F1 (q1 &&& (9223372036854775807 : Int64)) (0 : Int32))), .second, .val (.int (0 : Int32)), .val (.int (1 : Int32)), .val (.int (0 : Int32))] [(.int (0 : Int32))]))
              have hv : own_F0 q1 p2 = (0 : Int32) := by unfold own_F0; rw [if_pos hc9_1, if_neg hc34_4, if_neg hc71_13, if_neg hc84_16, if_pos hc102_19, if_neg hc109_20]
              exact own_retN X3 hx Bd.notSynchronized (t := .boolean) Bd.returns (by simp) (hb hby at_139) (by decide) (by decide) ⟨congrArg (fun z => some (Value.int z)) hv.symm, N3, e3⟩
          · refine own_st (fun t k => XS.ifYes X3.here hx rfl (pc0 := 102) (pc' := 112) rfl (hb hby at_102) rfl (own_eqF hc102_19).2 (by decide) (by decide) k) ?_
            show own_Fin _ _ _ _ _ _ _ (T3.setTop (mkF m 112 #[.val (.long q1), .second, .val (.int p2), .val (.long (q1 &&& (9223372036854775807 : Int64))), .second, .val (.int (0 : Int32)), .val (.long (own_F1 (q1 &&& (9223372036854775807 : Int64)) (0 : Int32))), .second, .val (.int (0 : Int32)), .val (.int (1 : Int32)), .unset] []))
            refine own_st (fun t k => XS.iconst X3.here hx rfl (hb hby at_112) k) ?_
            show own_Fin _ _ _ _ _ _ _ (T3.setTop (mkF m 113 #[.val (.long q1), .second, .val (.int p2), .val (.long (q1 &&& (9223372036854775807 : Int64))), .second, .val (.int (0 : Int32)), .val (.long (own_F1 (q1 &&& (9223372036854775807 : Int64)) (0 : Int32))), .second, .val (.int (0 : Int32)), .val (.int (1 : Int32)), .unset] [(.int (1 : Int32))]))
            refine own_st (fun t k => XS.goto X3.here hx rfl (pc0 := 113) (pc' := 117) rfl (hb hby at_113) (by decide) (by decide) k) ?_
            show own_Fin _ _ _ _ _ _ _ (T3.setTop (mkF m 117 #[.val (.long q1), .second, .val (.int p2), .val (.long (q1 &&& (9223372036854775807 : Int64))), .second, .val (.int (0 : Int32)), .val (.long (own_F1 (q1 &&& (9223372036854775807 : Int64)) (0 : Int32))), .second, .val (.int (0 : Int32)), .val (.int (1 : Int32)), .unset] [(.int (1 : Int32))]))
            refine own_st (fun t k => XS.istore X3.here hx rfl (hb hby at_117) rfl (l' := #[.val (.long q1), .second, .val (.int p2), .val (.long (q1 &&& (9223372036854775807 : Int64))), .second, .val (.int (0 : Int32)), .val (.long (own_F1 (q1 &&& (9223372036854775807 : Int64)) (0 : Int32))), .second, .val (.int (0 : Int32)), .val (.int (1 : Int32)), .val (.int (1 : Int32))]) rfl k) ?_
            show own_Fin _ _ _ _ _ _ _ (T3.setTop (mkF m 119 #[.val (.long q1), .second, .val (.int p2), .val (.long (q1 &&& (9223372036854775807 : Int64))), .second, .val (.int (0 : Int32)), .val (.long (own_F1 (q1 &&& (9223372036854775807 : Int64)) (0 : Int32))), .second, .val (.int (0 : Int32)), .val (.int (1 : Int32)), .val (.int (1 : Int32))] []))
            refine own_st (fun t k => XS.iload X3.here hx rfl (hb hby at_119) rfl k) ?_
            show own_Fin _ _ _ _ _ _ _ (T3.setTop (mkF m 121 #[.val (.long q1), .second, .val (.int p2), .val (.long (q1 &&& (9223372036854775807 : Int64))), .second, .val (.int (0 : Int32)), .val (.long (own_F1 (q1 &&& (9223372036854775807 : Int64)) (0 : Int32))), .second, .val (.int (0 : Int32)), .val (.int (1 : Int32)), .val (.int (1 : Int32))] [(.int (0 : Int32))]))
            refine own_st (fun t k => XS.ifYes X3.here hx rfl (pc0 := 121) (pc' := 138) rfl (hb hby at_121) rfl ((if0 _ _).trans (teq (by decide : (0 : Int32) = (0 : Int32))).1) (by decide) (by decide) k) ?_
            show own_Fin _ _ _ _ _ _ _ (T3.setTop (mkF m 138 #[.val (.long q1), .second, .val (.int p2), .val (.long (q1 &&& (9223372036854775807 : Int64))), .second, .val (.int (0 : Int32)), .val (.long (own_F1 (q1 &&& (9223372036854775807 : Int64)) (0 : Int32))), .second, .val (.int (0 : Int32)), .val (.int (1 : Int32)), .val (.int (1 : Int32))] []))
            refine own_st (fun t k => XS.iconst X3.here hx rfl (hb hby at_138) k) ?_
            show own_Fin _ _ _ _ _ _ _ (T3.setTop (mkF m 139 #[.val (.long q1), .second, .val (.int p2), .val (.long (q1 &&& (9223372036854775807 : Int64))), .second, .val (.int (0 : Int32)), .val (.long (own_F1 (q1 &&& (9223372036854775807 : Int64)) (0 : Int32))), .second, .val (.int (0 : Int32)), .val (.int (1 : Int32)), .val (.int (1 : Int32))] [(.int (0 : Int32))]))
            have hv : own_F0 q1 p2 = (0 : Int32) := by unfold own_F0; rw [if_pos hc9_1, if_neg hc34_4, if_neg hc71_13, if_neg hc84_16, if_neg hc102_19]
            exact own_retN X3 hx Bd.notSynchronized (t := .boolean) Bd.returns (by simp) (hb hby at_139) (by decide) (by decide) ⟨congrArg (fun z => some (Value.int z)) hv.symm, N3, e3⟩
  · refine own_st (fun t k => XS.ifNo X0.here hx rfl (hb hby at_9) rfl ((if0 _ _).trans (feq hc9_1).1) k) ?_
    show own_Fin _ _ _ _ _ _ _ (s₁.setTop (mkF m 12 #[.val (.long q1), .second, .val (.int p2), .val (.long (q1 &&& (9223372036854775807 : Int64))), .second, .unset, .unset, .unset, .unset, .unset, .unset] []))
    refine own_st (fun t k => XS.iconst X0.here hx rfl (hb hby at_12) k) ?_
    show own_Fin _ _ _ _ _ _ _ (s₁.setTop (mkF m 13 #[.val (.long q1), .second, .val (.int p2), .val (.long (q1 &&& (9223372036854775807 : Int64))), .second, .unset, .unset, .unset, .unset, .unset, .unset] [(.int (1 : Int32))]))
    refine own_st (fun t k => XS.goto X0.here hx rfl (pc0 := 13) (pc' := 17) rfl (hb hby at_13) (by decide) (by decide) k) ?_
    show own_Fin _ _ _ _ _ _ _ (s₁.setTop (mkF m 17 #[.val (.long q1), .second, .val (.int p2), .val (.long (q1 &&& (9223372036854775807 : Int64))), .second, .unset, .unset, .unset, .unset, .unset, .unset] [(.int (1 : Int32))]))
    refine own_st (fun t k => XS.istore X0.here hx rfl (hb hby at_17) rfl (l' := #[.val (.long q1), .second, .val (.int p2), .val (.long (q1 &&& (9223372036854775807 : Int64))), .second, .val (.int (1 : Int32)), .unset, .unset, .unset, .unset, .unset]) rfl k) ?_
    show own_Fin _ _ _ _ _ _ _ (s₁.setTop (mkF m 19 #[.val (.long q1), .second, .val (.int p2), .val (.long (q1 &&& (9223372036854775807 : Int64))), .second, .val (.int (1 : Int32)), .unset, .unset, .unset, .unset, .unset] []))
    refine own_st (fun t k => XS.lloadN X0.here hx rfl (hb hby at_19) rfl k) ?_
    show own_Fin _ _ _ _ _ _ _ (s₁.setTop (mkF m 20 #[.val (.long q1), .second, .val (.int p2), .val (.long (q1 &&& (9223372036854775807 : Int64))), .second, .val (.int (1 : Int32)), .unset, .unset, .unset, .unset, .unset] [(.long (q1 &&& (9223372036854775807 : Int64)))]))
    refine own_st (fun t k => XS.iload X0.here hx rfl (hb hby at_20) rfl k) ?_
    show own_Fin _ _ _ _ _ _ _ (s₁.setTop (mkF m 22 #[.val (.long q1), .second, .val (.int p2), .val (.long (q1 &&& (9223372036854775807 : Int64))), .second, .val (.int (1 : Int32)), .unset, .unset, .unset, .unset, .unset] [(.int (1 : Int32)), (.long (q1 &&& (9223372036854775807 : Int64)))]))
    obtain ⟨_, _, ⟨T21, L21, k21, n21⟩, -, X21, ⟨Lc21, hQ21, l21, y21, z21⟩, st21⟩ := Jvm.LawKit.callS X0 hx (y := (⟨"com/example/unsettle/unsettle/Draws", "stepOf", "(JZ)J"⟩ : MethodName)) hown (mvT hZ (hw _ (List.mem_of_getElem? (i := 1) rfl))) (mvT hZ (hw _ (List.mem_of_getElem? (i := 2) rfl))) (mvT hZ (hw _ (List.mem_of_getElem? (i := 3) rfl))) (mvT hZ (hw _ (List.mem_of_getElem? (i := 4) rfl))) (by decide) (backOf (W := 0) (rm1 l Z a0 hw [] (q1 &&& (9223372036854775807 : Int64)) (1 : Int32) h0 n0 Z0) hZ (hw _ (List.mem_of_getElem? (i := 4) rfl)) (hw _ (List.mem_of_getElem? (i := 3) rfl)) (by decide) (by decide)) (g := (mkF m 22 #[.val (.long q1), .second, .val (.int p2), .val (.long (q1 &&& (9223372036854775807 : Int64))), .second, .val (.int (1 : Int32)), .unset, .unset, .unset, .unset, .unset] [(.int (1 : Int32)), (.long (q1 &&& (9223372036854775807 : Int64)))])) rfl (by rw [hml]; rfl) (argsL := [(.long (q1 &&& (9223372036854775807 : Int64))), (.int (1 : Int32))]) (rest := []) (lenOf pd_0_0 rfl) rfl (by show 2 * 0 + _ ≤ _; exact Nat.le_of_eq rfl) (hb hby at_22) (fun _ _ => ⟨rfl, e0, (by decide : 0 + 0 ≤ _), (by decide : 0 + 0 ≤ _)⟩)
    dsimp only [Pt.U, Pt.locs, Pt.cells, Pt.slots] at X21 l21 y21 z21 st21 hQ21
    subst l21 y21 z21
    obtain ⟨rfl, N21q, e21⟩ := hQ21
    have N21 := Fr.app N0 N21q
    refine own_st st21 ?_
    show own_Fin _ _ _ _ _ _ _ (T21.setTop (mkF m 25 #[.val (.long q1), .second, .val (.int p2), .val (.long (q1 &&& (9223372036854775807 : Int64))), .second, .val (.int (1 : Int32)), .unset, .unset, .unset, .unset, .unset] [(.long (own_F1 (q1 &&& (9223372036854775807 : Int64)) (1 : Int32)))]))
    refine own_st (fun t k => XS.lstore X21.here hx rfl (hb hby at_25) rfl (l' := #[.val (.long q1), .second, .val (.int p2), .val (.long (q1 &&& (9223372036854775807 : Int64))), .second, .val (.int (1 : Int32)), .val (.long (own_F1 (q1 &&& (9223372036854775807 : Int64)) (1 : Int32))), .second, .unset, .unset, .unset]) rfl k) ?_
    show own_Fin _ _ _ _ _ _ _ (T21.setTop (mkF m 27 #[.val (.long q1), .second, .val (.int p2), .val (.long (q1 &&& (9223372036854775807 : Int64))), .second, .val (.int (1 : Int32)), .val (.long (own_F1 (q1 &&& (9223372036854775807 : Int64)) (1 : Int32))), .second, .unset, .unset, .unset] []))
    refine own_st (fun t k => XS.lload X21.here hx rfl (hb hby at_27) rfl k) ?_
    show own_Fin _ _ _ _ _ _ _ (T21.setTop (mkF m 29 #[.val (.long q1), .second, .val (.int p2), .val (.long (q1 &&& (9223372036854775807 : Int64))), .second, .val (.int (1 : Int32)), .val (.long (own_F1 (q1 &&& (9223372036854775807 : Int64)) (1 : Int32))), .second, .unset, .unset, .unset] [(.long (own_F1 (q1 &&& (9223372036854775807 : Int64)) (1 : Int32)))]))
    obtain ⟨_, _, ⟨T22, L22, k22, n22⟩, -, X22, ⟨Lc22, hQ22, l22, y22, z22⟩, st22⟩ := Jvm.LawKit.callS X21 hx (y := (⟨"com/example/unsettle/unsettle/Draws", "offsetOfStep", "(J)J"⟩ : MethodName)) hown (mvT hZ (hw _ (List.mem_of_getElem? (i := 5) rfl))) (mvT hZ (hw _ (List.mem_of_getElem? (i := 6) rfl))) (mvT hZ (hw _ (List.mem_of_getElem? (i := 3) rfl))) (mvT hZ (hw _ (List.mem_of_getElem? (i := 7) rfl))) (by decide) (backOf (W := 0) (rm2 l Z a0 hw [] (own_F1 (q1 &&& (9223372036854775807 : Int64)) (1 : Int32)) h0 n0 Z0) hZ (hw _ (List.mem_of_getElem? (i := 7) rfl)) (hw _ (List.mem_of_getElem? (i := 3) rfl)) (by decide) (by decide)) (g := (mkF m 29 #[.val (.long q1), .second, .val (.int p2), .val (.long (q1 &&& (9223372036854775807 : Int64))), .second, .val (.int (1 : Int32)), .val (.long (own_F1 (q1 &&& (9223372036854775807 : Int64)) (1 : Int32))), .second, .unset, .unset, .unset] [(.long (own_F1 (q1 &&& (9223372036854775807 : Int64)) (1 : Int32)))])) rfl (by rw [hml]; rfl) (argsL := [(.long (own_F1 (q1 &&& (9223372036854775807 : Int64)) (1 : Int32)))]) (rest := []) (lenOf pd_0_1 rfl) rfl (by show 2 * 0 + _ ≤ _; exact Nat.le_of_eq rfl) (hb hby at_29) (fun _ _ => ⟨rfl, e21, (by decide : 0 + 0 ≤ _), (by decide : 0 + 0 ≤ _)⟩)
    dsimp only [Pt.U, Pt.locs, Pt.cells, Pt.slots] at X22 l22 y22 z22 st22 hQ22
    subst l22 y22 z22
    obtain ⟨rfl, N22q, e22⟩ := hQ22
    have N22 := Fr.app N21 N22q
    refine own_st st22 ?_
    show own_Fin _ _ _ _ _ _ _ (T22.setTop (mkF m 32 #[.val (.long q1), .second, .val (.int p2), .val (.long (q1 &&& (9223372036854775807 : Int64))), .second, .val (.int (1 : Int32)), .val (.long (own_F1 (q1 &&& (9223372036854775807 : Int64)) (1 : Int32))), .second, .unset, .unset, .unset] [(.long (own_F2 (own_F1 (q1 &&& (9223372036854775807 : Int64)) (1 : Int32))))]))
    refine own_st (fun t k => XS.lloadN X22.here hx rfl (hb hby at_32) rfl k) ?_
    show own_Fin _ _ _ _ _ _ _ (T22.setTop (mkF m 33 #[.val (.long q1), .second, .val (.int p2), .val (.long (q1 &&& (9223372036854775807 : Int64))), .second, .val (.int (1 : Int32)), .val (.long (own_F1 (q1 &&& (9223372036854775807 : Int64)) (1 : Int32))), .second, .unset, .unset, .unset] [(.long (q1 &&& (9223372036854775807 : Int64))), (.long (own_F2 (own_F1 (q1 &&& (9223372036854775807 : Int64)) (1 : Int32))))]))
    refine own_st (fun t k => XS.lcmp X22.here hx rfl (hb hby at_33) rfl k) ?_
    show own_Fin _ _ _ _ _ _ _ (T22.setTop (mkF m 34 #[.val (.long q1), .second, .val (.int p2), .val (.long (q1 &&& (9223372036854775807 : Int64))), .second, .val (.int (1 : Int32)), .val (.long (own_F1 (q1 &&& (9223372036854775807 : Int64)) (1 : Int32))), .second, .unset, .unset, .unset] [(.int (lcmpW (own_F2 (own_F1 (q1 &&& (9223372036854775807 : Int64)) (1 : Int32))) (q1 &&& (9223372036854775807 : Int64))))]))
    by_cases hc34_23 : (own_F2 (own_F1 (q1 &&& (9223372036854775807 : Int64)) (1 : Int32))) = (q1 &&& (9223372036854775807 : Int64))
    · refine own_st (fun t k => XS.ifNo X22.here hx rfl (hb hby at_34) rfl (own_eqT hc34_23).2 k) ?_
      show own_Fin _ _ _ _ _ _ _ (T22.setTop (mkF m 37 #[.val (.long q1), .second, .val (.int p2), .val (.long (q1 &&& (9223372036854775807 : Int64))), .second, .val (.int (1 : Int32)), .val (.long (own_F1 (q1 &&& (9223372036854775807 : Int64)) (1 : Int32))), .second, .unset, .unset, .unset] []))
      refine own_st (fun t k => XS.iconst X22.here hx rfl (hb hby at_37) k) ?_
      show own_Fin _ _ _ _ _ _ _ (T22.setTop (mkF m 38 #[.val (.long q1), .second, .val (.int p2), .val (.long (q1 &&& (9223372036854775807 : Int64))), .second, .val (.int (1 : Int32)), .val (.long (own_F1 (q1 &&& (9223372036854775807 : Int64)) (1 : Int32))), .second, .unset, .unset, .unset] [(.int (1 : Int32))]))
      refine own_st (fun t k => XS.goto X22.here hx rfl (pc0 := 38) (pc' := 42) rfl (hb hby at_38) (by decide) (by decide) k) ?_
      show own_Fin _ _ _ _ _ _ _ (T22.setTop (mkF m 42 #[.val (.long q1), .second, .val (.int p2), .val (.long (q1 &&& (9223372036854775807 : Int64))), .second, .val (.int (1 : Int32)), .val (.long (own_F1 (q1 &&& (9223372036854775807 : Int64)) (1 : Int32))), .second, .unset, .unset, .unset] [(.int (1 : Int32))]))
      refine own_st (fun t k => XS.istore X22.here hx rfl (hb hby at_42) rfl (l' := #[.val (.long q1), .second, .val (.int p2), .val (.long (q1 &&& (9223372036854775807 : Int64))), .second, .val (.int (1 : Int32)), .val (.long (own_F1 (q1 &&& (9223372036854775807 : Int64)) (1 : Int32))), .second, .val (.int (1 : Int32)), .unset, .unset]) rfl k) ?_
      show own_Fin _ _ _ _ _ _ _ (T22.setTop (mkF m 44 #[.val (.long q1), .second, .val (.int p2), .val (.long (q1 &&& (9223372036854775807 : Int64))), .second, .val (.int (1 : Int32)), .val (.long (own_F1 (q1 &&& (9223372036854775807 : Int64)) (1 : Int32))), .second, .val (.int (1 : Int32)), .unset, .unset] []))
      refine own_st (fun t k => XS.iload X22.here hx rfl (hb hby at_44) rfl k) ?_
      show own_Fin _ _ _ _ _ _ _ (T22.setTop (mkF m 46 #[.val (.long q1), .second, .val (.int p2), .val (.long (q1 &&& (9223372036854775807 : Int64))), .second, .val (.int (1 : Int32)), .val (.long (own_F1 (q1 &&& (9223372036854775807 : Int64)) (1 : Int32))), .second, .val (.int (1 : Int32)), .unset, .unset] [(.int (1 : Int32))]))
      refine own_st (fun t k => XS.ifNo X22.here hx rfl (hb hby at_46) rfl ((if0 _ _).trans (feq (by decide : ¬ ((1 : Int32) = (0 : Int32)))).1) k) ?_
      show own_Fin _ _ _ _ _ _ _ (T22.setTop (mkF m 49 #[.val (.long q1), .second, .val (.int p2), .val (.long (q1 &&& (9223372036854775807 : Int64))), .second, .val (.int (1 : Int32)), .val (.long (own_F1 (q1 &&& (9223372036854775807 : Int64)) (1 : Int32))), .second, .val (.int (1 : Int32)), .unset, .unset] []))
      refine own_st (fun t k => XS.lload X22.here hx rfl (hb hby at_49) rfl k) ?_
      show own_Fin _ _ _ _ _ _ _ (T22.setTop (mkF m 51 #[.val (.long q1), .second, .val (.int p2), .val (.long (q1 &&& (9223372036854775807 : Int64))), .second, .val (.int (1 : Int32)), .val (.long (own_F1 (q1 &&& (9223372036854775807 : Int64)) (1 : Int32))), .second, .val (.int (1 : Int32)), .unset, .unset] [(.long (own_F1 (q1 &&& (9223372036854775807 : Int64)) (1 : Int32)))]))
      refine own_st (fun t k => XS.lconst X22.here hx rfl (hb hby at_51) k) ?_
      show own_Fin _ _ _ _ _ _ _ (T22.setTop (mkF m 52 #[.val (.long q1), .second, .val (.int p2), .val (.long (q1 &&& (9223372036854775807 : Int64))), .second, .val (.int (1 : Int32)), .val (.long (own_F1 (q1 &&& (9223372036854775807 : Int64)) (1 : Int32))), .second, .val (.int (1 : Int32)), .unset, .unset] [(.long (0 : Int64)), (.long (own_F1 (q1 &&& (9223372036854775807 : Int64)) (1 : Int32)))]))
      refine own_st (fun t k => XS.lcmp X22.here hx rfl (hb hby at_52) rfl k) ?_
      show own_Fin _ _ _ _ _ _ _ (T22.setTop (mkF m 53 #[.val (.long q1), .second, .val (.int p2), .val (.long (q1 &&& (9223372036854775807 : Int64))), .second, .val (.int (1 : Int32)), .val (.long (own_F1 (q1 &&& (9223372036854775807 : Int64)) (1 : Int32))), .second, .val (.int (1 : Int32)), .unset, .unset] [(.int (lcmpW (own_F1 (q1 &&& (9223372036854775807 : Int64)) (1 : Int32)) (0 : Int64)))]))
      by_cases hc53_24 : (own_F1 (q1 &&& (9223372036854775807 : Int64)) (1 : Int32)) < (0 : Int64)
      · refine own_st (fun t k => XS.ifNo X22.here hx rfl (hb hby at_53) rfl (own_ltT hc53_24).2 k) ?_
        show own_Fin _ _ _ _ _ _ _ (T22.setTop (mkF m 56 #[.val (.long q1), .second, .val (.int p2), .val (.long (q1 &&& (9223372036854775807 : Int64))), .second, .val (.int (1 : Int32)), .val (.long (own_F1 (q1 &&& (9223372036854775807 : Int64)) (1 : Int32))), .second, .val (.int (1 : Int32)), .unset, .unset] []))
        refine own_st (fun t k => XS.iconst X22.here hx rfl (hb hby at_56) k) ?_
        show own_Fin _ _ _ _ _ _ _ (T22.setTop (mkF m 57 #[.val (.long q1), .second, .val (.int p2), .val (.long (q1 &&& (9223372036854775807 : Int64))), .second, .val (.int (1 : Int32)), .val (.long (own_F1 (q1 &&& (9223372036854775807 : Int64)) (1 : Int32))), .second, .val (.int (1 : Int32)), .unset, .unset] [(.int (1 : Int32))]))
        refine own_st (fun t k => XS.goto X22.here hx rfl (pc0 := 57) (pc' := 61) rfl (hb hby at_57) (by decide) (by decide) k) ?_
        show own_Fin _ _ _ _ _ _ _ (T22.setTop (mkF m 61 #[.val (.long q1), .second, .val (.int p2), .val (.long (q1 &&& (9223372036854775807 : Int64))), .second, .val (.int (1 : Int32)), .val (.long (own_F1 (q1 &&& (9223372036854775807 : Int64)) (1 : Int32))), .second, .val (.int (1 : Int32)), .unset, .unset] [(.int (1 : Int32))]))
        refine own_st (fun t k => XS.istore X22.here hx rfl (hb hby at_61) rfl (l' := #[.val (.long q1), .second, .val (.int p2), .val (.long (q1 &&& (9223372036854775807 : Int64))), .second, .val (.int (1 : Int32)), .val (.long (own_F1 (q1 &&& (9223372036854775807 : Int64)) (1 : Int32))), .second, .val (.int (1 : Int32)), .val (.int (1 : Int32)), .unset]) rfl k) ?_
        show own_Fin _ _ _ _ _ _ _ (T22.setTop (mkF m 63 #[.val (.long q1), .second, .val (.int p2), .val (.long (q1 &&& (9223372036854775807 : Int64))), .second, .val (.int (1 : Int32)), .val (.long (own_F1 (q1 &&& (9223372036854775807 : Int64)) (1 : Int32))), .second, .val (.int (1 : Int32)), .val (.int (1 : Int32)), .unset] []))
        refine own_st (fun t k => XS.goto X22.here hx rfl (pc0 := 63) (pc' := 94) rfl (hb hby at_63) (by decide) (by decide) k) ?_
        show own_Fin _ _ _ _ _ _ _ (T22.setTop (mkF m 94 #[.val (.long q1), .second, .val (.int p2), .val (.long (q1 &&& (9223372036854775807 : Int64))), .second, .val (.int (1 : Int32)), .val (.long (own_F1 (q1 &&& (9223372036854775807 : Int64)) (1 : Int32))), .second, .val (.int (1 : Int32)), .val (.int (1 : Int32)), .unset] []))
        refine own_st (fun t k => XS.iload X22.here hx rfl (hb hby at_94) rfl k) ?_
        show own_Fin _ _ _ _ _ _ _ (T22.setTop (mkF m 96 #[.val (.long q1), .second, .val (.int p2), .val (.long (q1 &&& (9223372036854775807 : Int64))), .second, .val (.int (1 : Int32)), .val (.long (own_F1 (q1 &&& (9223372036854775807 : Int64)) (1 : Int32))), .second, .val (.int (1 : Int32)), .val (.int (1 : Int32)), .unset] [(.int (1 : Int32))]))
        refine own_st (fun t k => XS.ifYes X22.here hx rfl (pc0 := 96) (pc' := 112) rfl (hb hby at_96) rfl ((if0 _ _).trans (feq (by decide : ¬ ((1 : Int32) = (0 : Int32)))).2) (by decide) (by decide) k) ?_
        show own_Fin _ _ _ _ _ _ _ (T22.setTop (mkF m 112 #[.val (.long q1), .second, .val (.int p2), .val (.long (q1 &&& (9223372036854775807 : Int64))), .second, .val (.int (1 : Int32)), .val (.long (own_F1 (q1 &&& (9223372036854775807 : Int64)) (1 : Int32))), .second, .val (.int (1 : Int32)), .val (.int (1 : Int32)), .unset] []))
        refine own_st (fun t k => XS.iconst X22.here hx rfl (hb hby at_112) k) ?_
        show own_Fin _ _ _ _ _ _ _ (T22.setTop (mkF m 113 #[.val (.long q1), .second, .val (.int p2), .val (.long (q1 &&& (9223372036854775807 : Int64))), .second, .val (.int (1 : Int32)), .val (.long (own_F1 (q1 &&& (9223372036854775807 : Int64)) (1 : Int32))), .second, .val (.int (1 : Int32)), .val (.int (1 : Int32)), .unset] [(.int (1 : Int32))]))
        refine own_st (fun t k => XS.goto X22.here hx rfl (pc0 := 113) (pc' := 117) rfl (hb hby at_113) (by decide) (by decide) k) ?_
        show own_Fin _ _ _ _ _ _ _ (T22.setTop (mkF m 117 #[.val (.long q1), .second, .val (.int p2), .val (.long (q1 &&& (9223372036854775807 : Int64))), .second, .val (.int (1 : Int32)), .val (.long (own_F1 (q1 &&& (9223372036854775807 : Int64)) (1 : Int32))), .second, .val (.int (1 : Int32)), .val (.int (1 : Int32)), .unset] [(.int (1 : Int32))]))
        refine own_st (fun t k => XS.istore X22.here hx rfl (hb hby at_117) rfl (l' := #[.val (.long q1), .second, .val (.int p2), .val (.long (q1 &&& (9223372036854775807 : Int64))), .second, .val (.int (1 : Int32)), .val (.long (own_F1 (q1 &&& (9223372036854775807 : Int64)) (1 : Int32))), .second, .val (.int (1 : Int32)), .val (.int (1 : Int32)), .val (.int (1 : Int32))]) rfl k) ?_
        show own_Fin _ _ _ _ _ _ _ (T22.setTop (mkF m 119 #[.val (.long q1), .second, .val (.int p2), .val (.long (q1 &&& (9223372036854775807 : Int64))), .second, .val (.int (1 : Int32)), .val (.long (own_F1 (q1 &&& (9223372036854775807 : Int64)) (1 : Int32))), .second, .val (.int (1 : Int32)), .val (.int (1 : Int32)), .val (.int (1 : Int32))] []))
        refine own_st (fun t k => XS.iload X22.here hx rfl (hb hby at_119) rfl k) ?_
        show own_Fin _ _ _ _ _ _ _ (T22.setTop (mkF m 121 #[.val (.long q1), .second, .val (.int p2), .val (.long (q1 &&& (9223372036854775807 : Int64))), .second, .val (.int (1 : Int32)), .val (.long (own_F1 (q1 &&& (9223372036854775807 : Int64)) (1 : Int32))), .second, .val (.int (1 : Int32)), .val (.int (1 : Int32)), .val (.int (1 : Int32))] [(.int (1 : Int32))]))
        refine own_st (fun t k => XS.ifNo X22.here hx rfl (hb hby at_121) rfl ((if0 _ _).trans (feq (by decide : ¬ ((1 : Int32) = (0 : Int32)))).1) k) ?_
        show own_Fin _ _ _ _ _ _ _ (T22.setTop (mkF m 124 #[.val (.long q1), .second, .val (.int p2), .val (.long (q1 &&& (9223372036854775807 : Int64))), .second, .val (.int (1 : Int32)), .val (.long (own_F1 (q1 &&& (9223372036854775807 : Int64)) (1 : Int32))), .second, .val (.int (1 : Int32)), .val (.int (1 : Int32)), .val (.int (1 : Int32))] []))
        refine own_st (fun t k => XS.iload X22.here hx rfl (hb hby at_124) rfl k) ?_
        show own_Fin _ _ _ _ _ _ _ (T22.setTop (mkF m 126 #[.val (.long q1), .second, .val (.int p2), .val (.long (q1 &&& (9223372036854775807 : Int64))), .second, .val (.int (1 : Int32)), .val (.long (own_F1 (q1 &&& (9223372036854775807 : Int64)) (1 : Int32))), .second, .val (.int (1 : Int32)), .val (.int (1 : Int32)), .val (.int (1 : Int32))] [(.int (1 : Int32))]))
        refine own_st (fun t k => XS.ifNo X22.here hx rfl (hb hby at_126) rfl ((if0 _ _).trans (feq (by decide : ¬ ((1 : Int32) = (0 : Int32)))).1) k) ?_
        show own_Fin _ _ _ _ _ _ _ (T22.setTop (mkF m 129 #[.val (.long q1), .second, .val (.int p2), .val (.long (q1 &&& (9223372036854775807 : Int64))), .second, .val (.int (1 : Int32)), .val (.long (own_F1 (q1 &&& (9223372036854775807 : Int64)) (1 : Int32))), .second, .val (.int (1 : Int32)), .val (.int (1 : Int32)), .val (.int (1 : Int32))] []))
        refine own_st (fun t k => XS.iload X22.here hx rfl (hb hby at_129) rfl k) ?_
        show own_Fin _ _ _ _ _ _ _ (T22.setTop (mkF m 131 #[.val (.long q1), .second, .val (.int p2), .val (.long (q1 &&& (9223372036854775807 : Int64))), .second, .val (.int (1 : Int32)), .val (.long (own_F1 (q1 &&& (9223372036854775807 : Int64)) (1 : Int32))), .second, .val (.int (1 : Int32)), .val (.int (1 : Int32)), .val (.int (1 : Int32))] [(.int (1 : Int32))]))
        refine own_st (fun t k => XS.ifNo X22.here hx rfl (hb hby at_131) rfl ((if0 _ _).trans (feq (by decide : ¬ ((1 : Int32) = (0 : Int32)))).1) k) ?_
        show own_Fin _ _ _ _ _ _ _ (T22.setTop (mkF m 134 #[.val (.long q1), .second, .val (.int p2), .val (.long (q1 &&& (9223372036854775807 : Int64))), .second, .val (.int (1 : Int32)), .val (.long (own_F1 (q1 &&& (9223372036854775807 : Int64)) (1 : Int32))), .second, .val (.int (1 : Int32)), .val (.int (1 : Int32)), .val (.int (1 : Int32))] []))
        refine own_st (fun t k => XS.iconst X22.here hx rfl (hb hby at_134) k) ?_
        show own_Fin _ _ _ _ _ _ _ (T22.setTop (mkF m 135 #[.val (.long q1), .second, .val (.int p2), .val (.long (q1 &&& (9223372036854775807 : Int64))), .second, .val (.int (1 : Int32)), .val (.long (own_F1 (q1 &&& (9223372036854775807 : Int64)) (1 : Int32))), .second, .val (.int (1 : Int32)), .val (.int (1 : Int32)), .val (.int (1 : Int32))] [(.int (1 : Int32))]))
        refine own_st (fun t k => XS.goto X22.here hx rfl (pc0 := 135) (pc' := 139) rfl (hb hby at_135) (by decide) (by decide) k) ?_
        show own_Fin _ _ _ _ _ _ _ (T22.setTop (mkF m 139 #[.val (.long q1), .second, .val (.int p2), .val (.long (q1 &&& (9223372036854775807 : Int64))), .second, .val (.int (1 : Int32)), .val (.long (own_F1 (q1 &&& (9223372036854775807 : Int64)) (1 : Int32))), .second, .val (.int (1 : Int32)), .val (.int (1 : Int32)), .val (.int (1 : Int32))] [(.int (1 : Int32))]))
        have hv : own_F0 q1 p2 = (1 : Int32) := by unfold own_F0; rw [if_neg hc9_1, if_pos hc34_23, if_pos hc53_24]
        exact own_retN X22 hx Bd.notSynchronized (t := .boolean) Bd.returns (by simp) (hb hby at_139) (by decide) (by decide) ⟨congrArg (fun z => some (Value.int z)) hv.symm, N22, e22⟩
      · refine own_st (fun t k => XS.ifYes X22.here hx rfl (pc0 := 53) (pc' := 60) rfl (hb hby at_53) rfl (own_ltF hc53_24).2 (by decide) (by decide) k) ?_
        show own_Fin _ _ _ _ _ _ _ (T22.setTop (mkF m 60 #[.val (.long q1), .second, .val (.int p2), .val (.long (q1 &&& (9223372036854775807 : Int64))), .second, .val (.int (1 : Int32)), .val (.long (own_F1 (q1 &&& (9223372036854775807 : Int64)) (1 : Int32))), .second, .val (.int (1 : Int32)), .unset, .unset] []))
        refine own_st (fun t k => XS.iconst X22.here hx rfl (hb hby at_60) k) ?_
        show own_Fin _ _ _ _ _ _ _ (T22.setTop (mkF m 61 #[.val (.long q1), .second, .val (.int p2), .val (.long (q1 &&& (9223372036854775807 : Int64))), .second, .val (.int (1 : Int32)), .val (.long (own_F1 (q1 &&& (9223372036854775807 : Int64)) (1 : Int32))), .second, .val (.int (1 : Int32)), .unset, .unset] [(.int (0 : Int32))]))
        refine own_st (fun t k => XS.istore X22.here hx rfl (hb hby at_61) rfl (l' := #[.val (.long q1), .second, .val (.int p2), .val (.long (q1 &&& (9223372036854775807 : Int64))), .second, .val (.int (1 : Int32)), .val (.long (own_F1 (q1 &&& (9223372036854775807 : Int64)) (1 : Int32))), .second, .val (.int (1 : Int32)), .val (.int (0 : Int32)), .unset]) rfl k) ?_
        show own_Fin _ _ _ _ _ _ _ (T22.setTop (mkF m 63 #[.val (.long q1), .second, .val (.int p2), .val (.long (q1 &&& (9223372036854775807 : Int64))), .second, .val (.int (1 : Int32)), .val (.long (own_F1 (q1 &&& (9223372036854775807 : Int64)) (1 : Int32))), .second, .val (.int (1 : Int32)), .val (.int (0 : Int32)), .unset] []))
        refine own_st (fun t k => XS.goto X22.here hx rfl (pc0 := 63) (pc' := 94) rfl (hb hby at_63) (by decide) (by decide) k) ?_
        show own_Fin _ _ _ _ _ _ _ (T22.setTop (mkF m 94 #[.val (.long q1), .second, .val (.int p2), .val (.long (q1 &&& (9223372036854775807 : Int64))), .second, .val (.int (1 : Int32)), .val (.long (own_F1 (q1 &&& (9223372036854775807 : Int64)) (1 : Int32))), .second, .val (.int (1 : Int32)), .val (.int (0 : Int32)), .unset] []))
        refine own_st (fun t k => XS.iload X22.here hx rfl (hb hby at_94) rfl k) ?_
        show own_Fin _ _ _ _ _ _ _ (T22.setTop (mkF m 96 #[.val (.long q1), .second, .val (.int p2), .val (.long (q1 &&& (9223372036854775807 : Int64))), .second, .val (.int (1 : Int32)), .val (.long (own_F1 (q1 &&& (9223372036854775807 : Int64)) (1 : Int32))), .second, .val (.int (1 : Int32)), .val (.int (0 : Int32)), .unset] [(.int (1 : Int32))]))
        refine own_st (fun t k => XS.ifYes X22.here hx rfl (pc0 := 96) (pc' := 112) rfl (hb hby at_96) rfl ((if0 _ _).trans (feq (by decide : ¬ ((1 : Int32) = (0 : Int32)))).2) (by decide) (by decide) k) ?_
        show own_Fin _ _ _ _ _ _ _ (T22.setTop (mkF m 112 #[.val (.long q1), .second, .val (.int p2), .val (.long (q1 &&& (9223372036854775807 : Int64))), .second, .val (.int (1 : Int32)), .val (.long (own_F1 (q1 &&& (9223372036854775807 : Int64)) (1 : Int32))), .second, .val (.int (1 : Int32)), .val (.int (0 : Int32)), .unset] []))
        refine own_st (fun t k => XS.iconst X22.here hx rfl (hb hby at_112) k) ?_
        show own_Fin _ _ _ _ _ _ _ (T22.setTop (mkF m 113 #[.val (.long q1), .second, .val (.int p2), .val (.long (q1 &&& (9223372036854775807 : Int64))), .second, .val (.int (1 : Int32)), .val (.long (own_F1 (q1 &&& (9223372036854775807 : Int64)) (1 : Int32))), .second, .val (.int (1 : Int32)), .val (.int (0 : Int32)), .unset] [(.int (1 : Int32))]))
        refine own_st (fun t k => XS.goto X22.here hx rfl (pc0 := 113) (pc' := 117) rfl (hb hby at_113) (by decide) (by decide) k) ?_
        show own_Fin _ _ _ _ _ _ _ (T22.setTop (mkF m 117 #[.val (.long q1), .second, .val (.int p2), .val (.long (q1 &&& (9223372036854775807 : Int64))), .second, .val (.int (1 : Int32)), .val (.long (own_F1 (q1 &&& (9223372036854775807 : Int64)) (1 : Int32))), .second, .val (.int (1 : Int32)), .val (.int (0 : Int32)), .unset] [(.int (1 : Int32))]))
        refine own_st (fun t k => XS.istore X22.here hx rfl (hb hby at_117) rfl (l' := #[.val (.long q1), .second, .val (.int p2), .val (.long (q1 &&& (9223372036854775807 : Int64))), .second, .val (.int (1 : Int32)), .val (.long (own_F1 (q1 &&& (9223372036854775807 : Int64)) (1 : Int32))), .second, .val (.int (1 : Int32)), .val (.int (0 : Int32)), .val (.int (1 : Int32))]) rfl k) ?_
        show own_Fin _ _ _ _ _ _ _ (T22.setTop (mkF m 119 #[.val (.long q1), .second, .val (.int p2), .val (.long (q1 &&& (9223372036854775807 : Int64))), .second, .val (.int (1 : Int32)), .val (.long (own_F1 (q1 &&& (9223372036854775807 : Int64)) (1 : Int32))), .second, .val (.int (1 : Int32)), .val (.int (0 : Int32)), .val (.int (1 : Int32))] []))
        refine own_st (fun t k => XS.iload X22.here hx rfl (hb hby at_119) rfl k) ?_
        show own_Fin _ _ _ _ _ _ _ (T22.setTop (mkF m 121 #[.val (.long q1), .second, .val (.int p2), .val (.long (q1 &&& (9223372036854775807 : Int64))), .second, .val (.int (1 : Int32)), .val (.long (own_F1 (q1 &&& (9223372036854775807 : Int64)) (1 : Int32))), .second, .val (.int (1 : Int32)), .val (.int (0 : Int32)), .val (.int (1 : Int32))] [(.int (1 : Int32))]))
        refine own_st (fun t k => XS.ifNo X22.here hx rfl (hb hby at_121) rfl ((if0 _ _).trans (feq (by decide : ¬ ((1 : Int32) = (0 : Int32)))).1) k) ?_
        show own_Fin _ _ _ _ _ _ _ (T22.setTop (mkF m 124 #[.val (.long q1), .second, .val (.int p2), .val (.long (q1 &&& (9223372036854775807 : Int64))), .second, .val (.int (1 : Int32)), .val (.long (own_F1 (q1 &&& (9223372036854775807 : Int64)) (1 : Int32))), .second, .val (.int (1 : Int32)), .val (.int (0 : Int32)), .val (.int (1 : Int32))] []))
        refine own_st (fun t k => XS.iload X22.here hx rfl (hb hby at_124) rfl k) ?_
        show own_Fin _ _ _ _ _ _ _ (T22.setTop (mkF m 126 #[.val (.long q1), .second, .val (.int p2), .val (.long (q1 &&& (9223372036854775807 : Int64))), .second, .val (.int (1 : Int32)), .val (.long (own_F1 (q1 &&& (9223372036854775807 : Int64)) (1 : Int32))), .second, .val (.int (1 : Int32)), .val (.int (0 : Int32)), .val (.int (1 : Int32))] [(.int (0 : Int32))]))
        refine own_st (fun t k => XS.ifYes X22.here hx rfl (pc0 := 126) (pc' := 138) rfl (hb hby at_126) rfl ((if0 _ _).trans (teq (by decide : (0 : Int32) = (0 : Int32))).1) (by decide) (by decide) k) ?_
        show own_Fin _ _ _ _ _ _ _ (T22.setTop (mkF m 138 #[.val (.long q1), .second, .val (.int p2), .val (.long (q1 &&& (9223372036854775807 : Int64))), .second, .val (.int (1 : Int32)), .val (.long (own_F1 (q1 &&& (9223372036854775807 : Int64)) (1 : Int32))), .second, .val (.int (1 : Int32)), .val (.int (0 : Int32)), .val (.int (1 : Int32))] []))
        refine own_st (fun t k => XS.iconst X22.here hx rfl (hb hby at_138) k) ?_
        show own_Fin _ _ _ _ _ _ _ (T22.setTop (mkF m 139 #[.val (.long q1), .second, .val (.int p2), .val (.long (q1 &&& (9223372036854775807 : Int64))), .second, .val (.int (1 : Int32)), .val (.long (own_F1 (q1 &&& (9223372036854775807 : Int64)) (1 : Int32))), .second, .val (.int (1 : Int32)), .val (.int (0 : Int32)), .val (.int (1 : Int32))] [(.int (0 : Int32))]))
        have hv : own_F0 q1 p2 = (0 : Int32) := by unfold own_F0; rw [if_neg hc9_1, if_pos hc34_23, if_neg hc53_24]
        exact own_retN X22 hx Bd.notSynchronized (t := .boolean) Bd.returns (by simp) (hb hby at_139) (by decide) (by decide) ⟨congrArg (fun z => some (Value.int z)) hv.symm, N22, e22⟩
    · refine own_st (fun t k => XS.ifYes X22.here hx rfl (pc0 := 34) (pc' := 41) rfl (hb hby at_34) rfl (own_eqF hc34_23).2 (by decide) (by decide) k) ?_
      show own_Fin _ _ _ _ _ _ _ (T22.setTop (mkF m 41 #[.val (.long q1), .second, .val (.int p2), .val (.long (q1 &&& (9223372036854775807 : Int64))), .second, .val (.int (1 : Int32)), .val (.long (own_F1 (q1 &&& (9223372036854775807 : Int64)) (1 : Int32))), .second, .unset, .unset, .unset] []))
      refine own_st (fun t k => XS.iconst X22.here hx rfl (hb hby at_41) k) ?_
      show own_Fin _ _ _ _ _ _ _ (T22.setTop (mkF m 42 #[.val (.long q1), .second, .val (.int p2), .val (.long (q1 &&& (9223372036854775807 : Int64))), .second, .val (.int (1 : Int32)), .val (.long (own_F1 (q1 &&& (9223372036854775807 : Int64)) (1 : Int32))), .second, .unset, .unset, .unset] [(.int (0 : Int32))]))
      refine own_st (fun t k => XS.istore X22.here hx rfl (hb hby at_42) rfl (l' := #[.val (.long q1), .second, .val (.int p2), .val (.long (q1 &&& (9223372036854775807 : Int64))), .second, .val (.int (1 : Int32)), .val (.long (own_F1 (q1 &&& (9223372036854775807 : Int64)) (1 : Int32))), .second, .val (.int (0 : Int32)), .unset, .unset]) rfl k) ?_
      show own_Fin _ _ _ _ _ _ _ (T22.setTop (mkF m 44 #[.val (.long q1), .second, .val (.int p2), .val (.long (q1 &&& (9223372036854775807 : Int64))), .second, .val (.int (1 : Int32)), .val (.long (own_F1 (q1 &&& (9223372036854775807 : Int64)) (1 : Int32))), .second, .val (.int (0 : Int32)), .unset, .unset] []))
      refine own_st (fun t k => XS.iload X22.here hx rfl (hb hby at_44) rfl k) ?_
      show own_Fin _ _ _ _ _ _ _ (T22.setTop (mkF m 46 #[.val (.long q1), .second, .val (.int p2), .val (.long (q1 &&& (9223372036854775807 : Int64))), .second, .val (.int (1 : Int32)), .val (.long (own_F1 (q1 &&& (9223372036854775807 : Int64)) (1 : Int32))), .second, .val (.int (0 : Int32)), .unset, .unset] [(.int (1 : Int32))]))
      refine own_st (fun t k => XS.ifNo X22.here hx rfl (hb hby at_46) rfl ((if0 _ _).trans (feq (by decide : ¬ ((1 : Int32) = (0 : Int32)))).1) k) ?_
      show own_Fin _ _ _ _ _ _ _ (T22.setTop (mkF m 49 #[.val (.long q1), .second, .val (.int p2), .val (.long (q1 &&& (9223372036854775807 : Int64))), .second, .val (.int (1 : Int32)), .val (.long (own_F1 (q1 &&& (9223372036854775807 : Int64)) (1 : Int32))), .second, .val (.int (0 : Int32)), .unset, .unset] []))
      refine own_st (fun t k => XS.lload X22.here hx rfl (hb hby at_49) rfl k) ?_
      show own_Fin _ _ _ _ _ _ _ (T22.setTop (mkF m 51 #[.val (.long q1), .second, .val (.int p2), .val (.long (q1 &&& (9223372036854775807 : Int64))), .second, .val (.int (1 : Int32)), .val (.long (own_F1 (q1 &&& (9223372036854775807 : Int64)) (1 : Int32))), .second, .val (.int (0 : Int32)), .unset, .unset] [(.long (own_F1 (q1 &&& (9223372036854775807 : Int64)) (1 : Int32)))]))
      refine own_st (fun t k => XS.lconst X22.here hx rfl (hb hby at_51) k) ?_
      show own_Fin _ _ _ _ _ _ _ (T22.setTop (mkF m 52 #[.val (.long q1), .second, .val (.int p2), .val (.long (q1 &&& (9223372036854775807 : Int64))), .second, .val (.int (1 : Int32)), .val (.long (own_F1 (q1 &&& (9223372036854775807 : Int64)) (1 : Int32))), .second, .val (.int (0 : Int32)), .unset, .unset] [(.long (0 : Int64)), (.long (own_F1 (q1 &&& (9223372036854775807 : Int64)) (1 : Int32)))]))
      refine own_st (fun t k => XS.lcmp X22.here hx rfl (hb hby at_52) rfl k) ?_
      show own_Fin _ _ _ _ _ _ _ (T22.setTop (mkF m 53 #[.val (.long q1), .second, .val (.int p2), .val (.long (q1 &&& (9223372036854775807 : Int64))), .second, .val (.int (1 : Int32)), .val (.long (own_F1 (q1 &&& (9223372036854775807 : Int64)) (1 : Int32))), .second, .val (.int (0 : Int32)), .unset, .unset] [(.int (lcmpW (own_F1 (q1 &&& (9223372036854775807 : Int64)) (1 : Int32)) (0 : Int64)))]))
      by_cases hc53_25 : (own_F1 (q1 &&& (9223372036854775807 : Int64)) (1 : Int32)) < (0 : Int64)
      · refine own_st (fun t k => XS.ifNo X22.here hx rfl (hb hby at_53) rfl (own_ltT hc53_25).2 k) ?_
        show own_Fin _ _ _ _ _ _ _ (T22.setTop (mkF m 56 #[.val (.long q1), .second, .val (.int p2), .val (.long (q1 &&& (9223372036854775807 : Int64))), .second, .val (.int (1 : Int32)), .val (.long (own_F1 (q1 &&& (9223372036854775807 : Int64)) (1 : Int32))), .second, .val (.int (0 : Int32)), .unset, .unset] []))
        refine own_st (fun t k => XS.iconst X22.here hx rfl (hb hby at_56) k) ?_
        show own_Fin _ _ _ _ _ _ _ (T22.setTop (mkF m 57 #[.val (.long q1), .second, .val (.int p2), .val (.long (q1 &&& (9223372036854775807 : Int64))), .second, .val (.int (1 : Int32)), .val (.long (own_F1 (q1 &&& (9223372036854775807 : Int64)) (1 : Int32))), .second, .val (.int (0 : Int32)), .unset, .unset] [(.int (1 : Int32))]))
        refine own_st (fun t k => XS.goto X22.here hx rfl (pc0 := 57) (pc' := 61) rfl (hb hby at_57) (by decide) (by decide) k) ?_
        show own_Fin _ _ _ _ _ _ _ (T22.setTop (mkF m 61 #[.val (.long q1), .second, .val (.int p2), .val (.long (q1 &&& (9223372036854775807 : Int64))), .second, .val (.int (1 : Int32)), .val (.long (own_F1 (q1 &&& (9223372036854775807 : Int64)) (1 : Int32))), .second, .val (.int (0 : Int32)), .unset, .unset] [(.int (1 : Int32))]))
        refine own_st (fun t k => XS.istore X22.here hx rfl (hb hby at_61) rfl (l' := #[.val (.long q1), .second, .val (.int p2), .val (.long (q1 &&& (9223372036854775807 : Int64))), .second, .val (.int (1 : Int32)), .val (.long (own_F1 (q1 &&& (9223372036854775807 : Int64)) (1 : Int32))), .second, .val (.int (0 : Int32)), .val (.int (1 : Int32)), .unset]) rfl k) ?_
        show own_Fin _ _ _ _ _ _ _ (T22.setTop (mkF m 63 #[.val (.long q1), .second, .val (.int p2), .val (.long (q1 &&& (9223372036854775807 : Int64))), .second, .val (.int (1 : Int32)), .val (.long (own_F1 (q1 &&& (9223372036854775807 : Int64)) (1 : Int32))), .second, .val (.int (0 : Int32)), .val (.int (1 : Int32)), .unset] []))
        refine own_st (fun t k => XS.goto X22.here hx rfl (pc0 := 63) (pc' := 94) rfl (hb hby at_63) (by decide) (by decide) k) ?_
        show own_Fin _ _ _ _ _ _ _ (T22.setTop (mkF m 94 #[.val (.long q1), .second, .val (.int p2), .val (.long (q1 &&& (9223372036854775807 : Int64))), .second, .val (.int (1 : Int32)), .val (.long (own_F1 (q1 &&& (9223372036854775807 : Int64)) (1 : Int32))), .second, .val (.int (0 : Int32)), .val (.int (1 : Int32)), .unset] []))
        refine own_st (fun t k => XS.iload X22.here hx rfl (hb hby at_94) rfl k) ?_
        show own_Fin _ _ _ _ _ _ _ (T22.setTop (mkF m 96 #[.val (.long q1), .second, .val (.int p2), .val (.long (q1 &&& (9223372036854775807 : Int64))), .second, .val (.int (1 : Int32)), .val (.long (own_F1 (q1 &&& (9223372036854775807 : Int64)) (1 : Int32))), .second, .val (.int (0 : Int32)), .val (.int (1 : Int32)), .unset] [(.int (1 : Int32))]))
        refine own_st (fun t k => XS.ifYes X22.here hx rfl (pc0 := 96) (pc' := 112) rfl (hb hby at_96) rfl ((if0 _ _).trans (feq (by decide : ¬ ((1 : Int32) = (0 : Int32)))).2) (by decide) (by decide) k) ?_
        show own_Fin _ _ _ _ _ _ _ (T22.setTop (mkF m 112 #[.val (.long q1), .second, .val (.int p2), .val (.long (q1 &&& (9223372036854775807 : Int64))), .second, .val (.int (1 : Int32)), .val (.long (own_F1 (q1 &&& (9223372036854775807 : Int64)) (1 : Int32))), .second, .val (.int (0 : Int32)), .val (.int (1 : Int32)), .unset] []))
        refine own_st (fun t k => XS.iconst X22.here hx rfl (hb hby at_112) k) ?_
        show own_Fin _ _ _ _ _ _ _ (T22.setTop (mkF m 113 #[.val (.long q1), .second, .val (.int p2), .val (.long (q1 &&& (9223372036854775807 : Int64))), .second, .val (.int (1 : Int32)), .val (.long (own_F1 (q1 &&& (9223372036854775807 : Int64)) (1 : Int32))), .second, .val (.int (0 : Int32)), .val (.int (1 : Int32)), .unset] [(.int (1 : Int32))]))
        refine own_st (fun t k => XS.goto X22.here hx rfl (pc0 := 113) (pc' := 117) rfl (hb hby at_113) (by decide) (by decide) k) ?_
        show own_Fin _ _ _ _ _ _ _ (T22.setTop (mkF m 117 #[.val (.long q1), .second, .val (.int p2), .val (.long (q1 &&& (9223372036854775807 : Int64))), .second, .val (.int (1 : Int32)), .val (.long (own_F1 (q1 &&& (9223372036854775807 : Int64)) (1 : Int32))), .second, .val (.int (0 : Int32)), .val (.int (1 : Int32)), .unset] [(.int (1 : Int32))]))
        refine own_st (fun t k => XS.istore X22.here hx rfl (hb hby at_117) rfl (l' := #[.val (.long q1), .second, .val (.int p2), .val (.long (q1 &&& (9223372036854775807 : Int64))), .second, .val (.int (1 : Int32)), .val (.long (own_F1 (q1 &&& (9223372036854775807 : Int64)) (1 : Int32))), .second, .val (.int (0 : Int32)), .val (.int (1 : Int32)), .val (.int (1 : Int32))]) rfl k) ?_
        show own_Fin _ _ _ _ _ _ _ (T22.setTop (mkF m 119 #[.val (.long q1), .second, .val (.int p2), .val (.long (q1 &&& (9223372036854775807 : Int64))), .second, .val (.int (1 : Int32)), .val (.long (own_F1 (q1 &&& (9223372036854775807 : Int64)) (1 : Int32))), .second, .val (.int (0 : Int32)), .val (.int (1 : Int32)), .val (.int (1 : Int32))] []))
        refine own_st (fun t k => XS.iload X22.here hx rfl (hb hby at_119) rfl k) ?_
        show own_Fin _ _ _ _ _ _ _ (T22.setTop (mkF m 121 #[.val (.long q1), .second, .val (.int p2), .val (.long (q1 &&& (9223372036854775807 : Int64))), .second, .val (.int (1 : Int32)), .val (.long (own_F1 (q1 &&& (9223372036854775807 : Int64)) (1 : Int32))), .second, .val (.int (0 : Int32)), .val (.int (1 : Int32)), .val (.int (1 : Int32))] [(.int (0 : Int32))]))
        refine own_st (fun t k => XS.ifYes X22.here hx rfl (pc0 := 121) (pc' := 138) rfl (hb hby at_121) rfl ((if0 _ _).trans (teq (by decide : (0 : Int32) = (0 : Int32))).1) (by decide) (by decide) k) ?_
        show own_Fin _ _ _ _ _ _ _ (T22.setTop (mkF m 138 #[.val (.long q1), .second, .val (.int p2), .val (.long (q1 &&& (9223372036854775807 : Int64))), .second, .val (.int (1 : Int32)), .val (.long (own_F1 (q1 &&& (9223372036854775807 : Int64)) (1 : Int32))), .second, .val (.int (0 : Int32)), .val (.int (1 : Int32)), .val (.int (1 : Int32))] []))
        refine own_st (fun t k => XS.iconst X22.here hx rfl (hb hby at_138) k) ?_
        show own_Fin _ _ _ _ _ _ _ (T22.setTop (mkF m 139 #[.val (.long q1), .second, .val (.int p2), .val (.long (q1 &&& (9223372036854775807 : Int64))), .second, .val (.int (1 : Int32)), .val (.long (own_F1 (q1 &&& (9223372036854775807 : Int64)) (1 : Int32))), .second, .val (.int (0 : Int32)), .val (.int (1 : Int32)), .val (.int (1 : Int32))] [(.int (0 : Int32))]))
        have hv : own_F0 q1 p2 = (0 : Int32) := by unfold own_F0; rw [if_neg hc9_1, if_neg hc34_23, if_pos hc53_25]
        exact own_retN X22 hx Bd.notSynchronized (t := .boolean) Bd.returns (by simp) (hb hby at_139) (by decide) (by decide) ⟨congrArg (fun z => some (Value.int z)) hv.symm, N22, e22⟩
      · refine own_st (fun t k => XS.ifYes X22.here hx rfl (pc0 := 53) (pc' := 60) rfl (hb hby at_53) rfl (own_ltF hc53_25).2 (by decide) (by decide) k) ?_
        show own_Fin _ _ _ _ _ _ _ (T22.setTop (mkF m 60 #[.val (.long q1), .second, .val (.int p2), .val (.long (q1 &&& (9223372036854775807 : Int64))), .second, .val (.int (1 : Int32)), .val (.long (own_F1 (q1 &&& (9223372036854775807 : Int64)) (1 : Int32))), .second, .val (.int (0 : Int32)), .unset, .unset] []))
        refine own_st (fun t k => XS.iconst X22.here hx rfl (hb hby at_60) k) ?_
        show own_Fin _ _ _ _ _ _ _ (T22.setTop (mkF m 61 #[.val (.long q1), .second, .val (.int p2), .val (.long (q1 &&& (9223372036854775807 : Int64))), .second, .val (.int (1 : Int32)), .val (.long (own_F1 (q1 &&& (9223372036854775807 : Int64)) (1 : Int32))), .second, .val (.int (0 : Int32)), .unset, .unset] [(.int (0 : Int32))]))
        refine own_st (fun t k => XS.istore X22.here hx rfl (hb hby at_61) rfl (l' := #[.val (.long q1), .second, .val (.int p2), .val (.long (q1 &&& (9223372036854775807 : Int64))), .second, .val (.int (1 : Int32)), .val (.long (own_F1 (q1 &&& (9223372036854775807 : Int64)) (1 : Int32))), .second, .val (.int (0 : Int32)), .val (.int (0 : Int32)), .unset]) rfl k) ?_
        show own_Fin _ _ _ _ _ _ _ (T22.setTop (mkF m 63 #[.val (.long q1), .second, .val (.int p2), .val (.long (q1 &&& (9223372036854775807 : Int64))), .second, .val (.int (1 : Int32)), .val (.long (own_F1 (q1 &&& (9223372036854775807 : Int64)) (1 : Int32))), .second, .val (.int (0 : Int32)), .val (.int (0 : Int32)), .unset] []))
        refine own_st (fun t k => XS.goto X22.here hx rfl (pc0 := 63) (pc' := 94) rfl (hb hby at_63) (by decide) (by decide) k) ?_
        show own_Fin _ _ _ _ _ _ _ (T22.setTop (mkF m 94 #[.val (.long q1), .second, .val (.int p2), .val (.long (q1 &&& (9223372036854775807 : Int64))), .second, .val (.int (1 : Int32)), .val (.long (own_F1 (q1 &&& (9223372036854775807 : Int64)) (1 : Int32))), .second, .val (.int (0 : Int32)), .val (.int (0 : Int32)), .unset] []))
        refine own_st (fun t k => XS.iload X22.here hx rfl (hb hby at_94) rfl k) ?_
        show own_Fin _ _ _ _ _ _ _ (T22.setTop (mkF m 96 #[.val (.long q1), .second, .val (.int p2), .val (.long (q1 &&& (9223372036854775807 : Int64))), .second, .val (.int (1 : Int32)), .val (.long (own_F1 (q1 &&& (9223372036854775807 : Int64)) (1 : Int32))), .second, .val (.int (0 : Int32)), .val (.int (0 : Int32)), .unset] [(.int (1 : Int32))]))
        refine own_st (fun t k => XS.ifYes X22.here hx rfl (pc0 := 96) (pc' := 112) rfl (hb hby at_96) rfl ((if0 _ _).trans (feq (by decide : ¬ ((1 : Int32) = (0 : Int32)))).2) (by decide) (by decide) k) ?_
        show own_Fin _ _ _ _ _ _ _ (T22.setTop (mkF m 112 #[.val (.long q1), .second, .val (.int p2), .val (.long (q1 &&& (9223372036854775807 : Int64))), .second, .val (.int (1 : Int32)), .val (.long (own_F1 (q1 &&& (9223372036854775807 : Int64)) (1 : Int32))), .second, .val (.int (0 : Int32)), .val (.int (0 : Int32)), .unset] []))
        refine own_st (fun t k => XS.iconst X22.here hx rfl (hb hby at_112) k) ?_
        show own_Fin _ _ _ _ _ _ _ (T22.setTop (mkF m 113 #[.val (.long q1), .second, .val (.int p2), .val (.long (q1 &&& (9223372036854775807 : Int64))), .second, .val (.int (1 : Int32)), .val (.long (own_F1 (q1 &&& (9223372036854775807 : Int64)) (1 : Int32))), .second, .val (.int (0 : Int32)), .val (.int (0 : Int32)), .unset] [(.int (1 : Int32))]))
        refine own_st (fun t k => XS.goto X22.here hx rfl (pc0 := 113) (pc' := 117) rfl (hb hby at_113) (by decide) (by decide) k) ?_
        show own_Fin _ _ _ _ _ _ _ (T22.setTop (mkF m 117 #[.val (.long q1), .second, .val (.int p2), .val (.long (q1 &&& (9223372036854775807 : Int64))), .second, .val (.int (1 : Int32)), .val (.long (own_F1 (q1 &&& (9223372036854775807 : Int64)) (1 : Int32))), .second, .val (.int (0 : Int32)), .val (.int (0 : Int32)), .unset] [(.int (1 : Int32))]))
        refine own_st (fun t k => XS.istore X22.here hx rfl (hb hby at_117) rfl (l' := #[.val (.long q1), .second, .val (.int p2), .val (.long (q1 &&& (9223372036854775807 : Int64))), .second, .val (.int (1 : Int32)), .val (.long (own_F1 (q1 &&& (9223372036854775807 : Int64)) (1 : Int32))), .second, .val (.int (0 : Int32)), .val (.int (0 : Int32)), .val (.int (1 : Int32))]) rfl k) ?_
        show own_Fin _ _ _ _ _ _ _ (T22.setTop (mkF m 119 #[.val (.long q1), .second, .val (.int p2), .val (.long (q1 &&& (9223372036854775807 : Int64))), .second, .val (.int (1 : Int32)), .val (.long (own_F1 (q1 &&& (9223372036854775807 : Int64)) (1 : Int32))), .second, .val (.int (0 : Int32)), .val (.int (0 : Int32)), .val (.int (1 : Int32))] []))
        refine own_st (fun t k => XS.iload X22.here hx rfl (hb hby at_119) rfl k) ?_
        show own_Fin _ _ _ _ _ _ _ (T22.setTop (mkF m 121 #[.val (.long q1), .second, .val (.int p2), .val (.long (q1 &&& (9223372036854775807 : Int64))), .second, .val (.int (1 : Int32)), .val (.long (own_F1 (q1 &&& (9223372036854775807 : Int64)) (1 : Int32))), .second, .val (.int (0 : Int32)), .val (.int (0 : Int32)), .val (.int (1 : Int32))] [(.int (0 : Int32))]))
        refine own_st (fun t k => XS.ifYes X22.here hx rfl (pc0 := 121) (pc' := 138) rfl (hb hby at_121) rfl ((if0 _ _).trans (teq (by decide : (0 : Int32) = (0 : Int32))).1) (by decide) (by decide) k) ?_
        show own_Fin _ _ _ _ _ _ _ (T22.setTop (mkF m 138 #[.val (.long q1), .second, .val (.int p2), .val (.long (q1 &&& (9223372036854775807 : Int64))), .second, .val (.int (1 : Int32)), .val (.long (own_F1 (q1 &&& (9223372036854775807 : Int64)) (1 : Int32))), .second, .val (.int (0 : Int32)), .val (.int (0 : Int32)), .val (.int (1 : Int32))] []))
        refine own_st (fun t k => XS.iconst X22.here hx rfl (hb hby at_138) k) ?_
        show own_Fin _ _ _ _ _ _ _ (T22.setTop (mkF m 139 #[.val (.long q1), .second, .val (.int p2), .val (.long (q1 &&& (9223372036854775807 : Int64))), .second, .val (.int (1 : Int32)), .val (.long (own_F1 (q1 &&& (9223372036854775807 : Int64)) (1 : Int32))), .second, .val (.int (0 : Int32)), .val (.int (0 : Int32)), .val (.int (1 : Int32))] [(.int (0 : Int32))]))
        have hv : own_F0 q1 p2 = (0 : Int32) := by unfold own_F0; rw [if_neg hc9_1, if_neg hc34_23, if_neg hc53_25]
        exact own_retN X22 hx Bd.notSynchronized (t := .boolean) Bd.returns (by simp) (hb hby at_139) (by decide) (by decide) ⟨congrArg (fun z => some (Value.int z)) hv.symm, N22, e22⟩
theorem own_plain (q0 : Int64) (p1 : Int32) : own_F0 q0 p1 = 1 := by
  have m := c_maskL q0 (9223372036854775807 : Int64) 63 (by decide) (by decide)
  have e1 : ((2 ^ 63 : Nat) : Int) = 9223372036854775808 := by decide
  rw [e1] at m
  have hf : 0 ≤ (q0 &&& (9223372036854775807 : Int64)).toInt := by omega
  unfold own_F0
  generalize (q0 &&& (9223372036854775807 : Int64)) = f at hf
  have l0 : (0 : Int64).toInt = 0 := by decide
  have l1 : (1 : Int64).toInt = 1 := by decide
  have lm : (9223372036854775807 : Int64).toInt = 9223372036854775807 := by decide
  have rf := rng64 f
  split
  · have hr : own_F2 (own_F1 f 0) = f := by
      unfold own_F2 own_F4 own_F3 own_F1
      rw [if_pos rfl]
      by_cases h0 : f = 0
      · subst h0; decide
      · rw [if_neg h0]
        have h0' : f.toInt ≠ 0 := fun q => h0 (Int64.toInt_inj.mp (by rw [q, l0]))
        have a := c_ladd f 1
        have r1 := rng64 (f + 1)
        have n := c_lneg (f + 1)
        have r2 := rng64 (-(f + 1))
        have b := c_lsub (f + 1) 1
        have r3 := rng64 (f + 1 - 1)
        have b' := c_lsub (-(f + 1)) 1
        have r4 := rng64 (-(f + 1) - 1)
        rw [l1] at a b b'
        apply Int64.toInt_inj.mp
        simp only [Int64.lt_iff_toInt_lt, l0]
        by_cases g1 : (f + 1).toInt < 0
        · rw [if_pos g1]
          by_cases g2 : (-(f + 1) - 1).toInt < 0
          · rw [if_pos g2]; omega
          · rw [if_neg g2]; omega
        · rw [if_neg g1]
          by_cases g2 : (f + 1 - 1).toInt < 0
          · rw [if_pos g2]; omega
          · rw [if_neg g2]; omega
    rw [if_pos hr]
    by_cases h0 : f = 0
    · subst h0; decide
    · have h0' : f.toInt ≠ 0 := fun q => h0 (Int64.toInt_inj.mp (by rw [q, l0]))
      by_cases hm : f = 9223372036854775807
      · rw [if_pos hm, if_neg h0]
      · have hm' : f.toInt ≠ 9223372036854775807 := fun q => hm (Int64.toInt_inj.mp (by rw [q, lm]))
        have hs : ¬ own_F1 f 0 < 0 := by
          unfold own_F1
          rw [if_pos rfl, if_neg h0, Int64.lt_iff_toInt_lt, l0]
          have a := c_ladd f 1
          have r1 := rng64 (f + 1)
          rw [l1] at a
          omega
        rw [if_neg hm, if_neg hs, if_neg h0]
  · have es : own_F1 f 1 = -f - 1 := by unfold own_F1; rw [if_neg (by decide)]
    have n := c_lneg f
    have r1 := rng64 (-f)
    have b := c_lsub (-f) 1
    have r2 := rng64 (-f - 1)
    rw [l1] at b
    have hs : own_F1 f 1 < 0 := by rw [es, Int64.lt_iff_toInt_lt, l0]; omega
    have hr : own_F2 (own_F1 f 1) = f := by
      rw [es] at hs ⊢
      unfold own_F2 own_F4 own_F3
      rw [if_pos hs]
      have n2 := c_lneg (-f - 1)
      have r3 := rng64 (-(-f - 1))
      have b2 := c_lsub (-(-f - 1)) 1
      have r4 := rng64 (-(-f - 1) - 1)
      rw [l1] at b2
      apply Int64.toInt_inj.mp
      simp only [Int64.lt_iff_toInt_lt, l0]
      by_cases g2 : (-(-f - 1) - 1).toInt < 0
      · rw [if_pos g2]; omega
      · rw [if_neg g2]; omega
    rw [if_pos hr, if_pos hs]
set_option maxRecDepth 65536 in
set_option maxHeartbeats 40000000 in
theorem comes_1 {Post : Tables → Env → Array Value → State → Outcome → State → Prop} (hpost : ∀ tb e args s v u, (limb_1_1.after args s (.returned v) u = true ∧ limb_1_2.after args s (.returned v) u = true ∧ True) → FrameEnd s (.returned v) u (Jvm.fieldLocs frame_1_writes args s ++ Jvm.arrayLocs frame_1_arrays args s ++ Jvm.staticLocs frame_1_statics s) 0 0 → Post tb e args s (.returned v) u) :
    ArmFor flags0 classFile x code maxLocals ret World_1 tables_1 room_1 Calls_1 rest_1 Pre_1 Post := by
  intro l hfl _ _ p e ha hc hk s m args below hf hA hF happ hP
  obtain ⟨hcalls, hrest, hpre⟩ := hP
  obtain ⟨-, -, -, hnamed, -, -, -, hat⟩ := (Spec.applies_iff hf).mp happ
  obtain ⟨hg, hn⟩ := and_e (Cond.before_iff.mp (show (Jvm.Cond.and given_1 narrow_1).before args s = true from hpre))
  obtain ⟨g3, g4⟩ := and_e hg
  obtain ⟨g5, g6⟩ := and_e g4
  obtain ⟨w0, w1, rfl⟩ : ∃ w0 w1 : Value, args = #[w0, w1] := by
    have hs : args.size = 2 := by simpa [Cond.value, given_1] using g3
    obtain ⟨L⟩ := args
    match L, hs with
    | [w0, w1], _ => exact ⟨w0, w1, rfl⟩
  have hw := fun d (hd : d ∈ tables_1) => atoms_spec (ws := Jvm.Cond.code x code maxLocals ret :: tables_1) hat d (List.mem_cons_of_mem _ hd)
  obtain ⟨i0, ei0⟩ := isL_v g5
  obtain rfl : w0 = (.long i0) := Option.some.inj ei0
  obtain ⟨i1, ei1⟩ := is_v g6
  obtain rfl : w1 = (.int i1) := Option.some.inj ei1
  obtain ⟨n, o, h1, h2, h3, v, L, rfl, ⟨hv, N, -⟩, hq⟩ := rm0 l s _ hw tables_1 i0 i1 s.heap s.heap.size (Nat.le_refl _) p e ha hc hk s m _ below hf ((Spec.applies_iff_loose hf).mp happ).1 ⟨rfl, State.Warmed39.refl s, rfl⟩ trivial
  rw [own_plain i0 i1] at hv
  subst hv
  refine ⟨n, _, h1, h2, h3, hpost _ _ _ _ _ _ ⟨Cond.after_iff.mpr rfl, Cond.after_iff.mpr (eq_i res_at (Term.int_eval (1)) rfl), trivial⟩ ⟨hq.1, hq.2.1, (hq.2.2.sift fun y hy => Or.inr (N y hy)).mono (by decide) (by decide)⟩⟩
theorem main_1_1 : Claimed_1_1 := comes_1 fun _ _ _ _ _ _ h hF => ⟨h.1, hF⟩
theorem main_1_2 : Claimed_1_2 := comes_1 fun _ _ _ _ _ _ h hF => ⟨h.2.1, hF⟩
end Jvm.Pilot.@@N@@
namespace Jvm.Pilot.@@N@@
open Jvm Jvm.ClassFile Sem Op Lib Jvm.Free Jvm.Stand Jvm.Pilot.@@N@@.Jvm.D
/-! MADE BY PROGRAM (witnessworld.py) out of the Statement's table words and the real class files: 10 classes; the members and pool entries that the words name. The judged class is class 1, her method 1. -/
namespace start1
open Jvm.ClassFile
def u (s : String) : CpInfo := .utf8 (stringToUtf16 s)
/-- a pool by its gaps: so many unusable entries, then the entry; so many at the end -/
def gap : Nat → List CpInfo → List CpInfo
  | 0, r => r
  | n + 1, r => .unusable :: gap n r
def poolList (es : List (Nat × CpInfo)) (last : Nat) : List CpInfo := es.foldr (fun e r => gap e.1 (e.2 :: r)) (gap last [])
def pool (es : List (Nat × CpInfo)) (last : Nat) : Array CpInfo := ⟨poolList es last⟩
def fileOf (pool : Array CpInfo) (this : Nat) (attrs : Array Attribute := #[]) (ms : Array MethodInfo := #[]) (fl : Nat := 33) (sup : Nat := 0) (ifs : Array Nat := #[]) (fds : Array FieldInfo := #[]) : ClassFile where
  minorVersion := 0
  majorVersion := 65
  constantPool := pool
  accessFlags := fl
  thisClass := this
  superClass := sup
  interfaces := ifs
  fields := fds
  methods := ms
  attributes := attrs
def plain (name : String) (sup : Option ClassId) : Class where
  name := name
  kind := .ordinary
  loader := none
  accessFlags := 33
  super := sup
  interfaces := #[]
  cf := none
  fields := #[]
  methods := #[]
  instanceTypes := #[]
  staticTypes := #[]
  resolved := #[]
  callSites := []
  init := .initialized
  statics := none
  mirror := none

def pool0 : Array CpInfo := pool [(5, u "<init>"), (0, u "()V"), (1, .class_ 10), (1, u "java/lang/Object")] 113

def k0m0 : Method := { name := "<init>", desc := "()V", sig := { parameters := [], returnType := none }, accessFlags := 1, code := none }
/-- java/lang/Object -/
def k0 : Class := { plain "java/lang/Object" none with
  accessFlags := 33
  interfaces := #[]
  cf := some (fileOf pool0 8 #[] #[{ accessFlags := 1, nameIndex := 5, descriptorIndex := 6, attributes := #[] }] 33 0 #[] #[])
  fields := #[]
  methods := #[k0m0]
  instanceTypes := #[]
  staticTypes := #[]
  resolved := Array.replicate 124 none
  statics := none }

def pool1 : Array CpInfo := pool [(2, .class_ 4), (1, u "java/lang/Object"), (0, u "<init>"), (0, u "()V"), (2, .long 9223372036854775807), (1, .methodref 12 13), (0, .class_ 14), (0, .nameAndType 15 16), (0, u "com/example/unsettle/unsettle/Draws"), (0, u "stepOf"), (0, u "(JZ)J"), (0, .methodref 12 18), (0, .nameAndType 19 20), (0, u "offsetOfStep"), (0, u "(J)J"), (0, .class_ 22), (0, u "com/example/unsettle/unsettle/DrawsStepOfPinLaw"), (2, u "law"), (0, u "(JI)Z")] 3

def k1m0 : Method := { name := "<init>", desc := "()V", sig := { parameters := [], returnType := none }, accessFlags := 1, code := none }
def k1c1 : Code := { maxStack := 4, maxLocals := 11, code := code, exceptionTable := #[], attributes := #[] }
def k1m1 : Method := { name := "law", desc := "(JI)Z", sig := { parameters := [.long, .int], returnType := some .boolean }, accessFlags := 9, code := some k1c1 }
/-- com/example/unsettle/unsettle/DrawsStepOfPinLaw -/
def k1 : Class := { plain "com/example/unsettle/unsettle/DrawsStepOfPinLaw" (some 0) with
  accessFlags := 49
  interfaces := #[]
  cf := some (fileOf pool1 21 #[] #[{ accessFlags := 1, nameIndex := 5, descriptorIndex := 6, attributes := #[] }, { accessFlags := 9, nameIndex := 25, descriptorIndex := 26, attributes := #[] }] 49 2 #[] #[])
  fields := #[]
  methods := #[k1m0, k1m1]
  instanceTypes := #[]
  staticTypes := #[]
  resolved := Array.replicate 30 none
  statics := none }

def pool2 : Array CpInfo := pool [(2, .class_ 4), (1, u "java/lang/Object"), (3, .class_ 10), (1, u "com/example/unsettle/unsettle/Draws"), (0, u "values"), (0, u "[J"), (2, u "mins"), (2, u "maxs"), (2, u "partsEnds"), (0, u "[I"), (2, u "marks"), (0, u "[Lcom/example/unsettle/unsettle/Draws$Mark;"), (2, u "elementStarts"), (2, u "elementEnds"), (2, u "sizeDraws"), (2, u "repeats"), (0, u "Ljava/util/BitSet;"), (2, u "argumentStarts"), (2, u "argumentEnds"), (2, u "previousSiblings"), (12, .class_ 63), (1, u "java/lang/Math"), (1, u "(JJ)J"), (0, .methodref 61 67), (0, .nameAndType 68 65), (0, u "max"), (87, u "collectionEnds"), (19, u "holders"), (86, .methodref 61 264), (0, .nameAndType 265 266), (0, u "abs"), (0, u "(J)J"), (0, u "UNCOUNTED"), (0, u "I"), (57, u "offsetOfStep"), (0, u "stepOf"), (0, u "(JZ)J"), (3, .class_ 333), (0, u "com/example/unsettle/unsettle/Draws$Recorder"), (0, .class_ 335), (0, u "com/example/unsettle/unsettle/Draws$Mark")] 17

def k2c0 : Code := { maxStack := 4, maxLocals := 2, code := prog_14_method_82_code, exceptionTable := #[], attributes := #[] }
def k2m0 : Method := { name := "offsetOfStep", desc := "(J)J", sig := { parameters := [.long], returnType := some .long }, accessFlags := 8, code := some k2c0 }
def k2c1 : Code := { maxStack := 4, maxLocals := 5, code := prog_14_method_83_code, exceptionTable := #[], attributes := #[] }
def k2m1 : Method := { name := "stepOf", desc := "(JZ)J", sig := { parameters := [.long, .boolean], returnType := some .long }, accessFlags := 8, code := some k2c1 }
/-- com/example/unsettle/unsettle/Draws -/
def k2 : Class := { plain "com/example/unsettle/unsettle/Draws" (some 0) with
  accessFlags := 48
  interfaces := #[]
  cf := some (fileOf pool2 8 #[.nestMembers #[332, 334]] #[{ accessFlags := 8, nameIndex := 326, descriptorIndex := 266, attributes := #[] }, { accessFlags := 8, nameIndex := 327, descriptorIndex := 328, attributes := #[] }] 48 2 #[] #[{ accessFlags := 24, nameIndex := 267, descriptorIndex := 268, attributes := #[] }, { accessFlags := 18, nameIndex := 11, descriptorIndex := 12, attributes := #[] }, { accessFlags := 18, nameIndex := 15, descriptorIndex := 12, attributes := #[] }, { accessFlags := 18, nameIndex := 18, descriptorIndex := 12, attributes := #[] }, { accessFlags := 18, nameIndex := 21, descriptorIndex := 22, attributes := #[] }, { accessFlags := 18, nameIndex := 25, descriptorIndex := 26, attributes := #[] }, { accessFlags := 18, nameIndex := 29, descriptorIndex := 22, attributes := #[] }, { accessFlags := 18, nameIndex := 32, descriptorIndex := 22, attributes := #[] }, { accessFlags := 18, nameIndex := 35, descriptorIndex := 22, attributes := #[] }, { accessFlags := 18, nameIndex := 38, descriptorIndex := 39, attributes := #[] }, { accessFlags := 18, nameIndex := 42, descriptorIndex := 22, attributes := #[] }, { accessFlags := 18, nameIndex := 45, descriptorIndex := 22, attributes := #[] }, { accessFlags := 18, nameIndex := 48, descriptorIndex := 22, attributes := #[] }, { accessFlags := 2, nameIndex := 176, descriptorIndex := 22, attributes := #[] }, { accessFlags := 2, nameIndex := 156, descriptorIndex := 22, attributes := #[] }])
  fields := #[{ name := "UNCOUNTED", type := .int, accessFlags := 24, slot := 0, constantValue := 0 }, { name := "values", type := (.array .long), accessFlags := 18, slot := 0, constantValue := 0 }, { name := "mins", type := (.array .long), accessFlags := 18, slot := 1, constantValue := 0 }, { name := "maxs", type := (.array .long), accessFlags := 18, slot := 2, constantValue := 0 }, { name := "partsEnds", type := (.array .int), accessFlags := 18, slot := 3, constantValue := 0 }, { name := "marks", type := (.array (.object "com/example/unsettle/unsettle/Draws$Mark")), accessFlags := 18, slot := 4, constantValue := 0 }, { name := "elementStarts", type := (.array .int), accessFlags := 18, slot := 5, constantValue := 0 }, { name := "elementEnds", type := (.array .int), accessFlags := 18, slot := 6, constantValue := 0 }, { name := "sizeDraws", type := (.array .int), accessFlags := 18, slot := 7, constantValue := 0 }, { name := "repeats", type := (.object "java/util/BitSet"), accessFlags := 18, slot := 8, constantValue := 0 }, { name := "argumentStarts", type := (.array .int), accessFlags := 18, slot := 9, constantValue := 0 }, { name := "argumentEnds", type := (.array .int), accessFlags := 18, slot := 10, constantValue := 0 }, { name := "previousSiblings", type := (.array .int), accessFlags := 18, slot := 11, constantValue := 0 }, { name := "holders", type := (.array .int), accessFlags := 2, slot := 12, constantValue := 0 }, { name := "collectionEnds", type := (.array .int), accessFlags := 2, slot := 13, constantValue := 0 }]
  methods := #[k2m0, k2m1]
  instanceTypes := #[(.array .long), (.array .long), (.array .long), (.array .int), (.array (.object "com/example/unsettle/unsettle/Draws$Mark")), (.array .int), (.array .int), (.array .int), (.object "java/util/BitSet"), (.array .int), (.array .int), (.array .int), (.array .int), (.array .int)]
  staticTypes := #[.int]
  resolved := Array.replicate 353 none
  statics := none }

def pool3 : Array CpInfo := pool [(1, .class_ 2), (0, u "java/lang/Math"), (1, .class_ 6), (1, u "java/lang/Object"), (0, u "<init>"), (0, u "()V"), (89, .class_ 100), (1, u "java/lang/Math$RandomNumberGeneratorHolder"), (20, u "(JJ)J"), (2, u "abs"), (0, u "(J)J"), (46, u "negativeZeroFloatBits"), (0, u "J"), (2, u "negativeZeroDoubleBits"), (21, u "max"), (46, u "$assertionsDisabled"), (0, u "Z"), (91, u "twoToTheDoubleScaleDown"), (0, u "D"), (4, u "twoToTheDoubleScaleUp"), (9, u "E"), (3, u "PI"), (2, u "TAU"), (2, u "DEGREES_TO_RADIANS"), (0, u "RADIANS_TO_DEGREES")] 94

def k3m0 : Method := { name := "<init>", desc := "()V", sig := { parameters := [], returnType := none }, accessFlags := 2, code := none }
def k3c1 : Code := { maxStack := 4, maxLocals := 2, code := jdk_29_method_61_code, exceptionTable := #[], attributes := #[] }
def k3m1 : Method := { name := "abs", desc := "(J)J", sig := { parameters := [.long], returnType := some .long }, accessFlags := 9, code := some k3c1 }
def k3c2 : Code := { maxStack := 4, maxLocals := 4, code := jdk_29_method_66_code, exceptionTable := #[], attributes := #[] }
def k3m2 : Method := { name := "max", desc := "(JJ)J", sig := { parameters := [.long, .long], returnType := some .long }, accessFlags := 9, code := some k3c2 }
/-- java/lang/Math -/
def k3 : Class := { plain "java/lang/Math" (some 0) with
  accessFlags := 49
  interfaces := #[]
  cf := some (fileOf pool3 1 #[.nestMembers #[98]] #[{ accessFlags := 2, nameIndex := 7, descriptorIndex := 8, attributes := #[] }, { accessFlags := 9, nameIndex := 124, descriptorIndex := 125, attributes := #[] }, { accessFlags := 9, nameIndex := 198, descriptorIndex := 121, attributes := #[] }] 49 4 #[] #[{ accessFlags := 25, nameIndex := 354, descriptorIndex := 339, attributes := #[] }, { accessFlags := 25, nameIndex := 358, descriptorIndex := 339, attributes := #[] }, { accessFlags := 25, nameIndex := 361, descriptorIndex := 339, attributes := #[] }, { accessFlags := 26, nameIndex := 364, descriptorIndex := 339, attributes := #[] }, { accessFlags := 26, nameIndex := 365, descriptorIndex := 339, attributes := #[] }, { accessFlags := 26, nameIndex := 172, descriptorIndex := 173, attributes := #[] }, { accessFlags := 26, nameIndex := 176, descriptorIndex := 173, attributes := #[] }, { accessFlags := 8, nameIndex := 344, descriptorIndex := 339, attributes := #[] }, { accessFlags := 8, nameIndex := 338, descriptorIndex := 339, attributes := #[] }, { accessFlags := 4120, nameIndex := 245, descriptorIndex := 246, attributes := #[] }])
  fields := #[{ name := "E", type := .double, accessFlags := 25, slot := 0, constantValue := 0 }, { name := "PI", type := .double, accessFlags := 25, slot := 1, constantValue := 0 }, { name := "TAU", type := .double, accessFlags := 25, slot := 2, constantValue := 0 }, { name := "DEGREES_TO_RADIANS", type := .double, accessFlags := 26, slot := 3, constantValue := 0 }, { name := "RADIANS_TO_DEGREES", type := .double, accessFlags := 26, slot := 4, constantValue := 0 }, { name := "negativeZeroFloatBits", type := .long, accessFlags := 26, slot := 5, constantValue := 0 }, { name := "negativeZeroDoubleBits", type := .long, accessFlags := 26, slot := 6, constantValue := 0 }, { name := "twoToTheDoubleScaleUp", type := .double, accessFlags := 8, slot := 7, constantValue := 0 }, { name := "twoToTheDoubleScaleDown", type := .double, accessFlags := 8, slot := 8, constantValue := 0 }, { name := "$assertionsDisabled", type := .boolean, accessFlags := 4120, slot := 9, constantValue := 0 }]
  methods := #[k3m0, k3m1, k3m2]
  instanceTypes := #[]
  staticTypes := #[.double, .double, .double, .double, .double, .long, .long, .double, .double, .boolean]
  resolved := Array.replicate 460 none
  statics := none }

def pool4 : Array CpInfo := pool [(1, u "java/lang/Cloneable"), (0, .class_ 1), (0, u "java/lang/Object"), (0, .class_ 3)] 3

/-- java/lang/Cloneable -/
def k4 : Class := { plain "java/lang/Cloneable" (some 0) with
  accessFlags := 1537
  interfaces := #[]
  cf := some (fileOf pool4 2 #[] #[] 1537 4 #[] #[])
  fields := #[]
  methods := #[]
  instanceTypes := #[]
  staticTypes := #[]
  resolved := Array.replicate 8 none
  statics := none }

def pool5 : Array CpInfo := pool [(1, u "java/io/Serializable"), (0, .class_ 1), (0, u "java/lang/Object"), (0, .class_ 3)] 3

/-- java/io/Serializable -/
def k5 : Class := { plain "java/io/Serializable" (some 0) with
  accessFlags := 1537
  interfaces := #[]
  cf := some (fileOf pool5 2 #[] #[] 1537 4 #[] #[])
  fields := #[]
  methods := #[]
  instanceTypes := #[]
  staticTypes := #[]
  resolved := Array.replicate 8 none
  statics := none }

/-- the primitive byte -/
def k6 : Class := { plain "byte" none with kind := .primitive 'B', accessFlags := 0x411 }
/-- [B -/
def k7 : Class := { plain "[B" (some 0) with kind := .array 6 .byte, interfaces := #[4, 5], accessFlags := 1041 }

/-- the primitive int -/
def k8 : Class := { plain "int" none with kind := .primitive 'I', accessFlags := 0x411 }
/-- [I -/
def k9 : Class := { plain "[I" (some 0) with kind := .array 8 .int, interfaces := #[4, 5], accessFlags := 1041 }

def heap : Heap := #[]
def classes : Array Class := #[k0, k1, k2, k3, k4, k5, k6, k7, k8, k9]
def interned : List (Array UInt16 × Addr) := []
def slotsUsed : Nat := 0
def theMethod : MethodId := ⟨1, 1⟩
def args0 : Array Value := #[.long 5, .int 0]
def aboutOver (below : List Frame) : State where
  vm := { classes := classes, interned := interned.toArray }
  heap := heap
  slotsUsed := slotsUsed
  threads := #[{ frames := .invoking theMethod args0 :: below }]
def below0 : List Frame := [.native { method := ⟨0, 0⟩, args := #[] }]
def about1 : State := aboutOver below0
def p0 : Program := .bare "" "" ""
def e0 : Env := launch0.env 0 0 0
theorem w_frames : about1.frames = Frame.invoking theMethod args0 :: below0 := rfl
set_option maxRecDepth 65536 in
theorem w_args : argsFit about1.vm theMethod args0 = true := by decide +kernel
set_option maxRecDepth 65536 in
theorem w_heap : heapFits about1 = true := by decide +kernel
set_option maxRecDepth 65536 in
theorem w_runnable : about1.curStatus? = some .runnable := by decide +kernel
set_option maxRecDepth 65536 in
theorem w_alone : about1.alone = true := by decide +kernel
set_option maxRecDepth 65536 in
theorem w_named : about1.methodNamed? x = some theMethod := by decide +kernel
set_option maxRecDepth 65536 in
theorem w_hears : about1.hears theMethod below0 = true := by decide +kernel
set_option maxRecDepth 65536 in
theorem w_ripe : about1.ripe theMethod args0 below0 = true := by decide +kernel
theorem w_running : about1.status = .running := rfl
set_option maxRecDepth 65536 in
theorem w_room : about1.hasRoom e0.platform room_1 = true :=
  launch0.hasRoom_least _ room_1 (by decide +kernel) (by decide +kernel) (by decide +kernel) (by decide +kernel) (by decide +kernel) (by decide +kernel)
theorem allAtoms_all (ts : List Jvm.Cond) (a : Array Jvm.Value) (st : Jvm.State) : (allAtoms ts).before a st = ts.all (fun c => c.before a st) := by
  induction ts with
  | nil => rfl
  | cons c t ih =>
    show (Jvm.Cond.and c (allAtoms t)).before a st = _
    rw [Jvm.Cond.before_and, ih, List.all_cons]
def words1 : List Jvm.Cond := Jvm.Cond.code x code maxLocals ret :: tables_1
/-- a 'code' word, met by the world's own term for the bytes: nothing is compared byte by byte -/
theorem code_word {y : MethodName} {bytes : ByteArray} {mx : Nat} {rt : Option FieldType} {a : Array Value} {s : State} {m : MethodId} {meth : Method} {c : Code} (h1 : s.methodNamed? y = some m) (h2 : s.vm.method? m = some meth) (h3 : meth.code = some c) (h4 : c.code = bytes)
    (h5 : (c.maxLocals == mx && c.exceptionTable.isEmpty && decide (c.maxStack ≤ mostOperands) && decide (meth.sig.returnType = rt) && !meth.locks && decide (parseMethodDescriptor y.desc = some meth.sig)) = true) : (Jvm.Cond.code y bytes mx rt).before a s = true := by
  simp only [Bool.and_eq_true, beq_iff_eq, Bool.not_eq_true', decide_eq_true_eq] at h5
  obtain ⟨⟨⟨⟨⟨g1, g2⟩, g3⟩, g4⟩, g5⟩, g6⟩ := h5
  simp [Cond.before, Cond.holds, Cond.value, h1, h2, h3, h4, g1, g2, g3, g4, g5, g6]
def isCode : Jvm.Cond → Bool
  | .code _ _ _ _ => true
  | _ => false
theorem all_split {L : List Jvm.Cond} {P : Jvm.Cond → Bool} (h1 : L.all (fun c => isCode c || P c) = true) (h2 : ∀ c ∈ L.filter isCode, P c = true) : L.all P = true := by
  refine List.all_eq_true.mpr fun c hc => ?_
  have h := List.all_eq_true.mp h1 c hc
  rcases Bool.eq_false_or_eq_true (isCode c) with hi | hi
  · exact h2 c (List.mem_filter.mpr ⟨hc, hi⟩)
  · simpa [hi] using h
set_option maxRecDepth 65536 in
theorem w_c0 : (Jvm.Cond.code x code maxLocals ret).before args0 about1 = true := code_word (m := ⟨1, 1⟩) (meth := k1m1) (c := k1c1) (by decide +kernel) rfl rfl rfl (by decide +kernel)
set_option maxRecDepth 65536 in
theorem w_c1 : (Jvm.Cond.code ({ cls := "com/example/unsettle/unsettle/Draws", name := "stepOf", desc := "(JZ)J" } : Jvm.MethodName) prog_14_method_83_code (5 : Nat) (Option.some Jvm.ClassFile.FieldType.long)).before args0 about1 = true := code_word (m := ⟨2, 1⟩) (meth := k2m1) (c := k2c1) (by decide +kernel) rfl rfl rfl (by decide +kernel)
set_option maxRecDepth 65536 in
theorem w_c2 : (Jvm.Cond.code ({ cls := "com/example/unsettle/unsettle/Draws", name := "offsetOfStep", desc := "(J)J" } : Jvm.MethodName) prog_14_method_82_code (2 : Nat) (Option.some Jvm.ClassFile.FieldType.long)).before args0 about1 = true := code_word (m := ⟨2, 0⟩) (meth := k2m0) (c := k2c0) (by decide +kernel) rfl rfl rfl (by decide +kernel)
set_option maxRecDepth 65536 in
theorem w_c3 : (Jvm.Cond.code ({ cls := "java/lang/Math", name := "abs", desc := "(J)J" } : Jvm.MethodName) jdk_29_method_61_code (2 : Nat) (Option.some Jvm.ClassFile.FieldType.long)).before args0 about1 = true := code_word (m := ⟨3, 1⟩) (meth := k3m1) (c := k3c1) (by decide +kernel) rfl rfl rfl (by decide +kernel)
set_option maxRecDepth 65536 in
theorem w_c4 : (Jvm.Cond.code ({ cls := "java/lang/Math", name := "max", desc := "(JJ)J" } : Jvm.MethodName) jdk_29_method_66_code (4 : Nat) (Option.some Jvm.ClassFile.FieldType.long)).before args0 about1 = true := code_word (m := ⟨3, 2⟩) (meth := k3m2) (c := k3c2) (by decide +kernel) rfl rfl rfl (by decide +kernel)
def codes1 : List Jvm.Cond := [Jvm.Cond.code x code maxLocals ret, Jvm.Cond.code ({ cls := "com/example/unsettle/unsettle/Draws", name := "stepOf", desc := "(JZ)J" } : Jvm.MethodName) prog_14_method_83_code (5 : Nat) (Option.some Jvm.ClassFile.FieldType.long), Jvm.Cond.code ({ cls := "com/example/unsettle/unsettle/Draws", name := "offsetOfStep", desc := "(J)J" } : Jvm.MethodName) prog_14_method_82_code (2 : Nat) (Option.some Jvm.ClassFile.FieldType.long), Jvm.Cond.code ({ cls := "java/lang/Math", name := "abs", desc := "(J)J" } : Jvm.MethodName) jdk_29_method_61_code (2 : Nat) (Option.some Jvm.ClassFile.FieldType.long), Jvm.Cond.code ({ cls := "java/lang/Math", name := "max", desc := "(JJ)J" } : Jvm.MethodName) jdk_29_method_66_code (4 : Nat) (Option.some Jvm.ClassFile.FieldType.long)]
set_option maxRecDepth 65536 in
theorem codes_eq : words1.filter isCode = codes1 := rfl
theorem w_codes : ∀ c ∈ words1.filter isCode, c.before args0 about1 = true := by
  rw [codes_eq]
  intro c hc
  simp only [codes1, List.mem_cons, List.not_mem_nil, or_false] at hc
  rcases hc with rfl | rfl | rfl | rfl | rfl
  · exact w_c0
  · exact w_c1
  · exact w_c2
  · exact w_c3
  · exact w_c4
set_option maxRecDepth 65536 in
theorem w_t1 : words1.all (fun c => isCode c || c.before args0 about1) = true := by decide +kernel
theorem w_tables : (allAtoms (Jvm.Cond.code x code maxLocals ret :: tables_1)).before args0 about1 = true := by
  rw [allAtoms_all]
  show words1.all (fun c => c.before args0 about1) = true
  refine all_split ?_ w_codes
  rw [w_t1]
set_option maxRecDepth 65536 in
theorem w_case : (Jvm.Cond.and given_1 narrow_1).before args0 about1 = true := by decide +kernel
theorem w_applies : (headSpec (Jvm.Cond.code x code maxLocals ret :: tables_1) room_1).applies x e0.platform about1 = true :=
  (Spec.applies_iff w_frames).mpr ⟨w_running, w_runnable, w_alone, w_named, w_hears, w_ripe, w_room, w_tables⟩
theorem atStart : AtStart classFile x code maxLocals ret World_1 tables_1 room_1 Calls_1 rest_1 Pre_1 launch0 p0 e0 about1 theMethod args0 below0 :=
  ⟨lists_1, trivial, launch0.admits_env _ _ _, launch0.least_env, fairChoices_fair.cas, fairChoices_fair.clock, w_frames, w_args, w_heap, w_applies, trivial, trivial, w_case⟩
end start1
theorem witness_1 : WitnessClaimed_1 := ⟨start1.p0, start1.e0, start1.about1, start1.theMethod, start1.args0, start1.below0, start1.atStart⟩
end Jvm.Pilot.@@N@@
