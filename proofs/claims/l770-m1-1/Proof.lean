import JvmDerived
import JvmDerived.Pilot.@@N@@Statement
import JvmDerived.Pilot.@@N@@Code
set_option linter.unusedVariables false
set_option linter.unusedSimpArgs false
namespace Jvm.RoadKit
open Sem ClassFile Op Lib Jvm.Stand Jvm.Free Jvm.LawKit
section New
variable {p : Program} {l : Launch} {e : Env} {R : Room} {s : State} {m : MethodId} {args : Array Value} {below : List Frame} {meth : Method} {c : Code} {T : State} {locs : List Loc} {cells slots : Nat}
theorem retI (X : Stand p l e R s m args below meth c T locs cells slots) (hx : p.tables.exec = Jvm.exec) {pc : Nat} {Ls : Array Slot} {z : Int32} {rest : List Value} (hret : meth.sig.returnType = some .int) (hd : decode c.code pc = .ok (.ireturn, 1)) {fs : List Frame}
    (hl : ∀ (f : JFrame) (acts : List Action), f.method = m → f.locked = none → f.entered = [] → (doReturn e (T.setTop f) acts (some (.int z))).1 = T.setFrames fs) : Steps p.tables e below (T.setTop (mkF m pc Ls (.int z :: rest))) (T.setFrames fs) := by
  have hm' : T.vm.method? m = some meth := X.method'
  have hn : narrow .int (.int z) = .int z := rfl
  show Steps p.tables e below (T.setTop { method := m, pc := pc, locals := Ls, stack := _ :: rest, locked := none }) _
  jvm_step X.here [X.here.top, hx, hd, hm', hret, hn]
  first | (intro acts; rw [hl _ acts rfl rfl rfl]) | rw [hl _ _ rfl rfl rfl]
  exact Steps.refl _
theorem retAddr (X : Stand p l e R s m args below meth c T locs cells slots) (hx : p.tables.exec = Jvm.exec) {pc : Nat} {Ls : Array Slot} {z : Addr} {rest : List Value} {t : FieldType} (hret : meth.sig.returnType = some t) (ht : t.isReference = true) (hd : decode c.code pc = .ok (.areturn, 1)) {fs : List Frame}
    (hl : ∀ (f : JFrame) (acts : List Action), f.method = m → f.locked = none → f.entered = [] → (doReturn e (T.setTop f) acts (some (.ref z))).1 = T.setFrames fs) : Steps p.tables e below (T.setTop (mkF m pc Ls (.ref z :: rest))) (T.setFrames fs) := by
  have hm' : T.vm.method? m = some meth := X.method'
  show Steps p.tables e below (T.setTop { method := m, pc := pc, locals := Ls, stack := _ :: rest, locked := none }) _
  jvm_step X.here [X.here.top, hx, hd, hm', hret, ht, Value.isRef]
  first | (intro acts; rw [hl _ acts rfl rfl rfl]) | rw [hl _ _ rfl rfl rfl]
  exact Steps.refl _
end New
end Jvm.RoadKit
namespace Jvm.Pilot.@@N@@
open Jvm Jvm.ClassFile Sem Op Lib Jvm.Free Jvm.Stand Jvm.LawKit Jvm.RoadKit Bundle Jvm.Pilot.@@N@@.Jvm.D
/-- from A the run ends, returning, as Q says of the value, the heap and the places written -/
def own_Fin (tb : Tables) (e : Env) (below : List Frame) (s : State) (C S : Nat) (Q : Option Value → Heap → List Loc → Prop) (A : State) : Prop :=
  ∃ s₂ o, Steps tb e below A s₂ ∧ s₂.status = .running ∧ Ended s₂ below o ∧ ∃ v L, o = .returned v ∧ Q v s₂.heap L ∧ FrameEnd s o s₂ L C S
theorem own_st {tb : Tables} {e : Env} {below : List Frame} {s : State} {C S : Nat} {Q : Option Value → Heap → List Loc → Prop} {A B : State} (h : ∀ t, Steps tb e below B t → Steps tb e below A t) (k : own_Fin tb e below s C S Q B) : own_Fin tb e below s C S Q A := by
  obtain ⟨s₂, o, h1, h2⟩ := k
  exact ⟨s₂, o, h _ h1, h2⟩
section Ret
variable {p : Program} {l : Launch} {e : Env} {R : Room} {s : State} {m : MethodId} {args : Array Value} {below : List Frame} {meth : Method} {c : Code} {T : State} {locs : List Loc} {cells slots : Nat} {Q : Option Value → Heap → List Loc → Prop} {C S : Nat}
theorem own_retN (X : Stand p l e R s m args below meth c T locs cells slots) (hx : p.tables.exec = Jvm.exec) (hk : meth.locks = false) {t : FieldType} (hret : meth.sig.returnType = some t) (ht : t = .boolean ∨ t = .byte ∨ t = .char ∨ t = .short) {pc : Nat} {Ls : Array Slot} {z : Int32} {rest : List Value} (hd : decode c.code pc = .ok (.ireturn, 1)) (hC : cells ≤ C) (hS : slots ≤ S) (hq : Q (some (.int (nar t z))) T.heap locs) : own_Fin p.tables e below s C S Q (T.setTop (mkF m pc Ls (.int z :: rest))) := by
  obtain ⟨fs, hr, hrun, hended, hW, hsame⟩ := X.leave (v := some (.int (nar t z))) (fun h => by rw [hret] at h; cases h)
  exact ⟨_, _, retN X hx hret ht hd hr, hrun, hended, _, _, rfl, hq, ⟨_, rfl⟩, hW, hsame.mono hC hS⟩
theorem own_retI (X : Stand p l e R s m args below meth c T locs cells slots) (hx : p.tables.exec = Jvm.exec) (hk : meth.locks = false) (hret : meth.sig.returnType = some .int) {pc : Nat} {Ls : Array Slot} {z : Int32} {rest : List Value} (hd : decode c.code pc = .ok (.ireturn, 1)) (hC : cells ≤ C) (hS : slots ≤ S) (hq : Q (some (.int z)) T.heap locs) : own_Fin p.tables e below s C S Q (T.setTop (mkF m pc Ls (.int z :: rest))) := by
  obtain ⟨fs, hr, hrun, hended, hW, hsame⟩ := X.leave (v := some (.int z)) (fun h => by rw [hret] at h; cases h)
  exact ⟨_, _, retI X hx hret hd hr, hrun, hended, _, _, rfl, hq, ⟨_, rfl⟩, hW, hsame.mono hC hS⟩
theorem own_retA (X : Stand p l e R s m args below meth c T locs cells slots) (hx : p.tables.exec = Jvm.exec) (hk : meth.locks = false) {t : FieldType} (hret : meth.sig.returnType = some t) (ht : t.isReference = true) {pc : Nat} {Ls : Array Slot} {z : Addr} {rest : List Value} (hd : decode c.code pc = .ok (.areturn, 1)) (hC : cells ≤ C) (hS : slots ≤ S) (hq : Q (some (.ref z)) T.heap locs) : own_Fin p.tables e below s C S Q (T.setTop (mkF m pc Ls (.ref z :: rest))) := by
  obtain ⟨fs, hr, hrun, hended, hW, hsame⟩ := X.leave (v := some (.ref z)) (fun h => by rw [hret] at h; cases h)
  exact ⟨_, _, retAddr X hx hret ht hd hr, hrun, hended, _, _, rfl, hq, ⟨_, rfl⟩, hW, hsame.mono hC hS⟩
theorem own_retJ (X : Stand p l e R s m args below meth c T locs cells slots) (hx : p.tables.exec = Jvm.exec) (hk : meth.locks = false) (hret : meth.sig.returnType = some .long) {pc : Nat} {Ls : Array Slot} {z : Int64} (hd : decode c.code pc = .ok (.lreturn, 1)) (hC : cells ≤ C) (hS : slots ≤ S) (hq : Q (some (.long z)) T.heap locs) : own_Fin p.tables e below s C S Q (T.setTop (mkF m pc Ls [.long z])) := by
  obtain ⟨fs, hr, hrun, hended, hW, hsame⟩ := X.leave (v := some (.long z)) (fun h => by rw [hret] at h; cases h)
  exact ⟨_, _, X.lreturnOut hx hret hd hr, hrun, hended, _, _, rfl, hq, ⟨_, rfl⟩, hW, hsame.mono hC hS⟩
theorem own_retV (X : Stand p l e R s m args below meth c T locs cells slots) (hx : p.tables.exec = Jvm.exec) (hk : meth.locks = false) (hret : meth.sig.returnType = none) {pc : Nat} {Ls : Array Slot} (hd : decode c.code pc = .ok (.return_, 1)) (hC : cells ≤ C) (hS : slots ≤ S) (hq : Q none T.heap locs) : own_Fin p.tables e below s C S Q (T.setTop (mkF m pc Ls [])) := by
  obtain ⟨fs, hr, hrun, hended, hW, hsame⟩ := X.leave (v := none) (fun _ => rfl)
  exact ⟨_, _, X.returnOut hx hret hd hr, hrun, hended, _, _, rfl, hq, ⟨_, rfl⟩, hW, hsame.mono hC hS⟩
end Ret
theorem own_ltT {a b : Int64} (h : a < b) : ifCond.holds .lt (lcmpW a b) = true ∧ ifCond.holds .ge (lcmpW a b) = false := by
  have q := (lw_lt a b).mpr h
  exact ⟨(if0 _ _).trans (tlt q).1, (if0 _ _).trans (tlt q).2.1⟩
theorem own_ltF {a b : Int64} (h : ¬ a < b) : ifCond.holds .lt (lcmpW a b) = false ∧ ifCond.holds .ge (lcmpW a b) = true := by
  have q := mt (lw_lt a b).mp h
  exact ⟨(if0 _ _).trans (flt q).1, (if0 _ _).trans (flt q).2.1⟩
theorem own_gtT {a b : Int64} (h : b < a) : ifCond.holds .gt (lcmpW a b) = true ∧ ifCond.holds .le (lcmpW a b) = false := by
  have q := (lw_gt a b).mpr h
  exact ⟨(if0 _ _).trans (tlt q).2.2.1, (if0 _ _).trans (tlt q).2.2.2⟩
theorem own_gtF {a b : Int64} (h : ¬ b < a) : ifCond.holds .gt (lcmpW a b) = false ∧ ifCond.holds .le (lcmpW a b) = true := by
  have q := mt (lw_gt a b).mp h
  exact ⟨(if0 _ _).trans (flt q).2.2.1, (if0 _ _).trans (flt q).2.2.2⟩
theorem own_eqT {a b : Int64} (h : a = b) : ifCond.holds .eq (lcmpW a b) = true ∧ ifCond.holds .ne (lcmpW a b) = false := by
  have q := (lw_eq a b).mpr h
  exact ⟨(if0 _ _).trans (teq q).1, (if0 _ _).trans (teq q).2⟩
theorem own_eqF {a b : Int64} (h : ¬ a = b) : ifCond.holds .eq (lcmpW a b) = false ∧ ifCond.holds .ne (lcmpW a b) = true := by
  have q := mt (lw_eq a b).mp h
  exact ⟨(if0 _ _).trans (feq q).1, (if0 _ _).trans (feq q).2⟩
theorem d1_0 : decode method_2_code 0 = .ok (.iload_n 2, 1) := by decide +kernel
theorem d1_1 : decode method_2_code 1 = .ok (.bipush 7, 2) := by decide +kernel
theorem d1_3 : decode method_2_code 3 = .ok (.iand, 1) := by decide +kernel
theorem d1_4 : decode method_2_code 4 = .ok (.istore_n 3, 1) := by decide +kernel
theorem d1_5 : decode method_2_code 5 = .ok (.iload_n 3, 1) := by decide +kernel
theorem d1_6 : decode method_2_code 6 = .ok (.ifCond .ne 7, 3) := by decide +kernel
theorem d1_9 : decode method_2_code 9 = .ok (.ldc2_w 9, 3) := by decide +kernel
theorem d1_12 : decode method_2_code 12 = .ok (.lreturn, 1) := by decide +kernel
theorem d1_13 : decode method_2_code 13 = .ok (.iload_n 3, 1) := by decide +kernel
theorem d1_14 : decode method_2_code 14 = .ok (.iconst 1, 1) := by decide +kernel
theorem d1_15 : decode method_2_code 15 = .ok (.if_icmp .ne 7, 3) := by decide +kernel
theorem d1_18 : decode method_2_code 18 = .ok (.ldc2_w 11, 3) := by decide +kernel
theorem d1_21 : decode method_2_code 21 = .ok (.lreturn, 1) := by decide +kernel
theorem d1_22 : decode method_2_code 22 = .ok (.iload_n 3, 1) := by decide +kernel
theorem d1_23 : decode method_2_code 23 = .ok (.iconst 2, 1) := by decide +kernel
theorem d1_24 : decode method_2_code 24 = .ok (.if_icmp .ne 5, 3) := by decide +kernel
theorem d1_27 : decode method_2_code 27 = .ok (.lconst 0, 1) := by decide +kernel
theorem d1_28 : decode method_2_code 28 = .ok (.lreturn, 1) := by decide +kernel
theorem d1_29 : decode method_2_code 29 = .ok (.iload_n 3, 1) := by decide +kernel
theorem d1_30 : decode method_2_code 30 = .ok (.iconst 3, 1) := by decide +kernel
theorem d1_31 : decode method_2_code 31 = .ok (.if_icmp .ne 5, 3) := by decide +kernel
theorem d1_34 : decode method_2_code 34 = .ok (.lconst 1, 1) := by decide +kernel
theorem d1_35 : decode method_2_code 35 = .ok (.lreturn, 1) := by decide +kernel
theorem d1_36 : decode method_2_code 36 = .ok (.iload_n 3, 1) := by decide +kernel
theorem d1_37 : decode method_2_code 37 = .ok (.iconst 4, 1) := by decide +kernel
theorem d1_38 : decode method_2_code 38 = .ok (.if_icmp .ne 7, 3) := by decide +kernel
theorem d1_41 : decode method_2_code 41 = .ok (.ldc2_w 13, 3) := by decide +kernel
theorem d1_44 : decode method_2_code 44 = .ok (.lreturn, 1) := by decide +kernel
theorem d1_45 : decode method_2_code 45 = .ok (.iload_n 3, 1) := by decide +kernel
theorem d1_46 : decode method_2_code 46 = .ok (.iconst 5, 1) := by decide +kernel
theorem d1_47 : decode method_2_code 47 = .ok (.if_icmp .ne 7, 3) := by decide +kernel
theorem d1_50 : decode method_2_code 50 = .ok (.ldc2_w 15, 3) := by decide +kernel
theorem d1_53 : decode method_2_code 53 = .ok (.lreturn, 1) := by decide +kernel
theorem d1_54 : decode method_2_code 54 = .ok (.lload_n 0, 1) := by decide +kernel
theorem d1_55 : decode method_2_code 55 = .ok (.lreturn, 1) := by decide +kernel
theorem pn_1 : plainFor (⟨"com/example/unsettle/unsettle/DrawsAcrossPinLaw", "pickValue", "(JI)J"⟩ : MethodName) = true := plainFor_of_name (x := (⟨"com/example/unsettle/unsettle/DrawsAcrossPinLaw", "pickValue", "(JI)J"⟩ : MethodName)) (by first | (simp [plainName, overriddenIn]; done) | decide +kernel)
theorem ef_1 (m : MethodId) (q1 : Int64) (p2 : Int32) : entryFrame m #[(.long q1), (.int p2)] 4 = mkF m 0 #[.val (.long q1), .second, .val (.int p2), .unset] [] := by first | (simp [entryFrame, mkF, argsToLocals, Value.category]; done) | rfl
def own_F1 (q1 : Int64) (p2 : Int32) : Int64 := (if (p2 &&& (7 : Int32)) = (0 : Int32) then (-9223372036854775808 : Int64) else (if (p2 &&& (7 : Int32)) = (1 : Int32) then (9223372036854775807 : Int64) else (if (p2 &&& (7 : Int32)) = (2 : Int32) then (0 : Int64) else (if (p2 &&& (7 : Int32)) = (3 : Int32) then (1 : Int64) else (if (p2 &&& (7 : Int32)) = (4 : Int32) then (-1 : Int64) else (if (p2 &&& (7 : Int32)) = (5 : Int32) then (2 : Int64) else q1))))))
def own_Q1 (q1 : Int64) (p2 : Int32) (h0 : Heap) (n0 : Nat) (v : Option Value) (h : Heap) (L : List Loc) : Prop := v = some (.long (own_F1 q1 p2)) ∧ Fr n0 L ∧ h = h0
set_option maxRecDepth 65536 in
set_option maxHeartbeats 40000000 in
theorem rm1 (l : Launch) (Z : State) (a0 : Array Value) (hw : ∀ d ∈ tables_1, d.before a0 Z = true) (ws : List Jvm.Cond) (q1 : Int64) (p2 : Int32) (h0 : Heap) (n0 : Nat) (Z0 : n0 ≤ h0.size) :
    MetFree l (⟨"com/example/unsettle/unsettle/DrawsAcrossPinLaw", "pickValue", "(JI)J"⟩ : MethodName) (head1 (Jvm.Cond.code (⟨"com/example/unsettle/unsettle/DrawsAcrossPinLaw", "pickValue", "(JI)J"⟩ : MethodName) method_2_code 4 (some .long) :: ws) ({ frames := 0, cells := 0, slots := 0, locals := 0 } : Room)) (fun a U => a = #[(.long q1), (.int p2)] ∧ Z.Warmed39 U.vm ∧ U.heap = h0) (fun _ _ _ _ _ => True) (fun _ U o U' => ∃ v L, o = .returned v ∧ own_Q1 q1 p2 h0 n0 v U'.heap L ∧ FrameEnd U o U' L ({ frames := 0, cells := 0, slots := 0, locals := 0 } : Room).cells ({ frames := 0, cells := 0, slots := 0, locals := 0 } : Room).slots) := by
  refine MetFree.of_bodySF pn_1 hisR ?_
  intro p e s m args below meth c s₁ Bd hml0 hP hK
  obtain ⟨rfl, hZ, hh⟩ := hP
  have hx := Bd.exec
  have hby := Bd.bytes
  have hml : c.maxLocals = 4 := hml0
  have hown : s.vm.findClass "com/example/unsettle/unsettle/DrawsAcrossPinLaw" = some m.cls := findClass_of_methodNamed Bd.named
  have X0 : Stand p l e ({ frames := 0, cells := 0, slots := 0, locals := 0 } : Room) s m #[(.long q1), (.int p2)] below meth c s₁ [] 0 0 := Stand.of_body Bd
  have e0 : s₁.heap = h0 := by rw [← hh, Bd.state]; rfl
  have N0 := Fr.nil n0
  show own_Fin p.tables e below s (({ frames := 0, cells := 0, slots := 0, locals := 0 } : Room).cells) (({ frames := 0, cells := 0, slots := 0, locals := 0 } : Room).slots) (own_Q1 q1 p2 h0 n0) (s₁.setTop (entryFrame m #[(.long q1), (.int p2)] 4))
  rw [ef_1 m q1 p2]
  show own_Fin _ _ _ _ _ _ _ (s₁.setTop (mkF m 0 #[.val (.long q1), .second, .val (.int p2), .unset] []))
  refine own_st (fun t k => XS.iloadN X0.here hx rfl (hb hby d1_0) rfl k) ?_
  show own_Fin _ _ _ _ _ _ _ (s₁.setTop (mkF m 1 #[.val (.long q1), .second, .val (.int p2), .unset] [(.int p2)]))
  refine own_st (fun t k => XS.bipush X0.here hx rfl (hb hby d1_1) k) ?_
  show own_Fin _ _ _ _ _ _ _ (s₁.setTop (mkF m 3 #[.val (.long q1), .second, .val (.int p2), .unset] [(.int (7 : Int32)), (.int p2)]))
  refine own_st (fun t k => XS.iand X0.here hx rfl (hb hby d1_3) rfl k) ?_
  show own_Fin _ _ _ _ _ _ _ (s₁.setTop (mkF m 4 #[.val (.long q1), .second, .val (.int p2), .unset] [(.int (p2 &&& (7 : Int32)))]))
  refine own_st (fun t k => XS.istoreN X0.here hx rfl (hb hby d1_4) rfl (l' := #[.val (.long q1), .second, .val (.int p2), .val (.int (p2 &&& (7 : Int32)))]) rfl k) ?_
  show own_Fin _ _ _ _ _ _ _ (s₁.setTop (mkF m 5 #[.val (.long q1), .second, .val (.int p2), .val (.int (p2 &&& (7 : Int32)))] []))
  refine own_st (fun t k => XS.iloadN X0.here hx rfl (hb hby d1_5) rfl k) ?_
  show own_Fin _ _ _ _ _ _ _ (s₁.setTop (mkF m 6 #[.val (.long q1), .second, .val (.int p2), .val (.int (p2 &&& (7 : Int32)))] [(.int (p2 &&& (7 : Int32)))]))
  by_cases hc6_1 : (p2 &&& (7 : Int32)) = (0 : Int32)
  · refine own_st (fun t k => XS.ifNo X0.here hx rfl (hb hby d1_6) rfl ((if0 _ _).trans (teq hc6_1).2) k) ?_
    show own_Fin _ _ _ _ _ _ _ (s₁.setTop (mkF m 9 #[.val (.long q1), .second, .val (.int p2), .val (.int (p2 &&& (7 : Int32)))] []))
    refine own_st (X0.ldc2Long hx hown (mvT hZ (hw _ (List.mem_of_getElem? (i := 14) rfl))) (g := (mkF m 9 #[.val (.long q1), .second, .val (.int p2), .val (.int (p2 &&& (7 : Int32)))] [])) rfl (hb hby d1_9)) ?_
    show own_Fin _ _ _ _ _ _ _ (s₁.setTop (mkF m 12 #[.val (.long q1), .second, .val (.int p2), .val (.int (p2 &&& (7 : Int32)))] [(.long (-9223372036854775808 : Int64))]))
    have hv : own_F1 q1 p2 = (-9223372036854775808 : Int64) := by unfold own_F1; rw [if_pos hc6_1]
    exact own_retJ X0 hx Bd.notSynchronized Bd.returns (hb hby d1_12) (by decide) (by decide) ⟨congrArg (fun z => some (Value.long z)) hv.symm, N0, e0⟩
  · refine own_st (fun t k => XS.ifYes X0.here hx rfl (pc0 := 6) (pc' := 13) rfl (hb hby d1_6) rfl ((if0 _ _).trans (feq hc6_1).2) (by decide) (by decide) k) ?_
    show own_Fin _ _ _ _ _ _ _ (s₁.setTop (mkF m 13 #[.val (.long q1), .second, .val (.int p2), .val (.int (p2 &&& (7 : Int32)))] []))
    refine own_st (fun t k => XS.iloadN X0.here hx rfl (hb hby d1_13) rfl k) ?_
    show own_Fin _ _ _ _ _ _ _ (s₁.setTop (mkF m 14 #[.val (.long q1), .second, .val (.int p2), .val (.int (p2 &&& (7 : Int32)))] [(.int (p2 &&& (7 : Int32)))]))
    refine own_st (fun t k => XS.iconst X0.here hx rfl (hb hby d1_14) k) ?_
    show own_Fin _ _ _ _ _ _ _ (s₁.setTop (mkF m 15 #[.val (.long q1), .second, .val (.int p2), .val (.int (p2 &&& (7 : Int32)))] [(.int (1 : Int32)), (.int (p2 &&& (7 : Int32)))]))
    by_cases hc15_2 : (p2 &&& (7 : Int32)) = (1 : Int32)
    · refine own_st (fun t k => XS.icmpNo X0.here hx rfl (hb hby d1_15) rfl (teq hc15_2).2 k) ?_
      show own_Fin _ _ _ _ _ _ _ (s₁.setTop (mkF m 18 #[.val (.long q1), .second, .val (.int p2), .val (.int (p2 &&& (7 : Int32)))] []))
      refine own_st (X0.ldc2Long hx hown (mvT hZ (hw _ (List.mem_of_getElem? (i := 16) rfl))) (g := (mkF m 18 #[.val (.long q1), .second, .val (.int p2), .val (.int (p2 &&& (7 : Int32)))] [])) rfl (hb hby d1_18)) ?_
      show own_Fin _ _ _ _ _ _ _ (s₁.setTop (mkF m 21 #[.val (.long q1), .second, .val (.int p2), .val (.int (p2 &&& (7 : Int32)))] [(.long (9223372036854775807 : Int64))]))
      have hv : own_F1 q1 p2 = (9223372036854775807 : Int64) := by unfold own_F1; rw [if_neg hc6_1, if_pos hc15_2]
      exact own_retJ X0 hx Bd.notSynchronized Bd.returns (hb hby d1_21) (by decide) (by decide) ⟨congrArg (fun z => some (Value.long z)) hv.symm, N0, e0⟩
    · refine own_st (fun t k => XS.icmpYes X0.here hx rfl (pc0 := 15) (pc' := 22) rfl (hb hby d1_15) rfl (feq hc15_2).2 (by decide) (by decide) k) ?_
      show own_Fin _ _ _ _ _ _ _ (s₁.setTop (mkF m 22 #[.val (.long q1), .second, .val (.int p2), .val (.int (p2 &&& (7 : Int32)))] []))
      refine own_st (fun t k => XS.iloadN X0.here hx rfl (hb hby d1_22) rfl k) ?_
      show own_Fin _ _ _ _ _ _ _ (s₁.setTop (mkF m 23 #[.val (.long q1), .second, .val (.int p2), .val (.int (p2 &&& (7 : Int32)))] [(.int (p2 &&& (7 : Int32)))]))
      refine own_st (fun t k => XS.iconst X0.here hx rfl (hb hby d1_23) k) ?_
      show own_Fin _ _ _ _ _ _ _ (s₁.setTop (mkF m 24 #[.val (.long q1), .second, .val (.int p2), .val (.int (p2 &&& (7 : Int32)))] [(.int (2 : Int32)), (.int (p2 &&& (7 : Int32)))]))
      by_cases hc24_3 : (p2 &&& (7 : Int32)) = (2 : Int32)
      · refine own_st (fun t k => XS.icmpNo X0.here hx rfl (hb hby d1_24) rfl (teq hc24_3).2 k) ?_
        show own_Fin _ _ _ _ _ _ _ (s₁.setTop (mkF m 27 #[.val (.long q1), .second, .val (.int p2), .val (.int (p2 &&& (7 : Int32)))] []))
        refine own_st (fun t k => XS.lconst X0.here hx rfl (hb hby d1_27) k) ?_
        show own_Fin _ _ _ _ _ _ _ (s₁.setTop (mkF m 28 #[.val (.long q1), .second, .val (.int p2), .val (.int (p2 &&& (7 : Int32)))] [(.long (0 : Int64))]))
        have hv : own_F1 q1 p2 = (0 : Int64) := by unfold own_F1; rw [if_neg hc6_1, if_neg hc15_2, if_pos hc24_3]
        exact own_retJ X0 hx Bd.notSynchronized Bd.returns (hb hby d1_28) (by decide) (by decide) ⟨congrArg (fun z => some (Value.long z)) hv.symm, N0, e0⟩
      · refine own_st (fun t k => XS.icmpYes X0.here hx rfl (pc0 := 24) (pc' := 29) rfl (hb hby d1_24) rfl (feq hc24_3).2 (by decide) (by decide) k) ?_
        show own_Fin _ _ _ _ _ _ _ (s₁.setTop (mkF m 29 #[.val (.long q1), .second, .val (.int p2), .val (.int (p2 &&& (7 : Int32)))] []))
        refine own_st (fun t k => XS.iloadN X0.here hx rfl (hb hby d1_29) rfl k) ?_
        show own_Fin _ _ _ _ _ _ _ (s₁.setTop (mkF m 30 #[.val (.long q1), .second, .val (.int p2), .val (.int (p2 &&& (7 : Int32)))] [(.int (p2 &&& (7 : Int32)))]))
        refine own_st (fun t k => XS.iconst X0.here hx rfl (hb hby d1_30) k) ?_
        show own_Fin _ _ _ _ _ _ _ (s₁.setTop (mkF m 31 #[.val (.long q1), .second, .val (.int p2), .val (.int (p2 &&& (7 : Int32)))] [(.int (3 : Int32)), (.int (p2 &&& (7 : Int32)))]))
        by_cases hc31_4 : (p2 &&& (7 : Int32)) = (3 : Int32)
        · refine own_st (fun t k => XS.icmpNo X0.here hx rfl (hb hby d1_31) rfl (teq hc31_4).2 k) ?_
          show own_Fin _ _ _ _ _ _ _ (s₁.setTop (mkF m 34 #[.val (.long q1), .second, .val (.int p2), .val (.int (p2 &&& (7 : Int32)))] []))
          refine own_st (fun t k => XS.lconst X0.here hx rfl (hb hby d1_34) k) ?_
          show own_Fin _ _ _ _ _ _ _ (s₁.setTop (mkF m 35 #[.val (.long q1), .second, .val (.int p2), .val (.int (p2 &&& (7 : Int32)))] [(.long (1 : Int64))]))
          have hv : own_F1 q1 p2 = (1 : Int64) := by unfold own_F1; rw [if_neg hc6_1, if_neg hc15_2, if_neg hc24_3, if_pos hc31_4]
          exact own_retJ X0 hx Bd.notSynchronized Bd.returns (hb hby d1_35) (by decide) (by decide) ⟨congrArg (fun z => some (Value.long z)) hv.symm, N0, e0⟩
        · refine own_st (fun t k => XS.icmpYes X0.here hx rfl (pc0 := 31) (pc' := 36) rfl (hb hby d1_31) rfl (feq hc31_4).2 (by decide) (by decide) k) ?_
          show own_Fin _ _ _ _ _ _ _ (s₁.setTop (mkF m 36 #[.val (.long q1), .second, .val (.int p2), .val (.int (p2 &&& (7 : Int32)))] []))
          refine own_st (fun t k => XS.iloadN X0.here hx rfl (hb hby d1_36) rfl k) ?_
          show own_Fin _ _ _ _ _ _ _ (s₁.setTop (mkF m 37 #[.val (.long q1), .second, .val (.int p2), .val (.int (p2 &&& (7 : Int32)))] [(.int (p2 &&& (7 : Int32)))]))
          refine own_st (fun t k => XS.iconst X0.here hx rfl (hb hby d1_37) k) ?_
          show own_Fin _ _ _ _ _ _ _ (s₁.setTop (mkF m 38 #[.val (.long q1), .second, .val (.int p2), .val (.int (p2 &&& (7 : Int32)))] [(.int (4 : Int32)), (.int (p2 &&& (7 : Int32)))]))
          by_cases hc38_5 : (p2 &&& (7 : Int32)) = (4 : Int32)
          · refine own_st (fun t k => XS.icmpNo X0.here hx rfl (hb hby d1_38) rfl (teq hc38_5).2 k) ?_
            show own_Fin _ _ _ _ _ _ _ (s₁.setTop (mkF m 41 #[.val (.long q1), .second, .val (.int p2), .val (.int (p2 &&& (7 : Int32)))] []))
            refine own_st (X0.ldc2Long hx hown (mvT hZ (hw _ (List.mem_of_getElem? (i := 15) rfl))) (g := (mkF m 41 #[.val (.long q1), .second, .val (.int p2), .val (.int (p2 &&& (7 : Int32)))] [])) rfl (hb hby d1_41)) ?_
            show own_Fin _ _ _ _ _ _ _ (s₁.setTop (mkF m 44 #[.val (.long q1), .second, .val (.int p2), .val (.int (p2 &&& (7 : Int32)))] [(.long (-1 : Int64))]))
            have hv : own_F1 q1 p2 = (-1 : Int64) := by unfold own_F1; rw [if_neg hc6_1, if_neg hc15_2, if_neg hc24_3, if_neg hc31_4, if_pos hc38_5]
            exact own_retJ X0 hx Bd.notSynchronized Bd.returns (hb hby d1_44) (by decide) (by decide) ⟨congrArg (fun z => some (Value.long z)) hv.symm, N0, e0⟩
          · refine own_st (fun t k => XS.icmpYes X0.here hx rfl (pc0 := 38) (pc' := 45) rfl (hb hby d1_38) rfl (feq hc38_5).2 (by decide) (by decide) k) ?_
            show own_Fin _ _ _ _ _ _ _ (s₁.setTop (mkF m 45 #[.val (.long q1), .second, .val (.int p2), .val (.int (p2 &&& (7 : Int32)))] []))
            refine own_st (fun t k => XS.iloadN X0.here hx rfl (hb hby d1_45) rfl k) ?_
            show own_Fin _ _ _ _ _ _ _ (s₁.setTop (mkF m 46 #[.val (.long q1), .second, .val (.int p2), .val (.int (p2 &&& (7 : Int32)))] [(.int (p2 &&& (7 : Int32)))]))
            refine own_st (fun t k => XS.iconst X0.here hx rfl (hb hby d1_46) k) ?_
            show own_Fin _ _ _ _ _ _ _ (s₁.setTop (mkF m 47 #[.val (.long q1), .second, .val (.int p2), .val (.int (p2 &&& (7 : Int32)))] [(.int (5 : Int32)), (.int (p2 &&& (7 : Int32)))]))
            by_cases hc47_6 : (p2 &&& (7 : Int32)) = (5 : Int32)
            · refine own_st (fun t k => XS.icmpNo X0.here hx rfl (hb hby d1_47) rfl (teq hc47_6).2 k) ?_
              show own_Fin _ _ _ _ _ _ _ (s₁.setTop (mkF m 50 #[.val (.long q1), .second, .val (.int p2), .val (.int (p2 &&& (7 : Int32)))] []))
              refine own_st (X0.ldc2Long hx hown (mvT hZ (hw _ (List.mem_of_getElem? (i := 17) rfl))) (g := (mkF m 50 #[.val (.long q1), .second, .val (.int p2), .val (.int (p2 &&& (7 : Int32)))] [])) rfl (hb hby d1_50)) ?_
              show own_Fin _ _ _ _ _ _ _ (s₁.setTop (mkF m 53 #[.val (.long q1), .second, .val (.int p2), .val (.int (p2 &&& (7 : Int32)))] [(.long (2 : Int64))]))
              have hv : own_F1 q1 p2 = (2 : Int64) := by unfold own_F1; rw [if_neg hc6_1, if_neg hc15_2, if_neg hc24_3, if_neg hc31_4, if_neg hc38_5, if_pos hc47_6]
              exact own_retJ X0 hx Bd.notSynchronized Bd.returns (hb hby d1_53) (by decide) (by decide) ⟨congrArg (fun z => some (Value.long z)) hv.symm, N0, e0⟩
            · refine own_st (fun t k => XS.icmpYes X0.here hx rfl (pc0 := 47) (pc' := 54) rfl (hb hby d1_47) rfl (feq hc47_6).2 (by decide) (by decide) k) ?_
              show own_Fin _ _ _ _ _ _ _ (s₁.setTop (mkF m 54 #[.val (.long q1), .second, .val (.int p2), .val (.int (p2 &&& (7 : Int32)))] []))
              refine own_st (fun t k => XS.lloadN X0.here hx rfl (hb hby d1_54) rfl k) ?_
              show own_Fin _ _ _ _ _ _ _ (s₁.setTop (mkF m 55 #[.val (.long q1), .second, .val (.int p2), .val (.int (p2 &&& (7 : Int32)))] [(.long q1)]))
              have hv : own_F1 q1 p2 = q1 := by unfold own_F1; rw [if_neg hc6_1, if_neg hc15_2, if_neg hc24_3, if_neg hc31_4, if_neg hc38_5, if_neg hc47_6]
              exact own_retJ X0 hx Bd.notSynchronized Bd.returns (hb hby d1_55) (by decide) (by decide) ⟨congrArg (fun z => some (Value.long z)) hv.symm, N0, e0⟩
theorem d2_0 : decode method_3_code 0 = .ok (.iload_n 2, 1) := by decide +kernel
theorem d2_1 : decode method_3_code 1 = .ok (.iconst 3, 1) := by decide +kernel
theorem d2_2 : decode method_3_code 2 = .ok (.iand, 1) := by decide +kernel
theorem d2_3 : decode method_3_code 3 = .ok (.istore_n 3, 1) := by decide +kernel
theorem d2_4 : decode method_3_code 4 = .ok (.iload_n 3, 1) := by decide +kernel
theorem d2_5 : decode method_3_code 5 = .ok (.ifCond .ne 5, 3) := by decide +kernel
theorem d2_8 : decode method_3_code 8 = .ok (.lconst 0, 1) := by decide +kernel
theorem d2_9 : decode method_3_code 9 = .ok (.lreturn, 1) := by decide +kernel
theorem d2_10 : decode method_3_code 10 = .ok (.iload_n 3, 1) := by decide +kernel
theorem d2_11 : decode method_3_code 11 = .ok (.iconst 1, 1) := by decide +kernel
theorem d2_12 : decode method_3_code 12 = .ok (.if_icmp .ne 7, 3) := by decide +kernel
theorem d2_15 : decode method_3_code 15 = .ok (.ldc2_w 13, 3) := by decide +kernel
theorem d2_18 : decode method_3_code 18 = .ok (.lreturn, 1) := by decide +kernel
theorem d2_19 : decode method_3_code 19 = .ok (.lload_n 0, 1) := by decide +kernel
theorem d2_20 : decode method_3_code 20 = .ok (.lreturn, 1) := by decide +kernel
theorem pn_2 : plainFor (⟨"com/example/unsettle/unsettle/DrawsAcrossPinLaw", "pickMin", "(JI)J"⟩ : MethodName) = true := plainFor_of_name (x := (⟨"com/example/unsettle/unsettle/DrawsAcrossPinLaw", "pickMin", "(JI)J"⟩ : MethodName)) (by first | (simp [plainName, overriddenIn]; done) | decide +kernel)
theorem ef_2 (m : MethodId) (q1 : Int64) (p2 : Int32) : entryFrame m #[(.long q1), (.int p2)] 4 = mkF m 0 #[.val (.long q1), .second, .val (.int p2), .unset] [] := by first | (simp [entryFrame, mkF, argsToLocals, Value.category]; done) | rfl
def own_F2 (q1 : Int64) (p2 : Int32) : Int64 := (if (p2 &&& (3 : Int32)) = (0 : Int32) then (0 : Int64) else (if (p2 &&& (3 : Int32)) = (1 : Int32) then (-1 : Int64) else q1))
def own_Q2 (q1 : Int64) (p2 : Int32) (h0 : Heap) (n0 : Nat) (v : Option Value) (h : Heap) (L : List Loc) : Prop := v = some (.long (own_F2 q1 p2)) ∧ Fr n0 L ∧ h = h0
set_option maxRecDepth 65536 in
set_option maxHeartbeats 40000000 in
theorem rm2 (l : Launch) (Z : State) (a0 : Array Value) (hw : ∀ d ∈ tables_1, d.before a0 Z = true) (ws : List Jvm.Cond) (q1 : Int64) (p2 : Int32) (h0 : Heap) (n0 : Nat) (Z0 : n0 ≤ h0.size) :
    MetFree l (⟨"com/example/unsettle/unsettle/DrawsAcrossPinLaw", "pickMin", "(JI)J"⟩ : MethodName) (head1 (Jvm.Cond.code (⟨"com/example/unsettle/unsettle/DrawsAcrossPinLaw", "pickMin", "(JI)J"⟩ : MethodName) method_3_code 4 (some .long) :: ws) ({ frames := 0, cells := 0, slots := 0, locals := 0 } : Room)) (fun a U => a = #[(.long q1), (.int p2)] ∧ Z.Warmed39 U.vm ∧ U.heap = h0) (fun _ _ _ _ _ => True) (fun _ U o U' => ∃ v L, o = .returned v ∧ own_Q2 q1 p2 h0 n0 v U'.heap L ∧ FrameEnd U o U' L ({ frames := 0, cells := 0, slots := 0, locals := 0 } : Room).cells ({ frames := 0, cells := 0, slots := 0, locals := 0 } : Room).slots) := by
  refine MetFree.of_bodySF pn_2 hisR ?_
  intro p e s m args below meth c s₁ Bd hml0 hP hK
  obtain ⟨rfl, hZ, hh⟩ := hP
  have hx := Bd.exec
  have hby := Bd.bytes
  have hml : c.maxLocals = 4 := hml0
  have hown : s.vm.findClass "com/example/unsettle/unsettle/DrawsAcrossPinLaw" = some m.cls := findClass_of_methodNamed Bd.named
  have X0 : Stand p l e ({ frames := 0, cells := 0, slots := 0, locals := 0 } : Room) s m #[(.long q1), (.int p2)] below meth c s₁ [] 0 0 := Stand.of_body Bd
  have e0 : s₁.heap = h0 := by rw [← hh, Bd.state]; rfl
  have N0 := Fr.nil n0
  show own_Fin p.tables e below s (({ frames := 0, cells := 0, slots := 0, locals := 0 } : Room).cells) (({ frames := 0, cells := 0, slots := 0, locals := 0 } : Room).slots) (own_Q2 q1 p2 h0 n0) (s₁.setTop (entryFrame m #[(.long q1), (.int p2)] 4))
  rw [ef_2 m q1 p2]
  show own_Fin _ _ _ _ _ _ _ (s₁.setTop (mkF m 0 #[.val (.long q1), .second, .val (.int p2), .unset] []))
  refine own_st (fun t k => XS.iloadN X0.here hx rfl (hb hby d2_0) rfl k) ?_
  show own_Fin _ _ _ _ _ _ _ (s₁.setTop (mkF m 1 #[.val (.long q1), .second, .val (.int p2), .unset] [(.int p2)]))
  refine own_st (fun t k => XS.iconst X0.here hx rfl (hb hby d2_1) k) ?_
  show own_Fin _ _ _ _ _ _ _ (s₁.setTop (mkF m 2 #[.val (.long q1), .second, .val (.int p2), .unset] [(.int (3 : Int32)), (.int p2)]))
  refine own_st (fun t k => XS.iand X0.here hx rfl (hb hby d2_2) rfl k) ?_
  show own_Fin _ _ _ _ _ _ _ (s₁.setTop (mkF m 3 #[.val (.long q1), .second, .val (.int p2), .unset] [(.int (p2 &&& (3 : Int32)))]))
  refine own_st (fun t k => XS.istoreN X0.here hx rfl (hb hby d2_3) rfl (l' := #[.val (.long q1), .second, .val (.int p2), .val (.int (p2 &&& (3 : Int32)))]) rfl k) ?_
  show own_Fin _ _ _ _ _ _ _ (s₁.setTop (mkF m 4 #[.val (.long q1), .second, .val (.int p2), .val (.int (p2 &&& (3 : Int32)))] []))
  refine own_st (fun t k => XS.iloadN X0.here hx rfl (hb hby d2_4) rfl k) ?_
  show own_Fin _ _ _ _ _ _ _ (s₁.setTop (mkF m 5 #[.val (.long q1), .second, .val (.int p2), .val (.int (p2 &&& (3 : Int32)))] [(.int (p2 &&& (3 : Int32)))]))
  by_cases hc5_1 : (p2 &&& (3 : Int32)) = (0 : Int32)
  · refine own_st (fun t k => XS.ifNo X0.here hx rfl (hb hby d2_5) rfl ((if0 _ _).trans (teq hc5_1).2) k) ?_
    show own_Fin _ _ _ _ _ _ _ (s₁.setTop (mkF m 8 #[.val (.long q1), .second, .val (.int p2), .val (.int (p2 &&& (3 : Int32)))] []))
    refine own_st (fun t k => XS.lconst X0.here hx rfl (hb hby d2_8) k) ?_
    show own_Fin _ _ _ _ _ _ _ (s₁.setTop (mkF m 9 #[.val (.long q1), .second, .val (.int p2), .val (.int (p2 &&& (3 : Int32)))] [(.long (0 : Int64))]))
    have hv : own_F2 q1 p2 = (0 : Int64) := by unfold own_F2; rw [if_pos hc5_1]
    exact own_retJ X0 hx Bd.notSynchronized Bd.returns (hb hby d2_9) (by decide) (by decide) ⟨congrArg (fun z => some (Value.long z)) hv.symm, N0, e0⟩
  · refine own_st (fun t k => XS.ifYes X0.here hx rfl (pc0 := 5) (pc' := 10) rfl (hb hby d2_5) rfl ((if0 _ _).trans (feq hc5_1).2) (by decide) (by decide) k) ?_
    show own_Fin _ _ _ _ _ _ _ (s₁.setTop (mkF m 10 #[.val (.long q1), .second, .val (.int p2), .val (.int (p2 &&& (3 : Int32)))] []))
    refine own_st (fun t k => XS.iloadN X0.here hx rfl (hb hby d2_10) rfl k) ?_
    show own_Fin _ _ _ _ _ _ _ (s₁.setTop (mkF m 11 #[.val (.long q1), .second, .val (.int p2), .val (.int (p2 &&& (3 : Int32)))] [(.int (p2 &&& (3 : Int32)))]))
    refine own_st (fun t k => XS.iconst X0.here hx rfl (hb hby d2_11) k) ?_
    show own_Fin _ _ _ _ _ _ _ (s₁.setTop (mkF m 12 #[.val (.long q1), .second, .val (.int p2), .val (.int (p2 &&& (3 : Int32)))] [(.int (1 : Int32)), (.int (p2 &&& (3 : Int32)))]))
    by_cases hc12_2 : (p2 &&& (3 : Int32)) = (1 : Int32)
    · refine own_st (fun t k => XS.icmpNo X0.here hx rfl (hb hby d2_12) rfl (teq hc12_2).2 k) ?_
      show own_Fin _ _ _ _ _ _ _ (s₁.setTop (mkF m 15 #[.val (.long q1), .second, .val (.int p2), .val (.int (p2 &&& (3 : Int32)))] []))
      refine own_st (X0.ldc2Long hx hown (mvT hZ (hw _ (List.mem_of_getElem? (i := 15) rfl))) (g := (mkF m 15 #[.val (.long q1), .second, .val (.int p2), .val (.int (p2 &&& (3 : Int32)))] [])) rfl (hb hby d2_15)) ?_
      show own_Fin _ _ _ _ _ _ _ (s₁.setTop (mkF m 18 #[.val (.long q1), .second, .val (.int p2), .val (.int (p2 &&& (3 : Int32)))] [(.long (-1 : Int64))]))
      have hv : own_F2 q1 p2 = (-1 : Int64) := by unfold own_F2; rw [if_neg hc5_1, if_pos hc12_2]
      exact own_retJ X0 hx Bd.notSynchronized Bd.returns (hb hby d2_18) (by decide) (by decide) ⟨congrArg (fun z => some (Value.long z)) hv.symm, N0, e0⟩
    · refine own_st (fun t k => XS.icmpYes X0.here hx rfl (pc0 := 12) (pc' := 19) rfl (hb hby d2_12) rfl (feq hc12_2).2 (by decide) (by decide) k) ?_
      show own_Fin _ _ _ _ _ _ _ (s₁.setTop (mkF m 19 #[.val (.long q1), .second, .val (.int p2), .val (.int (p2 &&& (3 : Int32)))] []))
      refine own_st (fun t k => XS.lloadN X0.here hx rfl (hb hby d2_19) rfl k) ?_
      show own_Fin _ _ _ _ _ _ _ (s₁.setTop (mkF m 20 #[.val (.long q1), .second, .val (.int p2), .val (.int (p2 &&& (3 : Int32)))] [(.long q1)]))
      have hv : own_F2 q1 p2 = q1 := by unfold own_F2; rw [if_neg hc5_1, if_neg hc12_2]
      exact own_retJ X0 hx Bd.notSynchronized Bd.returns (hb hby d2_20) (by decide) (by decide) ⟨congrArg (fun z => some (Value.long z)) hv.symm, N0, e0⟩
theorem d3_0 : decode method_4_code 0 = .ok (.iload_n 2, 1) := by decide +kernel
theorem d3_1 : decode method_4_code 1 = .ok (.iconst 3, 1) := by decide +kernel
theorem d3_2 : decode method_4_code 2 = .ok (.iand, 1) := by decide +kernel
theorem d3_3 : decode method_4_code 3 = .ok (.istore_n 3, 1) := by decide +kernel
theorem d3_4 : decode method_4_code 4 = .ok (.iload_n 3, 1) := by decide +kernel
theorem d3_5 : decode method_4_code 5 = .ok (.ifCond .ne 5, 3) := by decide +kernel
theorem d3_8 : decode method_4_code 8 = .ok (.lconst 0, 1) := by decide +kernel
theorem d3_9 : decode method_4_code 9 = .ok (.lreturn, 1) := by decide +kernel
theorem d3_10 : decode method_4_code 10 = .ok (.iload_n 3, 1) := by decide +kernel
theorem d3_11 : decode method_4_code 11 = .ok (.iconst 1, 1) := by decide +kernel
theorem d3_12 : decode method_4_code 12 = .ok (.if_icmp .ne 5, 3) := by decide +kernel
theorem d3_15 : decode method_4_code 15 = .ok (.lconst 1, 1) := by decide +kernel
theorem d3_16 : decode method_4_code 16 = .ok (.lreturn, 1) := by decide +kernel
theorem d3_17 : decode method_4_code 17 = .ok (.lload_n 0, 1) := by decide +kernel
theorem d3_18 : decode method_4_code 18 = .ok (.lreturn, 1) := by decide +kernel
theorem pn_3 : plainFor (⟨"com/example/unsettle/unsettle/DrawsAcrossPinLaw", "pickMax", "(JI)J"⟩ : MethodName) = true := plainFor_of_name (x := (⟨"com/example/unsettle/unsettle/DrawsAcrossPinLaw", "pickMax", "(JI)J"⟩ : MethodName)) (by first | (simp [plainName, overriddenIn]; done) | decide +kernel)
theorem ef_3 (m : MethodId) (q1 : Int64) (p2 : Int32) : entryFrame m #[(.long q1), (.int p2)] 4 = mkF m 0 #[.val (.long q1), .second, .val (.int p2), .unset] [] := by first | (simp [entryFrame, mkF, argsToLocals, Value.category]; done) | rfl
def own_F3 (q1 : Int64) (p2 : Int32) : Int64 := (if (p2 &&& (3 : Int32)) = (0 : Int32) then (0 : Int64) else (if (p2 &&& (3 : Int32)) = (1 : Int32) then (1 : Int64) else q1))
def own_Q3 (q1 : Int64) (p2 : Int32) (h0 : Heap) (n0 : Nat) (v : Option Value) (h : Heap) (L : List Loc) : Prop := v = some (.long (own_F3 q1 p2)) ∧ Fr n0 L ∧ h = h0
set_option maxRecDepth 65536 in
set_option maxHeartbeats 40000000 in
theorem rm3 (l : Launch) (Z : State) (a0 : Array Value) (hw : ∀ d ∈ tables_1, d.before a0 Z = true) (ws : List Jvm.Cond) (q1 : Int64) (p2 : Int32) (h0 : Heap) (n0 : Nat) (Z0 : n0 ≤ h0.size) :
    MetFree l (⟨"com/example/unsettle/unsettle/DrawsAcrossPinLaw", "pickMax", "(JI)J"⟩ : MethodName) (head1 (Jvm.Cond.code (⟨"com/example/unsettle/unsettle/DrawsAcrossPinLaw", "pickMax", "(JI)J"⟩ : MethodName) method_4_code 4 (some .long) :: ws) ({ frames := 0, cells := 0, slots := 0, locals := 0 } : Room)) (fun a U => a = #[(.long q1), (.int p2)] ∧ Z.Warmed39 U.vm ∧ U.heap = h0) (fun _ _ _ _ _ => True) (fun _ U o U' => ∃ v L, o = .returned v ∧ own_Q3 q1 p2 h0 n0 v U'.heap L ∧ FrameEnd U o U' L ({ frames := 0, cells := 0, slots := 0, locals := 0 } : Room).cells ({ frames := 0, cells := 0, slots := 0, locals := 0 } : Room).slots) := by
  refine MetFree.of_bodySF pn_3 hisR ?_
  intro p e s m args below meth c s₁ Bd hml0 hP hK
  obtain ⟨rfl, hZ, hh⟩ := hP
  have hx := Bd.exec
  have hby := Bd.bytes
  have hml : c.maxLocals = 4 := hml0
  have hown : s.vm.findClass "com/example/unsettle/unsettle/DrawsAcrossPinLaw" = some m.cls := findClass_of_methodNamed Bd.named
  have X0 : Stand p l e ({ frames := 0, cells := 0, slots := 0, locals := 0 } : Room) s m #[(.long q1), (.int p2)] below meth c s₁ [] 0 0 := Stand.of_body Bd
  have e0 : s₁.heap = h0 := by rw [← hh, Bd.state]; rfl
  have N0 := Fr.nil n0
  show own_Fin p.tables e below s (({ frames := 0, cells := 0, slots := 0, locals := 0 } : Room).cells) (({ frames := 0, cells := 0, slots := 0, locals := 0 } : Room).slots) (own_Q3 q1 p2 h0 n0) (s₁.setTop (entryFrame m #[(.long q1), (.int p2)] 4))
  rw [ef_3 m q1 p2]
  show own_Fin _ _ _ _ _ _ _ (s₁.setTop (mkF m 0 #[.val (.long q1), .second, .val (.int p2), .unset] []))
  refine own_st (fun t k => XS.iloadN X0.here hx rfl (hb hby d3_0) rfl k) ?_
  show own_Fin _ _ _ _ _ _ _ (s₁.setTop (mkF m 1 #[.val (.long q1), .second, .val (.int p2), .unset] [(.int p2)]))
  refine own_st (fun t k => XS.iconst X0.here hx rfl (hb hby d3_1) k) ?_
  show own_Fin _ _ _ _ _ _ _ (s₁.setTop (mkF m 2 #[.val (.long q1), .second, .val (.int p2), .unset] [(.int (3 : Int32)), (.int p2)]))
  refine own_st (fun t k => XS.iand X0.here hx rfl (hb hby d3_2) rfl k) ?_
  show own_Fin _ _ _ _ _ _ _ (s₁.setTop (mkF m 3 #[.val (.long q1), .second, .val (.int p2), .unset] [(.int (p2 &&& (3 : Int32)))]))
  refine own_st (fun t k => XS.istoreN X0.here hx rfl (hb hby d3_3) rfl (l' := #[.val (.long q1), .second, .val (.int p2), .val (.int (p2 &&& (3 : Int32)))]) rfl k) ?_
  show own_Fin _ _ _ _ _ _ _ (s₁.setTop (mkF m 4 #[.val (.long q1), .second, .val (.int p2), .val (.int (p2 &&& (3 : Int32)))] []))
  refine own_st (fun t k => XS.iloadN X0.here hx rfl (hb hby d3_4) rfl k) ?_
  show own_Fin _ _ _ _ _ _ _ (s₁.setTop (mkF m 5 #[.val (.long q1), .second, .val (.int p2), .val (.int (p2 &&& (3 : Int32)))] [(.int (p2 &&& (3 : Int32)))]))
  by_cases hc5_1 : (p2 &&& (3 : Int32)) = (0 : Int32)
  · refine own_st (fun t k => XS.ifNo X0.here hx rfl (hb hby d3_5) rfl ((if0 _ _).trans (teq hc5_1).2) k) ?_
    show own_Fin _ _ _ _ _ _ _ (s₁.setTop (mkF m 8 #[.val (.long q1), .second, .val (.int p2), .val (.int (p2 &&& (3 : Int32)))] []))
    refine own_st (fun t k => XS.lconst X0.here hx rfl (hb hby d3_8) k) ?_
    show own_Fin _ _ _ _ _ _ _ (s₁.setTop (mkF m 9 #[.val (.long q1), .second, .val (.int p2), .val (.int (p2 &&& (3 : Int32)))] [(.long (0 : Int64))]))
    have hv : own_F3 q1 p2 = (0 : Int64) := by unfold own_F3; rw [if_pos hc5_1]
    exact own_retJ X0 hx Bd.notSynchronized Bd.returns (hb hby d3_9) (by decide) (by decide) ⟨congrArg (fun z => some (Value.long z)) hv.symm, N0, e0⟩
  · refine own_st (fun t k => XS.ifYes X0.here hx rfl (pc0 := 5) (pc' := 10) rfl (hb hby d3_5) rfl ((if0 _ _).trans (feq hc5_1).2) (by decide) (by decide) k) ?_
    show own_Fin _ _ _ _ _ _ _ (s₁.setTop (mkF m 10 #[.val (.long q1), .second, .val (.int p2), .val (.int (p2 &&& (3 : Int32)))] []))
    refine own_st (fun t k => XS.iloadN X0.here hx rfl (hb hby d3_10) rfl k) ?_
    show own_Fin _ _ _ _ _ _ _ (s₁.setTop (mkF m 11 #[.val (.long q1), .second, .val (.int p2), .val (.int (p2 &&& (3 : Int32)))] [(.int (p2 &&& (3 : Int32)))]))
    refine own_st (fun t k => XS.iconst X0.here hx rfl (hb hby d3_11) k) ?_
    show own_Fin _ _ _ _ _ _ _ (s₁.setTop (mkF m 12 #[.val (.long q1), .second, .val (.int p2), .val (.int (p2 &&& (3 : Int32)))] [(.int (1 : Int32)), (.int (p2 &&& (3 : Int32)))]))
    by_cases hc12_2 : (p2 &&& (3 : Int32)) = (1 : Int32)
    · refine own_st (fun t k => XS.icmpNo X0.here hx rfl (hb hby d3_12) rfl (teq hc12_2).2 k) ?_
      show own_Fin _ _ _ _ _ _ _ (s₁.setTop (mkF m 15 #[.val (.long q1), .second, .val (.int p2), .val (.int (p2 &&& (3 : Int32)))] []))
      refine own_st (fun t k => XS.lconst X0.here hx rfl (hb hby d3_15) k) ?_
      show own_Fin _ _ _ _ _ _ _ (s₁.setTop (mkF m 16 #[.val (.long q1), .second, .val (.int p2), .val (.int (p2 &&& (3 : Int32)))] [(.long (1 : Int64))]))
      have hv : own_F3 q1 p2 = (1 : Int64) := by unfold own_F3; rw [if_neg hc5_1, if_pos hc12_2]
      exact own_retJ X0 hx Bd.notSynchronized Bd.returns (hb hby d3_16) (by decide) (by decide) ⟨congrArg (fun z => some (Value.long z)) hv.symm, N0, e0⟩
    · refine own_st (fun t k => XS.icmpYes X0.here hx rfl (pc0 := 12) (pc' := 17) rfl (hb hby d3_12) rfl (feq hc12_2).2 (by decide) (by decide) k) ?_
      show own_Fin _ _ _ _ _ _ _ (s₁.setTop (mkF m 17 #[.val (.long q1), .second, .val (.int p2), .val (.int (p2 &&& (3 : Int32)))] []))
      refine own_st (fun t k => XS.lloadN X0.here hx rfl (hb hby d3_17) rfl k) ?_
      show own_Fin _ _ _ _ _ _ _ (s₁.setTop (mkF m 18 #[.val (.long q1), .second, .val (.int p2), .val (.int (p2 &&& (3 : Int32)))] [(.long q1)]))
      have hv : own_F3 q1 p2 = q1 := by unfold own_F3; rw [if_neg hc5_1, if_neg hc12_2]
      exact own_retJ X0 hx Bd.notSynchronized Bd.returns (hb hby d3_18) (by decide) (by decide) ⟨congrArg (fun z => some (Value.long z)) hv.symm, N0, e0⟩
theorem d4_0 : decode prog_14_method_12_code 0 = .ok (.lload_n 0, 1) := by decide +kernel
theorem d4_1 : decode prog_14_method_12_code 1 = .ok (.lstore 6, 2) := by decide +kernel
theorem d4_3 : decode prog_14_method_12_code 3 = .ok (.lload_n 0, 1) := by decide +kernel
theorem d4_4 : decode prog_14_method_12_code 4 = .ok (.lconst 0, 1) := by decide +kernel
theorem d4_5 : decode prog_14_method_12_code 5 = .ok (.lcmp, 1) := by decide +kernel
theorem d4_6 : decode prog_14_method_12_code 6 = .ok (.ifCond .ge 31, 3) := by decide +kernel
theorem d4_9 : decode prog_14_method_12_code 9 = .ok (.lload 4, 2) := by decide +kernel
theorem d4_11 : decode prog_14_method_12_code 11 = .ok (.lconst 0, 1) := by decide +kernel
theorem d4_12 : decode prog_14_method_12_code 12 = .ok (.lcmp, 1) := by decide +kernel
theorem d4_13 : decode prog_14_method_12_code 13 = .ok (.ifCond .le 24, 3) := by decide +kernel
theorem d4_16 : decode prog_14_method_12_code 16 = .ok (.lload_n 0, 1) := by decide +kernel
theorem d4_17 : decode prog_14_method_12_code 17 = .ok (.ldc2_w 82, 3) := by decide +kernel
theorem d4_20 : decode prog_14_method_12_code 20 = .ok (.lcmp, 1) := by decide +kernel
theorem d4_21 : decode prog_14_method_12_code 21 = .ok (.ifCond .ne 9, 3) := by decide +kernel
theorem d4_24 : decode prog_14_method_12_code 24 = .ok (.ldc2_w 84, 3) := by decide +kernel
theorem d4_27 : decode prog_14_method_12_code 27 = .ok (.goto 5, 3) := by decide +kernel
theorem d4_30 : decode prog_14_method_12_code 30 = .ok (.lload_n 0, 1) := by decide +kernel
theorem d4_31 : decode prog_14_method_12_code 31 = .ok (.lneg, 1) := by decide +kernel
theorem d4_32 : decode prog_14_method_12_code 32 = .ok (.lstore 6, 2) := by decide +kernel
theorem d4_34 : decode prog_14_method_12_code 34 = .ok (.goto 20, 3) := by decide +kernel
theorem d4_37 : decode prog_14_method_12_code 37 = .ok (.lload_n 0, 1) := by decide +kernel
theorem d4_38 : decode prog_14_method_12_code 38 = .ok (.lconst 1, 1) := by decide +kernel
theorem d4_39 : decode prog_14_method_12_code 39 = .ok (.lcmp, 1) := by decide +kernel
theorem d4_40 : decode prog_14_method_12_code 40 = .ok (.ifCond .le 14, 3) := by decide +kernel
theorem d4_43 : decode prog_14_method_12_code 43 = .ok (.lload_n 2, 1) := by decide +kernel
theorem d4_44 : decode prog_14_method_12_code 44 = .ok (.lconst 0, 1) := by decide +kernel
theorem d4_45 : decode prog_14_method_12_code 45 = .ok (.lcmp, 1) := by decide +kernel
theorem d4_46 : decode prog_14_method_12_code 46 = .ok (.ifCond .ge 8, 3) := by decide +kernel
theorem d4_49 : decode prog_14_method_12_code 49 = .ok (.lconst 1, 1) := by decide +kernel
theorem d4_50 : decode prog_14_method_12_code 50 = .ok (.lload_n 0, 1) := by decide +kernel
theorem d4_51 : decode prog_14_method_12_code 51 = .ok (.lsub, 1) := by decide +kernel
theorem d4_52 : decode prog_14_method_12_code 52 = .ok (.lstore 6, 2) := by decide +kernel
theorem d4_54 : decode prog_14_method_12_code 54 = .ok (.lload 6, 2) := by decide +kernel
theorem d4_56 : decode prog_14_method_12_code 56 = .ok (.lreturn, 1) := by decide +kernel
theorem pn_4 : plainFor (⟨"com/example/unsettle/unsettle/Draws", "across", "(JJJ)J"⟩ : MethodName) = true := plainFor_of_name (x := (⟨"com/example/unsettle/unsettle/Draws", "across", "(JJJ)J"⟩ : MethodName)) (by first | (simp [plainName, overriddenIn]; done) | decide +kernel)
theorem ef_4 (m : MethodId) (q1 : Int64) (q2 : Int64) (q3 : Int64) : entryFrame m #[(.long q1), (.long q2), (.long q3)] 8 = mkF m 0 #[.val (.long q1), .second, .val (.long q2), .second, .val (.long q3), .second, .unset, .unset] [] := by first | (simp [entryFrame, mkF, argsToLocals, Value.category]; done) | rfl
def own_F4 (q1 : Int64) (q2 : Int64) (q3 : Int64) : Int64 := (if q1 < (0 : Int64) then (if (0 : Int64) < q3 then (if q1 = (-9223372036854775808 : Int64) then (9223372036854775807 : Int64) else (-q1)) else (if (1 : Int64) < q1 then (if q2 < (0 : Int64) then ((1 : Int64) - q1) else q1) else q1)) else (if (1 : Int64) < q1 then (if q2 < (0 : Int64) then ((1 : Int64) - q1) else q1) else q1))
def own_Q4 (q1 : Int64) (q2 : Int64) (q3 : Int64) (h0 : Heap) (n0 : Nat) (v : Option Value) (h : Heap) (L : List Loc) : Prop := v = some (.long (own_F4 q1 q2 q3)) ∧ Fr n0 L ∧ h = h0
set_option maxRecDepth 65536 in
set_option maxHeartbeats 40000000 in
theorem rm4 (l : Launch) (Z : State) (a0 : Array Value) (hw : ∀ d ∈ tables_1, d.before a0 Z = true) (ws : List Jvm.Cond) (q1 : Int64) (q2 : Int64) (q3 : Int64) (h0 : Heap) (n0 : Nat) (Z0 : n0 ≤ h0.size) :
    MetFree l (⟨"com/example/unsettle/unsettle/Draws", "across", "(JJJ)J"⟩ : MethodName) (head1 (Jvm.Cond.code (⟨"com/example/unsettle/unsettle/Draws", "across", "(JJJ)J"⟩ : MethodName) prog_14_method_12_code 8 (some .long) :: ws) ({ frames := 0, cells := 0, slots := 0, locals := 0 } : Room)) (fun a U => a = #[(.long q1), (.long q2), (.long q3)] ∧ Z.Warmed39 U.vm ∧ U.heap = h0) (fun _ _ _ _ _ => True) (fun _ U o U' => ∃ v L, o = .returned v ∧ own_Q4 q1 q2 q3 h0 n0 v U'.heap L ∧ FrameEnd U o U' L ({ frames := 0, cells := 0, slots := 0, locals := 0 } : Room).cells ({ frames := 0, cells := 0, slots := 0, locals := 0 } : Room).slots) := by
  refine MetFree.of_bodySF pn_4 hisR ?_
  intro p e s m args below meth c s₁ Bd hml0 hP hK
  obtain ⟨rfl, hZ, hh⟩ := hP
  have hx := Bd.exec
  have hby := Bd.bytes
  have hml : c.maxLocals = 8 := hml0
  have hown : s.vm.findClass "com/example/unsettle/unsettle/Draws" = some m.cls := findClass_of_methodNamed Bd.named
  have X0 : Stand p l e ({ frames := 0, cells := 0, slots := 0, locals := 0 } : Room) s m #[(.long q1), (.long q2), (.long q3)] below meth c s₁ [] 0 0 := Stand.of_body Bd
  have e0 : s₁.heap = h0 := by rw [← hh, Bd.state]; rfl
  have N0 := Fr.nil n0
  show own_Fin p.tables e below s (({ frames := 0, cells := 0, slots := 0, locals := 0 } : Room).cells) (({ frames := 0, cells := 0, slots := 0, locals := 0 } : Room).slots) (own_Q4 q1 q2 q3 h0 n0) (s₁.setTop (entryFrame m #[(.long q1), (.long q2), (.long q3)] 8))
  rw [ef_4 m q1 q2 q3]
  show own_Fin _ _ _ _ _ _ _ (s₁.setTop (mkF m 0 #[.val (.long q1), .second, .val (.long q2), .second, .val (.long q3), .second, .unset, .unset] []))
  refine own_st (fun t k => XS.lloadN X0.here hx rfl (hb hby d4_0) rfl k) ?_
  show own_Fin _ _ _ _ _ _ _ (s₁.setTop (mkF m 1 #[.val (.long q1), .second, .val (.long q2), .second, .val (.long q3), .second, .unset, .unset] [(.long q1)]))
  refine own_st (fun t k => XS.lstore X0.here hx rfl (hb hby d4_1) rfl (l' := #[.val (.long q1), .second, .val (.long q2), .second, .val (.long q3), .second, .val (.long q1), .second]) rfl k) ?_
  show own_Fin _ _ _ _ _ _ _ (s₁.setTop (mkF m 3 #[.val (.long q1), .second, .val (.long q2), .second, .val (.long q3), .second, .val (.long q1), .second] []))
  refine own_st (fun t k => XS.lloadN X0.here hx rfl (hb hby d4_3) rfl k) ?_
  show own_Fin _ _ _ _ _ _ _ (s₁.setTop (mkF m 4 #[.val (.long q1), .second, .val (.long q2), .second, .val (.long q3), .second, .val (.long q1), .second] [(.long q1)]))
  refine own_st (fun t k => XS.lconst X0.here hx rfl (hb hby d4_4) k) ?_
  show own_Fin _ _ _ _ _ _ _ (s₁.setTop (mkF m 5 #[.val (.long q1), .second, .val (.long q2), .second, .val (.long q3), .second, .val (.long q1), .second] [(.long (0 : Int64)), (.long q1)]))
  refine own_st (fun t k => XS.lcmp X0.here hx rfl (hb hby d4_5) rfl k) ?_
  show own_Fin _ _ _ _ _ _ _ (s₁.setTop (mkF m 6 #[.val (.long q1), .second, .val (.long q2), .second, .val (.long q3), .second, .val (.long q1), .second] [(.int (lcmpW q1 (0 : Int64)))]))
  by_cases hc6_1 : q1 < (0 : Int64)
  · refine own_st (fun t k => XS.ifNo X0.here hx rfl (hb hby d4_6) rfl (own_ltT hc6_1).2 k) ?_
    show own_Fin _ _ _ _ _ _ _ (s₁.setTop (mkF m 9 #[.val (.long q1), .second, .val (.long q2), .second, .val (.long q3), .second, .val (.long q1), .second] []))
    refine own_st (fun t k => XS.lload X0.here hx rfl (hb hby d4_9) rfl k) ?_
    show own_Fin _ _ _ _ _ _ _ (s₁.setTop (mkF m 11 #[.val (.long q1), .second, .val (.long q2), .second, .val (.long q3), .second, .val (.long q1), .second] [(.long q3)]))
    refine own_st (fun t k => XS.lconst X0.here hx rfl (hb hby d4_11) k) ?_
    show own_Fin _ _ _ _ _ _ _ (s₁.setTop (mkF m 12 #[.val (.long q1), .second, .val (.long q2), .second, .val (.long q3), .second, .val (.long q1), .second] [(.long (0 : Int64)), (.long q3)]))
    refine own_st (fun t k => XS.lcmp X0.here hx rfl (hb hby d4_12) rfl k) ?_
    show own_Fin _ _ _ _ _ _ _ (s₁.setTop (mkF m 13 #[.val (.long q1), .second, .val (.long q2), .second, .val (.long q3), .second, .val (.long q1), .second] [(.int (lcmpW q3 (0 : Int64)))]))
    by_cases hc13_2 : (0 : Int64) < q3
    · refine own_st (fun t k => XS.ifNo X0.here hx rfl (hb hby d4_13) rfl (own_gtT hc13_2).2 k) ?_
      show own_Fin _ _ _ _ _ _ _ (s₁.setTop (mkF m 16 #[.val (.long q1), .second, .val (.long q2), .second, .val (.long q3), .second, .val (.long q1), .second] []))
      refine own_st (fun t k => XS.lloadN X0.here hx rfl (hb hby d4_16) rfl k) ?_
      show own_Fin _ _ _ _ _ _ _ (s₁.setTop (mkF m 17 #[.val (.long q1), .second, .val (.long q2), .second, .val (.long q3), .second, .val (.long q1), .second] [(.long q1)]))
      refine own_st (X0.ldc2Long hx hown (mvT hZ (hw _ (List.mem_of_getElem? (i := 18) rfl))) (g := (mkF m 17 #[.val (.long q1), .second, .val (.long q2), .second, .val (.long q3), .second, .val (.long q1), .second] [(.long q1)])) rfl (hb hby d4_17)) ?_
      show own_Fin _ _ _ _ _ _ _ (s₁.setTop (mkF m 20 #[.val (.long q1), .second, .val (.long q2), .second, .val (.long q3), .second, .val (.long q1), .second] [(.long (-9223372036854775808 : Int64)), (.long q1)]))
      refine own_st (fun t k => XS.lcmp X0.here hx rfl (hb hby d4_20) rfl k) ?_
      show own_Fin _ _ _ _ _ _ _ (s₁.setTop (mkF m 21 #[.val (.long q1), .second, .val (.long q2), .second, .val (.long q3), .second, .val (.long q1), .second] [(.int (lcmpW q1 (-9223372036854775808 : Int64)))]))
      by_cases hc21_3 : q1 = (-9223372036854775808 : Int64)
      · refine own_st (fun t k => XS.ifNo X0.here hx rfl (hb hby d4_21) rfl (own_eqT hc21_3).2 k) ?_
        show own_Fin _ _ _ _ _ _ _ (s₁.setTop (mkF m 24 #[.val (.long q1), .second, .val (.long q2), .second, .val (.long q3), .second, .val (.long q1), .second] []))
        refine own_st (X0.ldc2Long hx hown (mvT hZ (hw _ (List.mem_of_getElem? (i := 19) rfl))) (g := (mkF m 24 #[.val (.long q1), .second, .val (.long q2), .second, .val (.long q3), .second, .val (.long q1), .second] [])) rfl (hb hby d4_24)) ?_
        show own_Fin _ _ _ _ _ _ _ (s₁.setTop (mkF m 27 #[.val (.long q1), .second, .val (.long q2), .second, .val (.long q3), .second, .val (.long q1), .second] [(.long (9223372036854775807 : Int64))]))
        refine own_st (fun t k => XS.goto X0.here hx rfl (pc0 := 27) (pc' := 32) rfl (hb hby d4_27) (by decide) (by decide) k) ?_
        show own_Fin _ _ _ _ _ _ _ (s₁.setTop (mkF m 32 #[.val (.long q1), .second, .val (.long q2), .second, .val (.long q3), .second, .val (.long q1), .second] [(.long (9223372036854775807 : Int64))]))
        refine own_st (fun t k => XS.lstore X0.here hx rfl (hb hby d4_32) rfl (l' := #[.val (.long q1), .second, .val (.long q2), .second, .val (.long q3), .second, .val (.long (9223372036854775807 : Int64)), .second]) rfl k) ?_
        show own_Fin _ _ _ _ _ _ _ (s₁.setTop (mkF m 34 #[.val (.long q1), .second, .val (.long q2), .second, .val (.long q3), .second, .val (.long (9223372036854775807 : Int64)), .second] []))
        refine own_st (fun t k => XS.goto X0.here hx rfl (pc0 := 34) (pc' := 54) rfl (hb hby d4_34) (by decide) (by decide) k) ?_
        show own_Fin _ _ _ _ _ _ _ (s₁.setTop (mkF m 54 #[.val (.long q1), .second, .val (.long q2), .second, .val (.long q3), .second, .val (.long (9223372036854775807 : Int64)), .second] []))
        refine own_st (fun t k => XS.lload X0.here hx rfl (hb hby d4_54) rfl k) ?_
        show own_Fin _ _ _ _ _ _ _ (s₁.setTop (mkF m 56 #[.val (.long q1), .second, .val (.long q2), .second, .val (.long q3), .second, .val (.long (9223372036854775807 : Int64)), .second] [(.long (9223372036854775807 : Int64))]))
        have hv : own_F4 q1 q2 q3 = (9223372036854775807 : Int64) := by unfold own_F4; rw [if_pos hc6_1, if_pos hc13_2, if_pos hc21_3]
        exact own_retJ X0 hx Bd.notSynchronized Bd.returns (hb hby d4_56) (by decide) (by decide) ⟨congrArg (fun z => some (Value.long z)) hv.symm, N0, e0⟩
      · refine own_st (fun t k => XS.ifYes X0.here hx rfl (pc0 := 21) (pc' := 30) rfl (hb hby d4_21) rfl (own_eqF hc21_3).2 (by decide) (by decide) k) ?_
        show own_Fin _ _ _ _ _ _ _ (s₁.setTop (mkF m 30 #[.val (.long q1), .second, .val (.long q2), .second, .val (.long q3), .second, .val (.long q1), .second] []))
        refine own_st (fun t k => XS.lloadN X0.here hx rfl (hb hby d4_30) rfl k) ?_
        show own_Fin _ _ _ _ _ _ _ (s₁.setTop (mkF m 31 #[.val (.long q1), .second, .val (.long q2), .second, .val (.long q3), .second, .val (.long q1), .second] [(.long q1)]))
        refine own_st (fun t k => XS.lneg X0.here hx rfl (hb hby d4_31) rfl k) ?_
        show own_Fin _ _ _ _ _ _ _ (s₁.setTop (mkF m 32 #[.val (.long q1), .second, .val (.long q2), .second, .val (.long q3), .second, .val (.long q1), .second] [(.long (-q1))]))
        refine own_st (fun t k => XS.lstore X0.here hx rfl (hb hby d4_32) rfl (l' := #[.val (.long q1), .second, .val (.long q2), .second, .val (.long q3), .second, .val (.long (-q1)), .second]) rfl k) ?_
        show own_Fin _ _ _ _ _ _ _ (s₁.setTop (mkF m 34 #[.val (.long q1), .second, .val (.long q2), .second, .val (.long q3), .second, .val (.long (-q1)), .second] []))
        refine own_st (fun t k => XS.goto X0.here hx rfl (pc0 := 34) (pc' := 54) rfl (hb hby d4_34) (by decide) (by decide) k) ?_
        show own_Fin _ _ _ _ _ _ _ (s₁.setTop (mkF m 54 #[.val (.long q1), .second, .val (.long q2), .second, .val (.long q3), .second, .val (.long (-q1)), .second] []))
        refine own_st (fun t k => XS.lload X0.here hx rfl (hb hby d4_54) rfl k) ?_
        show own_Fin _ _ _ _ _ _ _ (s₁.setTop (mkF m 56 #[.val (.long q1), .second, .val (.long q2), .second, .val (.long q3), .second, .val (.long (-q1)), .second] [(.long (-q1))]))
        have hv : own_F4 q1 q2 q3 = (-q1) := by unfold own_F4; rw [if_pos hc6_1, if_pos hc13_2, if_neg hc21_3]
        exact own_retJ X0 hx Bd.notSynchronized Bd.returns (hb hby d4_56) (by decide) (by decide) ⟨congrArg (fun z => some (Value.long z)) hv.symm, N0, e0⟩
    · refine own_st (fun t k => XS.ifYes X0.here hx rfl (pc0 := 13) (pc' := 37) rfl (hb hby d4_13) rfl (own_gtF hc13_2).2 (by decide) (by decide) k) ?_
      show own_Fin _ _ _ _ _ _ _ (s₁.setTop (mkF m 37 #[.val (.long q1), .second, .val (.long q2), .second, .val (.long q3), .second, .val (.long q1), .second] []))
      refine own_st (fun t k => XS.lloadN X0.here hx rfl (hb hby d4_37) rfl k) ?_
      show own_Fin _ _ _ _ _ _ _ (s₁.setTop (mkF m 38 #[.val (.long q1), .second, .val (.long q2), .second, .val (.long q3), .second, .val (.long q1), .second] [(.long q1)]))
      refine own_st (fun t k => XS.lconst X0.here hx rfl (hb hby d4_38) k) ?_
      show own_Fin _ _ _ _ _ _ _ (s₁.setTop (mkF m 39 #[.val (.long q1), .second, .val (.long q2), .second, .val (.long q3), .second, .val (.long q1), .second] [(.long (1 : Int64)), (.long q1)]))
      refine own_st (fun t k => XS.lcmp X0.here hx rfl (hb hby d4_39) rfl k) ?_
      show own_Fin _ _ _ _ _ _ _ (s₁.setTop (mkF m 40 #[.val (.long q1), .second, .val (.long q2), .second, .val (.long q3), .second, .val (.long q1), .second] [(.int (lcmpW q1 (1 : Int64)))]))
      by_cases hc40_4 : (1 : Int64) < q1
      · refine own_st (fun t k => XS.ifNo X0.here hx rfl (hb hby d4_40) rfl (own_gtT hc40_4).2 k) ?_
        show own_Fin _ _ _ _ _ _ _ (s₁.setTop (mkF m 43 #[.val (.long q1), .second, .val (.long q2), .second, .val (.long q3), .second, .val (.long q1), .second] []))
        refine own_st (fun t k => XS.lloadN X0.here hx rfl (hb hby d4_43) rfl k) ?_
        show own_Fin _ _ _ _ _ _ _ (s₁.setTop (mkF m 44 #[.val (.long q1), .second, .val (.long q2), .second, .val (.long q3), .second, .val (.long q1), .second] [(.long q2)]))
        refine own_st (fun t k => XS.lconst X0.here hx rfl (hb hby d4_44) k) ?_
        show own_Fin _ _ _ _ _ _ _ (s₁.setTop (mkF m 45 #[.val (.long q1), .second, .val (.long q2), .second, .val (.long q3), .second, .val (.long q1), .second] [(.long (0 : Int64)), (.long q2)]))
        refine own_st (fun t k => XS.lcmp X0.here hx rfl (hb hby d4_45) rfl k) ?_
        show own_Fin _ _ _ _ _ _ _ (s₁.setTop (mkF m 46 #[.val (.long q1), .second, .val (.long q2), .second, .val (.long q3), .second, .val (.long q1), .second] [(.int (lcmpW q2 (0 : Int64)))]))
        by_cases hc46_5 : q2 < (0 : Int64)
        · refine own_st (fun t k => XS.ifNo X0.here hx rfl (hb hby d4_46) rfl (own_ltT hc46_5).2 k) ?_
          show own_Fin _ _ _ _ _ _ _ (s₁.setTop (mkF m 49 #[.val (.long q1), .second, .val (.long q2), .second, .val (.long q3), .second, .val (.long q1), .second] []))
          refine own_st (fun t k => XS.lconst X0.here hx rfl (hb hby d4_49) k) ?_
          show own_Fin _ _ _ _ _ _ _ (s₁.setTop (mkF m 50 #[.val (.long q1), .second, .val (.long q2), .second, .val (.long q3), .second, .val (.long q1), .second] [(.long (1 : Int64))]))
          refine own_st (fun t k => XS.lloadN X0.here hx rfl (hb hby d4_50) rfl k) ?_
          show own_Fin _ _ _ _ _ _ _ (s₁.setTop (mkF m 51 #[.val (.long q1), .second, .val (.long q2), .second, .val (.long q3), .second, .val (.long q1), .second] [(.long q1), (.long (1 : Int64))]))
          refine own_st (fun t k => XS.lsub X0.here hx rfl (hb hby d4_51) rfl k) ?_
          show own_Fin _ _ _ _ _ _ _ (s₁.setTop (mkF m 52 #[.val (.long q1), .second, .val (.long q2), .second, .val (.long q3), .second, .val (.long q1), .second] [(.long ((1 : Int64) - q1))]))
          refine own_st (fun t k => XS.lstore X0.here hx rfl (hb hby d4_52) rfl (l' := #[.val (.long q1), .second, .val (.long q2), .second, .val (.long q3), .second, .val (.long ((1 : Int64) - q1)), .second]) rfl k) ?_
          show own_Fin _ _ _ _ _ _ _ (s₁.setTop (mkF m 54 #[.val (.long q1), .second, .val (.long q2), .second, .val (.long q3), .second, .val (.long ((1 : Int64) - q1)), .second] []))
          refine own_st (fun t k => XS.lload X0.here hx rfl (hb hby d4_54) rfl k) ?_
          show own_Fin _ _ _ _ _ _ _ (s₁.setTop (mkF m 56 #[.val (.long q1), .second, .val (.long q2), .second, .val (.long q3), .second, .val (.long ((1 : Int64) - q1)), .second] [(.long ((1 : Int64) - q1))]))
          have hv : own_F4 q1 q2 q3 = ((1 : Int64) - q1) := by unfold own_F4; rw [if_pos hc6_1, if_neg hc13_2, if_pos hc40_4, if_pos hc46_5]
          exact own_retJ X0 hx Bd.notSynchronized Bd.returns (hb hby d4_56) (by decide) (by decide) ⟨congrArg (fun z => some (Value.long z)) hv.symm, N0, e0⟩
        · refine own_st (fun t k => XS.ifYes X0.here hx rfl (pc0 := 46) (pc' := 54) rfl (hb hby d4_46) rfl (own_ltF hc46_5).2 (by decide) (by decide) k) ?_
          show own_Fin _ _ _ _ _ _ _ (s₁.setTop (mkF m 54 #[.val (.long q1), .second, .val (.long q2), .second, .val (.long q3), .second, .val (.long q1), .second] []))
          refine own_st (fun t k => XS.lload X0.here hx rfl (hb hby d4_54) rfl k) ?_
          show own_Fin _ _ _ _ _ _ _ (s₁.setTop (mkF m 56 #[.val (.long q1), .second, .val (.long q2), .second, .val (.long q3), .second, .val (.long q1), .second] [(.long q1)]))
          have hv : own_F4 q1 q2 q3 = q1 := by unfold own_F4; rw [if_pos hc6_1, if_neg hc13_2, if_pos hc40_4, if_neg hc46_5]
          exact own_retJ X0 hx Bd.notSynchronized Bd.returns (hb hby d4_56) (by decide) (by decide) ⟨congrArg (fun z => some (Value.long z)) hv.symm, N0, e0⟩
      · refine own_st (fun t k => XS.ifYes X0.here hx rfl (pc0 := 40) (pc' := 54) rfl (hb hby d4_40) rfl (own_gtF hc40_4).2 (by decide) (by decide) k) ?_
        show own_Fin _ _ _ _ _ _ _ (s₁.setTop (mkF m 54 #[.val (.long q1), .second, .val (.long q2), .second, .val (.long q3), .second, .val (.long q1), .second] []))
        refine own_st (fun t k => XS.lload X0.here hx rfl (hb hby d4_54) rfl k) ?_
        show own_Fin _ _ _ _ _ _ _ (s₁.setTop (mkF m 56 #[.val (.long q1), .second, .val (.long q2), .second, .val (.long q3), .second, .val (.long q1), .second] [(.long q1)]))
        have hv : own_F4 q1 q2 q3 = q1 := by unfold own_F4; rw [if_pos hc6_1, if_neg hc13_2, if_neg hc40_4]
        exact own_retJ X0 hx Bd.notSynchronized Bd.returns (hb hby d4_56) (by decide) (by decide) ⟨congrArg (fun z => some (Value.long z)) hv.symm, N0, e0⟩
  · refine own_st (fun t k => XS.ifYes X0.here hx rfl (pc0 := 6) (pc' := 37) rfl (hb hby d4_6) rfl (own_ltF hc6_1).2 (by decide) (by decide) k) ?_
    show own_Fin _ _ _ _ _ _ _ (s₁.setTop (mkF m 37 #[.val (.long q1), .second, .val (.long q2), .second, .val (.long q3), .second, .val (.long q1), .second] []))
    refine own_st (fun t k => XS.lloadN X0.here hx rfl (hb hby d4_37) rfl k) ?_
    show own_Fin _ _ _ _ _ _ _ (s₁.setTop (mkF m 38 #[.val (.long q1), .second, .val (.long q2), .second, .val (.long q3), .second, .val (.long q1), .second] [(.long q1)]))
    refine own_st (fun t k => XS.lconst X0.here hx rfl (hb hby d4_38) k) ?_
    show own_Fin _ _ _ _ _ _ _ (s₁.setTop (mkF m 39 #[.val (.long q1), .second, .val (.long q2), .second, .val (.long q3), .second, .val (.long q1), .second] [(.long (1 : Int64)), (.long q1)]))
    refine own_st (fun t k => XS.lcmp X0.here hx rfl (hb hby d4_39) rfl k) ?_
    show own_Fin _ _ _ _ _ _ _ (s₁.setTop (mkF m 40 #[.val (.long q1), .second, .val (.long q2), .second, .val (.long q3), .second, .val (.long q1), .second] [(.int (lcmpW q1 (1 : Int64)))]))
    by_cases hc40_6 : (1 : Int64) < q1
    · refine own_st (fun t k => XS.ifNo X0.here hx rfl (hb hby d4_40) rfl (own_gtT hc40_6).2 k) ?_
      show own_Fin _ _ _ _ _ _ _ (s₁.setTop (mkF m 43 #[.val (.long q1), .second, .val (.long q2), .second, .val (.long q3), .second, .val (.long q1), .second] []))
      refine own_st (fun t k => XS.lloadN X0.here hx rfl (hb hby d4_43) rfl k) ?_
      show own_Fin _ _ _ _ _ _ _ (s₁.setTop (mkF m 44 #[.val (.long q1), .second, .val (.long q2), .second, .val (.long q3), .second, .val (.long q1), .second] [(.long q2)]))
      refine own_st (fun t k => XS.lconst X0.here hx rfl (hb hby d4_44) k) ?_
      show own_Fin _ _ _ _ _ _ _ (s₁.setTop (mkF m 45 #[.val (.long q1), .second, .val (.long q2), .second, .val (.long q3), .second, .val (.long q1), .second] [(.long (0 : Int64)), (.long q2)]))
      refine own_st (fun t k => XS.lcmp X0.here hx rfl (hb hby d4_45) rfl k) ?_
      show own_Fin _ _ _ _ _ _ _ (s₁.setTop (mkF m 46 #[.val (.long q1), .second, .val (.long q2), .second, .val (.long q3), .second, .val (.long q1), .second] [(.int (lcmpW q2 (0 : Int64)))]))
      by_cases hc46_7 : q2 < (0 : Int64)
      · refine own_st (fun t k => XS.ifNo X0.here hx rfl (hb hby d4_46) rfl (own_ltT hc46_7).2 k) ?_
        show own_Fin _ _ _ _ _ _ _ (s₁.setTop (mkF m 49 #[.val (.long q1), .second, .val (.long q2), .second, .val (.long q3), .second, .val (.long q1), .second] []))
        refine own_st (fun t k => XS.lconst X0.here hx rfl (hb hby d4_49) k) ?_
        show own_Fin _ _ _ _ _ _ _ (s₁.setTop (mkF m 50 #[.val (.long q1), .second, .val (.long q2), .second, .val (.long q3), .second, .val (.long q1), .second] [(.long (1 : Int64))]))
        refine own_st (fun t k => XS.lloadN X0.here hx rfl (hb hby d4_50) rfl k) ?_
        show own_Fin _ _ _ _ _ _ _ (s₁.setTop (mkF m 51 #[.val (.long q1), .second, .val (.long q2), .second, .val (.long q3), .second, .val (.long q1), .second] [(.long q1), (.long (1 : Int64))]))
        refine own_st (fun t k => XS.lsub X0.here hx rfl (hb hby d4_51) rfl k) ?_
        show own_Fin _ _ _ _ _ _ _ (s₁.setTop (mkF m 52 #[.val (.long q1), .second, .val (.long q2), .second, .val (.long q3), .second, .val (.long q1), .second] [(.long ((1 : Int64) - q1))]))
        refine own_st (fun t k => XS.lstore X0.here hx rfl (hb hby d4_52) rfl (l' := #[.val (.long q1), .second, .val (.long q2), .second, .val (.long q3), .second, .val (.long ((1 : Int64) - q1)), .second]) rfl k) ?_
        show own_Fin _ _ _ _ _ _ _ (s₁.setTop (mkF m 54 #[.val (.long q1), .second, .val (.long q2), .second, .val (.long q3), .second, .val (.long ((1 : Int64) - q1)), .second] []))
        refine own_st (fun t k => XS.lload X0.here hx rfl (hb hby d4_54) rfl k) ?_
        show own_Fin _ _ _ _ _ _ _ (s₁.setTop (mkF m 56 #[.val (.long q1), .second, .val (.long q2), .second, .val (.long q3), .second, .val (.long ((1 : Int64) - q1)), .second] [(.long ((1 : Int64) - q1))]))
        have hv : own_F4 q1 q2 q3 = ((1 : Int64) - q1) := by unfold own_F4; rw [if_neg hc6_1, if_pos hc40_6, if_pos hc46_7]
        exact own_retJ X0 hx Bd.notSynchronized Bd.returns (hb hby d4_56) (by decide) (by decide) ⟨congrArg (fun z => some (Value.long z)) hv.symm, N0, e0⟩
      · refine own_st (fun t k => XS.ifYes X0.here hx rfl (pc0 := 46) (pc' := 54) rfl (hb hby d4_46) rfl (own_ltF hc46_7).2 (by decide) (by decide) k) ?_
        show own_Fin _ _ _ _ _ _ _ (s₁.setTop (mkF m 54 #[.val (.long q1), .second, .val (.long q2), .second, .val (.long q3), .second, .val (.long q1), .second] []))
        refine own_st (fun t k => XS.lload X0.here hx rfl (hb hby d4_54) rfl k) ?_
        show own_Fin _ _ _ _ _ _ _ (s₁.setTop (mkF m 56 #[.val (.long q1), .second, .val (.long q2), .second, .val (.long q3), .second, .val (.long q1), .second] [(.long q1)]))
        have hv : own_F4 q1 q2 q3 = q1 := by unfold own_F4; rw [if_neg hc6_1, if_pos hc40_6, if_neg hc46_7]
        exact own_retJ X0 hx Bd.notSynchronized Bd.returns (hb hby d4_56) (by decide) (by decide) ⟨congrArg (fun z => some (Value.long z)) hv.symm, N0, e0⟩
    · refine own_st (fun t k => XS.ifYes X0.here hx rfl (pc0 := 40) (pc' := 54) rfl (hb hby d4_40) rfl (own_gtF hc40_6).2 (by decide) (by decide) k) ?_
      show own_Fin _ _ _ _ _ _ _ (s₁.setTop (mkF m 54 #[.val (.long q1), .second, .val (.long q2), .second, .val (.long q3), .second, .val (.long q1), .second] []))
      refine own_st (fun t k => XS.lload X0.here hx rfl (hb hby d4_54) rfl k) ?_
      show own_Fin _ _ _ _ _ _ _ (s₁.setTop (mkF m 56 #[.val (.long q1), .second, .val (.long q2), .second, .val (.long q3), .second, .val (.long q1), .second] [(.long q1)]))
      have hv : own_F4 q1 q2 q3 = q1 := by unfold own_F4; rw [if_neg hc6_1, if_neg hc40_6]
      exact own_retJ X0 hx Bd.notSynchronized Bd.returns (hb hby d4_56) (by decide) (by decide) ⟨congrArg (fun z => some (Value.long z)) hv.symm, N0, e0⟩
theorem pn_0 : plainFor x = true := plainFor_of_name (x := x) (by first | (simp [plainName, overriddenIn]; done) | decide +kernel)
theorem pd_0_0 : parseMethodDescriptor "(JI)J" = some ⟨[.long, .int], some .long⟩ := by decide +kernel
theorem pd_0_1 : parseMethodDescriptor "(JJJ)J" = some ⟨[.long, .long, .long], some .long⟩ := by decide +kernel
theorem ef_0 (m : MethodId) (q1 : Int64) (q2 : Int64) (q3 : Int64) (p4 : Int32) : entryFrame m #[(.long q1), (.long q2), (.long q3), (.int p4)] maxLocals = mkF m 0 #[.val (.long q1), .second, .val (.long q2), .second, .val (.long q3), .second, .val (.int p4), .unset, .unset, .unset, .unset, .unset, .unset, .unset, .unset, .unset] [] := by first | (simp [entryFrame, mkF, argsToLocals, Value.category, maxLocals]; done) | rfl
def own_F0 (q1 : Int64) (q2 : Int64) (q3 : Int64) (p4 : Int32) : Int32 := (if (own_F1 q1 p4) < (0 : Int64) then (if (0 : Int64) < (own_F3 q3 (p4 >>> ((5 : Int32) &&& 31))) then (if (own_F1 q1 p4) = (-9223372036854775808 : Int64) then (if (own_F4 (own_F1 q1 p4) (own_F2 q2 (p4 >>> ((3 : Int32) &&& 31))) (own_F3 q3 (p4 >>> ((5 : Int32) &&& 31)))) = (9223372036854775807 : Int64) then (1 : Int32) else (0 : Int32)) else (if (0 : Int64) < (own_F4 (own_F1 q1 p4) (own_F2 q2 (p4 >>> ((3 : Int32) &&& 31))) (own_F3 q3 (p4 >>> ((5 : Int32) &&& 31)))) then (if ((own_F4 (own_F1 q1 p4) (own_F2 q2 (p4 >>> ((3 : Int32) &&& 31))) (own_F3 q3 (p4 >>> ((5 : Int32) &&& 31)))) + (own_F1 q1 p4)) = (0 : Int64) then (1 : Int32) else (0 : Int32)) else (0 : Int32))) else (if (1 : Int64) < (own_F1 q1 p4) then (if (own_F2 q2 (p4 >>> ((3 : Int32) &&& 31))) < (0 : Int64) then (if (own_F1 q1 p4) = (-9223372036854775808 : Int64) then (if (own_F4 (own_F1 q1 p4) (own_F2 q2 (p4 >>> ((3 : Int32) &&& 31))) (own_F3 q3 (p4 >>> ((5 : Int32) &&& 31)))) = (9223372036854775807 : Int64) then (1 : Int32) else (0 : Int32)) else (if (0 : Int64) < (own_F4 (own_F1 q1 p4) (own_F2 q2 (p4 >>> ((3 : Int32) &&& 31))) (own_F3 q3 (p4 >>> ((5 : Int32) &&& 31)))) then (if ((own_F4 (own_F1 q1 p4) (own_F2 q2 (p4 >>> ((3 : Int32) &&& 31))) (own_F3 q3 (p4 >>> ((5 : Int32) &&& 31)))) + (own_F1 q1 p4)) = (0 : Int64) then (1 : Int32) else (0 : Int32)) else (0 : Int32))) else (if (own_F4 (own_F1 q1 p4) (own_F2 q2 (p4 >>> ((3 : Int32) &&& 31))) (own_F3 q3 (p4 >>> ((5 : Int32) &&& 31)))) = (own_F1 q1 p4) then (1 : Int32) else (0 : Int32))) else (if (own_F4 (own_F1 q1 p4) (own_F2 q2 (p4 >>> ((3 : Int32) &&& 31))) (own_F3 q3 (p4 >>> ((5 : Int32) &&& 31)))) = (own_F1 q1 p4) then (1 : Int32) else (0 : Int32)))) else (if (1 : Int64) < (own_F1 q1 p4) then (if (own_F2 q2 (p4 >>> ((3 : Int32) &&& 31))) < (0 : Int64) then (if (own_F4 (own_F1 q1 p4) (own_F2 q2 (p4 >>> ((3 : Int32) &&& 31))) (own_F3 q3 (p4 >>> ((5 : Int32) &&& 31)))) < (0 : Int64) then (if ((own_F4 (own_F1 q1 p4) (own_F2 q2 (p4 >>> ((3 : Int32) &&& 31))) (own_F3 q3 (p4 >>> ((5 : Int32) &&& 31)))) + (own_F1 q1 p4)) = (1 : Int64) then (1 : Int32) else (0 : Int32)) else (0 : Int32)) else (if (own_F4 (own_F1 q1 p4) (own_F2 q2 (p4 >>> ((3 : Int32) &&& 31))) (own_F3 q3 (p4 >>> ((5 : Int32) &&& 31)))) = (own_F1 q1 p4) then (1 : Int32) else (0 : Int32))) else (if (own_F4 (own_F1 q1 p4) (own_F2 q2 (p4 >>> ((3 : Int32) &&& 31))) (own_F3 q3 (p4 >>> ((5 : Int32) &&& 31)))) = (own_F1 q1 p4) then (1 : Int32) else (0 : Int32))))
def own_Q0 (q1 : Int64) (q2 : Int64) (q3 : Int64) (p4 : Int32) (h0 : Heap) (n0 : Nat) (v : Option Value) (h : Heap) (L : List Loc) : Prop := v = some (.int (own_F0 q1 q2 q3 p4)) ∧ Fr n0 L ∧ h = h0
set_option maxRecDepth 65536 in
set_option maxHeartbeats 40000000 in
theorem rm0 (l : Launch) (Z : State) (a0 : Array Value) (hw : ∀ d ∈ tables_1, d.before a0 Z = true) (ws : List Jvm.Cond) (q1 : Int64) (q2 : Int64) (q3 : Int64) (p4 : Int32) (h0 : Heap) (n0 : Nat) (Z0 : n0 ≤ h0.size) :
    MetFree l x (head1 (Jvm.Cond.code x code maxLocals ret :: ws) room_1) (fun a U => a = #[(.long q1), (.long q2), (.long q3), (.int p4)] ∧ Z.Warmed39 U.vm ∧ U.heap = h0) (fun _ _ _ _ _ => True) (fun _ U o U' => ∃ v L, o = .returned v ∧ own_Q0 q1 q2 q3 p4 h0 n0 v U'.heap L ∧ FrameEnd U o U' L 0 0) := by
  refine MetFree.of_bodySF pn_0 hisR ?_
  intro p e s m args below meth c s₁ Bd hml0 hP hK
  obtain ⟨rfl, hZ, hh⟩ := hP
  have hx := Bd.exec
  have hby := Bd.bytes
  have hml : c.maxLocals = 16 := hml0
  have hown : s.vm.findClass "com/example/unsettle/unsettle/DrawsAcrossPinLaw" = some m.cls := findClass_of_methodNamed Bd.named
  have X0 : Stand p l e room_1 s m #[(.long q1), (.long q2), (.long q3), (.int p4)] below meth c s₁ [] 0 0 := Stand.of_body Bd
  have e0 : s₁.heap = h0 := by rw [← hh, Bd.state]; rfl
  have N0 := Fr.nil n0
  show own_Fin p.tables e below s (0) (0) (own_Q0 q1 q2 q3 p4 h0 n0) (s₁.setTop (entryFrame m #[(.long q1), (.long q2), (.long q3), (.int p4)] maxLocals))
  rw [ef_0 m q1 q2 q3 p4]
  show own_Fin _ _ _ _ _ _ _ (s₁.setTop (mkF m 0 #[.val (.long q1), .second, .val (.long q2), .second, .val (.long q3), .second, .val (.int p4), .unset, .unset, .unset, .unset, .unset, .unset, .unset, .unset, .unset] []))
  refine own_st (fun t k => XS.lloadN X0.here hx rfl (hb hby at_0) rfl k) ?_
  show own_Fin _ _ _ _ _ _ _ (s₁.setTop (mkF m 1 #[.val (.long q1), .second, .val (.long q2), .second, .val (.long q3), .second, .val (.int p4), .unset, .unset, .unset, .unset, .unset, .unset, .unset, .unset, .unset] [(.long q1)]))
  refine own_st (fun t k => XS.iload X0.here hx rfl (hb hby at_1) rfl k) ?_
  show own_Fin _ _ _ _ _ _ _ (s₁.setTop (mkF m 3 #[.val (.long q1), .second, .val (.long q2), .second, .val (.long q3), .second, .val (.int p4), .unset, .unset, .unset, .unset, .unset, .unset, .unset, .unset, .unset] [(.int p4), (.long q1)]))
  obtain ⟨_, _, ⟨T1, L1, k1, n1⟩, -, X1, ⟨Lc1, hQ1, l1, y1, z1⟩, st1⟩ := Jvm.LawKit.callS X0 hx (y := (⟨"com/example/unsettle/unsettle/DrawsAcrossPinLaw", "pickValue", "(JI)J"⟩ : MethodName)) hown (mvT hZ (hw _ (List.mem_of_getElem? (i := 0) rfl))) (mvT hZ (hw _ (List.mem_of_getElem? (i := 1) rfl))) (mvT hZ (hw _ (List.mem_of_getElem? (i := 2) rfl))) (mvT hZ (hw _ (List.mem_of_getElem? (i := 3) rfl))) (by decide) (backOf (W := 0) (rm1 l Z a0 hw [] q1 p4 h0 n0 Z0) hZ (hw _ (List.mem_of_getElem? (i := 3) rfl)) (hw _ (List.mem_of_getElem? (i := 2) rfl)) (by decide) (by decide)) (g := (mkF m 3 #[.val (.long q1), .second, .val (.long q2), .second, .val (.long q3), .second, .val (.int p4), .unset, .unset, .unset, .unset, .unset, .unset, .unset, .unset, .unset] [(.int p4), (.long q1)])) rfl (by rw [hml]; rfl) (argsL := [(.long q1), (.int p4)]) (rest := []) (lenOf pd_0_0 rfl) rfl (by show 2 * 0 + _ ≤ _; exact Nat.le_of_eq rfl) (hb hby at_3) (fun _ _ => ⟨rfl, e0, (by decide : 0 + 0 ≤ _), (by decide : 0 + 0 ≤ _)⟩)
  dsimp only [Pt.U, Pt.locs, Pt.cells, Pt.slots] at X1 l1 y1 z1 st1 hQ1
  subst l1 y1 z1
  obtain ⟨rfl, N1q, e1⟩ := hQ1
  have N1 := Fr.app N0 N1q
  refine own_st st1 ?_
  show own_Fin _ _ _ _ _ _ _ (T1.setTop (mkF m 6 #[.val (.long q1), .second, .val (.long q2), .second, .val (.long q3), .second, .val (.int p4), .unset, .unset, .unset, .unset, .unset, .unset, .unset, .unset, .unset] [(.long (own_F1 q1 p4))]))
  refine own_st (fun t k => XS.lstore X1.here hx rfl (hb hby at_6) rfl (l' := #[.val (.long q1), .second, .val (.long q2), .second, .val (.long q3), .second, .val (.int p4), .val (.long (own_F1 q1 p4)), .second, .unset, .unset, .unset, .unset, .unset, .unset, .unset]) rfl k) ?_
  show own_Fin _ _ _ _ _ _ _ (T1.setTop (mkF m 8 #[.val (.long q1), .second, .val (.long q2), .second, .val (.long q3), .second, .val (.int p4), .val (.long (own_F1 q1 p4)), .second, .unset, .unset, .unset, .unset, .unset, .unset, .unset] []))
  refine own_st (fun t k => XS.lloadN X1.here hx rfl (hb hby at_8) rfl k) ?_
  show own_Fin _ _ _ _ _ _ _ (T1.setTop (mkF m 9 #[.val (.long q1), .second, .val (.long q2), .second, .val (.long q3), .second, .val (.int p4), .val (.long (own_F1 q1 p4)), .second, .unset, .unset, .unset, .unset, .unset, .unset, .unset] [(.long q2)]))
  refine own_st (fun t k => XS.iload X1.here hx rfl (hb hby at_9) rfl k) ?_
  show own_Fin _ _ _ _ _ _ _ (T1.setTop (mkF m 11 #[.val (.long q1), .second, .val (.long q2), .second, .val (.long q3), .second, .val (.int p4), .val (.long (own_F1 q1 p4)), .second, .unset, .unset, .unset, .unset, .unset, .unset, .unset] [(.int p4), (.long q2)]))
  refine own_st (fun t k => XS.iconst X1.here hx rfl (hb hby at_11) k) ?_
  show own_Fin _ _ _ _ _ _ _ (T1.setTop (mkF m 12 #[.val (.long q1), .second, .val (.long q2), .second, .val (.long q3), .second, .val (.int p4), .val (.long (own_F1 q1 p4)), .second, .unset, .unset, .unset, .unset, .unset, .unset, .unset] [(.int (3 : Int32)), (.int p4), (.long q2)]))
  refine own_st (fun t k => XS.ishr X1.here hx rfl (hb hby at_12) rfl k) ?_
  show own_Fin _ _ _ _ _ _ _ (T1.setTop (mkF m 13 #[.val (.long q1), .second, .val (.long q2), .second, .val (.long q3), .second, .val (.int p4), .val (.long (own_F1 q1 p4)), .second, .unset, .unset, .unset, .unset, .unset, .unset, .unset] [(.int (p4 >>> ((3 : Int32) &&& 31))), (.long q2)]))
  obtain ⟨_, _, ⟨T2, L2, k2, n2⟩, -, X2, ⟨Lc2, hQ2, l2, y2, z2⟩, st2⟩ := Jvm.LawKit.callS X1 hx (y := (⟨"com/example/unsettle/unsettle/DrawsAcrossPinLaw", "pickMin", "(JI)J"⟩ : MethodName)) hown (mvT hZ (hw _ (List.mem_of_getElem? (i := 4) rfl))) (mvT hZ (hw _ (List.mem_of_getElem? (i := 5) rfl))) (mvT hZ (hw _ (List.mem_of_getElem? (i := 2) rfl))) (mvT hZ (hw _ (List.mem_of_getElem? (i := 6) rfl))) (by decide) (backOf (W := 0) (rm2 l Z a0 hw [] q2 (p4 >>> ((3 : Int32) &&& 31)) h0 n0 Z0) hZ (hw _ (List.mem_of_getElem? (i := 6) rfl)) (hw _ (List.mem_of_getElem? (i := 2) rfl)) (by decide) (by decide)) (g := (mkF m 13 #[.val (.long q1), .second, .val (.long q2), .second, .val (.long q3), .second, .val (.int p4), .val (.long (own_F1 q1 p4)), .second, .unset, .unset, .unset, .unset, .unset, .unset, .unset] [(.int (p4 >>> ((3 : Int32) &&& 31))), (.long q2)])) rfl (by rw [hml]; rfl) (argsL := [(.long q2), (.int (p4 >>> ((3 : Int32) &&& 31)))]) (rest := []) (lenOf pd_0_0 rfl) rfl (by show 2 * 0 + _ ≤ _; exact Nat.le_of_eq rfl) (hb hby at_13) (fun _ _ => ⟨rfl, e1, (by decide : 0 + 0 ≤ _), (by decide : 0 + 0 ≤ _)⟩)
  dsimp only [Pt.U, Pt.locs, Pt.cells, Pt.slots] at X2 l2 y2 z2 st2 hQ2
  subst l2 y2 z2
  obtain ⟨rfl, N2q, e2⟩ := hQ2
  have N2 := Fr.app N1 N2q
  refine own_st st2 ?_
  show own_Fin _ _ _ _ _ _ _ (T2.setTop (mkF m 16 #[.val (.long q1), .second, .val (.long q2), .second, .val (.long q3), .second, .val (.int p4), .val (.long (own_F1 q1 p4)), .second, .unset, .unset, .unset, .unset, .unset, .unset, .unset] [(.long (own_F2 q2 (p4 >>> ((3 : Int32) &&& 31))))]))
  refine own_st (fun t k => XS.lstore X2.here hx rfl (hb hby at_16) rfl (l' := #[.val (.long q1), .second, .val (.long q2), .second, .val (.long q3), .second, .val (.int p4), .val (.long (own_F1 q1 p4)), .second, .val (.long (own_F2 q2 (p4 >>> ((3 : Int32) &&& 31)))), .second, .unset, .unset, .unset, .unset, .unset]) rfl k) ?_
  show own_Fin _ _ _ _ _ _ _ (T2.setTop (mkF m 18 #[.val (.long q1), .second, .val (.long q2), .second, .val (.long q3), .second, .val (.int p4), .val (.long (own_F1 q1 p4)), .second, .val (.long (own_F2 q2 (p4 >>> ((3 : Int32) &&& 31)))), .second, .unset, .unset, .unset, .unset, .unset] []))
  refine own_st (fun t k => XS.lload X2.here hx rfl (hb hby at_18) rfl k) ?_
  show own_Fin _ _ _ _ _ _ _ (T2.setTop (mkF m 20 #[.val (.long q1), .second, .val (.long q2), .second, .val (.long q3), .second, .val (.int p4), .val (.long (own_F1 q1 p4)), .second, .val (.long (own_F2 q2 (p4 >>> ((3 : Int32) &&& 31)))), .second, .unset, .unset, .unset, .unset, .unset] [(.long q3)]))
  refine own_st (fun t k => XS.iload X2.here hx rfl (hb hby at_20) rfl k) ?_
  show own_Fin _ _ _ _ _ _ _ (T2.setTop (mkF m 22 #[.val (.long q1), .second, .val (.long q2), .second, .val (.long q3), .second, .val (.int p4), .val (.long (own_F1 q1 p4)), .second, .val (.long (own_F2 q2 (p4 >>> ((3 : Int32) &&& 31)))), .second, .unset, .unset, .unset, .unset, .unset] [(.int p4), (.long q3)]))
  refine own_st (fun t k => XS.iconst X2.here hx rfl (hb hby at_22) k) ?_
  show own_Fin _ _ _ _ _ _ _ (T2.setTop (mkF m 23 #[.val (.long q1), .second, .val (.long q2), .second, .val (.long q3), .second, .val (.int p4), .val (.long (own_F1 q1 p4)), .second, .val (.long (own_F2 q2 (p4 >>> ((3 : Int32) &&& 31)))), .second, .unset, .unset, .unset, .unset, .unset] [(.int (5 : Int32)), (.int p4), (.long q3)]))
  refine own_st (fun t k => XS.ishr X2.here hx rfl (hb hby at_23) rfl k) ?_
  show own_Fin _ _ _ _ _ _ _ (T2.setTop (mkF m 24 #[.val (.long q1), .second, .val (.long q2), .second, .val (.long q3), .second, .val (.int p4), .val (.long (own_F1 q1 p4)), .second, .val (.long (own_F2 q2 (p4 >>> ((3 : Int32) &&& 31)))), .second, .unset, .unset, .unset, .unset, .unset] [(.int (p4 >>> ((5 : Int32) &&& 31))), (.long q3)]))
  obtain ⟨_, _, ⟨T3, L3, k3, n3⟩, -, X3, ⟨Lc3, hQ3, l3, y3, z3⟩, st3⟩ := Jvm.LawKit.callS X2 hx (y := (⟨"com/example/unsettle/unsettle/DrawsAcrossPinLaw", "pickMax", "(JI)J"⟩ : MethodName)) hown (mvT hZ (hw _ (List.mem_of_getElem? (i := 7) rfl))) (mvT hZ (hw _ (List.mem_of_getElem? (i := 8) rfl))) (mvT hZ (hw _ (List.mem_of_getElem? (i := 2) rfl))) (mvT hZ (hw _ (List.mem_of_getElem? (i := 9) rfl))) (by decide) (backOf (W := 0) (rm3 l Z a0 hw [] q3 (p4 >>> ((5 : Int32) &&& 31)) h0 n0 Z0) hZ (hw _ (List.mem_of_getElem? (i := 9) rfl)) (hw _ (List.mem_of_getElem? (i := 2) rfl)) (by decide) (by decide)) (g := (mkF m 24 #[.val (.long q1), .second, .val (.long q2), .second, .val (.long q3), .second, .val (.int p4), .val (.long (own_F1 q1 p4)), .second, .val (.long (own_F2 q2 (p4 >>> ((3 : Int32) &&& 31)))), .second, .unset, .unset, .unset, .unset, .unset] [(.int (p4 >>> ((5 : Int32) &&& 31))), (.long q3)])) rfl (by rw [hml]; rfl) (argsL := [(.long q3), (.int (p4 >>> ((5 : Int32) &&& 31)))]) (rest := []) (lenOf pd_0_0 rfl) rfl (by show 2 * 0 + _ ≤ _; exact Nat.le_of_eq rfl) (hb hby at_24) (fun _ _ => ⟨rfl, e2, (by decide : 0 + 0 ≤ _), (by decide : 0 + 0 ≤ _)⟩)
  dsimp only [Pt.U, Pt.locs, Pt.cells, Pt.slots] at X3 l3 y3 z3 st3 hQ3
  subst l3 y3 z3
  obtain ⟨rfl, N3q, e3⟩ := hQ3
  have N3 := Fr.app N2 N3q
  refine own_st st3 ?_
  show own_Fin _ _ _ _ _ _ _ (T3.setTop (mkF m 27 #[.val (.long q1), .second, .val (.long q2), .second, .val (.long q3), .second, .val (.int p4), .val (.long (own_F1 q1 p4)), .second, .val (.long (own_F2 q2 (p4 >>> ((3 : Int32) &&& 31)))), .second, .unset, .unset, .unset, .unset, .unset] [(.long (own_F3 q3 (p4 >>> ((5 : Int32) &&& 31))))]))
  refine own_st (fun t k => XS.lstore X3.here hx rfl (hb hby at_27) rfl (l' := #[.val (.long q1), .second, .val (.long q2), .second, .val (.long q3), .second, .val (.int p4), .val (.long (own_F1 q1 p4)), .second, .val (.long (own_F2 q2 (p4 >>> ((3 : Int32) &&& 31)))), .second, .val (.long (own_F3 q3 (p4 >>> ((5 : Int32) &&& 31)))), .second, .unset, .unset, .unset]) rfl k) ?_
  show own_Fin _ _ _ _ _ _ _ (T3.setTop (mkF m 29 #[.val (.long q1), .second, .val (.long q2), .second, .val (.long q3), .second, .val (.int p4), .val (.long (own_F1 q1 p4)), .second, .val (.long (own_F2 q2 (p4 >>> ((3 : Int32) &&& 31)))), .second, .val (.long (own_F3 q3 (p4 >>> ((5 : Int32) &&& 31)))), .second, .unset, .unset, .unset] []))
  refine own_st (fun t k => XS.lload X3.here hx rfl (hb hby at_29) rfl k) ?_
  show own_Fin _ _ _ _ _ _ _ (T3.setTop (mkF m 31 #[.val (.long q1), .second, .val (.long q2), .second, .val (.long q3), .second, .val (.int p4), .val (.long (own_F1 q1 p4)), .second, .val (.long (own_F2 q2 (p4 >>> ((3 : Int32) &&& 31)))), .second, .val (.long (own_F3 q3 (p4 >>> ((5 : Int32) &&& 31)))), .second, .unset, .unset, .unset] [(.long (own_F1 q1 p4))]))
  refine own_st (fun t k => XS.lload X3.here hx rfl (hb hby at_31) rfl k) ?_
  show own_Fin _ _ _ _ _ _ _ (T3.setTop (mkF m 33 #[.val (.long q1), .second, .val (.long q2), .second, .val (.long q3), .second, .val (.int p4), .val (.long (own_F1 q1 p4)), .second, .val (.long (own_F2 q2 (p4 >>> ((3 : Int32) &&& 31)))), .second, .val (.long (own_F3 q3 (p4 >>> ((5 : Int32) &&& 31)))), .second, .unset, .unset, .unset] [(.long (own_F2 q2 (p4 >>> ((3 : Int32) &&& 31)))), (.long (own_F1 q1 p4))]))
  refine own_st (fun t k => XS.lload X3.here hx rfl (hb hby at_33) rfl k) ?_
  show own_Fin _ _ _ _ _ _ _ (T3.setTop (mkF m 35 #[.val (.long q1), .second, .val (.long q2), .second, .val (.long q3), .second, .val (.int p4), .val (.long (own_F1 q1 p4)), .second, .val (.long (own_F2 q2 (p4 >>> ((3 : Int32) &&& 31)))), .second, .val (.long (own_F3 q3 (p4 >>> ((5 : Int32) &&& 31)))), .second, .unset, .unset, .unset] [(.long (own_F3 q3 (p4 >>> ((5 : Int32) &&& 31)))), (.long (own_F2 q2 (p4 >>> ((3 : Int32) &&& 31)))), (.long (own_F1 q1 p4))]))
  obtain ⟨_, _, ⟨T4, L4, k4, n4⟩, -, X4, ⟨Lc4, hQ4, l4, y4, z4⟩, st4⟩ := Jvm.LawKit.callS X3 hx (y := (⟨"com/example/unsettle/unsettle/Draws", "across", "(JJJ)J"⟩ : MethodName)) hown (mvT hZ (hw _ (List.mem_of_getElem? (i := 10) rfl))) (mvT hZ (hw _ (List.mem_of_getElem? (i := 11) rfl))) (mvT hZ (hw _ (List.mem_of_getElem? (i := 12) rfl))) (mvT hZ (hw _ (List.mem_of_getElem? (i := 13) rfl))) (by decide) (backOf (W := 0) (rm4 l Z a0 hw [] (own_F1 q1 p4) (own_F2 q2 (p4 >>> ((3 : Int32) &&& 31))) (own_F3 q3 (p4 >>> ((5 : Int32) &&& 31))) h0 n0 Z0) hZ (hw _ (List.mem_of_getElem? (i := 13) rfl)) (hw _ (List.mem_of_getElem? (i := 12) rfl)) (by decide) (by decide)) (g := (mkF m 35 #[.val (.long q1), .second, .val (.long q2), .second, .val (.long q3), .second, .val (.int p4), .val (.long (own_F1 q1 p4)), .second, .val (.long (own_F2 q2 (p4 >>> ((3 : Int32) &&& 31)))), .second, .val (.long (own_F3 q3 (p4 >>> ((5 : Int32) &&& 31)))), .second, .unset, .unset, .unset] [(.long (own_F3 q3 (p4 >>> ((5 : Int32) &&& 31)))), (.long (own_F2 q2 (p4 >>> ((3 : Int32) &&& 31)))), (.long (own_F1 q1 p4))])) rfl (by rw [hml]; rfl) (argsL := [(.long (own_F1 q1 p4)), (.long (own_F2 q2 (p4 >>> ((3 : Int32) &&& 31)))), (.long (own_F3 q3 (p4 >>> ((5 : Int32) &&& 31))))]) (rest := []) (lenOf pd_0_1 rfl) rfl (by show 2 * 0 + _ ≤ _; exact Nat.le_of_eq rfl) (hb hby at_35) (fun _ _ => ⟨rfl, e3, (by decide : 0 + 0 ≤ _), (by decide : 0 + 0 ≤ _)⟩)
  dsimp only [Pt.U, Pt.locs, Pt.cells, Pt.slots] at X4 l4 y4 z4 st4 hQ4
  subst l4 y4 z4
  obtain ⟨rfl, N4q, e4⟩ := hQ4
  have N4 := Fr.app N3 N4q
  refine own_st st4 ?_
  show own_Fin _ _ _ _ _ _ _ (T4.setTop (mkF m 38 #[.val (.long q1), .second, .val (.long q2), .second, .val (.long q3), .second, .val (.int p4), .val (.long (own_F1 q1 p4)), .second, .val (.long (own_F2 q2 (p4 >>> ((3 : Int32) &&& 31)))), .second, .val (.long (own_F3 q3 (p4 >>> ((5 : Int32) &&& 31)))), .second, .unset, .unset, .unset] [(.long (own_F4 (own_F1 q1 p4) (own_F2 q2 (p4 >>> ((3 : Int32) &&& 31))) (own_F3 q3 (p4 >>> ((5 : Int32) &&& 31)))))]))
  refine own_st (fun t k => XS.lstore X4.here hx rfl (hb hby at_38) rfl (l' := #[.val (.long q1), .second, .val (.long q2), .second, .val (.long q3), .second, .val (.int p4), .val (.long (own_F1 q1 p4)), .second, .val (.long (own_F2 q2 (p4 >>> ((3 : Int32) &&& 31)))), .second, .val (.long (own_F3 q3 (p4 >>> ((5 : Int32) &&& 31)))), .second, .val (.long (own_F4 (own_F1 q1 p4) (own_F2 q2 (p4 >>> ((3 : Int32) &&& 31))) (own_F3 q3 (p4 >>> ((5 : Int32) &&& 31))))), .second, .unset]) rfl k) ?_
  show own_Fin _ _ _ _ _ _ _ (T4.setTop (mkF m 40 #[.val (.long q1), .second, .val (.long q2), .second, .val (.long q3), .second, .val (.int p4), .val (.long (own_F1 q1 p4)), .second, .val (.long (own_F2 q2 (p4 >>> ((3 : Int32) &&& 31)))), .second, .val (.long (own_F3 q3 (p4 >>> ((5 : Int32) &&& 31)))), .second, .val (.long (own_F4 (own_F1 q1 p4) (own_F2 q2 (p4 >>> ((3 : Int32) &&& 31))) (own_F3 q3 (p4 >>> ((5 : Int32) &&& 31))))), .second, .unset] []))
  refine own_st (fun t k => XS.lload X4.here hx rfl (hb hby at_40) rfl k) ?_
  show own_Fin _ _ _ _ _ _ _ (T4.setTop (mkF m 42 #[.val (.long q1), .second, .val (.long q2), .second, .val (.long q3), .second, .val (.int p4), .val (.long (own_F1 q1 p4)), .second, .val (.long (own_F2 q2 (p4 >>> ((3 : Int32) &&& 31)))), .second, .val (.long (own_F3 q3 (p4 >>> ((5 : Int32) &&& 31)))), .second, .val (.long (own_F4 (own_F1 q1 p4) (own_F2 q2 (p4 >>> ((3 : Int32) &&& 31))) (own_F3 q3 (p4 >>> ((5 : Int32) &&& 31))))), .second, .unset] [(.long (own_F1 q1 p4))]))
  refine own_st (fun t k => XS.lconst X4.here hx rfl (hb hby at_42) k) ?_
  show own_Fin _ _ _ _ _ _ _ (T4.setTop (mkF m 43 #[.val (.long q1), .second, .val (.long q2), .second, .val (.long q3), .second, .val (.int p4), .val (.long (own_F1 q1 p4)), .second, .val (.long (own_F2 q2 (p4 >>> ((3 : Int32) &&& 31)))), .second, .val (.long (own_F3 q3 (p4 >>> ((5 : Int32) &&& 31)))), .second, .val (.long (own_F4 (own_F1 q1 p4) (own_F2 q2 (p4 >>> ((3 : Int32) &&& 31))) (own_F3 q3 (p4 >>> ((5 : Int32) &&& 31))))), .second, .unset] [(.long (0 : Int64)), (.long (own_F1 q1 p4))]))
  refine own_st (fun t k => XS.lcmp X4.here hx rfl (hb hby at_43) rfl k) ?_
  show own_Fin _ _ _ _ _ _ _ (T4.setTop (mkF m 44 #[.val (.long q1), .second, .val (.long q2), .second, .val (.long q3), .second, .val (.int p4), .val (.long (own_F1 q1 p4)), .second, .val (.long (own_F2 q2 (p4 >>> ((3 : Int32) &&& 31)))), .second, .val (.long (own_F3 q3 (p4 >>> ((5 : Int32) &&& 31)))), .second, .val (.long (own_F4 (own_F1 q1 p4) (own_F2 q2 (p4 >>> ((3 : Int32) &&& 31))) (own_F3 q3 (p4 >>> ((5 : Int32) &&& 31))))), .second, .unset] [(.int (lcmpW (own_F1 q1 p4) (0 : Int64)))]))
  by_cases hc44_5 : (own_F1 q1 p4) < (0 : Int64)
  · refine own_st (fun t k => XS.ifNo X4.here hx rfl (hb hby at_44) rfl (own_ltT hc44_5).2 k) ?_
    show own_Fin _ _ _ _ _ _ _ (T4.setTop (mkF m 47 #[.val (.long q1), .second, .val (.long q2), .second, .val (.long q3), .second, .val (.int p4), .val (.long (own_F1 q1 p4)), .second, .val (.long (own_F2 q2 (p4 >>> ((3 : Int32) &&& 31)))), .second, .val (.long (own_F3 q3 (p4 >>> ((5 : Int32) &&& 31)))), .second, .val (.long (own_F4 (own_F1 q1 p4) (own_F2 q2 (p4 >>> ((3 : Int32) &&& 31))) (own_F3 q3 (p4 >>> ((5 : Int32) &&& 31))))), .second, .unset] []))
    refine own_st (fun t k => XS.lload X4.here hx rfl (hb hby at_47) rfl k) ?_
    show own_Fin _ _ _ _ _ _ _ (T4.setTop (mkF m 49 #[.val (.long q1), .second, .val (.long q2), .second, .val (.long q3), .second, .val (.int p4), .val (.long (own_F1 q1 p4)), .second, .val (.long (own_F2 q2 (p4 >>> ((3 : Int32) &&& 31)))), .second, .val (.long (own_F3 q3 (p4 >>> ((5 : Int32) &&& 31)))), .second, .val (.long (own_F4 (own_F1 q1 p4) (own_F2 q2 (p4 >>> ((3 : Int32) &&& 31))) (own_F3 q3 (p4 >>> ((5 : Int32) &&& 31))))), .second, .unset] [(.long (own_F3 q3 (p4 >>> ((5 : Int32) &&& 31))))]))
    refine own_st (fun t k => XS.lconst X4.here hx rfl (hb hby at_49) k) ?_
    show own_Fin _ _ _ _ _ _ _ (T4.setTop (mkF m 50 #[.val (.long q1), .second, .val (.long q2), .second, .val (.long q3), .second, .val (.int p4), .val (.long (own_F1 q1 p4)), .second, .val (.long (own_F2 q2 (p4 >>> ((3 : Int32) &&& 31)))), .second, .val (.long (own_F3 q3 (p4 >>> ((5 : Int32) &&& 31)))), .second, .val (.long (own_F4 (own_F1 q1 p4) (own_F2 q2 (p4 >>> ((3 : Int32) &&& 31))) (own_F3 q3 (p4 >>> ((5 : Int32) &&& 31))))), .second, .unset] [(.long (0 : Int64)), (.long (own_F3 q3 (p4 >>> ((5 : Int32) &&& 31))))]))
    refine own_st (fun t k => XS.lcmp X4.here hx rfl (hb hby at_50) rfl k) ?_
    show own_Fin _ _ _ _ _ _ _ (T4.setTop (mkF m 51 #[.val (.long q1), .second, .val (.long q2), .second, .val (.long q3), .second, .val (.int p4), .val (.long (own_F1 q1 p4)), .second, .val (.long (own_F2 q2 (p4 >>> ((3 : Int32) &&& 31)))), .second, .val (.long (own_F3 q3 (p4 >>> ((5 : Int32) &&& 31)))), .second, .val (.long (own_F4 (own_F1 q1 p4) (own_F2 q2 (p4 >>> ((3 : Int32) &&& 31))) (own_F3 q3 (p4 >>> ((5 : Int32) &&& 31))))), .second, .unset] [(.int (lcmpW (own_F3 q3 (p4 >>> ((5 : Int32) &&& 31))) (0 : Int64)))]))
    by_cases hc51_6 : (0 : Int64) < (own_F3 q3 (p4 >>> ((5 : Int32) &&& 31)))
    · refine own_st (fun t k => XS.ifYes X4.here hx rfl (pc0 := 51) (pc' := 68) rfl (hb hby at_51) rfl (own_gtT hc51_6).1 (by decide) (by decide) k) ?_
      show own_Fin _ _ _ _ _ _ _ (T4.setTop (mkF m 68 #[.val (.long q1), .second, .val (.long q2), .second, .val (.long q3), .second, .val (.int p4), .val (.long (own_F1 q1 p4)), .second, .val (.long (own_F2 q2 (p4 >>> ((3 : Int32) &&& 31)))), .second, .val (.long (own_F3 q3 (p4 >>> ((5 : Int32) &&& 31)))), .second, .val (.long (own_F4 (own_F1 q1 p4) (own_F2 q2 (p4 >>> ((3 : Int32) &&& 31))) (own_F3 q3 (p4 >>> ((5 : Int32) &&& 31))))), .second, .unset] []))
      refine own_st (fun t k => XS.iconst X4.here hx rfl (hb hby at_68) k) ?_
      show own_Fin _ _ _ _ _ _ _ (T4.setTop (mkF m 69 #[.val (.long q1), .second, .val (.long q2), .second, .val (.long q3), .second, .val (.int p4), .val (.long (own_F1 q1 p4)), .second, .val (.long (own_F2 q2 (p4 >>> ((3 : Int32) &&& 31)))), .second, .val (.long (own_F3 q3 (p4 >>> ((5 : Int32) &&& 31)))), .second, .val (.long (own_F4 (own_F1 q1 p4) (own_F2 q2 (p4 >>> ((3 : Int32) &&& 31))) (own_F3 q3 (p4 >>> ((5 : Int32) &&& 31))))), .second, .unset] [(.int (1 : Int32))]))
      refine own_st (fun t k => XS.goto X4.here hx rfl (pc0 := 69) (pc' := 73) rfl (hb hby at_69) (by decide) (by decide) k) ?_
      show own_Fin _ _ _ _ _ _ _ (T4.setTop (mkF m 73 #[.val (.long q1), .second, .val (.long q2), .second, .val (.long q3), .second, .val (.int p4), .val (.long (own_F1 q1 p4)), .second, .val (.long (own_F2 q2 (p4 >>> ((3 : Int32) &&& 31)))), .second, .val (.long (own_F3 q3 (p4 >>> ((5 : Int32) &&& 31)))), .second, .val (.long (own_F4 (own_F1 q1 p4) (own_F2 q2 (p4 >>> ((3 : Int32) &&& 31))) (own_F3 q3 (p4 >>> ((5 : Int32) &&& 31))))), .second, .unset] [(.int (1 : Int32))]))
      refine own_st (fun t k => XS.istore X4.here hx rfl (hb hby at_73) rfl (l' := #[.val (.long q1), .second, .val (.long q2), .second, .val (.long q3), .second, .val (.int p4), .val (.long (own_F1 q1 p4)), .second, .val (.long (own_F2 q2 (p4 >>> ((3 : Int32) &&& 31)))), .second, .val (.long (own_F3 q3 (p4 >>> ((5 : Int32) &&& 31)))), .second, .val (.long (own_F4 (own_F1 q1 p4) (own_F2 q2 (p4 >>> ((3 : Int32) &&& 31))) (own_F3 q3 (p4 >>> ((5 : Int32) &&& 31))))), .second, .val (.int (1 : Int32))]) rfl k) ?_
      show own_Fin _ _ _ _ _ _ _ (T4.setTop (mkF m 75 #[.val (.long q1), .second, .val (.long q2), .second, .val (.long q3), .second, .val (.int p4), .val (.long (own_F1 q1 p4)), .second, .val (.long (own_F2 q2 (p4 >>> ((3 : Int32) &&& 31)))), .second, .val (.long (own_F3 q3 (p4 >>> ((5 : Int32) &&& 31)))), .second, .val (.long (own_F4 (own_F1 q1 p4) (own_F2 q2 (p4 >>> ((3 : Int32) &&& 31))) (own_F3 q3 (p4 >>> ((5 : Int32) &&& 31))))), .second, .val (.int (1 : Int32))] []))
      refine own_st (fun t k => XS.iload X4.here hx rfl (hb hby at_75) rfl k) ?_
      show own_Fin _ _ _ _ _ _ _ (T4.setTop (mkF m 77 #[.val (.long q1), .second, .val (.long q2), .second, .val (.long q3), .second, .val (.int p4), .val (.long (own_F1 q1 p4)), .second, .val (.long (own_F2 q2 (p4 >>> ((3 : Int32) &&& 31)))), .second, .val (.long (own_F3 q3 (p4 >>> ((5 : Int32) &&& 31)))), .second, .val (.long (own_F4 (own_F1 q1 p4) (own_F2 q2 (p4 >>> ((3 : Int32) &&& 31))) (own_F3 q3 (p4 >>> ((5 : Int32) &&& 31))))), .second, .val (.int (1 : Int32))] [(.int (1 : Int32))]))
      refine own_st (fun t k => XS.ifYes X4.here hx rfl (pc0 := 77) (pc' := 94) rfl (hb hby at_77) rfl ((if0 _ _).trans (feq (by decide : ¬ ((1 : Int32) = (0 : Int32)))).2) (by decide) (by decide) k) ?_
      show own_Fin _ _ _ _ _ _ _ (T4.setTop (mkF m 94 #[.val (.long q1), .second, .val (.long q2), .second, .val (.long q3), .second, .val (.int p4), .val (.long (own_F1 q1 p4)), .second, .val (.long (own_F2 q2 (p4 >>> ((3 : Int32) &&& 31)))), .second, .val (.long (own_F3 q3 (p4 >>> ((5 : Int32) &&& 31)))), .second, .val (.long (own_F4 (own_F1 q1 p4) (own_F2 q2 (p4 >>> ((3 : Int32) &&& 31))) (own_F3 q3 (p4 >>> ((5 : Int32) &&& 31))))), .second, .val (.int (1 : Int32))] []))
      refine own_st (fun t k => XS.lload X4.here hx rfl (hb hby at_94) rfl k) ?_
      show own_Fin _ _ _ _ _ _ _ (T4.setTop (mkF m 96 #[.val (.long q1), .second, .val (.long q2), .second, .val (.long q3), .second, .val (.int p4), .val (.long (own_F1 q1 p4)), .second, .val (.long (own_F2 q2 (p4 >>> ((3 : Int32) &&& 31)))), .second, .val (.long (own_F3 q3 (p4 >>> ((5 : Int32) &&& 31)))), .second, .val (.long (own_F4 (own_F1 q1 p4) (own_F2 q2 (p4 >>> ((3 : Int32) &&& 31))) (own_F3 q3 (p4 >>> ((5 : Int32) &&& 31))))), .second, .val (.int (1 : Int32))] [(.long (own_F1 q1 p4))]))
      refine own_st (fun t k => XS.lconst X4.here hx rfl (hb hby at_96) k) ?_
      show own_Fin _ _ _ _ _ _ _ (T4.setTop (mkF m 97 #[.val (.long q1), .second, .val (.long q2), .second, .val (.long q3), .second, .val (.int p4), .val (.long (own_F1 q1 p4)), .second, .val (.long (own_F2 q2 (p4 >>> ((3 : Int32) &&& 31)))), .second, .val (.long (own_F3 q3 (p4 >>> ((5 : Int32) &&& 31)))), .second, .val (.long (own_F4 (own_F1 q1 p4) (own_F2 q2 (p4 >>> ((3 : Int32) &&& 31))) (own_F3 q3 (p4 >>> ((5 : Int32) &&& 31))))), .second, .val (.int (1 : Int32))] [(.long (0 : Int64)), (.long (own_F1 q1 p4))]))
      refine own_st (fun t k => XS.lcmp X4.here hx rfl (hb hby at_97) rfl k) ?_
      show own_Fin _ _ _ _ _ _ _ (T4.setTop (mkF m 98 #[.val (.long q1), .second, .val (.long q2), .second, .val (.long q3), .second, .val (.int p4), .val (.long (own_F1 q1 p4)), .second, .val (.long (own_F2 q2 (p4 >>> ((3 : Int32) &&& 31)))), .second, .val (.long (own_F3 q3 (p4 >>> ((5 : Int32) &&& 31)))), .second, .val (.long (own_F4 (own_F1 q1 p4) (own_F2 q2 (p4 >>> ((3 : Int32) &&& 31))) (own_F3 q3 (p4 >>> ((5 : Int32) &&& 31))))), .second, .val (.int (1 : Int32))] [(.int (lcmpW (own_F1 q1 p4) (0 : Int64)))]))
      refine own_st (fun t k => XS.ifNo X4.here hx rfl (hb hby at_98) rfl (own_ltT hc44_5).2 k) ?_
      show own_Fin _ _ _ _ _ _ _ (T4.setTop (mkF m 101 #[.val (.long q1), .second, .val (.long q2), .second, .val (.long q3), .second, .val (.int p4), .val (.long (own_F1 q1 p4)), .second, .val (.long (own_F2 q2 (p4 >>> ((3 : Int32) &&& 31)))), .second, .val (.long (own_F3 q3 (p4 >>> ((5 : Int32) &&& 31)))), .second, .val (.long (own_F4 (own_F1 q1 p4) (own_F2 q2 (p4 >>> ((3 : Int32) &&& 31))) (own_F3 q3 (p4 >>> ((5 : Int32) &&& 31))))), .second, .val (.int (1 : Int32))] []))
      refine own_st (fun t k => XS.lload X4.here hx rfl (hb hby at_101) rfl k) ?_
      show own_Fin _ _ _ _ _ _ _ (T4.setTop (mkF m 103 #[.val (.long q1), .second, .val (.long q2), .second, .val (.long q3), .second, .val (.int p4), .val (.long (own_F1 q1 p4)), .second, .val (.long (own_F2 q2 (p4 >>> ((3 : Int32) &&& 31)))), .second, .val (.long (own_F3 q3 (p4 >>> ((5 : Int32) &&& 31)))), .second, .val (.long (own_F4 (own_F1 q1 p4) (own_F2 q2 (p4 >>> ((3 : Int32) &&& 31))) (own_F3 q3 (p4 >>> ((5 : Int32) &&& 31))))), .second, .val (.int (1 : Int32))] [(.long (own_F1 q1 p4))]))
      refine own_st (X4.ldc2Long hx hown (mvT hZ (hw _ (List.mem_of_getElem? (i := 14) rfl))) (g := (mkF m 103 #[.val (.long q1), .second, .val (.long q2), .second, .val (.long q3), .second, .val (.int p4), .val (.long (own_F1 q1 p4)), .second, .val (.long (own_F2 q2 (p4 >>> ((3 : Int32) &&& 31)))), .second, .val (.long (own_F3 q3 (p4 >>> ((5 : Int32) &&& 31)))), .second, .val (.long (own_F4 (own_F1 q1 p4) (own_F2 q2 (p4 >>> ((3 : Int32) &&& 31))) (own_F3 q3 (p4 >>> ((5 : Int32) &&& 31))))), .second, .val (.int (1 : Int32))] [(.long (own_F1 q1 p4))])) rfl (hb hby at_103)) ?_
      show own_Fin _ _ _ _ _ _ _ (T4.setTop (mkF m 106 #[.val (.long q1), .second, .val (.long q2), .second, .val (.long q3), .second, .val (.int p4), .val (.long (own_F1 q1 p4)), .second, .val (.long (own_F2 q2 (p4 >>> ((3 : Int32) &&& 31)))), .second, .val (.long (own_F3 q3 (p4 >>> ((5 : Int32) &&& 31)))), .second, .val (.long (own_F4 (own_F1 q1 p4) (own_F2 q2 (p4 >>> ((3 : Int32) &&& 31))) (own_F3 q3 (p4 >>> ((5 : Int32) &&& 31))))), .second, .val (.int (1 : Int32))] [(.long (-9223372036854775808 : Int64)), (.long (own_F1 q1 p4))]))
      refine own_st (fun t k => XS.lcmp X4.here hx rfl (hb hby at_106) rfl k) ?_
      show own_Fin _ _ _ _ _ _ _ (T4.setTop (mkF m 107 #[.val (.long q1), .second, .val (.long q2), .second, .val (.long q3), .second, .val (.int p4), .val (.long (own_F1 q1 p4)), .second, .val (.long (own_F2 q2 (p4 >>> ((3 : Int32) &&& 31)))), .second, .val (.long (own_F3 q3 (p4 >>> ((5 : Int32) &&& 31)))), .second, .val (.long (own_F4 (own_F1 q1 p4) (own_F2 q2 (p4 >>> ((3 : Int32) &&& 31))) (own_F3 q3 (p4 >>> ((5 : Int32) &&& 31))))), .second, .val (.int (1 : Int32))] [(.int (lcmpW (own_F1 q1 p4) (-9223372036854775808 : Int64)))]))
      by_cases hc107_7 : (own_F1 q1 p4) = (-9223372036854775808 : Int64)
      · refine own_st (fun t k => XS.ifNo X4.here hx rfl (hb hby at_107) rfl (own_eqT hc107_7).2 k) ?_
        show own_Fin _ _ _ _ _ _ _ (T4.setTop (mkF m 110 #[.val (.long q1), .second, .val (.long q2), .second, .val (.long q3), .second, .val (.int p4), .val (.long (own_F1 q1 p4)), .second, .val (.long (own_F2 q2 (p4 >>> ((3 : Int32) &&& 31)))), .second, .val (.long (own_F3 q3 (p4 >>> ((5 : Int32) &&& 31)))), .second, .val (.long (own_F4 (own_F1 q1 p4) (own_F2 q2 (p4 >>> ((3 : Int32) &&& 31))) (own_F3 q3 (p4 >>> ((5 : Int32) &&& 31))))), .second, .val (.int (1 : Int32))] []))
        refine own_st (fun t k => XS.lload X4.here hx rfl (hb hby at_110) rfl k) ?_
        show own_Fin _ _ _ _ _ _ _ (T4.setTop (mkF m 112 #[.val (.long q1), .second, .val (.long q2), .second, .val (.long q3), .second, .val (.int p4), .val (.long (own_F1 q1 p4)), .second, .val (.long (own_F2 q2 (p4 >>> ((3 : Int32) &&& 31)))), .second, .val (.long (own_F3 q3 (p4 >>> ((5 : Int32) &&& 31)))), .second, .val (.long (own_F4 (own_F1 q1 p4) (own_F2 q2 (p4 >>> ((3 : Int32) &&& 31))) (own_F3 q3 (p4 >>> ((5 : Int32) &&& 31))))), .second, .val (.int (1 : Int32))] [(.long (own_F4 (own_F1 q1 p4) (own_F2 q2 (p4 >>> ((3 : Int32) &&& 31))) (own_F3 q3 (p4 >>> ((5 : Int32) &&& 31)))))]))
        refine own_st (X4.ldc2Long hx hown (mvT hZ (hw _ (List.mem_of_getElem? (i := 16) rfl))) (g := (mkF m 112 #[.val (.long q1), .second, .val (.long q2), .second, .val (.long q3), .second, .val (.int p4), .val (.long (own_F1 q1 p4)), .second, .val (.long (own_F2 q2 (p4 >>> ((3 : Int32) &&& 31)))), .second, .val (.long (own_F3 q3 (p4 >>> ((5 : Int32) &&& 31)))), .second, .val (.long (own_F4 (own_F1 q1 p4) (own_F2 q2 (p4 >>> ((3 : Int32) &&& 31))) (own_F3 q3 (p4 >>> ((5 : Int32) &&& 31))))), .second, .val (.int (1 : Int32))] [(.long (own_F4 (own_F1 q1 p4) (own_F2 q2 (p4 >>> ((3 : Int32) &&& 31))) (own_F3 q3 (p4 >>> ((5 : Int32) &&& 31)))))])) rfl (hb hby at_112)) ?_
        show own_Fin _ _ _ _ _ _ _ (T4.setTop (mkF m 115 #[.val (.long q1), .second, .val (.long q2), .second, .val (.long q3), .second, .val (.int p4), .val (.long (own_F1 q1 p4)), .second, .val (.long (own_F2 q2 (p4 >>> ((3 : Int32) &&& 31)))), .second, .val (.long (own_F3 q3 (p4 >>> ((5 : Int32) &&& 31)))), .second, .val (.long (own_F4 (own_F1 q1 p4) (own_F2 q2 (p4 >>> ((3 : Int32) &&& 31))) (own_F3 q3 (p4 >>> ((5 : Int32) &&& 31))))), .second, .val (.int (1 : Int32))] [(.long (9223372036854775807 : Int64)), (.long (own_F4 (own_F1 q1 p4) (own_F2 q2 (p4 >>> ((3 : Int32) &&& 31))) (own_F3 q3 (p4 >>> ((5 : Int32) &&& 31)))))]))
        refine own_st (fun t k => XS.lcmp X4.here hx rfl (hb hby at_115) rfl k) ?_
        show own_Fin _ _ _ _ _ _ _ (T4.setTop (mkF m 116 #[.val (.long q1), .second, .val (.long q2), .second, .val (.long q3), .second, .val (.int p4), .val (.long (own_F1 q1 p4)), .second, .val (.long (own_F2 q2 (p4 >>> ((3 : Int32) &&& 31)))), .second, .val (.long (own_F3 q3 (p4 >>> ((5 : Int32) &&& 31)))), .second, .val (.long (own_F4 (own_F1 q1 p4) (own_F2 q2 (p4 >>> ((3 : Int32) &&& 31))) (own_F3 q3 (p4 >>> ((5 : Int32) &&& 31))))), .second, .val (.int (1 : Int32))] [(.int (lcmpW (own_F4 (own_F1 q1 p4) (own_F2 q2 (p4 >>> ((3 : Int32) &&& 31))) (own_F3 q3 (p4 >>> ((5 : Int32) &&& 31)))) (9223372036854775807 : Int64)))]))
        by_cases hc116_8 : (own_F4 (own_F1 q1 p4) (own_F2 q2 (p4 >>> ((3 : Int32) &&& 31))) (own_F3 q3 (p4 >>> ((5 : Int32) &&& 31)))) = (9223372036854775807 : Int64)
        · refine own_st (fun t k => XS.ifNo X4.here hx rfl (hb hby at_116) rfl (own_eqT hc116_8).2 k) ?_
          show own_Fin _ _ _ _ _ _ _ (T4.setTop (mkF m 119 #[.val (.long q1), .second, .val (.long q2), .second, .val (.long q3), .second, .val (.int p4), .val (.long (own_F1 q1 p4)), .second, .val (.long (own_F2 q2 (p4 >>> ((3 : Int32) &&& 31)))), .second, .val (.long (own_F3 q3 (p4 >>> ((5 : Int32) &&& 31)))), .second, .val (.long (own_F4 (own_F1 q1 p4) (own_F2 q2 (p4 >>> ((3 : Int32) &&& 31))) (own_F3 q3 (p4 >>> ((5 : Int32) &&& 31))))), .second, .val (.int (1 : Int32))] []))
          refine own_st (fun t k => XS.iconst X4.here hx rfl (hb hby at_119) k) ?_
          show own_Fin _ _ _ _ _ _ _ (T4.setTop (mkF m 120 #[.val (.long q1), .second, .val (.long q2), .second, .val (.long q3), .second, .val (.int p4), .val (.long (own_F1 q1 p4)), .second, .val (.long (own_F2 q2 (p4 >>> ((3 : Int32) &&& 31)))), .second, .val (.long (own_F3 q3 (p4 >>> ((5 : Int32) &&& 31)))), .second, .val (.long (own_F4 (own_F1 q1 p4) (own_F2 q2 (p4 >>> ((3 : Int32) &&& 31))) (own_F3 q3 (p4 >>> ((5 : Int32) &&& 31))))), .second, .val (.int (1 : Int32))] [(.int (1 : Int32))]))
          refine own_st (fun t k => XS.goto X4.here hx rfl (pc0 := 120) (pc' := 124) rfl (hb hby at_120) (by decide) (by decide) k) ?_
          show own_Fin _ _ _ _ _ _ _ (T4.setTop (mkF m 124 #[.val (.long q1), .second, .val (.long q2), .second, .val (.long q3), .second, .val (.int p4), .val (.long (own_F1 q1 p4)), .second, .val (.long (own_F2 q2 (p4 >>> ((3 : Int32) &&& 31)))), .second, .val (.long (own_F3 q3 (p4 >>> ((5 : Int32) &&& 31)))), .second, .val (.long (own_F4 (own_F1 q1 p4) (own_F2 q2 (p4 >>> ((3 : Int32) &&& 31))) (own_F3 q3 (p4 >>> ((5 : Int32) &&& 31))))), .second, .val (.int (1 : Int32))] [(.int (1 : Int32))]))
          have hv : own_F0 q1 q2 q3 p4 = (1 : Int32) := by unfold own_F0; rw [if_pos hc44_5, if_pos hc51_6, if_pos hc107_7, if_pos hc116_8]
          exact own_retN X4 hx Bd.notSynchronized (t := .boolean) Bd.returns (by simp) (hb hby at_124) (by decide) (by decide) ⟨congrArg (fun z => some (Value.int z)) hv.symm, N4, e4⟩
        · refine own_st (fun t k => XS.ifYes X4.here hx rfl (pc0 := 116) (pc' := 123) rfl (hb hby at_116) rfl (own_eqF hc116_8).2 (by decide) (by decide) k) ?_
          show own_Fin _ _ _ _ _ _ _ (T4.setTop (mkF m 123 #[.val (.long q1), .second, .val (.long q2), .second, .val (.long q3), .second, .val (.int p4), .val (.long (own_F1 q1 p4)), .second, .val (.long (own_F2 q2 (p4 >>> ((3 : Int32) &&& 31)))), .second, .val (.long (own_F3 q3 (p4 >>> ((5 : Int32) &&& 31)))), .second, .val (.long (own_F4 (own_F1 q1 p4) (own_F2 q2 (p4 >>> ((3 : Int32) &&& 31))) (own_F3 q3 (p4 >>> ((5 : Int32) &&& 31))))), .second, .val (.int (1 : Int32))] []))
          refine own_st (fun t k => XS.iconst X4.here hx rfl (hb hby at_123) k) ?_
          show own_Fin _ _ _ _ _ _ _ (T4.setTop (mkF m 124 #[.val (.long q1), .second, .val (.long q2), .second, .val (.long q3), .second, .val (.int p4), .val (.long (own_F1 q1 p4)), .second, .val (.long (own_F2 q2 (p4 >>> ((3 : Int32) &&& 31)))), .second, .val (.long (own_F3 q3 (p4 >>> ((5 : Int32) &&& 31)))), .second, .val (.long (own_F4 (own_F1 q1 p4) (own_F2 q2 (p4 >>> ((3 : Int32) &&& 31))) (own_F3 q3 (p4 >>> ((5 : Int32) &&& 31))))), .second, .val (.int (1 : Int32))] [(.int (0 : Int32))]))
          have hv : own_F0 q1 q2 q3 p4 = (0 : Int32) := by unfold own_F0; rw [if_pos hc44_5, if_pos hc51_6, if_pos hc107_7, if_neg hc116_8]
          exact own_retN X4 hx Bd.notSynchronized (t := .boolean) Bd.returns (by simp) (hb hby at_124) (by decide) (by decide) ⟨congrArg (fun z => some (Value.int z)) hv.symm, N4, e4⟩
      · refine own_st (fun t k => XS.ifYes X4.here hx rfl (pc0 := 107) (pc' := 125) rfl (hb hby at_107) rfl (own_eqF hc107_7).2 (by decide) (by decide) k) ?_
        show own_Fin _ _ _ _ _ _ _ (T4.setTop (mkF m 125 #[.val (.long q1), .second, .val (.long q2), .second, .val (.long q3), .second, .val (.int p4), .val (.long (own_F1 q1 p4)), .second, .val (.long (own_F2 q2 (p4 >>> ((3 : Int32) &&& 31)))), .second, .val (.long (own_F3 q3 (p4 >>> ((5 : Int32) &&& 31)))), .second, .val (.long (own_F4 (own_F1 q1 p4) (own_F2 q2 (p4 >>> ((3 : Int32) &&& 31))) (own_F3 q3 (p4 >>> ((5 : Int32) &&& 31))))), .second, .val (.int (1 : Int32))] []))
        refine own_st (fun t k => XS.lload X4.here hx rfl (hb hby at_125) rfl k) ?_
        show own_Fin _ _ _ _ _ _ _ (T4.setTop (mkF m 127 #[.val (.long q1), .second, .val (.long q2), .second, .val (.long q3), .second, .val (.int p4), .val (.long (own_F1 q1 p4)), .second, .val (.long (own_F2 q2 (p4 >>> ((3 : Int32) &&& 31)))), .second, .val (.long (own_F3 q3 (p4 >>> ((5 : Int32) &&& 31)))), .second, .val (.long (own_F4 (own_F1 q1 p4) (own_F2 q2 (p4 >>> ((3 : Int32) &&& 31))) (own_F3 q3 (p4 >>> ((5 : Int32) &&& 31))))), .second, .val (.int (1 : Int32))] [(.long (own_F4 (own_F1 q1 p4) (own_F2 q2 (p4 >>> ((3 : Int32) &&& 31))) (own_F3 q3 (p4 >>> ((5 : Int32) &&& 31)))))]))
        refine own_st (fun t k => XS.lconst X4.here hx rfl (hb hby at_127) k) ?_
        show own_Fin _ _ _ _ _ _ _ (T4.setTop (mkF m 128 #[.val (.long q1), .second, .val (.long q2), .second, .val (.long q3), .second, .val (.int p4), .val (.long (own_F1 q1 p4)), .second, .val (.long (own_F2 q2 (p4 >>> ((3 : Int32) &&& 31)))), .second, .val (.long (own_F3 q3 (p4 >>> ((5 : Int32) &&& 31)))), .second, .val (.long (own_F4 (own_F1 q1 p4) (own_F2 q2 (p4 >>> ((3 : Int32) &&& 31))) (own_F3 q3 (p4 >>> ((5 : Int32) &&& 31))))), .second, .val (.int (1 : Int32))] [(.long (0 : Int64)), (.long (own_F4 (own_F1 q1 p4) (own_F2 q2 (p4 >>> ((3 : Int32) &&& 31))) (own_F3 q3 (p4 >>> ((5 : Int32) &&& 31)))))]))
        refine own_st (fun t k => XS.lcmp X4.here hx rfl (hb hby at_128) rfl k) ?_
        show own_Fin _ _ _ _ _ _ _ (T4.setTop (mkF m 129 #[.val (.long q1), .second, .val (.long q2), .second, .val (.long q3), .second, .val (.int p4), .val (.long (own_F1 q1 p4)), .second, .val (.long (own_F2 q2 (p4 >>> ((3 : Int32) &&& 31)))), .second, .val (.long (own_F3 q3 (p4 >>> ((5 : Int32) &&& 31)))), .second, .val (.long (own_F4 (own_F1 q1 p4) (own_F2 q2 (p4 >>> ((3 : Int32) &&& 31))) (own_F3 q3 (p4 >>> ((5 : Int32) &&& 31))))), .second, .val (.int (1 : Int32))] [(.int (lcmpW (own_F4 (own_F1 q1 p4) (own_F2 q2 (p4 >>> ((3 : Int32) &&& 31))) (own_F3 q3 (p4 >>> ((5 : Int32) &&& 31)))) (0 : Int64)))]))
        by_cases hc129_9 : (0 : Int64) < (own_F4 (own_F1 q1 p4) (own_F2 q2 (p4 >>> ((3 : Int32) &&& 31))) (own_F3 q3 (p4 >>> ((5 : Int32) &&& 31))))
        · refine own_st (fun t k => XS.ifNo X4.here hx rfl (hb hby at_129) rfl (own_gtT hc129_9).2 k) ?_
          show own_Fin _ _ _ _ _ _ _ (T4.setTop (mkF m 132 #[.val (.long q1), .second, .val (.long q2), .second, .val (.long q3), .second, .val (.int p4), .val (.long (own_F1 q1 p4)), .second, .val (.long (own_F2 q2 (p4 >>> ((3 : Int32) &&& 31)))), .second, .val (.long (own_F3 q3 (p4 >>> ((5 : Int32) &&& 31)))), .second, .val (.long (own_F4 (own_F1 q1 p4) (own_F2 q2 (p4 >>> ((3 : Int32) &&& 31))) (own_F3 q3 (p4 >>> ((5 : Int32) &&& 31))))), .second, .val (.int (1 : Int32))] []))
          refine own_st (fun t k => XS.lload X4.here hx rfl (hb hby at_132) rfl k) ?_
          show own_Fin _ _ _ _ _ _ _ (T4.setTop (mkF m 134 #[.val (.long q1), .second, .val (.long q2), .second, .val (.long q3), .second, .val (.int p4), .val (.long (own_F1 q1 p4)), .second, .val (.long (own_F2 q2 (p4 >>> ((3 : Int32) &&& 31)))), .second, .val (.long (own_F3 q3 (p4 >>> ((5 : Int32) &&& 31)))), .second, .val (.long (own_F4 (own_F1 q1 p4) (own_F2 q2 (p4 >>> ((3 : Int32) &&& 31))) (own_F3 q3 (p4 >>> ((5 : Int32) &&& 31))))), .second, .val (.int (1 : Int32))] [(.long (own_F4 (own_F1 q1 p4) (own_F2 q2 (p4 >>> ((3 : Int32) &&& 31))) (own_F3 q3 (p4 >>> ((5 : Int32) &&& 31)))))]))
          refine own_st (fun t k => XS.lload X4.here hx rfl (hb hby at_134) rfl k) ?_
          show own_Fin _ _ _ _ _ _ _ (T4.setTop (mkF m 136 #[.val (.long q1), .second, .val (.long q2), .second, .val (.long q3), .second, .val (.int p4), .val (.long (own_F1 q1 p4)), .second, .val (.long (own_F2 q2 (p4 >>> ((3 : Int32) &&& 31)))), .second, .val (.long (own_F3 q3 (p4 >>> ((5 : Int32) &&& 31)))), .second, .val (.long (own_F4 (own_F1 q1 p4) (own_F2 q2 (p4 >>> ((3 : Int32) &&& 31))) (own_F3 q3 (p4 >>> ((5 : Int32) &&& 31))))), .second, .val (.int (1 : Int32))] [(.long (own_F1 q1 p4)), (.long (own_F4 (own_F1 q1 p4) (own_F2 q2 (p4 >>> ((3 : Int32) &&& 31))) (own_F3 q3 (p4 >>> ((5 : Int32) &&& 31)))))]))
          refine own_st (fun t k => XS.ladd X4.here hx rfl (hb hby at_136) rfl k) ?_
          show own_Fin _ _ _ _ _ _ _ (T4.setTop (mkF m 137 #[.val (.long q1), .second, .val (.long q2), .second, .val (.long q3), .second, .val (.int p4), .val (.long (own_F1 q1 p4)), .second, .val (.long (own_F2 q2 (p4 >>> ((3 : Int32) &&& 31)))), .second, .val (.long (own_F3 q3 (p4 >>> ((5 : Int32) &&& 31)))), .second, .val (.long (own_F4 (own_F1 q1 p4) (own_F2 q2 (p4 >>> ((3 : Int32) &&& 31))) (own_F3 q3 (p4 >>> ((5 : Int32) &&& 31))))), .second, .val (.int (1 : Int32))] [(.long ((own_F4 (own_F1 q1 p4) (own_F2 q2 (p4 >>> ((3 : Int32) &&& 31))) (own_F3 q3 (p4 >>> ((5 : Int32) &&& 31)))) + (own_F1 q1 p4)))]))
          refine own_st (fun t k => XS.lconst X4.here hx rfl (hb hby at_137) k) ?_
          show own_Fin _ _ _ _ _ _ _ (T4.setTop (mkF m 138 #[.val (.long q1), .second, .val (.long q2), .second, .val (.long q3), .second, .val (.int p4), .val (.long (own_F1 q1 p4)), .second, .val (.long (own_F2 q2 (p4 >>> ((3 : Int32) &&& 31)))), .second, .val (.long (own_F3 q3 (p4 >>> ((5 : Int32) &&& 31)))), .second, .val (.long (own_F4 (own_F1 q1 p4) (own_F2 q2 (p4 >>> ((3 : Int32) &&& 31))) (own_F3 q3 (p4 >>> ((5 : Int32) &&& 31))))), .second, .val (.int (1 : Int32))] [(.long (0 : Int64)), (.long ((own_F4 (own_F1 q1 p4) (own_F2 q2 (p4 >>> ((3 : Int32) &&& 31))) (own_F3 q3 (p4 >>> ((5 : Int32) &&& 31)))) + (own_F1 q1 p4)))]))
          refine own_st (fun t k => XS.lcmp X4.here hx rfl (hb hby at_138) rfl k) ?_
          show own_Fin _ _ _ _ _ _ _ (T4.setTop (mkF m 139 #[.val (.long q1), .second, .val (.long q2), .second, .val (.long q3), .second, .val (.int p4), .val (.long (own_F1 q1 p4)), .second, .val (.long (own_F2 q2 (p4 >>> ((3 : Int32) &&& 31)))), .second, .val (.long (own_F3 q3 (p4 >>> ((5 : Int32) &&& 31)))), .second, .val (.long (own_F4 (own_F1 q1 p4) (own_F2 q2 (p4 >>> ((3 : Int32) &&& 31))) (own_F3 q3 (p4 >>> ((5 : Int32) &&& 31))))), .second, .val (.int (1 : Int32))] [(.int (lcmpW ((own_F4 (own_F1 q1 p4) (own_F2 q2 (p4 >>> ((3 : Int32) &&& 31))) (own_F3 q3 (p4 >>> ((5 : Int32) &&& 31)))) + (own_F1 q1 p4)) (0 : Int64)))]))
          by_cases hc139_10 : ((own_F4 (own_F1 q1 p4) (own_F2 q2 (p4 >>> ((3 : Int32) &&& 31))) (own_F3 q3 (p4 >>> ((5 : Int32) &&& 31)))) + (own_F1 q1 p4)) = (0 : Int64)
          · refine own_st (fun t k => XS.ifNo X4.here hx rfl (hb hby at_139) rfl (own_eqT hc139_10).2 k) ?_
            show own_Fin _ _ _ _ _ _ _ (T4.setTop (mkF m 142 #[.val (.long q1), .second, .val (.long q2), .second, .val (.long q3), .second, .val (.int p4), .val (.long (own_F1 q1 p4)), .second, .val (.long (own_F2 q2 (p4 >>> ((3 : Int32) &&& 31)))), .second, .val (.long (own_F3 q3 (p4 >>> ((5 : Int32) &&& 31)))), .second, .val (.long (own_F4 (own_F1 q1 p4) (own_F2 q2 (p4 >>> ((3 : Int32) &&& 31))) (own_F3 q3 (p4 >>> ((5 : Int32) &&& 31))))), .second, .val (.int (1 : Int32))] []))
            refine own_st (fun t k => XS.iconst X4.here hx rfl (hb hby at_142) k) ?_
            show own_Fin _ _ _ _ _ _ _ (T4.setTop (mkF m 143 #[.val (.long q1), .second, .val (.long q2), .second, .val (.long q3), .second, .val (.int p4), .val (.long (own_F1 q1 p4)), .second, .val (.long (own_F2 q2 (p4 >>> ((3 : Int32) &&& 31)))), .second, .val (.long (own_F3 q3 (p4 >>> ((5 : Int32) &&& 31)))), .second, .val (.long (own_F4 (own_F1 q1 p4) (own_F2 q2 (p4 >>> ((3 : Int32) &&& 31))) (own_F3 q3 (p4 >>> ((5 : Int32) &&& 31))))), .second, .val (.int (1 : Int32))] [(.int (1 : Int32))]))
            refine own_st (fun t k => XS.goto X4.here hx rfl (pc0 := 143) (pc' := 147) rfl (hb hby at_143) (by decide) (by decide) k) ?_
            show own_Fin _ _ _ _ _ _ _ (T4.setTop (mkF m 147 #[.val (.long q1), .second, .val (.long q2), .second, .val (.long q3), .second, .val (.int p4), .val (.long (own_F1 q1 p4)), .second, .val (.long (own_F2 q2 (p4 >>> ((3 : Int32) &&& 31)))), .second, .val (.long (own_F3 q3 (p4 >>> ((5 : Int32) &&& 31)))), .second, .val (.long (own_F4 (own_F1 q1 p4) (own_F2 q2 (p4 >>> ((3 : Int32) &&& 31))) (own_F3 q3 (p4 >>> ((5 : Int32) &&& 31))))), .second, .val (.int (1 : Int32))] [(.int (1 : Int32))]))
            have hv : own_F0 q1 q2 q3 p4 = (1 : Int32) := by unfold own_F0; rw [if_pos hc44_5, if_pos hc51_6, if_neg hc107_7, if_pos hc129_9, if_pos hc139_10]
            exact own_retN X4 hx Bd.notSynchronized (t := .boolean) Bd.returns (by simp) (hb hby at_147) (by decide) (by decide) ⟨congrArg (fun z => some (Value.int z)) hv.symm, N4, e4⟩
          · refine own_st (fun t k => XS.ifYes X4.here hx rfl (pc0 := 139) (pc' := 146) rfl (hb hby at_139) rfl (own_eqF hc139_10).2 (by decide) (by decide) k) ?_
            show own_Fin _ _ _ _ _ _ _ (T4.setTop (mkF m 146 #[.val (.long q1), .second, .val (.long q2), .second, .val (.long q3), .second, .val (.int p4), .val (.long (own_F1 q1 p4)), .second, .val (.long (own_F2 q2 (p4 >>> ((3 : Int32) &&& 31)))), .second, .val (.long (own_F3 q3 (p4 >>> ((5 : Int32) &&& 31)))), .second, .val (.long (own_F4 (own_F1 q1 p4) (own_F2 q2 (p4 >>> ((3 : Int32) &&& 31))) (own_F3 q3 (p4 >>> ((5 : Int32) &&& 31))))), .second, .val (.int (1 : Int32))] []))
            refine own_st (fun t k => XS.iconst X4.here hx rfl (hb hby at_146) k) ?_
            show own_Fin _ _ _ _ _ _ _ (T4.setTop (mkF m 147 #[.val (.long q1), .second, .val (.long q2), .second, .val (.long q3), .second, .val (.int p4), .val (.long (own_F1 q1 p4)), .second, .val (.long (own_F2 q2 (p4 >>> ((3 : Int32) &&& 31)))), .second, .val (.long (own_F3 q3 (p4 >>> ((5 : Int32) &&& 31)))), .second, .val (.long (own_F4 (own_F1 q1 p4) (own_F2 q2 (p4 >>> ((3 : Int32) &&& 31))) (own_F3 q3 (p4 >>> ((5 : Int32) &&& 31))))), .second, .val (.int (1 : Int32))] [(.int (0 : Int32))]))
            have hv : own_F0 q1 q2 q3 p4 = (0 : Int32) := by unfold own_F0; rw [if_pos hc44_5, if_pos hc51_6, if_neg hc107_7, if_pos hc129_9, if_neg hc139_10]
            exact own_retN X4 hx Bd.notSynchronized (t := .boolean) Bd.returns (by simp) (hb hby at_147) (by decide) (by decide) ⟨congrArg (fun z => some (Value.int z)) hv.symm, N4, e4⟩
        · refine own_st (fun t k => XS.ifYes X4.here hx rfl (pc0 := 129) (pc' := 146) rfl (hb hby at_129) rfl (own_gtF hc129_9).2 (by decide) (by decide) k) ?_
          show own_Fin _ _ _ _ _ _ _ (T4.setTop (mkF m 146 #[.val (.long q1), .second, .val (.long q2), .second, .val (.long q3), .second, .val (.int p4), .val (.long (own_F1 q1 p4)), .second, .val (.long (own_F2 q2 (p4 >>> ((3 : Int32) &&& 31)))), .second, .val (.long (own_F3 q3 (p4 >>> ((5 : Int32) &&& 31)))), .second, .val (.long (own_F4 (own_F1 q1 p4) (own_F2 q2 (p4 >>> ((3 : Int32) &&& 31))) (own_F3 q3 (p4 >>> ((5 : Int32) &&& 31))))), .second, .val (.int (1 : Int32))] []))
          refine own_st (fun t k => XS.iconst X4.here hx rfl (hb hby at_146) k) ?_
          show own_Fin _ _ _ _ _ _ _ (T4.setTop (mkF m 147 #[.val (.long q1), .second, .val (.long q2), .second, .val (.long q3), .second, .val (.int p4), .val (.long (own_F1 q1 p4)), .second, .val (.long (own_F2 q2 (p4 >>> ((3 : Int32) &&& 31)))), .second, .val (.long (own_F3 q3 (p4 >>> ((5 : Int32) &&& 31)))), .second, .val (.long (own_F4 (own_F1 q1 p4) (own_F2 q2 (p4 >>> ((3 : Int32) &&& 31))) (own_F3 q3 (p4 >>> ((5 : Int32) &&& 31))))), .second, .val (.int (1 : Int32))] [(.int (0 : Int32))]))
          have hv : own_F0 q1 q2 q3 p4 = (0 : Int32) := by unfold own_F0; rw [if_pos hc44_5, if_pos hc51_6, if_neg hc107_7, if_neg hc129_9]
          exact own_retN X4 hx Bd.notSynchronized (t := .boolean) Bd.returns (by simp) (hb hby at_147) (by decide) (by decide) ⟨congrArg (fun z => some (Value.int z)) hv.symm, N4, e4⟩
    · refine own_st (fun t k => XS.ifNo X4.here hx rfl (hb hby at_51) rfl (own_gtF hc51_6).1 k) ?_
      show own_Fin _ _ _ _ _ _ _ (T4.setTop (mkF m 54 #[.val (.long q1), .second, .val (.long q2), .second, .val (.long q3), .second, .val (.int p4), .val (.long (own_F1 q1 p4)), .second, .val (.long (own_F2 q2 (p4 >>> ((3 : Int32) &&& 31)))), .second, .val (.long (own_F3 q3 (p4 >>> ((5 : Int32) &&& 31)))), .second, .val (.long (own_F4 (own_F1 q1 p4) (own_F2 q2 (p4 >>> ((3 : Int32) &&& 31))) (own_F3 q3 (p4 >>> ((5 : Int32) &&& 31))))), .second, .unset] []))
      refine own_st (fun t k => XS.lload X4.here hx rfl (hb hby at_54) rfl k) ?_
      show own_Fin _ _ _ _ _ _ _ (T4.setTop (mkF m 56 #[.val (.long q1), .second, .val (.long q2), .second, .val (.long q3), .second, .val (.int p4), .val (.long (own_F1 q1 p4)), .second, .val (.long (own_F2 q2 (p4 >>> ((3 : Int32) &&& 31)))), .second, .val (.long (own_F3 q3 (p4 >>> ((5 : Int32) &&& 31)))), .second, .val (.long (own_F4 (own_F1 q1 p4) (own_F2 q2 (p4 >>> ((3 : Int32) &&& 31))) (own_F3 q3 (p4 >>> ((5 : Int32) &&& 31))))), .second, .unset] [(.long (own_F1 q1 p4))]))
      refine own_st (fun t k => XS.lconst X4.here hx rfl (hb hby at_56) k) ?_
      show own_Fin _ _ _ _ _ _ _ (T4.setTop (mkF m 57 #[.val (.long q1), .second, .val (.long q2), .second, .val (.long q3), .second, .val (.int p4), .val (.long (own_F1 q1 p4)), .second, .val (.long (own_F2 q2 (p4 >>> ((3 : Int32) &&& 31)))), .second, .val (.long (own_F3 q3 (p4 >>> ((5 : Int32) &&& 31)))), .second, .val (.long (own_F4 (own_F1 q1 p4) (own_F2 q2 (p4 >>> ((3 : Int32) &&& 31))) (own_F3 q3 (p4 >>> ((5 : Int32) &&& 31))))), .second, .unset] [(.long (1 : Int64)), (.long (own_F1 q1 p4))]))
      refine own_st (fun t k => XS.lcmp X4.here hx rfl (hb hby at_57) rfl k) ?_
      show own_Fin _ _ _ _ _ _ _ (T4.setTop (mkF m 58 #[.val (.long q1), .second, .val (.long q2), .second, .val (.long q3), .second, .val (.int p4), .val (.long (own_F1 q1 p4)), .second, .val (.long (own_F2 q2 (p4 >>> ((3 : Int32) &&& 31)))), .second, .val (.long (own_F3 q3 (p4 >>> ((5 : Int32) &&& 31)))), .second, .val (.long (own_F4 (own_F1 q1 p4) (own_F2 q2 (p4 >>> ((3 : Int32) &&& 31))) (own_F3 q3 (p4 >>> ((5 : Int32) &&& 31))))), .second, .unset] [(.int (lcmpW (own_F1 q1 p4) (1 : Int64)))]))
      by_cases hc58_11 : (1 : Int64) < (own_F1 q1 p4)
      · refine own_st (fun t k => XS.ifNo X4.here hx rfl (hb hby at_58) rfl (own_gtT hc58_11).2 k) ?_
        show own_Fin _ _ _ _ _ _ _ (T4.setTop (mkF m 61 #[.val (.long q1), .second, .val (.long q2), .second, .val (.long q3), .second, .val (.int p4), .val (.long (own_F1 q1 p4)), .second, .val (.long (own_F2 q2 (p4 >>> ((3 : Int32) &&& 31)))), .second, .val (.long (own_F3 q3 (p4 >>> ((5 : Int32) &&& 31)))), .second, .val (.long (own_F4 (own_F1 q1 p4) (own_F2 q2 (p4 >>> ((3 : Int32) &&& 31))) (own_F3 q3 (p4 >>> ((5 : Int32) &&& 31))))), .second, .unset] []))
        refine own_st (fun t k => XS.lload X4.here hx rfl (hb hby at_61) rfl k) ?_
        show own_Fin _ _ _ _ _ _ _ (T4.setTop (mkF m 63 #[.val (.long q1), .second, .val (.long q2), .second, .val (.long q3), .second, .val (.int p4), .val (.long (own_F1 q1 p4)), .second, .val (.long (own_F2 q2 (p4 >>> ((3 : Int32) &&& 31)))), .second, .val (.long (own_F3 q3 (p4 >>> ((5 : Int32) &&& 31)))), .second, .val (.long (own_F4 (own_F1 q1 p4) (own_F2 q2 (p4 >>> ((3 : Int32) &&& 31))) (own_F3 q3 (p4 >>> ((5 : Int32) &&& 31))))), .second, .unset] [(.long (own_F2 q2 (p4 >>> ((3 : Int32) &&& 31))))]))
        refine own_st (fun t k => XS.lconst X4.here hx rfl (hb hby at_63) k) ?_
        show own_Fin _ _ _ _ _ _ _ (T4.setTop (mkF m 64 #[.val (.long q1), .second, .val (.long q2), .second, .val (.long q3), .second, .val (.int p4), .val (.long (own_F1 q1 p4)), .second, .val (.long (own_F2 q2 (p4 >>> ((3 : Int32) &&& 31)))), .second, .val (.long (own_F3 q3 (p4 >>> ((5 : Int32) &&& 31)))), .second, .val (.long (own_F4 (own_F1 q1 p4) (own_F2 q2 (p4 >>> ((3 : Int32) &&& 31))) (own_F3 q3 (p4 >>> ((5 : Int32) &&& 31))))), .second, .unset] [(.long (0 : Int64)), (.long (own_F2 q2 (p4 >>> ((3 : Int32) &&& 31))))]))
        refine own_st (fun t k => XS.lcmp X4.here hx rfl (hb hby at_64) rfl k) ?_
        show own_Fin _ _ _ _ _ _ _ (T4.setTop (mkF m 65 #[.val (.long q1), .second, .val (.long q2), .second, .val (.long q3), .second, .val (.int p4), .val (.long (own_F1 q1 p4)), .second, .val (.long (own_F2 q2 (p4 >>> ((3 : Int32) &&& 31)))), .second, .val (.long (own_F3 q3 (p4 >>> ((5 : Int32) &&& 31)))), .second, .val (.long (own_F4 (own_F1 q1 p4) (own_F2 q2 (p4 >>> ((3 : Int32) &&& 31))) (own_F3 q3 (p4 >>> ((5 : Int32) &&& 31))))), .second, .unset] [(.int (lcmpW (own_F2 q2 (p4 >>> ((3 : Int32) &&& 31))) (0 : Int64)))]))
        by_cases hc65_12 : (own_F2 q2 (p4 >>> ((3 : Int32) &&& 31))) < (0 : Int64)
        · refine own_st (fun t k => XS.ifNo X4.here hx rfl (hb hby at_65) rfl (own_ltT hc65_12).2 k) ?_
          show own_Fin _ _ _ _ _ _ _ (T4.setTop (mkF m 68 #[.val (.long q1), .second, .val (.long q2), .second, .val (.long q3), .second, .val (.int p4), .val (.long (own_F1 q1 p4)), .second, .val (.long (own_F2 q2 (p4 >>> ((3 : Int32) &&& 31)))), .second, .val (.long (own_F3 q3 (p4 >>> ((5 : Int32) &&& 31)))), .second, .val (.long (own_F4 (own_F1 q1 p4) (own_F2 q2 (p4 >>> ((3 : Int32) &&& 31))) (own_F3 q3 (p4 >>> ((5 : Int32) &&& 31))))), .second, .unset] []))
          refine own_st (fun t k => XS.iconst X4.here hx rfl (hb hby at_68) k) ?_
          show own_Fin _ _ _ _ _ _ _ (T4.setTop (mkF m 69 #[.val (.long q1), .second, .val (.long q2), .second, .val (.long q3), .second, .val (.int p4), .val (.long (own_F1 q1 p4)), .second, .val (.long (own_F2 q2 (p4 >>> ((3 : Int32) &&& 31)))), .second, .val (.long (own_F3 q3 (p4 >>> ((5 : Int32) &&& 31)))), .second, .val (.long (own_F4 (own_F1 q1 p4) (own_F2 q2 (p4 >>> ((3 : Int32) &&& 31))) (own_F3 q3 (p4 >>> ((5 : Int32) &&& 31))))), .second, .unset] [(.int (1 : Int32))]))
          refine own_st (fun t k => XS.goto X4.here hx rfl (pc0 := 69) (pc' := 73) rfl (hb hby at_69) (by decide) (by decide) k) ?_
          show own_Fin _ _ _ _ _ _ _ (T4.setTop (mkF m 73 #[.val (.long q1), .second, .val (.long q2), .second, .val (.long q3), .second, .val (.int p4), .val (.long (own_F1 q1 p4)), .second, .val (.long (own_F2 q2 (p4 >>> ((3 : Int32) &&& 31)))), .second, .val (.long (own_F3 q3 (p4 >>> ((5 : Int32) &&& 31)))), .second, .val (.long (own_F4 (own_F1 q1 p4) (own_F2 q2 (p4 >>> ((3 : Int32) &&& 31))) (own_F3 q3 (p4 >>> ((5 : Int32) &&& 31))))), .second, .unset] [(.int (1 : Int32))]))
          refine own_st (fun t k => XS.istore X4.here hx rfl (hb hby at_73) rfl (l' := #[.val (.long q1), .second, .val (.long q2), .second, .val (.long q3), .second, .val (.int p4), .val (.long (own_F1 q1 p4)), .second, .val (.long (own_F2 q2 (p4 >>> ((3 : Int32) &&& 31)))), .second, .val (.long (own_F3 q3 (p4 >>> ((5 : Int32) &&& 31)))), .second, .val (.long (own_F4 (own_F1 q1 p4) (own_F2 q2 (p4 >>> ((3 : Int32) &&& 31))) (own_F3 q3 (p4 >>> ((5 : Int32) &&& 31))))), .second, .val (.int (1 : Int32))]) rfl k) ?_
          show own_Fin _ _ _ _ _ _ _ (T4.setTop (mkF m 75 #[.val (.long q1), .second, .val (.long q2), .second, .val (.long q3), .second, .val (.int p4), .val (.long (own_F1 q1 p4)), .second, .val (.long (own_F2 q2 (p4 >>> ((3 : Int32) &&& 31)))), .second, .val (.long (own_F3 q3 (p4 >>> ((5 : Int32) &&& 31)))), .second, .val (.long (own_F4 (own_F1 q1 p4) (own_F2 q2 (p4 >>> ((3 : Int32) &&& 31))) (own_F3 q3 (p4 >>> ((5 : Int32) &&& 31))))), .second, .val (.int (1 : Int32))] []))
          refine own_st (fun t k => XS.iload X4.here hx rfl (hb hby at_75) rfl k) ?_
          show own_Fin _ _ _ _ _ _ _ (T4.setTop (mkF m 77 #[.val (.long q1), .second, .val (.long q2), .second, .val (.long q3), .second, .val (.int p4), .val (.long (own_F1 q1 p4)), .second, .val (.long (own_F2 q2 (p4 >>> ((3 : Int32) &&& 31)))), .second, .val (.long (own_F3 q3 (p4 >>> ((5 : Int32) &&& 31)))), .second, .val (.long (own_F4 (own_F1 q1 p4) (own_F2 q2 (p4 >>> ((3 : Int32) &&& 31))) (own_F3 q3 (p4 >>> ((5 : Int32) &&& 31))))), .second, .val (.int (1 : Int32))] [(.int (1 : Int32))]))
          refine own_st (fun t k => XS.ifYes X4.here hx rfl (pc0 := 77) (pc' := 94) rfl (hb hby at_77) rfl ((if0 _ _).trans (feq (by decide : ¬ ((1 : Int32) = (0 : Int32)))).2) (by decide) (by decide) k) ?_
          show own_Fin _ _ _ _ _ _ _ (T4.setTop (mkF m 94 #[.val (.long q1), .second, .val (.long q2), .second, .val (.long q3), .second, .val (.int p4), .val (.long (own_F1 q1 p4)), .second, .val (.long (own_F2 q2 (p4 >>> ((3 : Int32) &&& 31)))), .second, .val (.long (own_F3 q3 (p4 >>> ((5 : Int32) &&& 31)))), .second, .val (.long (own_F4 (own_F1 q1 p4) (own_F2 q2 (p4 >>> ((3 : Int32) &&& 31))) (own_F3 q3 (p4 >>> ((5 : Int32) &&& 31))))), .second, .val (.int (1 : Int32))] []))
          refine own_st (fun t k => XS.lload X4.here hx rfl (hb hby at_94) rfl k) ?_
          show own_Fin _ _ _ _ _ _ _ (T4.setTop (mkF m 96 #[.val (.long q1), .second, .val (.long q2), .second, .val (.long q3), .second, .val (.int p4), .val (.long (own_F1 q1 p4)), .second, .val (.long (own_F2 q2 (p4 >>> ((3 : Int32) &&& 31)))), .second, .val (.long (own_F3 q3 (p4 >>> ((5 : Int32) &&& 31)))), .second, .val (.long (own_F4 (own_F1 q1 p4) (own_F2 q2 (p4 >>> ((3 : Int32) &&& 31))) (own_F3 q3 (p4 >>> ((5 : Int32) &&& 31))))), .second, .val (.int (1 : Int32))] [(.long (own_F1 q1 p4))]))
          refine own_st (fun t k => XS.lconst X4.here hx rfl (hb hby at_96) k) ?_
          show own_Fin _ _ _ _ _ _ _ (T4.setTop (mkF m 97 #[.val (.long q1), .second, .val (.long q2), .second, .val (.long q3), .second, .val (.int p4), .val (.long (own_F1 q1 p4)), .second, .val (.long (own_F2 q2 (p4 >>> ((3 : Int32) &&& 31)))), .second, .val (.long (own_F3 q3 (p4 >>> ((5 : Int32) &&& 31)))), .second, .val (.long (own_F4 (own_F1 q1 p4) (own_F2 q2 (p4 >>> ((3 : Int32) &&& 31))) (own_F3 q3 (p4 >>> ((5 : Int32) &&& 31))))), .second, .val (.int (1 : Int32))] [(.long (0 : Int64)), (.long (own_F1 q1 p4))]))
          refine own_st (fun t k => XS.lcmp X4.here hx rfl (hb hby at_97) rfl k) ?_
          show own_Fin _ _ _ _ _ _ _ (T4.setTop (mkF m 98 #[.val (.long q1), .second, .val (.long q2), .second, .val (.long q3), .second, .val (.int p4), .val (.long (own_F1 q1 p4)), .second, .val (.long (own_F2 q2 (p4 >>> ((3 : Int32) &&& 31)))), .second, .val (.long (own_F3 q3 (p4 >>> ((5 : Int32) &&& 31)))), .second, .val (.long (own_F4 (own_F1 q1 p4) (own_F2 q2 (p4 >>> ((3 : Int32) &&& 31))) (own_F3 q3 (p4 >>> ((5 : Int32) &&& 31))))), .second, .val (.int (1 : Int32))] [(.int (lcmpW (own_F1 q1 p4) (0 : Int64)))]))
          refine own_st (fun t k => XS.ifNo X4.here hx rfl (hb hby at_98) rfl (own_ltT hc44_5).2 k) ?_
          show own_Fin _ _ _ _ _ _ _ (T4.setTop (mkF m 101 #[.val (.long q1), .second, .val (.long q2), .second, .val (.long q3), .second, .val (.int p4), .val (.long (own_F1 q1 p4)), .second, .val (.long (own_F2 q2 (p4 >>> ((3 : Int32) &&& 31)))), .second, .val (.long (own_F3 q3 (p4 >>> ((5 : Int32) &&& 31)))), .second, .val (.long (own_F4 (own_F1 q1 p4) (own_F2 q2 (p4 >>> ((3 : Int32) &&& 31))) (own_F3 q3 (p4 >>> ((5 : Int32) &&& 31))))), .second, .val (.int (1 : Int32))] []))
          refine own_st (fun t k => XS.lload X4.here hx rfl (hb hby at_101) rfl k) ?_
          show own_Fin _ _ _ _ _ _ _ (T4.setTop (mkF m 103 #[.val (.long q1), .second, .val (.long q2), .second, .val (.long q3), .second, .val (.int p4), .val (.long (own_F1 q1 p4)), .second, .val (.long (own_F2 q2 (p4 >>> ((3 : Int32) &&& 31)))), .second, .val (.long (own_F3 q3 (p4 >>> ((5 : Int32) &&& 31)))), .second, .val (.long (own_F4 (own_F1 q1 p4) (own_F2 q2 (p4 >>> ((3 : Int32) &&& 31))) (own_F3 q3 (p4 >>> ((5 : Int32) &&& 31))))), .second, .val (.int (1 : Int32))] [(.long (own_F1 q1 p4))]))
          refine own_st (X4.ldc2Long hx hown (mvT hZ (hw _ (List.mem_of_getElem? (i := 14) rfl))) (g := (mkF m 103 #[.val (.long q1), .second, .val (.long q2), .second, .val (.long q3), .second, .val (.int p4), .val (.long (own_F1 q1 p4)), .second, .val (.long (own_F2 q2 (p4 >>> ((3 : Int32) &&& 31)))), .second, .val (.long (own_F3 q3 (p4 >>> ((5 : Int32) &&& 31)))), .second, .val (.long (own_F4 (own_F1 q1 p4) (own_F2 q2 (p4 >>> ((3 : Int32) &&& 31))) (own_F3 q3 (p4 >>> ((5 : Int32) &&& 31))))), .second, .val (.int (1 : Int32))] [(.long (own_F1 q1 p4))])) rfl (hb hby at_103)) ?_
          show own_Fin _ _ _ _ _ _ _ (T4.setTop (mkF m 106 #[.val (.long q1), .second, .val (.long q2), .second, .val (.long q3), .second, .val (.int p4), .val (.long (own_F1 q1 p4)), .second, .val (.long (own_F2 q2 (p4 >>> ((3 : Int32) &&& 31)))), .second, .val (.long (own_F3 q3 (p4 >>> ((5 : Int32) &&& 31)))), .second, .val (.long (own_F4 (own_F1 q1 p4) (own_F2 q2 (p4 >>> ((3 : Int32) &&& 31))) (own_F3 q3 (p4 >>> ((5 : Int32) &&& 31))))), .second, .val (.int (1 : Int32))] [(.long (-9223372036854775808 : Int64)), (.long (own_F1 q1 p4))]))
          refine own_st (fun t k => XS.lcmp X4.here hx rfl (hb hby at_106) rfl k) ?_
          show own_Fin _ _ _ _ _ _ _ (T4.setTop (mkF m 107 #[.val (.long q1), .second, .val (.long q2), .second, .val (.long q3), .second, .val (.int p4), .val (.long (own_F1 q1 p4)), .second, .val (.long (own_F2 q2 (p4 >>> ((3 : Int32) &&& 31)))), .second, .val (.long (own_F3 q3 (p4 >>> ((5 : Int32) &&& 31)))), .second, .val (.long (own_F4 (own_F1 q1 p4) (own_F2 q2 (p4 >>> ((3 : Int32) &&& 31))) (own_F3 q3 (p4 >>> ((5 : Int32) &&& 31))))), .second, .val (.int (1 : Int32))] [(.int (lcmpW (own_F1 q1 p4) (-9223372036854775808 : Int64)))]))
          by_cases hc107_13 : (own_F1 q1 p4) = (-9223372036854775808 : Int64)
          · refine own_st (fun t k => XS.ifNo X4.here hx rfl (hb hby at_107) rfl (own_eqT hc107_13).2 k) ?_
            show own_Fin _ _ _ _ _ _ _ (T4.setTop (mkF m 110 #[.val (.long q1), .second, .val (.long q2), .second, .val (.long q3), .second, .val (.int p4), .val (.long (own_F1 q1 p4)), .second, .val (.long (own_F2 q2 (p4 >>> ((3 : Int32) &&& 31)))), .second, .val (.long (own_F3 q3 (p4 >>> ((5 : Int32) &&& 31)))), .second, .val (.long (own_F4 (own_F1 q1 p4) (own_F2 q2 (p4 >>> ((3 : Int32) &&& 31))) (own_F3 q3 (p4 >>> ((5 : Int32) &&& 31))))), .second, .val (.int (1 : Int32))] []))
            refine own_st (fun t k => XS.lload X4.here hx rfl (hb hby at_110) rfl k) ?_
            show own_Fin _ _ _ _ _ _ _ (T4.setTop (mkF m 112 #[.val (.long q1), .second, .val (.long q2), .second, .val (.long q3), .second, .val (.int p4), .val (.long (own_F1 q1 p4)), .second, .val (.long (own_F2 q2 (p4 >>> ((3 : Int32) &&& 31)))), .second, .val (.long (own_F3 q3 (p4 >>> ((5 : Int32) &&& 31)))), .second, .val (.long (own_F4 (own_F1 q1 p4) (own_F2 q2 (p4 >>> ((3 : Int32) &&& 31))) (own_F3 q3 (p4 >>> ((5 : Int32) &&& 31))))), .second, .val (.int (1 : Int32))] [(.long (own_F4 (own_F1 q1 p4) (own_F2 q2 (p4 >>> ((3 : Int32) &&& 31))) (own_F3 q3 (p4 >>> ((5 : Int32) &&& 31)))))]))
            refine own_st (X4.ldc2Long hx hown (mvT hZ (hw _ (List.mem_of_getElem? (i := 16) rfl))) (g := (mkF m 112 #[.val (.long q1), .second, .val (.long q2), .second, .val (.long q3), .second, .val (.int p4), .val (.long (own_F1 q1 p4)), .second, .val (.long (own_F2 q2 (p4 >>> ((3 : Int32) &&& 31)))), .second, .val (.long (own_F3 q3 (p4 >>> ((5 : Int32) &&& 31)))), .second, .val (.long (own_F4 (own_F1 q1 p4) (own_F2 q2 (p4 >>> ((3 : Int32) &&& 31))) (own_F3 q3 (p4 >>> ((5 : Int32) &&& 31))))), .second, .val (.int (1 : Int32))] [(.long (own_F4 (own_F1 q1 p4) (own_F2 q2 (p4 >>> ((3 : Int32) &&& 31))) (own_F3 q3 (p4 >>> ((5 : Int32) &&& 31)))))])) rfl (hb hby at_112)) ?_
            show own_Fin _ _ _ _ _ _ _ (T4.setTop (mkF m 115 #[.val (.long q1), .second, .val (.long q2), .second, .val (.long q3), .second, .val (.int p4), .val (.long (own_F1 q1 p4)), .second, .val (.long (own_F2 q2 (p4 >>> ((3 : Int32) &&& 31)))), .second, .val (.long (own_F3 q3 (p4 >>> ((5 : Int32) &&& 31)))), .second, .val (.long (own_F4 (own_F1 q1 p4) (own_F2 q2 (p4 >>> ((3 : Int32) &&& 31))) (own_F3 q3 (p4 >>> ((5 : Int32) &&& 31))))), .second, .val (.int (1 : Int32))] [(.long (9223372036854775807 : Int64)), (.long (own_F4 (own_F1 q1 p4) (own_F2 q2 (p4 >>> ((3 : Int32) &&& 31))) (own_F3 q3 (p4 >>> ((5 : Int32) &&& 31)))))]))
            refine own_st (fun t k => XS.lcmp X4.here hx rfl (hb hby at_115) rfl k) ?_
            show own_Fin _ _ _ _ _ _ _ (T4.setTop (mkF m 116 #[.val (.long q1), .second, .val (.long q2), .second, .val (.long q3), .second, .val (.int p4), .val (.long (own_F1 q1 p4)), .second, .val (.long (own_F2 q2 (p4 >>> ((3 : Int32) &&& 31)))), .second, .val (.long (own_F3 q3 (p4 >>> ((5 : Int32) &&& 31)))), .second, .val (.long (own_F4 (own_F1 q1 p4) (own_F2 q2 (p4 >>> ((3 : Int32) &&& 31))) (own_F3 q3 (p4 >>> ((5 : Int32) &&& 31))))), .second, .val (.int (1 : Int32))] [(.int (lcmpW (own_F4 (own_F1 q1 p4) (own_F2 q2 (p4 >>> ((3 : Int32) &&& 31))) (own_F3 q3 (p4 >>> ((5 : Int32) &&& 31)))) (9223372036854775807 : Int64)))]))
            by_cases hc116_14 : (own_F4 (own_F1 q1 p4) (own_F2 q2 (p4 >>> ((3 : Int32) &&& 31))) (own_F3 q3 (p4 >>> ((5 : Int32) &&& 31)))) = (9223372036854775807 : Int64)
            · refine own_st (fun t k => XS.ifNo X4.here hx rfl (hb hby at_116) rfl (own_eqT hc116_14).2 k) ?_
              show own_Fin _ _ _ _ _ _ _ (T4.setTop (mkF m 119 #[.val (.long q1), .second, .val (.long q2), .second, .val (.long q3), .second, .val (.int p4), .val (.long (own_F1 q1 p4)), .second, .val (.long (own_F2 q2 (p4 >>> ((3 : Int32) &&& 31)))), .second, .val (.long (own_F3 q3 (p4 >>> ((5 : Int32) &&& 31)))), .second, .val (.long (own_F4 (own_F1 q1 p4) (own_F2 q2 (p4 >>> ((3 : Int32) &&& 31))) (own_F3 q3 (p4 >>> ((5 : Int32) &&& 31))))), .second, .val (.int (1 : Int32))] []))
              refine own_st (fun t k => XS.iconst X4.here hx rfl (hb hby at_119) k) ?_
              show own_Fin _ _ _ _ _ _ _ (T4.setTop (mkF m 120 #[.val (.long q1), .second, .val (.long q2), .second, .val (.long q3), .second, .val (.int p4), .val (.long (own_F1 q1 p4)), .second, .val (.long (own_F2 q2 (p4 >>> ((3 : Int32) &&& 31)))), .second, .val (.long (own_F3 q3 (p4 >>> ((5 : Int32) &&& 31)))), .second, .val (.long (own_F4 (own_F1 q1 p4) (own_F2 q2 (p4 >>> ((3 : Int32) &&& 31))) (own_F3 q3 (p4 >>> ((5 : Int32) &&& 31))))), .second, .val (.int (1 : Int32))] [(.int (1 : Int32))]))
              refine own_st (fun t k => XS.goto X4.here hx rfl (pc0 := 120) (pc' := 124) rfl (hb hby at_120) (by decide) (by decide) k) ?_
              show own_Fin _ _ _ _ _ _ _ (T4.setTop (mkF m 124 #[.val (.long q1), .second, .val (.long q2), .second, .val (.long q3), .second, .val (.int p4), .val (.long (own_F1 q1 p4)), .second, .val (.long (own_F2 q2 (p4 >>> ((3 : Int32) &&& 31)))), .second, .val (.long (own_F3 q3 (p4 >>> ((5 : Int32) &&& 31)))), .second, .val (.long (own_F4 (own_F1 q1 p4) (own_F2 q2 (p4 >>> ((3 : Int32) &&& 31))) (own_F3 q3 (p4 >>> ((5 : Int32) &&& 31))))), .second, .val (.int (1 : Int32))] [(.int (1 : Int32))]))
              have hv : own_F0 q1 q2 q3 p4 = (1 : Int32) := by unfold own_F0; rw [if_pos hc44_5, if_neg hc51_6, if_pos hc58_11, if_pos hc65_12, if_pos hc107_13, if_pos hc116_14]
              exact own_retN X4 hx Bd.notSynchronized (t := .boolean) Bd.returns (by simp) (hb hby at_124) (by decide) (by decide) ⟨congrArg (fun z => some (Value.int z)) hv.symm, N4, e4⟩
            · refine own_st (fun t k => XS.ifYes X4.here hx rfl (pc0 := 116) (pc' := 123) rfl (hb hby at_116) rfl (own_eqF hc116_14).2 (by decide) (by decide) k) ?_
              show own_Fin _ _ _ _ _ _ _ (T4.setTop (mkF m 123 #[.val (.long q1), .second, .val (.long q2), .second, .val (.long q3), .second, .val (.int p4), .val (.long (own_F1 q1 p4)), .second, .val (.long (own_F2 q2 (p4 >>> ((3 : Int32) &&& 31)))), .second, .val (.long (own_F3 q3 (p4 >>> ((5 : Int32) &&& 31)))), .second, .val (.long (own_F4 (own_F1 q1 p4) (own_F2 q2 (p4 >>> ((3 : Int32) &&& 31))) (own_F3 q3 (p4 >>> ((5 : Int32) &&& 31))))), .second, .val (.int (1 : Int32))] []))
              refine own_st (fun t k => XS.iconst X4.here hx rfl (hb hby at_123) k) ?_
              show own_Fin _ _ _ _ _ _ _ (T4.setTop (mkF m 124 #[.val (.long q1), .second, .val (.long q2), .second, .val (.long q3), .second, .val (.int p4), .val (.long (own_F1 q1 p4)), .second, .val (.long (own_F2 q2 (p4 >>> ((3 : Int32) &&& 31)))), .second, .val (.long (own_F3 q3 (p4 >>> ((5 : Int32) &&& 31)))), .second, .val (.long (own_F4 (own_F1 q1 p4) (own_F2 q2 (p4 >>> ((3 : Int32) &&& 31))) (own_F3 q3 (p4 >>> ((5 : Int32) &&& 31))))), .second, .val (.int (1 : Int32))] [(.int (0 : Int32))]))
              have hv : own_F0 q1 q2 q3 p4 = (0 : Int32) := by unfold own_F0; rw [if_pos hc44_5, if_neg hc51_6, if_pos hc58_11, if_pos hc65_12, if_pos hc107_13, if_neg hc116_14]
              exact own_retN X4 hx Bd.notSynchronized (t := .boolean) Bd.returns (by simp) (hb hby at_124) (by decide) (by decide) ⟨congrArg (fun z => some (Value.int z)) hv.symm, N4, e4⟩
          · refine own_st (fun t k => XS.ifYes X4.here hx rfl (pc0 := 107) (pc' := 125) rfl (hb hby at_107) rfl (own_eqF hc107_13).2 (by decide) (by decide) k) ?_
            show own_Fin _ _ _ _ _ _ _ (T4.setTop (mkF m 125 #[.val (.long q1), .second, .val (.long q2), .second, .val (.long q3), .second, .val (.int p4), .val (.long (own_F1 q1 p4)), .second, .val (.long (own_F2 q2 (p4 >>> ((3 : Int32) &&& 31)))), .second, .val (.long (own_F3 q3 (p4 >>> ((5 : Int32) &&& 31)))), .second, .val (.long (own_F4 (own_F1 q1 p4) (own_F2 q2 (p4 >>> ((3 : Int32) &&& 31))) (own_F3 q3 (p4 >>> ((5 : Int32) &&& 31))))), .second, .val (.int (1 : Int32))] []))
            refine own_st (fun t k => XS.lload X4.here hx rfl (hb hby at_125) rfl k) ?_
            show own_Fin _ _ _ _ _ _ _ (T4.setTop (mkF m 127 #[.val (.long q1), .second, .val (.long q2), .second, .val (.long q3), .second, .val (.int p4), .val (.long (own_F1 q1 p4)), .second, .val (.long (own_F2 q2 (p4 >>> ((3 : Int32) &&& 31)))), .second, .val (.long (own_F3 q3 (p4 >>> ((5 : Int32) &&& 31)))), .second, .val (.long (own_F4 (own_F1 q1 p4) (own_F2 q2 (p4 >>> ((3 : Int32) &&& 31))) (own_F3 q3 (p4 >>> ((5 : Int32) &&& 31))))), .second, .val (.int (1 : Int32))] [(.long (own_F4 (own_F1 q1 p4) (own_F2 q2 (p4 >>> ((3 : Int32) &&& 31))) (own_F3 q3 (p4 >>> ((5 : Int32) &&& 31)))))]))
            refine own_st (fun t k => XS.lconst X4.here hx rfl (hb hby at_127) k) ?_
            show own_Fin _ _ _ _ _ _ _ (T4.setTop (mkF m 128 #[.val (.long q1), .second, .val (.long q2), .second, .val (.long q3), .second, .val (.int p4), .val (.long (own_F1 q1 p4)), .second, .val (.long (own_F2 q2 (p4 >>> ((3 : Int32) &&& 31)))), .second, .val (.long (own_F3 q3 (p4 >>> ((5 : Int32) &&& 31)))), .second, .val (.long (own_F4 (own_F1 q1 p4) (own_F2 q2 (p4 >>> ((3 : Int32) &&& 31))) (own_F3 q3 (p4 >>> ((5 : Int32) &&& 31))))), .second, .val (.int (1 : Int32))] [(.long (0 : Int64)), (.long (own_F4 (own_F1 q1 p4) (own_F2 q2 (p4 >>> ((3 : Int32) &&& 31))) (own_F3 q3 (p4 >>> ((5 : Int32) &&& 31)))))]))
            refine own_st (fun t k => XS.lcmp X4.here hx rfl (hb hby at_128) rfl k) ?_
            show own_Fin _ _ _ _ _ _ _ (T4.setTop (mkF m 129 #[.val (.long q1), .second, .val (.long q2), .second, .val (.long q3), .second, .val (.int p4), .val (.long (own_F1 q1 p4)), .second, .val (.long (own_F2 q2 (p4 >>> ((3 : Int32) &&& 31)))), .second, .val (.long (own_F3 q3 (p4 >>> ((5 : Int32) &&& 31)))), .second, .val (.long (own_F4 (own_F1 q1 p4) (own_F2 q2 (p4 >>> ((3 : Int32) &&& 31))) (own_F3 q3 (p4 >>> ((5 : Int32) &&& 31))))), .second, .val (.int (1 : Int32))] [(.int (lcmpW (own_F4 (own_F1 q1 p4) (own_F2 q2 (p4 >>> ((3 : Int32) &&& 31))) (own_F3 q3 (p4 >>> ((5 : Int32) &&& 31)))) (0 : Int64)))]))
            by_cases hc129_15 : (0 : Int64) < (own_F4 (own_F1 q1 p4) (own_F2 q2 (p4 >>> ((3 : Int32) &&& 31))) (own_F3 q3 (p4 >>> ((5 : Int32) &&& 31))))
            · refine own_st (fun t k => XS.ifNo X4.here hx rfl (hb hby at_129) rfl (own_gtT hc129_15).2 k) ?_
              show own_Fin _ _ _ _ _ _ _ (T4.setTop (mkF m 132 #[.val (.long q1), .second, .val (.long q2), .second, .val (.long q3), .second, .val (.int p4), .val (.long (own_F1 q1 p4)), .second, .val (.long (own_F2 q2 (p4 >>> ((3 : Int32) &&& 31)))), .second, .val (.long (own_F3 q3 (p4 >>> ((5 : Int32) &&& 31)))), .second, .val (.long (own_F4 (own_F1 q1 p4) (own_F2 q2 (p4 >>> ((3 : Int32) &&& 31))) (own_F3 q3 (p4 >>> ((5 : Int32) &&& 31))))), .second, .val (.int (1 : Int32))] []))
              refine own_st (fun t k => XS.lload X4.here hx rfl (hb hby at_132) rfl k) ?_
              show own_Fin _ _ _ _ _ _ _ (T4.setTop (mkF m 134 #[.val (.long q1), .second, .val (.long q2), .second, .val (.long q3), .second, .val (.int p4), .val (.long (own_F1 q1 p4)), .second, .val (.long (own_F2 q2 (p4 >>> ((3 : Int32) &&& 31)))), .second, .val (.long (own_F3 q3 (p4 >>> ((5 : Int32) &&& 31)))), .second, .val (.long (own_F4 (own_F1 q1 p4) (own_F2 q2 (p4 >>> ((3 : Int32) &&& 31))) (own_F3 q3 (p4 >>> ((5 : Int32) &&& 31))))), .second, .val (.int (1 : Int32))] [(.long (own_F4 (own_F1 q1 p4) (own_F2 q2 (p4 >>> ((3 : Int32) &&& 31))) (own_F3 q3 (p4 >>> ((5 : Int32) &&& 31)))))]))
              refine own_st (fun t k => XS.lload X4.here hx rfl (hb hby at_134) rfl k) ?_
              show own_Fin _ _ _ _ _ _ _ (T4.setTop (mkF m 136 #[.val (.long q1), .second, .val (.long q2), .second, .val (.long q3), .second, .val (.int p4), .val (.long (own_F1 q1 p4)), .second, .val (.long (own_F2 q2 (p4 >>> ((3 : Int32) &&& 31)))), .second, .val (.long (own_F3 q3 (p4 >>> ((5 : Int32) &&& 31)))), .second, .val (.long (own_F4 (own_F1 q1 p4) (own_F2 q2 (p4 >>> ((3 : Int32) &&& 31))) (own_F3 q3 (p4 >>> ((5 : Int32) &&& 31))))), .second, .val (.int (1 : Int32))] [(.long (own_F1 q1 p4)), (.long (own_F4 (own_F1 q1 p4) (own_F2 q2 (p4 >>> ((3 : Int32) &&& 31))) (own_F3 q3 (p4 >>> ((5 : Int32) &&& 31)))))]))
              refine own_st (fun t k => XS.ladd X4.here hx rfl (hb hby at_136) rfl k) ?_
              show own_Fin _ _ _ _ _ _ _ (T4.setTop (mkF m 137 #[.val (.long q1), .second, .val (.long q2), .second, .val (.long q3), .second, .val (.int p4), .val (.long (own_F1 q1 p4)), .second, .val (.long (own_F2 q2 (p4 >>> ((3 : Int32) &&& 31)))), .second, .val (.long (own_F3 q3 (p4 >>> ((5 : Int32) &&& 31)))), .second, .val (.long (own_F4 (own_F1 q1 p4) (own_F2 q2 (p4 >>> ((3 : Int32) &&& 31))) (own_F3 q3 (p4 >>> ((5 : Int32) &&& 31))))), .second, .val (.int (1 : Int32))] [(.long ((own_F4 (own_F1 q1 p4) (own_F2 q2 (p4 >>> ((3 : Int32) &&& 31))) (own_F3 q3 (p4 >>> ((5 : Int32) &&& 31)))) + (own_F1 q1 p4)))]))
              refine own_st (fun t k => XS.lconst X4.here hx rfl (hb hby at_137) k) ?_
              show own_Fin _ _ _ _ _ _ _ (T4.setTop (mkF m 138 #[.val (.long q1), .second, .val (.long q2), .second, .val (.long q3), .second, .val (.int p4), .val (.long (own_F1 q1 p4)), .second, .val (.long (own_F2 q2 (p4 >>> ((3 : Int32) &&& 31)))), .second, .val (.long (own_F3 q3 (p4 >>> ((5 : Int32) &&& 31)))), .second, .val (.long (own_F4 (own_F1 q1 p4) (own_F2 q2 (p4 >>> ((3 : Int32) &&& 31))) (own_F3 q3 (p4 >>> ((5 : Int32) &&& 31))))), .second, .val (.int (1 : Int32))] [(.long (0 : Int64)), (.long ((own_F4 (own_F1 q1 p4) (own_F2 q2 (p4 >>> ((3 : Int32) &&& 31))) (own_F3 q3 (p4 >>> ((5 : Int32) &&& 31)))) + (own_F1 q1 p4)))]))
              refine own_st (fun t k => XS.lcmp X4.here hx rfl (hb hby at_138) rfl k) ?_
              show own_Fin _ _ _ _ _ _ _ (T4.setTop (mkF m 139 #[.val (.long q1), .second, .val (.long q2), .second, .val (.long q3), .second, .val (.int p4), .val (.long (own_F1 q1 p4)), .second, .val (.long (own_F2 q2 (p4 >>> ((3 : Int32) &&& 31)))), .second, .val (.long (own_F3 q3 (p4 >>> ((5 : Int32) &&& 31)))), .second, .val (.long (own_F4 (own_F1 q1 p4) (own_F2 q2 (p4 >>> ((3 : Int32) &&& 31))) (own_F3 q3 (p4 >>> ((5 : Int32) &&& 31))))), .second, .val (.int (1 : Int32))] [(.int (lcmpW ((own_F4 (own_F1 q1 p4) (own_F2 q2 (p4 >>> ((3 : Int32) &&& 31))) (own_F3 q3 (p4 >>> ((5 : Int32) &&& 31)))) + (own_F1 q1 p4)) (0 : Int64)))]))
              by_cases hc139_16 : ((own_F4 (own_F1 q1 p4) (own_F2 q2 (p4 >>> ((3 : Int32) &&& 31))) (own_F3 q3 (p4 >>> ((5 : Int32) &&& 31)))) + (own_F1 q1 p4)) = (0 : Int64)
              · refine own_st (fun t k => XS.ifNo X4.here hx rfl (hb hby at_139) rfl (own_eqT hc139_16).2 k) ?_
                show own_Fin _ _ _ _ _ _ _ (T4.setTop (mkF m 142 #[.val (.long q1), .second, .val (.long q2), .second, .val (.long q3), .second, .val (.int p4), .val (.long (own_F1 q1 p4)), .second, .val (.long (own_F2 q2 (p4 >>> ((3 : Int32) &&& 31)))), .second, .val (.long (own_F3 q3 (p4 >>> ((5 : Int32) &&& 31)))), .second, .val (.long (own_F4 (own_F1 q1 p4) (own_F2 q2 (p4 >>> ((3 : Int32) &&& 31))) (own_F3 q3 (p4 >>> ((5 : Int32) &&& 31))))), .second, .val (.int (1 : Int32))] []))
                refine own_st (fun t k => XS.iconst X4.here hx rfl (hb hby at_142) k) ?_
                show own_Fin _ _ _ _ _ _ _ (T4.setTop (mkF m 143 #[.val (.long q1), .second, .val (.long q2), .second, .val (.long q3), .second, .val (.int p4), .val (.long (own_F1 q1 p4)), .second, .val (.long (own_F2 q2 (p4 >>> ((3 : Int32) &&& 31)))), .second, .val (.long (own_F3 q3 (p4 >>> ((5 : Int32) &&& 31)))), .second, .val (.long (own_F4 (own_F1 q1 p4) (own_F2 q2 (p4 >>> ((3 : Int32) &&& 31))) (own_F3 q3 (p4 >>> ((5 : Int32) &&& 31))))), .second, .val (.int (1 : Int32))] [(.int (1 : Int32))]))
                refine own_st (fun t k => XS.goto X4.here hx rfl (pc0 := 143) (pc' := 147) rfl (hb hby at_143) (by decide) (by decide) k) ?_
                show own_Fin _ _ _ _ _ _ _ (T4.setTop (mkF m 147 #[.val (.long q1), .second, .val (.long q2), .second, .val (.long q3), .second, .val (.int p4), .val (.long (own_F1 q1 p4)), .second, .val (.long (own_F2 q2 (p4 >>> ((3 : Int32) &&& 31)))), .second, .val (.long (own_F3 q3 (p4 >>> ((5 : Int32) &&& 31)))), .second, .val (.long (own_F4 (own_F1 q1 p4) (own_F2 q2 (p4 >>> ((3 : Int32) &&& 31))) (own_F3 q3 (p4 >>> ((5 : Int32) &&& 31))))), .second, .val (.int (1 : Int32))] [(.int (1 : Int32))]))
                have hv : own_F0 q1 q2 q3 p4 = (1 : Int32) := by unfold own_F0; rw [if_pos hc44_5, if_neg hc51_6, if_pos hc58_11, if_pos hc65_12, if_neg hc107_13, if_pos hc129_15, if_pos hc139_16]
                exact own_retN X4 hx Bd.notSynchronized (t := .boolean) Bd.returns (by simp) (hb hby at_147) (by decide) (by decide) ⟨congrArg (fun z => some (Value.int z)) hv.symm, N4, e4⟩
              · refine own_st (fun t k => XS.ifYes X4.here hx rfl (pc0 := 139) (pc' := 146) rfl (hb hby at_139) rfl (own_eqF hc139_16).2 (by decide) (by decide) k) ?_
                show own_Fin _ _ _ _ _ _ _ (T4.setTop (mkF m 146 #[.val (.long q1), .second, .val (.long q2), .second, .val (.long q3), .second, .val (.int p4), .val (.long (own_F1 q1 p4)), .second, .val (.long (own_F2 q2 (p4 >>> ((3 : Int32) &&& 31)))), .second, .val (.long (own_F3 q3 (p4 >>> ((5 : Int32) &&& 31)))), .second, .val (.long (own_F4 (own_F1 q1 p4) (own_F2 q2 (p4 >>> ((3 : Int32) &&& 31))) (own_F3 q3 (p4 >>> ((5 : Int32) &&& 31))))), .second, .val (.int (1 : Int32))] []))
                refine own_st (fun t k => XS.iconst X4.here hx rfl (hb hby at_146) k) ?_
                show own_Fin _ _ _ _ _ _ _ (T4.setTop (mkF m 147 #[.val (.long q1), .second, .val (.long q2), .second, .val (.long q3), .second, .val (.int p4), .val (.long (own_F1 q1 p4)), .second, .val (.long (own_F2 q2 (p4 >>> ((3 : Int32) &&& 31)))), .second, .val (.long (own_F3 q3 (p4 >>> ((5 : Int32) &&& 31)))), .second, .val (.long (own_F4 (own_F1 q1 p4) (own_F2 q2 (p4 >>> ((3 : Int32) &&& 31))) (own_F3 q3 (p4 >>> ((5 : Int32) &&& 31))))), .second, .val (.int (1 : Int32))] [(.int (0 : Int32))]))
                have hv : own_F0 q1 q2 q3 p4 = (0 : Int32) := by unfold own_F0; rw [if_pos hc44_5, if_neg hc51_6, if_pos hc58_11, if_pos hc65_12, if_neg hc107_13, if_pos hc129_15, if_neg hc139_16]
                exact own_retN X4 hx Bd.notSynchronized (t := .boolean) Bd.returns (by simp) (hb hby at_147) (by decide) (by decide) ⟨congrArg (fun z => some (Value.int z)) hv.symm, N4, e4⟩
            · refine own_st (fun t k => XS.ifYes X4.here hx rfl (pc0 := 129) (pc' := 146) rfl (hb hby at_129) rfl (own_gtF hc129_15).2 (by decide) (by decide) k) ?_
              show own_Fin _ _ _ _ _ _ _ (T4.setTop (mkF m 146 #[.val (.long q1), .second, .val (.long q2), .second, .val (.long q3), .second, .val (.int p4), .val (.long (own_F1 q1 p4)), .second, .val (.long (own_F2 q2 (p4 >>> ((3 : Int32) &&& 31)))), .second, .val (.long (own_F3 q3 (p4 >>> ((5 : Int32) &&& 31)))), .second, .val (.long (own_F4 (own_F1 q1 p4) (own_F2 q2 (p4 >>> ((3 : Int32) &&& 31))) (own_F3 q3 (p4 >>> ((5 : Int32) &&& 31))))), .second, .val (.int (1 : Int32))] []))
              refine own_st (fun t k => XS.iconst X4.here hx rfl (hb hby at_146) k) ?_
              show own_Fin _ _ _ _ _ _ _ (T4.setTop (mkF m 147 #[.val (.long q1), .second, .val (.long q2), .second, .val (.long q3), .second, .val (.int p4), .val (.long (own_F1 q1 p4)), .second, .val (.long (own_F2 q2 (p4 >>> ((3 : Int32) &&& 31)))), .second, .val (.long (own_F3 q3 (p4 >>> ((5 : Int32) &&& 31)))), .second, .val (.long (own_F4 (own_F1 q1 p4) (own_F2 q2 (p4 >>> ((3 : Int32) &&& 31))) (own_F3 q3 (p4 >>> ((5 : Int32) &&& 31))))), .second, .val (.int (1 : Int32))] [(.int (0 : Int32))]))
              have hv : own_F0 q1 q2 q3 p4 = (0 : Int32) := by unfold own_F0; rw [if_pos hc44_5, if_neg hc51_6, if_pos hc58_11, if_pos hc65_12, if_neg hc107_13, if_neg hc129_15]
              exact own_retN X4 hx Bd.notSynchronized (t := .boolean) Bd.returns (by simp) (hb hby at_147) (by decide) (by decide) ⟨congrArg (fun z => some (Value.int z)) hv.symm, N4, e4⟩
        · refine own_st (fun t k => XS.ifYes X4.here hx rfl (pc0 := 65) (pc' := 72) rfl (hb hby at_65) rfl (own_ltF hc65_12).2 (by decide) (by decide) k) ?_
          show own_Fin _ _ _ _ _ _ _ (T4.setTop (mkF m 72 #[.val (.long q1), .second, .val (.long q2), .second, .val (.long q3), .second, .val (.int p4), .val (.long (own_F1 q1 p4)), .second, .val (.long (own_F2 q2 (p4 >>> ((3 : Int32) &&& 31)))), .second, .val (.long (own_F3 q3 (p4 >>> ((5 : Int32) &&& 31)))), .second, .val (.long (own_F4 (own_F1 q1 p4) (own_F2 q2 (p4 >>> ((3 : Int32) &&& 31))) (own_F3 q3 (p4 >>> ((5 : Int32) &&& 31))))), .second, .unset] []))
          refine own_st (fun t k => XS.iconst X4.here hx rfl (hb hby at_72) k) ?_
          show own_Fin _ _ _ _ _ _ _ (T4.setTop (mkF m 73 #[.val (.long q1), .second, .val (.long q2), .second, .val (.long q3), .second, .val (.int p4), .val (.long (own_F1 q1 p4)), .second, .val (.long (own_F2 q2 (p4 >>> ((3 : Int32) &&& 31)))), .second, .val (.long (own_F3 q3 (p4 >>> ((5 : Int32) &&& 31)))), .second, .val (.long (own_F4 (own_F1 q1 p4) (own_F2 q2 (p4 >>> ((3 : Int32) &&& 31))) (own_F3 q3 (p4 >>> ((5 : Int32) &&& 31))))), .second, .unset] [(.int (0 : Int32))]))
          refine own_st (fun t k => XS.istore X4.here hx rfl (hb hby at_73) rfl (l' := #[.val (.long q1), .second, .val (.long q2), .second, .val (.long q3), .second, .val (.int p4), .val (.long (own_F1 q1 p4)), .second, .val (.long (own_F2 q2 (p4 >>> ((3 : Int32) &&& 31)))), .second, .val (.long (own_F3 q3 (p4 >>> ((5 : Int32) &&& 31)))), .second, .val (.long (own_F4 (own_F1 q1 p4) (own_F2 q2 (p4 >>> ((3 : Int32) &&& 31))) (own_F3 q3 (p4 >>> ((5 : Int32) &&& 31))))), .second, .val (.int (0 : Int32))]) rfl k) ?_
          show own_Fin _ _ _ _ _ _ _ (T4.setTop (mkF m 75 #[.val (.long q1), .second, .val (.long q2), .second, .val (.long q3), .second, .val (.int p4), .val (.long (own_F1 q1 p4)), .second, .val (.long (own_F2 q2 (p4 >>> ((3 : Int32) &&& 31)))), .second, .val (.long (own_F3 q3 (p4 >>> ((5 : Int32) &&& 31)))), .second, .val (.long (own_F4 (own_F1 q1 p4) (own_F2 q2 (p4 >>> ((3 : Int32) &&& 31))) (own_F3 q3 (p4 >>> ((5 : Int32) &&& 31))))), .second, .val (.int (0 : Int32))] []))
          refine own_st (fun t k => XS.iload X4.here hx rfl (hb hby at_75) rfl k) ?_
          show own_Fin _ _ _ _ _ _ _ (T4.setTop (mkF m 77 #[.val (.long q1), .second, .val (.long q2), .second, .val (.long q3), .second, .val (.int p4), .val (.long (own_F1 q1 p4)), .second, .val (.long (own_F2 q2 (p4 >>> ((3 : Int32) &&& 31)))), .second, .val (.long (own_F3 q3 (p4 >>> ((5 : Int32) &&& 31)))), .second, .val (.long (own_F4 (own_F1 q1 p4) (own_F2 q2 (p4 >>> ((3 : Int32) &&& 31))) (own_F3 q3 (p4 >>> ((5 : Int32) &&& 31))))), .second, .val (.int (0 : Int32))] [(.int (0 : Int32))]))
          refine own_st (fun t k => XS.ifNo X4.here hx rfl (hb hby at_77) rfl ((if0 _ _).trans (teq (by decide : (0 : Int32) = (0 : Int32))).2) k) ?_
          show own_Fin _ _ _ _ _ _ _ (T4.setTop (mkF m 80 #[.val (.long q1), .second, .val (.long q2), .second, .val (.long q3), .second, .val (.int p4), .val (.long (own_F1 q1 p4)), .second, .val (.long (own_F2 q2 (p4 >>> ((3 : Int32) &&& 31)))), .second, .val (.long (own_F3 q3 (p4 >>> ((5 : Int32) &&& 31)))), .second, .val (.long (own_F4 (own_F1 q1 p4) (own_F2 q2 (p4 >>> ((3 : Int32) &&& 31))) (own_F3 q3 (p4 >>> ((5 : Int32) &&& 31))))), .second, .val (.int (0 : Int32))] []))
          refine own_st (fun t k => XS.lload X4.here hx rfl (hb hby at_80) rfl k) ?_
          show own_Fin _ _ _ _ _ _ _ (T4.setTop (mkF m 82 #[.val (.long q1), .second, .val (.long q2), .second, .val (.long q3), .second, .val (.int p4), .val (.long (own_F1 q1 p4)), .second, .val (.long (own_F2 q2 (p4 >>> ((3 : Int32) &&& 31)))), .second, .val (.long (own_F3 q3 (p4 >>> ((5 : Int32) &&& 31)))), .second, .val (.long (own_F4 (own_F1 q1 p4) (own_F2 q2 (p4 >>> ((3 : Int32) &&& 31))) (own_F3 q3 (p4 >>> ((5 : Int32) &&& 31))))), .second, .val (.int (0 : Int32))] [(.long (own_F4 (own_F1 q1 p4) (own_F2 q2 (p4 >>> ((3 : Int32) &&& 31))) (own_F3 q3 (p4 >>> ((5 : Int32) &&& 31)))))]))
          refine own_st (fun t k => XS.lload X4.here hx rfl (hb hby at_82) rfl k) ?_
          show own_Fin _ _ _ _ _ _ _ (T4.setTop (mkF m 84 #[.val (.long q1), .second, .val (.long q2), .second, .val (.long q3), .second, .val (.int p4), .val (.long (own_F1 q1 p4)), .second, .val (.long (own_F2 q2 (p4 >>> ((3 : Int32) &&& 31)))), .second, .val (.long (own_F3 q3 (p4 >>> ((5 : Int32) &&& 31)))), .second, .val (.long (own_F4 (own_F1 q1 p4) (own_F2 q2 (p4 >>> ((3 : Int32) &&& 31))) (own_F3 q3 (p4 >>> ((5 : Int32) &&& 31))))), .second, .val (.int (0 : Int32))] [(.long (own_F1 q1 p4)), (.long (own_F4 (own_F1 q1 p4) (own_F2 q2 (p4 >>> ((3 : Int32) &&& 31))) (own_F3 q3 (p4 >>> ((5 : Int32) &&& 31)))))]))
          refine own_st (fun t k => XS.lcmp X4.here hx rfl (hb hby at_84) rfl k) ?_
          show own_Fin _ _ _ _ _ _ _ (T4.setTop (mkF m 85 #[.val (.long q1), .second, .val (.long q2), .second, .val (.long q3), .second, .val (.int p4), .val (.long (own_F1 q1 p4)), .second, .val (.long (own_F2 q2 (p4 >>> ((3 : Int32) &&& 31)))), .second, .val (.long (own_F3 q3 (p4 >>> ((5 : Int32) &&& 31)))), .second, .val (.long (own_F4 (own_F1 q1 p4) (own_F2 q2 (p4 >>> ((3 : Int32) &&& 31))) (own_F3 q3 (p4 >>> ((5 : Int32) &&& 31))))), .second, .val (.int (0 : Int32))] [(.int (lcmpW (own_F4 (own_F1 q1 p4) (own_F2 q2 (p4 >>> ((3 : Int32) &&& 31))) (own_F3 q3 (p4 >>> ((5 : Int32) &&& 31)))) (own_F1 q1 p4)))]))
          by_cases hc85_17 : (own_F4 (own_F1 q1 p4) (own_F2 q2 (p4 >>> ((3 : Int32) &&& 31))) (own_F3 q3 (p4 >>> ((5 : Int32) &&& 31)))) = (own_F1 q1 p4)
          · refine own_st (fun t k => XS.ifNo X4.here hx rfl (hb hby at_85) rfl (own_eqT hc85_17).2 k) ?_
            show own_Fin _ _ _ _ _ _ _ (T4.setTop (mkF m 88 #[.val (.long q1), .second, .val (.long q2), .second, .val (.long q3), .second, .val (.int p4), .val (.long (own_F1 q1 p4)), .second, .val (.long (own_F2 q2 (p4 >>> ((3 : Int32) &&& 31)))), .second, .val (.long (own_F3 q3 (p4 >>> ((5 : Int32) &&& 31)))), .second, .val (.long (own_F4 (own_F1 q1 p4) (own_F2 q2 (p4 >>> ((3 : Int32) &&& 31))) (own_F3 q3 (p4 >>> ((5 : Int32) &&& 31))))), .second, .val (.int (0 : Int32))] []))
            refine own_st (fun t k => XS.iconst X4.here hx rfl (hb hby at_88) k) ?_
            show own_Fin _ _ _ _ _ _ _ (T4.setTop (mkF m 89 #[.val (.long q1), .second, .val (.long q2), .second, .val (.long q3), .second, .val (.int p4), .val (.long (own_F1 q1 p4)), .second, .val (.long (own_F2 q2 (p4 >>> ((3 : Int32) &&& 31)))), .second, .val (.long (own_F3 q3 (p4 >>> ((5 : Int32) &&& 31)))), .second, .val (.long (own_F4 (own_F1 q1 p4) (own_F2 q2 (p4 >>> ((3 : Int32) &&& 31))) (own_F3 q3 (p4 >>> ((5 : Int32) &&& 31))))), .second, .val (.int (0 : Int32))] [(.int (1 : Int32))]))
            refine own_st (fun t k => XS.goto X4.here hx rfl (pc0 := 89) (pc' := 93) rfl (hb hby at_89) (by decide) (by decide) k) ?_
            show own_Fin _ _ _ _ _ _ _ (T4.setTop (mkF m 93 #[.val (.long q1), .second, .val (.long q2), .second, .val (.long q3), .second, .val (.int p4), .val (.long (own_F1 q1 p4)), .second, .val (.long (own_F2 q2 (p4 >>> ((3 : Int32) &&& 31)))), .second, .val (.long (own_F3 q3 (p4 >>> ((5 : Int32) &&& 31)))), .second, .val (.long (own_F4 (own_F1 q1 p4) (own_F2 q2 (p4 >>> ((3 : Int32) &&& 31))) (own_F3 q3 (p4 >>> ((5 : Int32) &&& 31))))), .second, .val (.int (0 : Int32))] [(.int (1 : Int32))]))
            have hv : own_F0 q1 q2 q3 p4 = (1 : Int32) := by unfold own_F0; rw [if_pos hc44_5, if_neg hc51_6, if_pos hc58_11, if_neg hc65_12, if_pos hc85_17]
            exact own_retN X4 hx Bd.notSynchronized (t := .boolean) Bd.returns (by simp) (hb hby at_93) (by decide) (by decide) ⟨congrArg (fun z => some (Value.int z)) hv.symm, N4, e4⟩
          · refine own_st (fun t k => XS.ifYes X4.here hx rfl (pc0 := 85) (pc' := 92) rfl (hb hby at_85) rfl (own_eqF hc85_17).2 (by decide) (by decide) k) ?_
            show own_Fin _ _ _ _ _ _ _ (T4.setTop (mkF m 92 #[.val (.long q1), .second, .val (.long q2), .second, .val (.long q3), .second, .val (.int p4), .val (.long (own_F1 q1 p4)), .second, .val (.long (own_F2 q2 (p4 >>> ((3 : Int32) &&& 31)))), .second, .val (.long (own_F3 q3 (p4 >>> ((5 : Int32) &&& 31)))), .second, .val (.long (own_F4 (own_F1 q1 p4) (own_F2 q2 (p4 >>> ((3 : Int32) &&& 31))) (own_F3 q3 (p4 >>> ((5 : Int32) &&& 31))))), .second, .val (.int (0 : Int32))] []))
            refine own_st (fun t k => XS.iconst X4.here hx rfl (hb hby at_92) k) ?_
            show own_Fin _ _ _ _ _ _ _ (T4.setTop (mkF m 93 #[.val (.long q1), .second, .val (.long q2), .second, .val (.long q3), .second, .val (.int p4), .val (.long (own_F1 q1 p4)), .second, .val (.long (own_F2 q2 (p4 >>> ((3 : Int32) &&& 31)))), .second, .val (.long (own_F3 q3 (p4 >>> ((5 : Int32) &&& 31)))), .second, .val (.long (own_F4 (own_F1 q1 p4) (own_F2 q2 (p4 >>> ((3 : Int32) &&& 31))) (own_F3 q3 (p4 >>> ((5 : Int32) &&& 31))))), .second, .val (.int (0 : Int32))] [(.int (0 : Int32))]))
            have hv : own_F0 q1 q2 q3 p4 = (0 : Int32) := by unfold own_F0; rw [if_pos hc44_5, if_neg hc51_6, if_pos hc58_11, if_neg hc65_12, if_neg hc85_17]
            exact own_retN X4 hx Bd.notSynchronized (t := .boolean) Bd.returns (by simp) (hb hby at_93) (by decide) (by decide) ⟨congrArg (fun z => some (Value.int z)) hv.symm, N4, e4⟩
      · refine own_st (fun t k => XS.ifYes X4.here hx rfl (pc0 := 58) (pc' := 72) rfl (hb hby at_58) rfl (own_gtF hc58_11).2 (by decide) (by decide) k) ?_
        show own_Fin _ _ _ _ _ _ _ (T4.setTop (mkF m 72 #[.val (.long q1), .second, .val (.long q2), .second, .val (.long q3), .second, .val (.int p4), .val (.long (own_F1 q1 p4)), .second, .val (.long (own_F2 q2 (p4 >>> ((3 : Int32) &&& 31)))), .second, .val (.long (own_F3 q3 (p4 >>> ((5 : Int32) &&& 31)))), .second, .val (.long (own_F4 (own_F1 q1 p4) (own_F2 q2 (p4 >>> ((3 : Int32) &&& 31))) (own_F3 q3 (p4 >>> ((5 : Int32) &&& 31))))), .second, .unset] []))
        refine own_st (fun t k => XS.iconst X4.here hx rfl (hb hby at_72) k) ?_
        show own_Fin _ _ _ _ _ _ _ (T4.setTop (mkF m 73 #[.val (.long q1), .second, .val (.long q2), .second, .val (.long q3), .second, .val (.int p4), .val (.long (own_F1 q1 p4)), .second, .val (.long (own_F2 q2 (p4 >>> ((3 : Int32) &&& 31)))), .second, .val (.long (own_F3 q3 (p4 >>> ((5 : Int32) &&& 31)))), .second, .val (.long (own_F4 (own_F1 q1 p4) (own_F2 q2 (p4 >>> ((3 : Int32) &&& 31))) (own_F3 q3 (p4 >>> ((5 : Int32) &&& 31))))), .second, .unset] [(.int (0 : Int32))]))
        refine own_st (fun t k => XS.istore X4.here hx rfl (hb hby at_73) rfl (l' := #[.val (.long q1), .second, .val (.long q2), .second, .val (.long q3), .second, .val (.int p4), .val (.long (own_F1 q1 p4)), .second, .val (.long (own_F2 q2 (p4 >>> ((3 : Int32) &&& 31)))), .second, .val (.long (own_F3 q3 (p4 >>> ((5 : Int32) &&& 31)))), .second, .val (.long (own_F4 (own_F1 q1 p4) (own_F2 q2 (p4 >>> ((3 : Int32) &&& 31))) (own_F3 q3 (p4 >>> ((5 : Int32) &&& 31))))), .second, .val (.int (0 : Int32))]) rfl k) ?_
        show own_Fin _ _ _ _ _ _ _ (T4.setTop (mkF m 75 #[.val (.long q1), .second, .val (.long q2), .second, .val (.long q3), .second, .val (.int p4), .val (.long (own_F1 q1 p4)), .second, .val (.long (own_F2 q2 (p4 >>> ((3 : Int32) &&& 31)))), .second, .val (.long (own_F3 q3 (p4 >>> ((5 : Int32) &&& 31)))), .second, .val (.long (own_F4 (own_F1 q1 p4) (own_F2 q2 (p4 >>> ((3 : Int32) &&& 31))) (own_F3 q3 (p4 >>> ((5 : Int32) &&& 31))))), .second, .val (.int (0 : Int32))] []))
        refine own_st (fun t k => XS.iload X4.here hx rfl (hb hby at_75) rfl k) ?_
        show own_Fin _ _ _ _ _ _ _ (T4.setTop (mkF m 77 #[.val (.long q1), .second, .val (.long q2), .second, .val (.long q3), .second, .val (.int p4), .val (.long (own_F1 q1 p4)), .second, .val (.long (own_F2 q2 (p4 >>> ((3 : Int32) &&& 31)))), .second, .val (.long (own_F3 q3 (p4 >>> ((5 : Int32) &&& 31)))), .second, .val (.long (own_F4 (own_F1 q1 p4) (own_F2 q2 (p4 >>> ((3 : Int32) &&& 31))) (own_F3 q3 (p4 >>> ((5 : Int32) &&& 31))))), .second, .val (.int (0 : Int32))] [(.int (0 : Int32))]))
        refine own_st (fun t k => XS.ifNo X4.here hx rfl (hb hby at_77) rfl ((if0 _ _).trans (teq (by decide : (0 : Int32) = (0 : Int32))).2) k) ?_
        show own_Fin _ _ _ _ _ _ _ (T4.setTop (mkF m 80 #[.val (.long q1), .second, .val (.long q2), .second, .val (.long q3), .second, .val (.int p4), .val (.long (own_F1 q1 p4)), .second, .val (.long (own_F2 q2 (p4 >>> ((3 : Int32) &&& 31)))), .second, .val (.long (own_F3 q3 (p4 >>> ((5 : Int32) &&& 31)))), .second, .val (.long (own_F4 (own_F1 q1 p4) (own_F2 q2 (p4 >>> ((3 : Int32) &&& 31))) (own_F3 q3 (p4 >>> ((5 : Int32) &&& 31))))), .second, .val (.int (0 : Int32))] []))
        refine own_st (fun t k => XS.lload X4.here hx rfl (hb hby at_80) rfl k) ?_
        show own_Fin _ _ _ _ _ _ _ (T4.setTop (mkF m 82 #[.val (.long q1), .second, .val (.long q2), .second, .val (.long q3), .second, .val (.int p4), .val (.long (own_F1 q1 p4)), .second, .val (.long (own_F2 q2 (p4 >>> ((3 : Int32) &&& 31)))), .second, .val (.long (own_F3 q3 (p4 >>> ((5 : Int32) &&& 31)))), .second, .val (.long (own_F4 (own_F1 q1 p4) (own_F2 q2 (p4 >>> ((3 : Int32) &&& 31))) (own_F3 q3 (p4 >>> ((5 : Int32) &&& 31))))), .second, .val (.int (0 : Int32))] [(.long (own_F4 (own_F1 q1 p4) (own_F2 q2 (p4 >>> ((3 : Int32) &&& 31))) (own_F3 q3 (p4 >>> ((5 : Int32) &&& 31)))))]))
        refine own_st (fun t k => XS.lload X4.here hx rfl (hb hby at_82) rfl k) ?_
        show own_Fin _ _ _ _ _ _ _ (T4.setTop (mkF m 84 #[.val (.long q1), .second, .val (.long q2), .second, .val (.long q3), .second, .val (.int p4), .val (.long (own_F1 q1 p4)), .second, .val (.long (own_F2 q2 (p4 >>> ((3 : Int32) &&& 31)))), .second, .val (.long (own_F3 q3 (p4 >>> ((5 : Int32) &&& 31)))), .second, .val (.long (own_F4 (own_F1 q1 p4) (own_F2 q2 (p4 >>> ((3 : Int32) &&& 31))) (own_F3 q3 (p4 >>> ((5 : Int32) &&& 31))))), .second, .val (.int (0 : Int32))] [(.long (own_F1 q1 p4)), (.long (own_F4 (own_F1 q1 p4) (own_F2 q2 (p4 >>> ((3 : Int32) &&& 31))) (own_F3 q3 (p4 >>> ((5 : Int32) &&& 31)))))]))
        refine own_st (fun t k => XS.lcmp X4.here hx rfl (hb hby at_84) rfl k) ?_
        show own_Fin _ _ _ _ _ _ _ (T4.setTop (mkF m 85 #[.val (.long q1), .second, .val (.long q2), .second, .val (.long q3), .second, .val (.int p4), .val (.long (own_F1 q1 p4)), .second, .val (.long (own_F2 q2 (p4 >>> ((3 : Int32) &&& 31)))), .second, .val (.long (own_F3 q3 (p4 >>> ((5 : Int32) &&& 31)))), .second, .val (.long (own_F4 (own_F1 q1 p4) (own_F2 q2 (p4 >>> ((3 : Int32) &&& 31))) (own_F3 q3 (p4 >>> ((5 : Int32) &&& 31))))), .second, .val (.int (0 : Int32))] [(.int (lcmpW (own_F4 (own_F1 q1 p4) (own_F2 q2 (p4 >>> ((3 : Int32) &&& 31))) (own_F3 q3 (p4 >>> ((5 : Int32) &&& 31)))) (own_F1 q1 p4)))]))
        by_cases hc85_18 : (own_F4 (own_F1 q1 p4) (own_F2 q2 (p4 >>> ((3 : Int32) &&& 31))) (own_F3 q3 (p4 >>> ((5 : Int32) &&& 31)))) = (own_F1 q1 p4)
        · refine own_st (fun t k => XS.ifNo X4.here hx rfl (hb hby at_85) rfl (own_eqT hc85_18).2 k) ?_
          show own_Fin _ _ _ _ _ _ _ (T4.setTop (mkF m 88 #[.val (.long q1), .second, .val (.long q2), .second, .val (.long q3), .second, .val (.int p4), .val (.long (own_F1 q1 p4)), .second, .val (.long (own_F2 q2 (p4 >>> ((3 : Int32) &&& 31)))), .second, .val (.long (own_F3 q3 (p4 >>> ((5 : Int32) &&& 31)))), .second, .val (.long (own_F4 (own_F1 q1 p4) (own_F2 q2 (p4 >>> ((3 : Int32) &&& 31))) (own_F3 q3 (p4 >>> ((5 : Int32) &&& 31))))), .second, .val (.int (0 : Int32))] []))
          refine own_st (fun t k => XS.iconst X4.here hx rfl (hb hby at_88) k) ?_
          show own_Fin _ _ _ _ _ _ _ (T4.setTop (mkF m 89 #[.val (.long q1), .second, .val (.long q2), .second, .val (.long q3), .second, .val (.int p4), .val (.long (own_F1 q1 p4)), .second, .val (.long (own_F2 q2 (p4 >>> ((3 : Int32) &&& 31)))), .second, .val (.long (own_F3 q3 (p4 >>> ((5 : Int32) &&& 31)))), .second, .val (.long (own_F4 (own_F1 q1 p4) (own_F2 q2 (p4 >>> ((3 : Int32) &&& 31))) (own_F3 q3 (p4 >>> ((5 : Int32) &&& 31))))), .second, .val (.int (0 : Int32))] [(.int (1 : Int32))]))
          refine own_st (fun t k => XS.goto X4.here hx rfl (pc0 := 89) (pc' := 93) rfl (hb hby at_89) (by decide) (by decide) k) ?_
          show own_Fin _ _ _ _ _ _ _ (T4.setTop (mkF m 93 #[.val (.long q1), .second, .val (.long q2), .second, .val (.long q3), .second, .val (.int p4), .val (.long (own_F1 q1 p4)), .second, .val (.long (own_F2 q2 (p4 >>> ((3 : Int32) &&& 31)))), .second, .val (.long (own_F3 q3 (p4 >>> ((5 : Int32) &&& 31)))), .second, .val (.long (own_F4 (own_F1 q1 p4) (own_F2 q2 (p4 >>> ((3 : Int32) &&& 31))) (own_F3 q3 (p4 >>> ((5 : Int32) &&& 31))))), .second, .val (.int (0 : Int32))] [(.int (1 : Int32))]))
          have hv : own_F0 q1 q2 q3 p4 = (1 : Int32) := by unfold own_F0; rw [if_pos hc44_5, if_neg hc51_6, if_neg hc58_11, if_pos hc85_18]
          exact own_retN X4 hx Bd.notSynchronized (t := .boolean) Bd.returns (by simp) (hb hby at_93) (by decide) (by decide) ⟨congrArg (fun z => some (Value.int z)) hv.symm, N4, e4⟩
        · refine own_st (fun t k => XS.ifYes X4.here hx rfl (pc0 := 85) (pc' := 92) rfl (hb hby at_85) rfl (own_eqF hc85_18).2 (by decide) (by decide) k) ?_
          show own_Fin _ _ _ _ _ _ _ (T4.setTop (mkF m 92 #[.val (.long q1), .second, .val (.long q2), .second, .val (.long q3), .second, .val (.int p4), .val (.long (own_F1 q1 p4)), .second, .val (.long (own_F2 q2 (p4 >>> ((3 : Int32) &&& 31)))), .second, .val (.long (own_F3 q3 (p4 >>> ((5 : Int32) &&& 31)))), .second, .val (.long (own_F4 (own_F1 q1 p4) (own_F2 q2 (p4 >>> ((3 : Int32) &&& 31))) (own_F3 q3 (p4 >>> ((5 : Int32) &&& 31))))), .second, .val (.int (0 : Int32))] []))
          refine own_st (fun t k => XS.iconst X4.here hx rfl (hb hby at_92) k) ?_
          show own_Fin _ _ _ _ _ _ _ (T4.setTop (mkF m 93 #[.val (.long q1), .second, .val (.long q2), .second, .val (.long q3), .second, .val (.int p4), .val (.long (own_F1 q1 p4)), .second, .val (.long (own_F2 q2 (p4 >>> ((3 : Int32) &&& 31)))), .second, .val (.long (own_F3 q3 (p4 >>> ((5 : Int32) &&& 31)))), .second, .val (.long (own_F4 (own_F1 q1 p4) (own_F2 q2 (p4 >>> ((3 : Int32) &&& 31))) (own_F3 q3 (p4 >>> ((5 : Int32) &&& 31))))), .second, .val (.int (0 : Int32))] [(.int (0 : Int32))]))
          have hv : own_F0 q1 q2 q3 p4 = (0 : Int32) := by unfold own_F0; rw [if_pos hc44_5, if_neg hc51_6, if_neg hc58_11, if_neg hc85_18]
          exact own_retN X4 hx Bd.notSynchronized (t := .boolean) Bd.returns (by simp) (hb hby at_93) (by decide) (by decide) ⟨congrArg (fun z => some (Value.int z)) hv.symm, N4, e4⟩
  · refine own_st (fun t k => XS.ifYes X4.here hx rfl (pc0 := 44) (pc' := 54) rfl (hb hby at_44) rfl (own_ltF hc44_5).2 (by decide) (by decide) k) ?_
    show own_Fin _ _ _ _ _ _ _ (T4.setTop (mkF m 54 #[.val (.long q1), .second, .val (.long q2), .second, .val (.long q3), .second, .val (.int p4), .val (.long (own_F1 q1 p4)), .second, .val (.long (own_F2 q2 (p4 >>> ((3 : Int32) &&& 31)))), .second, .val (.long (own_F3 q3 (p4 >>> ((5 : Int32) &&& 31)))), .second, .val (.long (own_F4 (own_F1 q1 p4) (own_F2 q2 (p4 >>> ((3 : Int32) &&& 31))) (own_F3 q3 (p4 >>> ((5 : Int32) &&& 31))))), .second, .unset] []))
    refine own_st (fun t k => XS.lload X4.here hx rfl (hb hby at_54) rfl k) ?_
    show own_Fin _ _ _ _ _ _ _ (T4.setTop (mkF m 56 #[.val (.long q1), .second, .val (.long q2), .second, .val (.long q3), .second, .val (.int p4), .val (.long (own_F1 q1 p4)), .second, .val (.long (own_F2 q2 (p4 >>> ((3 : Int32) &&& 31)))), .second, .val (.long (own_F3 q3 (p4 >>> ((5 : Int32) &&& 31)))), .second, .val (.long (own_F4 (own_F1 q1 p4) (own_F2 q2 (p4 >>> ((3 : Int32) &&& 31))) (own_F3 q3 (p4 >>> ((5 : Int32) &&& 31))))), .second, .unset] [(.long (own_F1 q1 p4))]))
    refine own_st (fun t k => XS.lconst X4.here hx rfl (hb hby at_56) k) ?_
    show own_Fin _ _ _ _ _ _ _ (T4.setTop (mkF m 57 #[.val (.long q1), .second, .val (.long q2), .second, .val (.long q3), .second, .val (.int p4), .val (.long (own_F1 q1 p4)), .second, .val (.long (own_F2 q2 (p4 >>> ((3 : Int32) &&& 31)))), .second, .val (.long (own_F3 q3 (p4 >>> ((5 : Int32) &&& 31)))), .second, .val (.long (own_F4 (own_F1 q1 p4) (own_F2 q2 (p4 >>> ((3 : Int32) &&& 31))) (own_F3 q3 (p4 >>> ((5 : Int32) &&& 31))))), .second, .unset] [(.long (1 : Int64)), (.long (own_F1 q1 p4))]))
    refine own_st (fun t k => XS.lcmp X4.here hx rfl (hb hby at_57) rfl k) ?_
    show own_Fin _ _ _ _ _ _ _ (T4.setTop (mkF m 58 #[.val (.long q1), .second, .val (.long q2), .second, .val (.long q3), .second, .val (.int p4), .val (.long (own_F1 q1 p4)), .second, .val (.long (own_F2 q2 (p4 >>> ((3 : Int32) &&& 31)))), .second, .val (.long (own_F3 q3 (p4 >>> ((5 : Int32) &&& 31)))), .second, .val (.long (own_F4 (own_F1 q1 p4) (own_F2 q2 (p4 >>> ((3 : Int32) &&& 31))) (own_F3 q3 (p4 >>> ((5 : Int32) &&& 31))))), .second, .unset] [(.int (lcmpW (own_F1 q1 p4) (1 : Int64)))]))
    by_cases hc58_19 : (1 : Int64) < (own_F1 q1 p4)
    · refine own_st (fun t k => XS.ifNo X4.here hx rfl (hb hby at_58) rfl (own_gtT hc58_19).2 k) ?_
      show own_Fin _ _ _ _ _ _ _ (T4.setTop (mkF m 61 #[.val (.long q1), .second, .val (.long q2), .second, .val (.long q3), .second, .val (.int p4), .val (.long (own_F1 q1 p4)), .second, .val (.long (own_F2 q2 (p4 >>> ((3 : Int32) &&& 31)))), .second, .val (.long (own_F3 q3 (p4 >>> ((5 : Int32) &&& 31)))), .second, .val (.long (own_F4 (own_F1 q1 p4) (own_F2 q2 (p4 >>> ((3 : Int32) &&& 31))) (own_F3 q3 (p4 >>> ((5 : Int32) &&& 31))))), .second, .unset] []))
      refine own_st (fun t k => XS.lload X4.here hx rfl (hb hby at_61) rfl k) ?_
      show own_Fin _ _ _ _ _ _ _ (T4.setTop (mkF m 63 #[.val (.long q1), .second, .val (.long q2), .second, .val (.long q3), .second, .val (.int p4), .val (.long (own_F1 q1 p4)), .second, .val (.long (own_F2 q2 (p4 >>> ((3 : Int32) &&& 31)))), .second, .val (.long (own_F3 q3 (p4 >>> ((5 : Int32) &&& 31)))), .second, .val (.long (own_F4 (own_F1 q1 p4) (own_F2 q2 (p4 >>> ((3 : Int32) &&& 31))) (own_F3 q3 (p4 >>> ((5 : Int32) &&& 31))))), .second, .unset] [(.long (own_F2 q2 (p4 >>> ((3 : Int32) &&& 31))))]))
      refine own_st (fun t k => XS.lconst X4.here hx rfl (hb hby at_63) k) ?_
      show own_Fin _ _ _ _ _ _ _ (T4.setTop (mkF m 64 #[.val (.long q1), .second, .val (.long q2), .second, .val (.long q3), .second, .val (.int p4), .val (.long (own_F1 q1 p4)), .second, .val (.long (own_F2 q2 (p4 >>> ((3 : Int32) &&& 31)))), .second, .val (.long (own_F3 q3 (p4 >>> ((5 : Int32) &&& 31)))), .second, .val (.long (own_F4 (own_F1 q1 p4) (own_F2 q2 (p4 >>> ((3 : Int32) &&& 31))) (own_F3 q3 (p4 >>> ((5 : Int32) &&& 31))))), .second, .unset] [(.long (0 : Int64)), (.long (own_F2 q2 (p4 >>> ((3 : Int32) &&& 31))))]))
      refine own_st (fun t k => XS.lcmp X4.here hx rfl (hb hby at_64) rfl k) ?_
      show own_Fin _ _ _ _ _ _ _ (T4.setTop (mkF m 65 #[.val (.long q1), .second, .val (.long q2), .second, .val (.long q3), .second, .val (.int p4), .val (.long (own_F1 q1 p4)), .second, .val (.long (own_F2 q2 (p4 >>> ((3 : Int32) &&& 31)))), .second, .val (.long (own_F3 q3 (p4 >>> ((5 : Int32) &&& 31)))), .second, .val (.long (own_F4 (own_F1 q1 p4) (own_F2 q2 (p4 >>> ((3 : Int32) &&& 31))) (own_F3 q3 (p4 >>> ((5 : Int32) &&& 31))))), .second, .unset] [(.int (lcmpW (own_F2 q2 (p4 >>> ((3 : Int32) &&& 31))) (0 : Int64)))]))
      by_cases hc65_20 : (own_F2 q2 (p4 >>> ((3 : Int32) &&& 31))) < (0 : Int64)
      · refine own_st (fun t k => XS.ifNo X4.here hx rfl (hb hby at_65) rfl (own_ltT hc65_20).2 k) ?_
        show own_Fin _ _ _ _ _ _ _ (T4.setTop (mkF m 68 #[.val (.long q1), .second, .val (.long q2), .second, .val (.long q3), .second, .val (.int p4), .val (.long (own_F1 q1 p4)), .second, .val (.long (own_F2 q2 (p4 >>> ((3 : Int32) &&& 31)))), .second, .val (.long (own_F3 q3 (p4 >>> ((5 : Int32) &&& 31)))), .second, .val (.long (own_F4 (own_F1 q1 p4) (own_F2 q2 (p4 >>> ((3 : Int32) &&& 31))) (own_F3 q3 (p4 >>> ((5 : Int32) &&& 31))))), .second, .unset] []))
        refine own_st (fun t k => XS.iconst X4.here hx rfl (hb hby at_68) k) ?_
        show own_Fin _ _ _ _ _ _ _ (T4.setTop (mkF m 69 #[.val (.long q1), .second, .val (.long q2), .second, .val (.long q3), .second, .val (.int p4), .val (.long (own_F1 q1 p4)), .second, .val (.long (own_F2 q2 (p4 >>> ((3 : Int32) &&& 31)))), .second, .val (.long (own_F3 q3 (p4 >>> ((5 : Int32) &&& 31)))), .second, .val (.long (own_F4 (own_F1 q1 p4) (own_F2 q2 (p4 >>> ((3 : Int32) &&& 31))) (own_F3 q3 (p4 >>> ((5 : Int32) &&& 31))))), .second, .unset] [(.int (1 : Int32))]))
        refine own_st (fun t k => XS.goto X4.here hx rfl (pc0 := 69) (pc' := 73) rfl (hb hby at_69) (by decide) (by decide) k) ?_
        show own_Fin _ _ _ _ _ _ _ (T4.setTop (mkF m 73 #[.val (.long q1), .second, .val (.long q2), .second, .val (.long q3), .second, .val (.int p4), .val (.long (own_F1 q1 p4)), .second, .val (.long (own_F2 q2 (p4 >>> ((3 : Int32) &&& 31)))), .second, .val (.long (own_F3 q3 (p4 >>> ((5 : Int32) &&& 31)))), .second, .val (.long (own_F4 (own_F1 q1 p4) (own_F2 q2 (p4 >>> ((3 : Int32) &&& 31))) (own_F3 q3 (p4 >>> ((5 : Int32) &&& 31))))), .second, .unset] [(.int (1 : Int32))]))
        refine own_st (fun t k => XS.istore X4.here hx rfl (hb hby at_73) rfl (l' := #[.val (.long q1), .second, .val (.long q2), .second, .val (.long q3), .second, .val (.int p4), .val (.long (own_F1 q1 p4)), .second, .val (.long (own_F2 q2 (p4 >>> ((3 : Int32) &&& 31)))), .second, .val (.long (own_F3 q3 (p4 >>> ((5 : Int32) &&& 31)))), .second, .val (.long (own_F4 (own_F1 q1 p4) (own_F2 q2 (p4 >>> ((3 : Int32) &&& 31))) (own_F3 q3 (p4 >>> ((5 : Int32) &&& 31))))), .second, .val (.int (1 : Int32))]) rfl k) ?_
        show own_Fin _ _ _ _ _ _ _ (T4.setTop (mkF m 75 #[.val (.long q1), .second, .val (.long q2), .second, .val (.long q3), .second, .val (.int p4), .val (.long (own_F1 q1 p4)), .second, .val (.long (own_F2 q2 (p4 >>> ((3 : Int32) &&& 31)))), .second, .val (.long (own_F3 q3 (p4 >>> ((5 : Int32) &&& 31)))), .second, .val (.long (own_F4 (own_F1 q1 p4) (own_F2 q2 (p4 >>> ((3 : Int32) &&& 31))) (own_F3 q3 (p4 >>> ((5 : Int32) &&& 31))))), .second, .val (.int (1 : Int32))] []))
        refine own_st (fun t k => XS.iload X4.here hx rfl (hb hby at_75) rfl k) ?_
        show own_Fin _ _ _ _ _ _ _ (T4.setTop (mkF m 77 #[.val (.long q1), .second, .val (.long q2), .second, .val (.long q3), .second, .val (.int p4), .val (.long (own_F1 q1 p4)), .second, .val (.long (own_F2 q2 (p4 >>> ((3 : Int32) &&& 31)))), .second, .val (.long (own_F3 q3 (p4 >>> ((5 : Int32) &&& 31)))), .second, .val (.long (own_F4 (own_F1 q1 p4) (own_F2 q2 (p4 >>> ((3 : Int32) &&& 31))) (own_F3 q3 (p4 >>> ((5 : Int32) &&& 31))))), .second, .val (.int (1 : Int32))] [(.int (1 : Int32))]))
        refine own_st (fun t k => XS.ifYes X4.here hx rfl (pc0 := 77) (pc' := 94) rfl (hb hby at_77) rfl ((if0 _ _).trans (feq (by decide : ¬ ((1 : Int32) = (0 : Int32)))).2) (by decide) (by decide) k) ?_
        show own_Fin _ _ _ _ _ _ _ (T4.setTop (mkF m 94 #[.val (.long q1), .second, .val (.long q2), .second, .val (.long q3), .second, .val (.int p4), .val (.long (own_F1 q1 p4)), .second, .val (.long (own_F2 q2 (p4 >>> ((3 : Int32) &&& 31)))), .second, .val (.long (own_F3 q3 (p4 >>> ((5 : Int32) &&& 31)))), .second, .val (.long (own_F4 (own_F1 q1 p4) (own_F2 q2 (p4 >>> ((3 : Int32) &&& 31))) (own_F3 q3 (p4 >>> ((5 : Int32) &&& 31))))), .second, .val (.int (1 : Int32))] []))
        refine own_st (fun t k => XS.lload X4.here hx rfl (hb hby at_94) rfl k) ?_
        show own_Fin _ _ _ _ _ _ _ (T4.setTop (mkF m 96 #[.val (.long q1), .second, .val (.long q2), .second, .val (.long q3), .second, .val (.int p4), .val (.long (own_F1 q1 p4)), .second, .val (.long (own_F2 q2 (p4 >>> ((3 : Int32) &&& 31)))), .second, .val (.long (own_F3 q3 (p4 >>> ((5 : Int32) &&& 31)))), .second, .val (.long (own_F4 (own_F1 q1 p4) (own_F2 q2 (p4 >>> ((3 : Int32) &&& 31))) (own_F3 q3 (p4 >>> ((5 : Int32) &&& 31))))), .second, .val (.int (1 : Int32))] [(.long (own_F1 q1 p4))]))
        refine own_st (fun t k => XS.lconst X4.here hx rfl (hb hby at_96) k) ?_
        show own_Fin _ _ _ _ _ _ _ (T4.setTop (mkF m 97 #[.val (.long q1), .second, .val (.long q2), .second, .val (.long q3), .second, .val (.int p4), .val (.long (own_F1 q1 p4)), .second, .val (.long (own_F2 q2 (p4 >>> ((3 : Int32) &&& 31)))), .second, .val (.long (own_F3 q3 (p4 >>> ((5 : Int32) &&& 31)))), .second, .val (.long (own_F4 (own_F1 q1 p4) (own_F2 q2 (p4 >>> ((3 : Int32) &&& 31))) (own_F3 q3 (p4 >>> ((5 : Int32) &&& 31))))), .second, .val (.int (1 : Int32))] [(.long (0 : Int64)), (.long (own_F1 q1 p4))]))
        refine own_st (fun t k => XS.lcmp X4.here hx rfl (hb hby at_97) rfl k) ?_
        show own_Fin _ _ _ _ _ _ _ (T4.setTop (mkF m 98 #[.val (.long q1), .second, .val (.long q2), .second, .val (.long q3), .second, .val (.int p4), .val (.long (own_F1 q1 p4)), .second, .val (.long (own_F2 q2 (p4 >>> ((3 : Int32) &&& 31)))), .second, .val (.long (own_F3 q3 (p4 >>> ((5 : Int32) &&& 31)))), .second, .val (.long (own_F4 (own_F1 q1 p4) (own_F2 q2 (p4 >>> ((3 : Int32) &&& 31))) (own_F3 q3 (p4 >>> ((5 : Int32) &&& 31))))), .second, .val (.int (1 : Int32))] [(.int (lcmpW (own_F1 q1 p4) (0 : Int64)))]))
        refine own_st (fun t k => XS.ifYes X4.here hx rfl (pc0 := 98) (pc' := 148) rfl (hb hby at_98) rfl (own_ltF hc44_5).2 (by decide) (by decide) k) ?_
        show own_Fin _ _ _ _ _ _ _ (T4.setTop (mkF m 148 #[.val (.long q1), .second, .val (.long q2), .second, .val (.long q3), .second, .val (.int p4), .val (.long (own_F1 q1 p4)), .second, .val (.long (own_F2 q2 (p4 >>> ((3 : Int32) &&& 31)))), .second, .val (.long (own_F3 q3 (p4 >>> ((5 : Int32) &&& 31)))), .second, .val (.long (own_F4 (own_F1 q1 p4) (own_F2 q2 (p4 >>> ((3 : Int32) &&& 31))) (own_F3 q3 (p4 >>> ((5 : Int32) &&& 31))))), .second, .val (.int (1 : Int32))] []))
        refine own_st (fun t k => XS.lload X4.here hx rfl (hb hby at_148) rfl k) ?_
        show own_Fin _ _ _ _ _ _ _ (T4.setTop (mkF m 150 #[.val (.long q1), .second, .val (.long q2), .second, .val (.long q3), .second, .val (.int p4), .val (.long (own_F1 q1 p4)), .second, .val (.long (own_F2 q2 (p4 >>> ((3 : Int32) &&& 31)))), .second, .val (.long (own_F3 q3 (p4 >>> ((5 : Int32) &&& 31)))), .second, .val (.long (own_F4 (own_F1 q1 p4) (own_F2 q2 (p4 >>> ((3 : Int32) &&& 31))) (own_F3 q3 (p4 >>> ((5 : Int32) &&& 31))))), .second, .val (.int (1 : Int32))] [(.long (own_F4 (own_F1 q1 p4) (own_F2 q2 (p4 >>> ((3 : Int32) &&& 31))) (own_F3 q3 (p4 >>> ((5 : Int32) &&& 31)))))]))
        refine own_st (fun t k => XS.lconst X4.here hx rfl (hb hby at_150) k) ?_
        show own_Fin _ _ _ _ _ _ _ (T4.setTop (mkF m 151 #[.val (.long q1), .second, .val (.long q2), .second, .val (.long q3), .second, .val (.int p4), .val (.long (own_F1 q1 p4)), .second, .val (.long (own_F2 q2 (p4 >>> ((3 : Int32) &&& 31)))), .second, .val (.long (own_F3 q3 (p4 >>> ((5 : Int32) &&& 31)))), .second, .val (.long (own_F4 (own_F1 q1 p4) (own_F2 q2 (p4 >>> ((3 : Int32) &&& 31))) (own_F3 q3 (p4 >>> ((5 : Int32) &&& 31))))), .second, .val (.int (1 : Int32))] [(.long (0 : Int64)), (.long (own_F4 (own_F1 q1 p4) (own_F2 q2 (p4 >>> ((3 : Int32) &&& 31))) (own_F3 q3 (p4 >>> ((5 : Int32) &&& 31)))))]))
        refine own_st (fun t k => XS.lcmp X4.here hx rfl (hb hby at_151) rfl k) ?_
        show own_Fin _ _ _ _ _ _ _ (T4.setTop (mkF m 152 #[.val (.long q1), .second, .val (.long q2), .second, .val (.long q3), .second, .val (.int p4), .val (.long (own_F1 q1 p4)), .second, .val (.long (own_F2 q2 (p4 >>> ((3 : Int32) &&& 31)))), .second, .val (.long (own_F3 q3 (p4 >>> ((5 : Int32) &&& 31)))), .second, .val (.long (own_F4 (own_F1 q1 p4) (own_F2 q2 (p4 >>> ((3 : Int32) &&& 31))) (own_F3 q3 (p4 >>> ((5 : Int32) &&& 31))))), .second, .val (.int (1 : Int32))] [(.int (lcmpW (own_F4 (own_F1 q1 p4) (own_F2 q2 (p4 >>> ((3 : Int32) &&& 31))) (own_F3 q3 (p4 >>> ((5 : Int32) &&& 31)))) (0 : Int64)))]))
        by_cases hc152_21 : (own_F4 (own_F1 q1 p4) (own_F2 q2 (p4 >>> ((3 : Int32) &&& 31))) (own_F3 q3 (p4 >>> ((5 : Int32) &&& 31)))) < (0 : Int64)
        · refine own_st (fun t k => XS.ifNo X4.here hx rfl (hb hby at_152) rfl (own_ltT hc152_21).2 k) ?_
          show own_Fin _ _ _ _ _ _ _ (T4.setTop (mkF m 155 #[.val (.long q1), .second, .val (.long q2), .second, .val (.long q3), .second, .val (.int p4), .val (.long (own_F1 q1 p4)), .second, .val (.long (own_F2 q2 (p4 >>> ((3 : Int32) &&& 31)))), .second, .val (.long (own_F3 q3 (p4 >>> ((5 : Int32) &&& 31)))), .second, .val (.long (own_F4 (own_F1 q1 p4) (own_F2 q2 (p4 >>> ((3 : Int32) &&& 31))) (own_F3 q3 (p4 >>> ((5 : Int32) &&& 31))))), .second, .val (.int (1 : Int32))] []))
          refine own_st (fun t k => XS.lload X4.here hx rfl (hb hby at_155) rfl k) ?_
          show own_Fin _ _ _ _ _ _ _ (T4.setTop (mkF m 157 #[.val (.long q1), .second, .val (.long q2), .second, .val (.long q3), .second, .val (.int p4), .val (.long (own_F1 q1 p4)), .second, .val (.long (own_F2 q2 (p4 >>> ((3 : Int32) &&& 31)))), .second, .val (.long (own_F3 q3 (p4 >>> ((5 : Int32) &&& 31)))), .second, .val (.long (own_F4 (own_F1 q1 p4) (own_F2 q2 (p4 >>> ((3 : Int32) &&& 31))) (own_F3 q3 (p4 >>> ((5 : Int32) &&& 31))))), .second, .val (.int (1 : Int32))] [(.long (own_F4 (own_F1 q1 p4) (own_F2 q2 (p4 >>> ((3 : Int32) &&& 31))) (own_F3 q3 (p4 >>> ((5 : Int32) &&& 31)))))]))
          refine own_st (fun t k => XS.lload X4.here hx rfl (hb hby at_157) rfl k) ?_
          show own_Fin _ _ _ _ _ _ _ (T4.setTop (mkF m 159 #[.val (.long q1), .second, .val (.long q2), .second, .val (.long q3), .second, .val (.int p4), .val (.long (own_F1 q1 p4)), .second, .val (.long (own_F2 q2 (p4 >>> ((3 : Int32) &&& 31)))), .second, .val (.long (own_F3 q3 (p4 >>> ((5 : Int32) &&& 31)))), .second, .val (.long (own_F4 (own_F1 q1 p4) (own_F2 q2 (p4 >>> ((3 : Int32) &&& 31))) (own_F3 q3 (p4 >>> ((5 : Int32) &&& 31))))), .second, .val (.int (1 : Int32))] [(.long (own_F1 q1 p4)), (.long (own_F4 (own_F1 q1 p4) (own_F2 q2 (p4 >>> ((3 : Int32) &&& 31))) (own_F3 q3 (p4 >>> ((5 : Int32) &&& 31)))))]))
          refine own_st (fun t k => XS.ladd X4.here hx rfl (hb hby at_159) rfl k) ?_
          show own_Fin _ _ _ _ _ _ _ (T4.setTop (mkF m 160 #[.val (.long q1), .second, .val (.long q2), .second, .val (.long q3), .second, .val (.int p4), .val (.long (own_F1 q1 p4)), .second, .val (.long (own_F2 q2 (p4 >>> ((3 : Int32) &&& 31)))), .second, .val (.long (own_F3 q3 (p4 >>> ((5 : Int32) &&& 31)))), .second, .val (.long (own_F4 (own_F1 q1 p4) (own_F2 q2 (p4 >>> ((3 : Int32) &&& 31))) (own_F3 q3 (p4 >>> ((5 : Int32) &&& 31))))), .second, .val (.int (1 : Int32))] [(.long ((own_F4 (own_F1 q1 p4) (own_F2 q2 (p4 >>> ((3 : Int32) &&& 31))) (own_F3 q3 (p4 >>> ((5 : Int32) &&& 31)))) + (own_F1 q1 p4)))]))
          refine own_st (fun t k => XS.lconst X4.here hx rfl (hb hby at_160) k) ?_
          show own_Fin _ _ _ _ _ _ _ (T4.setTop (mkF m 161 #[.val (.long q1), .second, .val (.long q2), .second, .val (.long q3), .second, .val (.int p4), .val (.long (own_F1 q1 p4)), .second, .val (.long (own_F2 q2 (p4 >>> ((3 : Int32) &&& 31)))), .second, .val (.long (own_F3 q3 (p4 >>> ((5 : Int32) &&& 31)))), .second, .val (.long (own_F4 (own_F1 q1 p4) (own_F2 q2 (p4 >>> ((3 : Int32) &&& 31))) (own_F3 q3 (p4 >>> ((5 : Int32) &&& 31))))), .second, .val (.int (1 : Int32))] [(.long (1 : Int64)), (.long ((own_F4 (own_F1 q1 p4) (own_F2 q2 (p4 >>> ((3 : Int32) &&& 31))) (own_F3 q3 (p4 >>> ((5 : Int32) &&& 31)))) + (own_F1 q1 p4)))]))
          refine own_st (fun t k => XS.lcmp X4.here hx rfl (hb hby at_161) rfl k) ?_
          show own_Fin _ _ _ _ _ _ _ (T4.setTop (mkF m 162 #[.val (.long q1), .second, .val (.long q2), .second, .val (.long q3), .second, .val (.int p4), .val (.long (own_F1 q1 p4)), .second, .val (.long (own_F2 q2 (p4 >>> ((3 : Int32) &&& 31)))), .second, .val (.long (own_F3 q3 (p4 >>> ((5 : Int32) &&& 31)))), .second, .val (.long (own_F4 (own_F1 q1 p4) (own_F2 q2 (p4 >>> ((3 : Int32) &&& 31))) (own_F3 q3 (p4 >>> ((5 : Int32) &&& 31))))), .second, .val (.int (1 : Int32))] [(.int (lcmpW ((own_F4 (own_F1 q1 p4) (own_F2 q2 (p4 >>> ((3 : Int32) &&& 31))) (own_F3 q3 (p4 >>> ((5 : Int32) &&& 31)))) + (own_F1 q1 p4)) (1 : Int64)))]))
          by_cases hc162_22 : ((own_F4 (own_F1 q1 p4) (own_F2 q2 (p4 >>> ((3 : Int32) &&& 31))) (own_F3 q3 (p4 >>> ((5 : Int32) &&& 31)))) + (own_F1 q1 p4)) = (1 : Int64)
          · refine own_st (fun t k => XS.ifNo X4.here hx rfl (hb hby at_162) rfl (own_eqT hc162_22).2 k) ?_
            show own_Fin _ _ _ _ _ _ _ (T4.setTop (mkF m 165 #[.val (.long q1), .second, .val (.long q2), .second, .val (.long q3), .second, .val (.int p4), .val (.long (own_F1 q1 p4)), .second, .val (.long (own_F2 q2 (p4 >>> ((3 : Int32) &&& 31)))), .second, .val (.long (own_F3 q3 (p4 >>> ((5 : Int32) &&& 31)))), .second, .val (.long (own_F4 (own_F1 q1 p4) (own_F2 q2 (p4 >>> ((3 : Int32) &&& 31))) (own_F3 q3 (p4 >>> ((5 : Int32) &&& 31))))), .second, .val (.int (1 : Int32))] []))
            refine own_st (fun t k => XS.iconst X4.here hx rfl (hb hby at_165) k) ?_
            show own_Fin _ _ _ _ _ _ _ (T4.setTop (mkF m 166 #[.val (.long q1), .second, .val (.long q2), .second, .val (.long q3), .second, .val (.int p4), .val (.long (own_F1 q1 p4)), .second, .val (.long (own_F2 q2 (p4 >>> ((3 : Int32) &&& 31)))), .second, .val (.long (own_F3 q3 (p4 >>> ((5 : Int32) &&& 31)))), .second, .val (.long (own_F4 (own_F1 q1 p4) (own_F2 q2 (p4 >>> ((3 : Int32) &&& 31))) (own_F3 q3 (p4 >>> ((5 : Int32) &&& 31))))), .second, .val (.int (1 : Int32))] [(.int (1 : Int32))]))
            refine own_st (fun t k => XS.goto X4.here hx rfl (pc0 := 166) (pc' := 170) rfl (hb hby at_166) (by decide) (by decide) k) ?_
            show own_Fin _ _ _ _ _ _ _ (T4.setTop (mkF m 170 #[.val (.long q1), .second, .val (.long q2), .second, .val (.long q3), .second, .val (.int p4), .val (.long (own_F1 q1 p4)), .second, .val (.long (own_F2 q2 (p4 >>> ((3 : Int32) &&& 31)))), .second, .val (.long (own_F3 q3 (p4 >>> ((5 : Int32) &&& 31)))), .second, .val (.long (own_F4 (own_F1 q1 p4) (own_F2 q2 (p4 >>> ((3 : Int32) &&& 31))) (own_F3 q3 (p4 >>> ((5 : Int32) &&& 31))))), .second, .val (.int (1 : Int32))] [(.int (1 : Int32))]))
            have hv : own_F0 q1 q2 q3 p4 = (1 : Int32) := by unfold own_F0; rw [if_neg hc44_5, if_pos hc58_19, if_pos hc65_20, if_pos hc152_21, if_pos hc162_22]
            exact own_retN X4 hx Bd.notSynchronized (t := .boolean) Bd.returns (by simp) (hb hby at_170) (by decide) (by decide) ⟨congrArg (fun z => some (Value.int z)) hv.symm, N4, e4⟩
          · refine own_st (fun t k => XS.ifYes X4.here hx rfl (pc0 := 162) (pc' := 169) rfl (hb hby at_162) rfl (own_eqF hc162_22).2 (by decide) (by decide) k) ?_
            show own_Fin _ _ _ _ _ _ _ (T4.setTop (mkF m 169 #[.val (.long q1), .second, .val (.long q2), .second, .val (.long q3), .second, .val (.int p4), .val (.long (own_F1 q1 p4)), .second, .val (.long (own_F2 q2 (p4 >>> ((3 : Int32) &&& 31)))), .second, .val (.long (own_F3 q3 (p4 >>> ((5 : Int32) &&& 31)))), .second, .val (.long (own_F4 (own_F1 q1 p4) (own_F2 q2 (p4 >>> ((3 : Int32) &&& 31))) (own_F3 q3 (p4 >>> ((5 : Int32) &&& 31))))), .second, .val (.int (1 : Int32))] []))
            refine own_st (fun t k => XS.iconst X4.here hx rfl (hb hby at_169) k) ?_
            show own_Fin _ _ _ _ _ _ _ (T4.setTop (mkF m 170 #[.val (.long q1), .second, .val (.long q2), .second, .val (.long q3), .second, .val (.int p4), .val (.long (own_F1 q1 p4)), .second, .val (.long (own_F2 q2 (p4 >>> ((3 : Int32) &&& 31)))), .second, .val (.long (own_F3 q3 (p4 >>> ((5 : Int32) &&& 31)))), .second, .val (.long (own_F4 (own_F1 q1 p4) (own_F2 q2 (p4 >>> ((3 : Int32) &&& 31))) (own_F3 q3 (p4 >>> ((5 : Int32) &&& 31))))), .second, .val (.int (1 : Int32))] [(.int (0 : Int32))]))
            have hv : own_F0 q1 q2 q3 p4 = (0 : Int32) := by unfold own_F0; rw [if_neg hc44_5, if_pos hc58_19, if_pos hc65_20, if_pos hc152_21, if_neg hc162_22]
            exact own_retN X4 hx Bd.notSynchronized (t := .boolean) Bd.returns (by simp) (hb hby at_170) (by decide) (by decide) ⟨congrArg (fun z => some (Value.int z)) hv.symm, N4, e4⟩
        · refine own_st (fun t k => XS.ifYes X4.here hx rfl (pc0 := 152) (pc' := 169) rfl (hb hby at_152) rfl (own_ltF hc152_21).2 (by decide) (by decide) k) ?_
          show own_Fin _ _ _ _ _ _ _ (T4.setTop (mkF m 169 #[.val (.long q1), .second, .val (.long q2), .second, .val (.long q3), .second, .val (.int p4), .val (.long (own_F1 q1 p4)), .second, .val (.long (own_F2 q2 (p4 >>> ((3 : Int32) &&& 31)))), .second, .val (.long (own_F3 q3 (p4 >>> ((5 : Int32) &&& 31)))), .second, .val (.long (own_F4 (own_F1 q1 p4) (own_F2 q2 (p4 >>> ((3 : Int32) &&& 31))) (own_F3 q3 (p4 >>> ((5 : Int32) &&& 31))))), .second, .val (.int (1 : Int32))] []))
          refine own_st (fun t k => XS.iconst X4.here hx rfl (hb hby at_169) k) ?_
          show own_Fin _ _ _ _ _ _ _ (T4.setTop (mkF m 170 #[.val (.long q1), .second, .val (.long q2), .second, .val (.long q3), .second, .val (.int p4), .val (.long (own_F1 q1 p4)), .second, .val (.long (own_F2 q2 (p4 >>> ((3 : Int32) &&& 31)))), .second, .val (.long (own_F3 q3 (p4 >>> ((5 : Int32) &&& 31)))), .second, .val (.long (own_F4 (own_F1 q1 p4) (own_F2 q2 (p4 >>> ((3 : Int32) &&& 31))) (own_F3 q3 (p4 >>> ((5 : Int32) &&& 31))))), .second, .val (.int (1 : Int32))] [(.int (0 : Int32))]))
          have hv : own_F0 q1 q2 q3 p4 = (0 : Int32) := by unfold own_F0; rw [if_neg hc44_5, if_pos hc58_19, if_pos hc65_20, if_neg hc152_21]
          exact own_retN X4 hx Bd.notSynchronized (t := .boolean) Bd.returns (by simp) (hb hby at_170) (by decide) (by decide) ⟨congrArg (fun z => some (Value.int z)) hv.symm, N4, e4⟩
      · refine own_st (fun t k => XS.ifYes X4.here hx rfl (pc0 := 65) (pc' := 72) rfl (hb hby at_65) rfl (own_ltF hc65_20).2 (by decide) (by decide) k) ?_
        show own_Fin _ _ _ _ _ _ _ (T4.setTop (mkF m 72 #[.val (.long q1), .second, .val (.long q2), .second, .val (.long q3), .second, .val (.int p4), .val (.long (own_F1 q1 p4)), .second, .val (.long (own_F2 q2 (p4 >>> ((3 : Int32) &&& 31)))), .second, .val (.long (own_F3 q3 (p4 >>> ((5 : Int32) &&& 31)))), .second, .val (.long (own_F4 (own_F1 q1 p4) (own_F2 q2 (p4 >>> ((3 : Int32) &&& 31))) (own_F3 q3 (p4 >>> ((5 : Int32) &&& 31))))), .second, .unset] []))
        refine own_st (fun t k => XS.iconst X4.here hx rfl (hb hby at_72) k) ?_
        show own_Fin _ _ _ _ _ _ _ (T4.setTop (mkF m 73 #[.val (.long q1), .second, .val (.long q2), .second, .val (.long q3), .second, .val (.int p4), .val (.long (own_F1 q1 p4)), .second, .val (.long (own_F2 q2 (p4 >>> ((3 : Int32) &&& 31)))), .second, .val (.long (own_F3 q3 (p4 >>> ((5 : Int32) &&& 31)))), .second, .val (.long (own_F4 (own_F1 q1 p4) (own_F2 q2 (p4 >>> ((3 : Int32) &&& 31))) (own_F3 q3 (p4 >>> ((5 : Int32) &&& 31))))), .second, .unset] [(.int (0 : Int32))]))
        refine own_st (fun t k => XS.istore X4.here hx rfl (hb hby at_73) rfl (l' := #[.val (.long q1), .second, .val (.long q2), .second, .val (.long q3), .second, .val (.int p4), .val (.long (own_F1 q1 p4)), .second, .val (.long (own_F2 q2 (p4 >>> ((3 : Int32) &&& 31)))), .second, .val (.long (own_F3 q3 (p4 >>> ((5 : Int32) &&& 31)))), .second, .val (.long (own_F4 (own_F1 q1 p4) (own_F2 q2 (p4 >>> ((3 : Int32) &&& 31))) (own_F3 q3 (p4 >>> ((5 : Int32) &&& 31))))), .second, .val (.int (0 : Int32))]) rfl k) ?_
        show own_Fin _ _ _ _ _ _ _ (T4.setTop (mkF m 75 #[.val (.long q1), .second, .val (.long q2), .second, .val (.long q3), .second, .val (.int p4), .val (.long (own_F1 q1 p4)), .second, .val (.long (own_F2 q2 (p4 >>> ((3 : Int32) &&& 31)))), .second, .val (.long (own_F3 q3 (p4 >>> ((5 : Int32) &&& 31)))), .second, .val (.long (own_F4 (own_F1 q1 p4) (own_F2 q2 (p4 >>> ((3 : Int32) &&& 31))) (own_F3 q3 (p4 >>> ((5 : Int32) &&& 31))))), .second, .val (.int (0 : Int32))] []))
        refine own_st (fun t k => XS.iload X4.here hx rfl (hb hby at_75) rfl k) ?_
        show own_Fin _ _ _ _ _ _ _ (T4.setTop (mkF m 77 #[.val (.long q1), .second, .val (.long q2), .second, .val (.long q3), .second, .val (.int p4), .val (.long (own_F1 q1 p4)), .second, .val (.long (own_F2 q2 (p4 >>> ((3 : Int32) &&& 31)))), .second, .val (.long (own_F3 q3 (p4 >>> ((5 : Int32) &&& 31)))), .second, .val (.long (own_F4 (own_F1 q1 p4) (own_F2 q2 (p4 >>> ((3 : Int32) &&& 31))) (own_F3 q3 (p4 >>> ((5 : Int32) &&& 31))))), .second, .val (.int (0 : Int32))] [(.int (0 : Int32))]))
        refine own_st (fun t k => XS.ifNo X4.here hx rfl (hb hby at_77) rfl ((if0 _ _).trans (teq (by decide : (0 : Int32) = (0 : Int32))).2) k) ?_
        show own_Fin _ _ _ _ _ _ _ (T4.setTop (mkF m 80 #[.val (.long q1), .second, .val (.long q2), .second, .val (.long q3), .second, .val (.int p4), .val (.long (own_F1 q1 p4)), .second, .val (.long (own_F2 q2 (p4 >>> ((3 : Int32) &&& 31)))), .second, .val (.long (own_F3 q3 (p4 >>> ((5 : Int32) &&& 31)))), .second, .val (.long (own_F4 (own_F1 q1 p4) (own_F2 q2 (p4 >>> ((3 : Int32) &&& 31))) (own_F3 q3 (p4 >>> ((5 : Int32) &&& 31))))), .second, .val (.int (0 : Int32))] []))
        refine own_st (fun t k => XS.lload X4.here hx rfl (hb hby at_80) rfl k) ?_
        show own_Fin _ _ _ _ _ _ _ (T4.setTop (mkF m 82 #[.val (.long q1), .second, .val (.long q2), .second, .val (.long q3), .second, .val (.int p4), .val (.long (own_F1 q1 p4)), .second, .val (.long (own_F2 q2 (p4 >>> ((3 : Int32) &&& 31)))), .second, .val (.long (own_F3 q3 (p4 >>> ((5 : Int32) &&& 31)))), .second, .val (.long (own_F4 (own_F1 q1 p4) (own_F2 q2 (p4 >>> ((3 : Int32) &&& 31))) (own_F3 q3 (p4 >>> ((5 : Int32) &&& 31))))), .second, .val (.int (0 : Int32))] [(.long (own_F4 (own_F1 q1 p4) (own_F2 q2 (p4 >>> ((3 : Int32) &&& 31))) (own_F3 q3 (p4 >>> ((5 : Int32) &&& 31)))))]))
        refine own_st (fun t k => XS.lload X4.here hx rfl (hb hby at_82) rfl k) ?_
        show own_Fin _ _ _ _ _ _ _ (T4.setTop (mkF m 84 #[.val (.long q1), .second, .val (.long q2), .second, .val (.long q3), .second, .val (.int p4), .val (.long (own_F1 q1 p4)), .second, .val (.long (own_F2 q2 (p4 >>> ((3 : Int32) &&& 31)))), .second, .val (.long (own_F3 q3 (p4 >>> ((5 : Int32) &&& 31)))), .second, .val (.long (own_F4 (own_F1 q1 p4) (own_F2 q2 (p4 >>> ((3 : Int32) &&& 31))) (own_F3 q3 (p4 >>> ((5 : Int32) &&& 31))))), .second, .val (.int (0 : Int32))] [(.long (own_F1 q1 p4)), (.long (own_F4 (own_F1 q1 p4) (own_F2 q2 (p4 >>> ((3 : Int32) &&& 31))) (own_F3 q3 (p4 >>> ((5 : Int32) &&& 31)))))]))
        refine own_st (fun t k => XS.lcmp X4.here hx rfl (hb hby at_84) rfl k) ?_
        show own_Fin _ _ _ _ _ _ _ (T4.setTop (mkF m 85 #[.val (.long q1), .second, .val (.long q2), .second, .val (.long q3), .second, .val (.int p4), .val (.long (own_F1 q1 p4)), .second, .val (.long (own_F2 q2 (p4 >>> ((3 : Int32) &&& 31)))), .second, .val (.long (own_F3 q3 (p4 >>> ((5 : Int32) &&& 31)))), .second, .val (.long (own_F4 (own_F1 q1 p4) (own_F2 q2 (p4 >>> ((3 : Int32) &&& 31))) (own_F3 q3 (p4 >>> ((5 : Int32) &&& 31))))), .second, .val (.int (0 : Int32))] [(.int (lcmpW (own_F4 (own_F1 q1 p4) (own_F2 q2 (p4 >>> ((3 : Int32) &&& 31))) (own_F3 q3 (p4 >>> ((5 : Int32) &&& 31)))) (own_F1 q1 p4)))]))
        by_cases hc85_23 : (own_F4 (own_F1 q1 p4) (own_F2 q2 (p4 >>> ((3 : Int32) &&& 31))) (own_F3 q3 (p4 >>> ((5 : Int32) &&& 31)))) = (own_F1 q1 p4)
        · refine own_st (fun t k => XS.ifNo X4.here hx rfl (hb hby at_85) rfl (own_eqT hc85_23).2 k) ?_
          show own_Fin _ _ _ _ _ _ _ (T4.setTop (mkF m 88 #[.val (.long q1), .second, .val (.long q2), .second, .val (.long q3), .second, .val (.int p4), .val (.long (own_F1 q1 p4)), .second, .val (.long (own_F2 q2 (p4 >>> ((3 : Int32) &&& 31)))), .second, .val (.long (own_F3 q3 (p4 >>> ((5 : Int32) &&& 31)))), .second, .val (.long (own_F4 (own_F1 q1 p4) (own_F2 q2 (p4 >>> ((3 : Int32) &&& 31))) (own_F3 q3 (p4 >>> ((5 : Int32) &&& 31))))), .second, .val (.int (0 : Int32))] []))
          refine own_st (fun t k => XS.iconst X4.here hx rfl (hb hby at_88) k) ?_
          show own_Fin _ _ _ _ _ _ _ (T4.setTop (mkF m 89 #[.val (.long q1), .second, .val (.long q2), .second, .val (.long q3), .second, .val (.int p4), .val (.long (own_F1 q1 p4)), .second, .val (.long (own_F2 q2 (p4 >>> ((3 : Int32) &&& 31)))), .second, .val (.long (own_F3 q3 (p4 >>> ((5 : Int32) &&& 31)))), .second, .val (.long (own_F4 (own_F1 q1 p4) (own_F2 q2 (p4 >>> ((3 : Int32) &&& 31))) (own_F3 q3 (p4 >>> ((5 : Int32) &&& 31))))), .second, .val (.int (0 : Int32))] [(.int (1 : Int32))]))
          refine own_st (fun t k => XS.goto X4.here hx rfl (pc0 := 89) (pc' := 93) rfl (hb hby at_89) (by decide) (by decide) k) ?_
          show own_Fin _ _ _ _ _ _ _ (T4.setTop (mkF m 93 #[.val (.long q1), .second, .val (.long q2), .second, .val (.long q3), .second, .val (.int p4), .val (.long (own_F1 q1 p4)), .second, .val (.long (own_F2 q2 (p4 >>> ((3 : Int32) &&& 31)))), .second, .val (.long (own_F3 q3 (p4 >>> ((5 : Int32) &&& 31)))), .second, .val (.long (own_F4 (own_F1 q1 p4) (own_F2 q2 (p4 >>> ((3 : Int32) &&& 31))) (own_F3 q3 (p4 >>> ((5 : Int32) &&& 31))))), .second, .val (.int (0 : Int32))] [(.int (1 : Int32))]))
          have hv : own_F0 q1 q2 q3 p4 = (1 : Int32) := by unfold own_F0; rw [if_neg hc44_5, if_pos hc58_19, if_neg hc65_20, if_pos hc85_23]
          exact own_retN X4 hx Bd.notSynchronized (t := .boolean) Bd.returns (by simp) (hb hby at_93) (by decide) (by decide) ⟨congrArg (fun z => some (Value.int z)) hv.symm, N4, e4⟩
        · refine own_st (fun t k => XS.ifYes X4.here hx rfl (pc0 := 85) (pc' := 92) rfl (hb hby at_85) rfl (own_eqF hc85_23).2 (by decide) (by decide) k) ?_
          show own_Fin _ _ _ _ _ _ _ (T4.setTop (mkF m 92 #[.val (.long q1), .second, .val (.long q2), .second, .val (.long q3), .second, .val (.int p4), .val (.long (own_F1 q1 p4)), .second, .val (.long (own_F2 q2 (p4 >>> ((3 : Int32) &&& 31)))), .second, .val (.long (own_F3 q3 (p4 >>> ((5 : Int32) &&& 31)))), .second, .val (.long (own_F4 (own_F1 q1 p4) (own_F2 q2 (p4 >>> ((3 : Int32) &&& 31))) (own_F3 q3 (p4 >>> ((5 : Int32) &&& 31))))), .second, .val (.int (0 : Int32))] []))
          refine own_st (fun t k => XS.iconst X4.here hx rfl (hb hby at_92) k) ?_
          show own_Fin _ _ _ _ _ _ _ (T4.setTop (mkF m 93 #[.val (.long q1), .second, .val (.long q2), .second, .val (.long q3), .second, .val (.int p4), .val (.long (own_F1 q1 p4)), .second, .val (.long (own_F2 q2 (p4 >>> ((3 : Int32) &&& 31)))), .second, .val (.long (own_F3 q3 (p4 >>> ((5 : Int32) &&& 31)))), .second, .val (.long (own_F4 (own_F1 q1 p4) (own_F2 q2 (p4 >>> ((3 : Int32) &&& 31))) (own_F3 q3 (p4 >>> ((5 : Int32) &&& 31))))), .second, .val (.int (0 : Int32))] [(.int (0 : Int32))]))
          have hv : own_F0 q1 q2 q3 p4 = (0 : Int32) := by unfold own_F0; rw [if_neg hc44_5, if_pos hc58_19, if_neg hc65_20, if_neg hc85_23]
          exact own_retN X4 hx Bd.notSynchronized (t := .boolean) Bd.returns (by simp) (hb hby at_93) (by decide) (by decide) ⟨congrArg (fun z => some (Value.int z)) hv.symm, N4, e4⟩
    · refine own_st (fun t k => XS.ifYes X4.here hx rfl (pc0 := 58) (pc' := 72) rfl (hb hby at_58) rfl (own_gtF hc58_19).2 (by decide) (by decide) k) ?_
      show own_Fin _ _ _ _ _ _ _ (T4.setTop (mkF m 72 #[.val (.long q1), .second, .val (.long q2), .second, .val (.long q3), .second, .val (.int p4), .val (.long (own_F1 q1 p4)), .second, .val (.long (own_F2 q2 (p4 >>> ((3 : Int32) &&& 31)))), .second, .val (.long (own_F3 q3 (p4 >>> ((5 : Int32) &&& 31)))), .second, .val (.long (own_F4 (own_F1 q1 p4) (own_F2 q2 (p4 >>> ((3 : Int32) &&& 31))) (own_F3 q3 (p4 >>> ((5 : Int32) &&& 31))))), .second, .unset] []))
      refine own_st (fun t k => XS.iconst X4.here hx rfl (hb hby at_72) k) ?_
      show own_Fin _ _ _ _ _ _ _ (T4.setTop (mkF m 73 #[.val (.long q1), .second, .val (.long q2), .second, .val (.long q3), .second, .val (.int p4), .val (.long (own_F1 q1 p4)), .second, .val (.long (own_F2 q2 (p4 >>> ((3 : Int32) &&& 31)))), .second, .val (.long (own_F3 q3 (p4 >>> ((5 : Int32) &&& 31)))), .second, .val (.long (own_F4 (own_F1 q1 p4) (own_F2 q2 (p4 >>> ((3 : Int32) &&& 31))) (own_F3 q3 (p4 >>> ((5 : Int32) &&& 31))))), .second, .unset] [(.int (0 : Int32))]))
      refine own_st (fun t k => XS.istore X4.here hx rfl (hb hby at_73) rfl (l' := #[.val (.long q1), .second, .val (.long q2), .second, .val (.long q3), .second, .val (.int p4), .val (.long (own_F1 q1 p4)), .second, .val (.long (own_F2 q2 (p4 >>> ((3 : Int32) &&& 31)))), .second, .val (.long (own_F3 q3 (p4 >>> ((5 : Int32) &&& 31)))), .second, .val (.long (own_F4 (own_F1 q1 p4) (own_F2 q2 (p4 >>> ((3 : Int32) &&& 31))) (own_F3 q3 (p4 >>> ((5 : Int32) &&& 31))))), .second, .val (.int (0 : Int32))]) rfl k) ?_
      show own_Fin _ _ _ _ _ _ _ (T4.setTop (mkF m 75 #[.val (.long q1), .second, .val (.long q2), .second, .val (.long q3), .second, .val (.int p4), .val (.long (own_F1 q1 p4)), .second, .val (.long (own_F2 q2 (p4 >>> ((3 : Int32) &&& 31)))), .second, .val (.long (own_F3 q3 (p4 >>> ((5 : Int32) &&& 31)))), .second, .val (.long (own_F4 (own_F1 q1 p4) (own_F2 q2 (p4 >>> ((3 : Int32) &&& 31))) (own_F3 q3 (p4 >>> ((5 : Int32) &&& 31))))), .second, .val (.int (0 : Int32))] []))
      refine own_st (fun t k => XS.iload X4.here hx rfl (hb hby at_75) rfl k) ?_
      show own_Fin _ _ _ _ _ _ _ (T4.setTop (mkF m 77 #[.val (.long q1), .second, .val (.long q2), .second, .val (.long q3), .second, .val (.int p4), .val (.long (own_F1 q1 p4)), .second, .val (.long (own_F2 q2 (p4 >>> ((3 : Int32) &&& 31)))), .second, .val (.long (own_F3 q3 (p4 >>> ((5 : Int32) &&& 31)))), .second, .val (.long (own_F4 (own_F1 q1 p4) (own_F2 q2 (p4 >>> ((3 : Int32) &&& 31))) (own_F3 q3 (p4 >>> ((5 : Int32) &&& 31))))), .second, .val (.int (0 : Int32))] [(.int (0 : Int32))]))
      refine own_st (fun t k => XS.ifNo X4.here hx rfl (hb hby at_77) rfl ((if0 _ _).trans (teq (by decide : (0 : Int32) = (0 : Int32))).2) k) ?_
      show own_Fin _ _ _ _ _ _ _ (T4.setTop (mkF m 80 #[.val (.long q1), .second, .val (.long q2), .second, .val (.long q3), .second, .val (.int p4), .val (.long (own_F1 q1 p4)), .second, .val (.long (own_F2 q2 (p4 >>> ((3 : Int32) &&& 31)))), .second, .val (.long (own_F3 q3 (p4 >>> ((5 : Int32) &&& 31)))), .second, .val (.long (own_F4 (own_F1 q1 p4) (own_F2 q2 (p4 >>> ((3 : Int32) &&& 31))) (own_F3 q3 (p4 >>> ((5 : Int32) &&& 31))))), .second, .val (.int (0 : Int32))] []))
      refine own_st (fun t k => XS.lload X4.here hx rfl (hb hby at_80) rfl k) ?_
      show own_Fin _ _ _ _ _ _ _ (T4.setTop (mkF m 82 #[.val (.long q1), .second, .val (.long q2), .second, .val (.long q3), .second, .val (.int p4), .val (.long (own_F1 q1 p4)), .second, .val (.long (own_F2 q2 (p4 >>> ((3 : Int32) &&& 31)))), .second, .val (.long (own_F3 q3 (p4 >>> ((5 : Int32) &&& 31)))), .second, .val (.long (own_F4 (own_F1 q1 p4) (own_F2 q2 (p4 >>> ((3 : Int32) &&& 31))) (own_F3 q3 (p4 >>> ((5 : Int32) &&& 31))))), .second, .val (.int (0 : Int32))] [(.long (own_F4 (own_F1 q1 p4) (own_F2 q2 (p4 >>> ((3 : Int32) &&& 31))) (own_F3 q3 (p4 >>> ((5 : Int32) &&& 31)))))]))
      refine own_st (fun t k => XS.lload X4.here hx rfl (hb hby at_82) rfl k) ?_
      show own_Fin _ _ _ _ _ _ _ (T4.setTop (mkF m 84 #[.val (.long q1), .second, .val (.long q2), .second, .val (.long q3), .second, .val (.int p4), .val (.long (own_F1 q1 p4)), .second, .val (.long (own_F2 q2 (p4 >>> ((3 : Int32) &&& 31)))), .second, .val (.long (own_F3 q3 (p4 >>> ((5 : Int32) &&& 31)))), .second, .val (.long (own_F4 (own_F1 q1 p4) (own_F2 q2 (p4 >>> ((3 : Int32) &&& 31))) (own_F3 q3 (p4 >>> ((5 : Int32) &&& 31))))), .second, .val (.int (0 : Int32))] [(.long (own_F1 q1 p4)), (.long (own_F4 (own_F1 q1 p4) (own_F2 q2 (p4 >>> ((3 : Int32) &&& 31))) (own_F3 q3 (p4 >>> ((5 : Int32) &&& 31)))))]))
      refine own_st (fun t k => XS.lcmp X4.here hx rfl (hb hby at_84) rfl k) ?_
      show own_Fin _ _ _ _ _ _ _ (T4.setTop (mkF m 85 #[.val (.long q1), .second, .val (.long q2), .second, .val (.long q3), .second, .val (.int p4), .val (.long (own_F1 q1 p4)), .second, .val (.long (own_F2 q2 (p4 >>> ((3 : Int32) &&& 31)))), .second, .val (.long (own_F3 q3 (p4 >>> ((5 : Int32) &&& 31)))), .second, .val (.long (own_F4 (own_F1 q1 p4) (own_F2 q2 (p4 >>> ((3 : Int32) &&& 31))) (own_F3 q3 (p4 >>> ((5 : Int32) &&& 31))))), .second, .val (.int (0 : Int32))] [(.int (lcmpW (own_F4 (own_F1 q1 p4) (own_F2 q2 (p4 >>> ((3 : Int32) &&& 31))) (own_F3 q3 (p4 >>> ((5 : Int32) &&& 31)))) (own_F1 q1 p4)))]))
      by_cases hc85_24 : (own_F4 (own_F1 q1 p4) (own_F2 q2 (p4 >>> ((3 : Int32) &&& 31))) (own_F3 q3 (p4 >>> ((5 : Int32) &&& 31)))) = (own_F1 q1 p4)
      · refine own_st (fun t k => XS.ifNo X4.here hx rfl (hb hby at_85) rfl (own_eqT hc85_24).2 k) ?_
        show own_Fin _ _ _ _ _ _ _ (T4.setTop (mkF m 88 #[.val (.long q1), .second, .val (.long q2), .second, .val (.long q3), .second, .val (.int p4), .val (.long (own_F1 q1 p4)), .second, .val (.long (own_F2 q2 (p4 >>> ((3 : Int32) &&& 31)))), .second, .val (.long (own_F3 q3 (p4 >>> ((5 : Int32) &&& 31)))), .second, .val (.long (own_F4 (own_F1 q1 p4) (own_F2 q2 (p4 >>> ((3 : Int32) &&& 31))) (own_F3 q3 (p4 >>> ((5 : Int32) &&& 31))))), .second, .val (.int (0 : Int32))] []))
        refine own_st (fun t k => XS.iconst X4.here hx rfl (hb hby at_88) k) ?_
        show own_Fin _ _ _ _ _ _ _ (T4.setTop (mkF m 89 #[.val (.long q1), .second, .val (.long q2), .second, .val (.long q3), .second, .val (.int p4), .val (.long (own_F1 q1 p4)), .second, .val (.long (own_F2 q2 (p4 >>> ((3 : Int32) &&& 31)))), .second, .val (.long (own_F3 q3 (p4 >>> ((5 : Int32) &&& 31)))), .second, .val (.long (own_F4 (own_F1 q1 p4) (own_F2 q2 (p4 >>> ((3 : Int32) &&& 31))) (own_F3 q3 (p4 >>> ((5 : Int32) &&& 31))))), .second, .val (.int (0 : Int32))] [(.int (1 : Int32))]))
        refine own_st (fun t k => XS.goto X4.here hx rfl (pc0 := 89) (pc' := 93) rfl (hb hby at_89) (by decide) (by decide) k) ?_
        show own_Fin _ _ _ _ _ _ _ (T4.setTop (mkF m 93 #[.val (.long q1), .second, .val (.long q2), .second, .val (.long q3), .second, .val (.int p4), .val (.long (own_F1 q1 p4)), .second, .val (.long (own_F2 q2 (p4 >>> ((3 : Int32) &&& 31)))), .second, .val (.long (own_F3 q3 (p4 >>> ((5 : Int32) &&& 31)))), .second, .val (.long (own_F4 (own_F1 q1 p4) (own_F2 q2 (p4 >>> ((3 : Int32) &&& 31))) (own_F3 q3 (p4 >>> ((5 : Int32) &&& 31))))), .second, .val (.int (0 : Int32))] [(.int (1 : Int32))]))
        have hv : own_F0 q1 q2 q3 p4 = (1 : Int32) := by unfold own_F0; rw [if_neg hc44_5, if_neg hc58_19, if_pos hc85_24]
        exact own_retN X4 hx Bd.notSynchronized (t := .boolean) Bd.returns (by simp) (hb hby at_93) (by decide) (by decide) ⟨congrArg (fun z => some (Value.int z)) hv.symm, N4, e4⟩
      · refine own_st (fun t k => XS.ifYes X4.here hx rfl (pc0 := 85) (pc' := 92) rfl (hb hby at_85) rfl (own_eqF hc85_24).2 (by decide) (by decide) k) ?_
        show own_Fin _ _ _ _ _ _ _ (T4.setTop (mkF m 92 #[.val (.long q1), .second, .val (.long q2), .second, .val (.long q3), .second, .val (.int p4), .val (.long (own_F1 q1 p4)), .second, .val (.long (own_F2 q2 (p4 >>> ((3 : Int32) &&& 31)))), .second, .val (.long (own_F3 q3 (p4 >>> ((5 : Int32) &&& 31)))), .second, .val (.long (own_F4 (own_F1 q1 p4) (own_F2 q2 (p4 >>> ((3 : Int32) &&& 31))) (own_F3 q3 (p4 >>> ((5 : Int32) &&& 31))))), .second, .val (.int (0 : Int32))] []))
        refine own_st (fun t k => XS.iconst X4.here hx rfl (hb hby at_92) k) ?_
        show own_Fin _ _ _ _ _ _ _ (T4.setTop (mkF m 93 #[.val (.long q1), .second, .val (.long q2), .second, .val (.long q3), .second, .val (.int p4), .val (.long (own_F1 q1 p4)), .second, .val (.long (own_F2 q2 (p4 >>> ((3 : Int32) &&& 31)))), .second, .val (.long (own_F3 q3 (p4 >>> ((5 : Int32) &&& 31)))), .second, .val (.long (own_F4 (own_F1 q1 p4) (own_F2 q2 (p4 >>> ((3 : Int32) &&& 31))) (own_F3 q3 (p4 >>> ((5 : Int32) &&& 31))))), .second, .val (.int (0 : Int32))] [(.int (0 : Int32))]))
        have hv : own_F0 q1 q2 q3 p4 = (0 : Int32) := by unfold own_F0; rw [if_neg hc44_5, if_neg hc58_19, if_neg hc85_24]
        exact own_retN X4 hx Bd.notSynchronized (t := .boolean) Bd.returns (by simp) (hb hby at_93) (by decide) (by decide) ⟨congrArg (fun z => some (Value.int z)) hv.symm, N4, e4⟩
theorem own_plain (q0 q1 q2 : Int64) (p3 : Int32) : own_F0 q0 q1 q2 p3 = 1 := by
  unfold own_F0
  generalize own_F1 q0 p3 = v
  generalize own_F2 q1 (p3 >>> ((3 : Int32) &&& 31)) = a
  generalize own_F3 q2 (p3 >>> ((5 : Int32) &&& 31)) = b
  have l0 : (0 : Int64).toInt = 0 := by decide
  have l1 : (1 : Int64).toInt = 1 := by decide
  have lm : (-9223372036854775808 : Int64).toInt = -9223372036854775808 := by decide
  have rv := rng64 v
  by_cases hv : v < 0
  · have hv' : v.toInt < 0 := by rw [← l0]; exact Int64.lt_iff_toInt_lt.mp hv
    have hv1 : ¬ 1 < v := fun q => by have q' := Int64.lt_iff_toInt_lt.mp q; rw [l1] at q'; omega
    rw [if_pos hv]
    by_cases hb : 0 < b
    · rw [if_pos hb]
      by_cases hm : v = -9223372036854775808
      · have e : own_F4 v a b = 9223372036854775807 := by unfold own_F4; rw [if_pos hv, if_pos hb, if_pos hm]
        rw [if_pos hm, if_pos e]
      · have hm' : v.toInt ≠ -9223372036854775808 := fun q => hm (Int64.toInt_inj.mp (by rw [q, lm]))
        have e : own_F4 v a b = -v := by unfold own_F4; rw [if_pos hv, if_pos hb, if_neg hm]
        have n := c_lneg v
        have r1 := rng64 (-v)
        have s := c_ladd (-v) v
        have r2 := rng64 (-v + v)
        rw [if_neg hm, e, if_pos (Int64.lt_iff_toInt_lt.mpr (by rw [l0]; omega)), if_pos (Int64.toInt_inj.mp (by rw [l0]; omega))]
    · have e : own_F4 v a b = v := by unfold own_F4; rw [if_pos hv, if_neg hb, if_neg hv1]
      rw [if_neg hb, if_neg hv1, if_pos e]
  · rw [if_neg hv]
    by_cases hv1 : 1 < v
    · have hv1' : 1 < v.toInt := by rw [← l1]; exact Int64.lt_iff_toInt_lt.mp hv1
      rw [if_pos hv1]
      by_cases ha : a < 0
      · have e : own_F4 v a b = 1 - v := by unfold own_F4; rw [if_neg hv, if_pos hv1, if_pos ha]
        have n := c_lsub 1 v
        rw [l1] at n
        have r1 := rng64 (1 - v)
        have s := c_ladd (1 - v) v
        have r2 := rng64 (1 - v + v)
        rw [if_pos ha, e, if_pos (Int64.lt_iff_toInt_lt.mpr (by rw [l0]; omega)), if_pos (Int64.toInt_inj.mp (by rw [l1]; omega))]
      · have e : own_F4 v a b = v := by unfold own_F4; rw [if_neg hv, if_pos hv1, if_neg ha]
        rw [if_neg ha, if_pos e]
    · have e : own_F4 v a b = v := by unfold own_F4; rw [if_neg hv, if_neg hv1]
      rw [if_neg hv1, if_pos e]
set_option maxRecDepth 65536 in
set_option maxHeartbeats 40000000 in
theorem comes_1 {Post : Tables → Env → Array Value → State → Outcome → State → Prop} (hpost : ∀ tb e args s v u, (limb_1_1.after args s (.returned v) u = true ∧ limb_1_2.after args s (.returned v) u = true ∧ True) → FrameEnd s (.returned v) u (Jvm.fieldLocs frame_1_writes args s ++ Jvm.arrayLocs frame_1_arrays args s ++ Jvm.staticLocs frame_1_statics s) 0 0 → Post tb e args s (.returned v) u) :
    ArmFor flags0 classFile x code maxLocals ret World_1 tables_1 room_1 Calls_1 rest_1 Pre_1 Post := by
  intro l hfl _ _ p e ha hc hk s m args below hf hA hF happ hP
  obtain ⟨hcalls, hrest, hpre⟩ := hP
  obtain ⟨-, -, -, hnamed, -, -, -, hat⟩ := (Spec.applies_iff hf).mp happ
  obtain ⟨hg, hn⟩ := and_e (Cond.before_iff.mp (show (Jvm.Cond.and given_1 narrow_1).before args s = true from hpre))
  obtain ⟨g3, g4⟩ := and_e hg
  obtain ⟨g5, g6⟩ := and_e g4
  obtain ⟨g7, g8⟩ := and_e g6
  obtain ⟨g9, g10⟩ := and_e g8
  obtain ⟨w0, w1, w2, w3, rfl⟩ : ∃ w0 w1 w2 w3 : Value, args = #[w0, w1, w2, w3] := by
    have hs : args.size = 4 := by simpa [Cond.value, given_1] using g3
    obtain ⟨L⟩ := args
    match L, hs with
    | [w0, w1, w2, w3], _ => exact ⟨w0, w1, w2, w3, rfl⟩
  have hw := fun d (hd : d ∈ tables_1) => atoms_spec (ws := Jvm.Cond.code x code maxLocals ret :: tables_1) hat d (List.mem_cons_of_mem _ hd)
  obtain ⟨i0, ei0⟩ := isL_v g5
  obtain rfl : w0 = (.long i0) := Option.some.inj ei0
  obtain ⟨i1, ei1⟩ := isL_v g7
  obtain rfl : w1 = (.long i1) := Option.some.inj ei1
  obtain ⟨i2, ei2⟩ := isL_v g9
  obtain rfl : w2 = (.long i2) := Option.some.inj ei2
  obtain ⟨i3, ei3⟩ := is_v g10
  obtain rfl : w3 = (.int i3) := Option.some.inj ei3
  obtain ⟨n, o, h1, h2, h3, v, L, rfl, ⟨hv, N, -⟩, hq⟩ := rm0 l s _ hw tables_1 i0 i1 i2 i3 s.heap s.heap.size (Nat.le_refl _) p e ha hc hk s m _ below hf ((Spec.applies_iff_loose hf).mp happ).1 ⟨rfl, State.Warmed39.refl s, rfl⟩ trivial
  rw [own_plain i0 i1 i2 i3] at hv
  subst hv
  refine ⟨n, _, h1, h2, h3, hpost _ _ _ _ _ _ ⟨Cond.after_iff.mpr rfl, Cond.after_iff.mpr (eq_i res_at (Term.int_eval (1)) rfl), trivial⟩ ⟨hq.1, hq.2.1, (hq.2.2.sift fun y hy => Or.inr (N y hy)).mono (by decide) (by decide)⟩⟩
theorem main_1_1 : Claimed_1_1 := comes_1 fun _ _ _ _ _ _ h hF => ⟨h.1, hF⟩
theorem main_1_2 : Claimed_1_2 := comes_1 fun _ _ _ _ _ _ h hF => ⟨h.2.1, hF⟩
end Jvm.Pilot.@@N@@
namespace Jvm.Pilot.@@N@@
open Jvm Jvm.ClassFile Sem Op Lib Jvm.Free Jvm.Stand Jvm.Pilot.@@N@@.Jvm.D
/-! MADE BY PROGRAM (witnessworld.py) out of the Statement's table words and the real class files: 9 classes; the members and pool entries that the words name. The judged class is class 1, her method 4. -/
namespace start1
open Jvm.ClassFile
def u (s : String) : CpInfo := .utf8 (stringToUtf16 s)
/-- a pool by its gaps: so many unusable entries, then the entry; so many at the end -/
def gap : Nat → List CpInfo → List CpInfo
  | 0, r => r
  | n + 1, r => .unusable :: gap n r
def poolList (es : List (Nat × CpInfo)) (last : Nat) : List CpInfo := es.foldr (fun e r => gap e.1 (e.2 :: r)) (gap last [])
def pool (es : List (Nat × CpInfo)) (last : Nat) : Array CpInfo := ⟨poolList es last⟩
def fileOf (pool : Array CpInfo) (this : Nat) (attrs : Array Attribute := #[]) (ms : Array MethodInfo := #[]) (fl : Nat := 33) (sup : Nat := 0) (ifs : Array Nat := #[]) (fds : Array FieldInfo := #[]) : ClassFile where
  minorVersion := 0
  majorVersion := 65
  constantPool := pool
  accessFlags := fl
  thisClass := this
  superClass := sup
  interfaces := ifs
  fields := fds
  methods := ms
  attributes := attrs
def plain (name : String) (sup : Option ClassId) : Class where
  name := name
  kind := .ordinary
  loader := none
  accessFlags := 33
  super := sup
  interfaces := #[]
  cf := none
  fields := #[]
  methods := #[]
  instanceTypes := #[]
  staticTypes := #[]
  resolved := #[]
  callSites := []
  init := .initialized
  statics := none
  mirror := none

def pool0 : Array CpInfo := pool [(5, u "<init>"), (0, u "()V"), (1, .class_ 10), (1, u "java/lang/Object")] 113

def k0m0 : Method := { name := "<init>", desc := "()V", sig := { parameters := [], returnType := none }, accessFlags := 1, code := none }
/-- java/lang/Object -/
def k0 : Class := { plain "java/lang/Object" none with
  accessFlags := 33
  interfaces := #[]
  cf := some (fileOf pool0 8 #[] #[{ accessFlags := 1, nameIndex := 5, descriptorIndex := 6, attributes := #[] }] 33 0 #[] #[])
  fields := #[]
  methods := #[k0m0]
  instanceTypes := #[]
  staticTypes := #[]
  resolved := Array.replicate 124 none
  statics := none }

def pool1 : Array CpInfo := pool [(2, .class_ 4), (1, u "java/lang/Object"), (0, u "<init>"), (0, u "()V"), (2, .long 9223372036854775808), (1, .long 9223372036854775807), (1, .long 18446744073709551615), (1, .long 2), (1, .methodref 18 19), (0, .class_ 20), (0, .nameAndType 21 22), (0, u "com/example/unsettle/unsettle/DrawsAcrossPinLaw"), (0, u "pickValue"), (0, u "(JI)J"), (0, .methodref 18 24), (0, .nameAndType 25 22), (0, u "pickMin"), (0, .methodref 18 27), (0, .nameAndType 28 22), (0, u "pickMax"), (0, .methodref 30 31), (0, .class_ 32), (0, .nameAndType 33 34), (0, u "com/example/unsettle/unsettle/Draws"), (0, u "across"), (0, u "(JJJ)J"), (3, u "law"), (0, u "(JJJI)Z")] 2

def k1m0 : Method := { name := "<init>", desc := "()V", sig := { parameters := [], returnType := none }, accessFlags := 1, code := none }
def k1c1 : Code := { maxStack := 2, maxLocals := 4, code := method_2_code, exceptionTable := #[], attributes := #[] }
def k1m1 : Method := { name := "pickValue", desc := "(JI)J", sig := { parameters := [.long, .int], returnType := some .long }, accessFlags := 10, code := some k1c1 }
def k1c2 : Code := { maxStack := 2, maxLocals := 4, code := method_3_code, exceptionTable := #[], attributes := #[] }
def k1m2 : Method := { name := "pickMin", desc := "(JI)J", sig := { parameters := [.long, .int], returnType := some .long }, accessFlags := 10, code := some k1c2 }
def k1c3 : Code := { maxStack := 2, maxLocals := 4, code := method_4_code, exceptionTable := #[], attributes := #[] }
def k1m3 : Method := { name := "pickMax", desc := "(JI)J", sig := { parameters := [.long, .int], returnType := some .long }, accessFlags := 10, code := some k1c3 }
def k1c4 : Code := { maxStack := 6, maxLocals := 16, code := code, exceptionTable := #[], attributes := #[] }
def k1m4 : Method := { name := "law", desc := "(JJJI)Z", sig := { parameters := [.long, .long, .long, .int], returnType := some .boolean }, accessFlags := 9, code := some k1c4 }
/-- com/example/unsettle/unsettle/DrawsAcrossPinLaw -/
def k1 : Class := { plain "com/example/unsettle/unsettle/DrawsAcrossPinLaw" (some 0) with
  accessFlags := 49
  interfaces := #[]
  cf := some (fileOf pool1 18 #[] #[{ accessFlags := 1, nameIndex := 5, descriptorIndex := 6, attributes := #[] }, { accessFlags := 10, nameIndex := 21, descriptorIndex := 22, attributes := #[] }, { accessFlags := 10, nameIndex := 25, descriptorIndex := 22, attributes := #[] }, { accessFlags := 10, nameIndex := 28, descriptorIndex := 22, attributes := #[] }, { accessFlags := 9, nameIndex := 38, descriptorIndex := 39, attributes := #[] }] 49 2 #[] #[])
  fields := #[]
  methods := #[k1m0, k1m1, k1m2, k1m3, k1m4]
  instanceTypes := #[]
  staticTypes := #[]
  resolved := Array.replicate 42 none
  statics := none }

def pool2 : Array CpInfo := pool [(2, .class_ 4), (1, u "java/lang/Object"), (3, .class_ 10), (1, u "com/example/unsettle/unsettle/Draws"), (0, u "values"), (0, u "[J"), (2, u "mins"), (2, u "maxs"), (2, u "partsEnds"), (0, u "[I"), (2, u "marks"), (0, u "[Lcom/example/unsettle/unsettle/Draws$Mark;"), (2, u "elementStarts"), (2, u "elementEnds"), (2, u "sizeDraws"), (2, u "repeats"), (0, u "Ljava/util/BitSet;"), (2, u "argumentStarts"), (2, u "argumentEnds"), (2, u "previousSiblings"), (29, u "across"), (0, u "(JJJ)J"), (2, .long 9223372036854775808), (1, .long 9223372036854775807), (71, u "collectionEnds"), (19, u "holders"), (90, u "UNCOUNTED"), (0, u "I"), (63, .class_ 333), (0, u "com/example/unsettle/unsettle/Draws$Recorder"), (0, .class_ 335), (0, u "com/example/unsettle/unsettle/Draws$Mark")] 17

def k2c0 : Code := { maxStack := 4, maxLocals := 8, code := prog_14_method_12_code, exceptionTable := #[], attributes := #[] }
def k2m0 : Method := { name := "across", desc := "(JJJ)J", sig := { parameters := [.long, .long, .long], returnType := some .long }, accessFlags := 8, code := some k2c0 }
/-- com/example/unsettle/unsettle/Draws -/
def k2 : Class := { plain "com/example/unsettle/unsettle/Draws" (some 0) with
  accessFlags := 48
  interfaces := #[]
  cf := some (fileOf pool2 8 #[.nestMembers #[332, 334]] #[{ accessFlags := 8, nameIndex := 78, descriptorIndex := 79, attributes := #[] }] 48 2 #[] #[{ accessFlags := 24, nameIndex := 267, descriptorIndex := 268, attributes := #[] }, { accessFlags := 18, nameIndex := 11, descriptorIndex := 12, attributes := #[] }, { accessFlags := 18, nameIndex := 15, descriptorIndex := 12, attributes := #[] }, { accessFlags := 18, nameIndex := 18, descriptorIndex := 12, attributes := #[] }, { accessFlags := 18, nameIndex := 21, descriptorIndex := 22, attributes := #[] }, { accessFlags := 18, nameIndex := 25, descriptorIndex := 26, attributes := #[] }, { accessFlags := 18, nameIndex := 29, descriptorIndex := 22, attributes := #[] }, { accessFlags := 18, nameIndex := 32, descriptorIndex := 22, attributes := #[] }, { accessFlags := 18, nameIndex := 35, descriptorIndex := 22, attributes := #[] }, { accessFlags := 18, nameIndex := 38, descriptorIndex := 39, attributes := #[] }, { accessFlags := 18, nameIndex := 42, descriptorIndex := 22, attributes := #[] }, { accessFlags := 18, nameIndex := 45, descriptorIndex := 22, attributes := #[] }, { accessFlags := 18, nameIndex := 48, descriptorIndex := 22, attributes := #[] }, { accessFlags := 2, nameIndex := 176, descriptorIndex := 22, attributes := #[] }, { accessFlags := 2, nameIndex := 156, descriptorIndex := 22, attributes := #[] }])
  fields := #[{ name := "UNCOUNTED", type := .int, accessFlags := 24, slot := 0, constantValue := 0 }, { name := "values", type := (.array .long), accessFlags := 18, slot := 0, constantValue := 0 }, { name := "mins", type := (.array .long), accessFlags := 18, slot := 1, constantValue := 0 }, { name := "maxs", type := (.array .long), accessFlags := 18, slot := 2, constantValue := 0 }, { name := "partsEnds", type := (.array .int), accessFlags := 18, slot := 3, constantValue := 0 }, { name := "marks", type := (.array (.object "com/example/unsettle/unsettle/Draws$Mark")), accessFlags := 18, slot := 4, constantValue := 0 }, { name := "elementStarts", type := (.array .int), accessFlags := 18, slot := 5, constantValue := 0 }, { name := "elementEnds", type := (.array .int), accessFlags := 18, slot := 6, constantValue := 0 }, { name := "sizeDraws", type := (.array .int), accessFlags := 18, slot := 7, constantValue := 0 }, { name := "repeats", type := (.object "java/util/BitSet"), accessFlags := 18, slot := 8, constantValue := 0 }, { name := "argumentStarts", type := (.array .int), accessFlags := 18, slot := 9, constantValue := 0 }, { name := "argumentEnds", type := (.array .int), accessFlags := 18, slot := 10, constantValue := 0 }, { name := "previousSiblings", type := (.array .int), accessFlags := 18, slot := 11, constantValue := 0 }, { name := "holders", type := (.array .int), accessFlags := 2, slot := 12, constantValue := 0 }, { name := "collectionEnds", type := (.array .int), accessFlags := 2, slot := 13, constantValue := 0 }]
  methods := #[k2m0]
  instanceTypes := #[(.array .long), (.array .long), (.array .long), (.array .int), (.array (.object "com/example/unsettle/unsettle/Draws$Mark")), (.array .int), (.array .int), (.array .int), (.object "java/util/BitSet"), (.array .int), (.array .int), (.array .int), (.array .int), (.array .int)]
  staticTypes := #[.int]
  resolved := Array.replicate 353 none
  statics := none }

def pool3 : Array CpInfo := pool [(1, u "java/lang/Cloneable"), (0, .class_ 1), (0, u "java/lang/Object"), (0, .class_ 3)] 3

/-- java/lang/Cloneable -/
def k3 : Class := { plain "java/lang/Cloneable" (some 0) with
  accessFlags := 1537
  interfaces := #[]
  cf := some (fileOf pool3 2 #[] #[] 1537 4 #[] #[])
  fields := #[]
  methods := #[]
  instanceTypes := #[]
  staticTypes := #[]
  resolved := Array.replicate 8 none
  statics := none }

def pool4 : Array CpInfo := pool [(1, u "java/io/Serializable"), (0, .class_ 1), (0, u "java/lang/Object"), (0, .class_ 3)] 3

/-- java/io/Serializable -/
def k4 : Class := { plain "java/io/Serializable" (some 0) with
  accessFlags := 1537
  interfaces := #[]
  cf := some (fileOf pool4 2 #[] #[] 1537 4 #[] #[])
  fields := #[]
  methods := #[]
  instanceTypes := #[]
  staticTypes := #[]
  resolved := Array.replicate 8 none
  statics := none }

/-- the primitive byte -/
def k5 : Class := { plain "byte" none with kind := .primitive 'B', accessFlags := 0x411 }
/-- [B -/
def k6 : Class := { plain "[B" (some 0) with kind := .array 5 .byte, interfaces := #[3, 4], accessFlags := 1041 }

/-- the primitive int -/
def k7 : Class := { plain "int" none with kind := .primitive 'I', accessFlags := 0x411 }
/-- [I -/
def k8 : Class := { plain "[I" (some 0) with kind := .array 7 .int, interfaces := #[3, 4], accessFlags := 1041 }

def heap : Heap := #[]
def classes : Array Class := #[k0, k1, k2, k3, k4, k5, k6, k7, k8]
def interned : List (Array UInt16 × Addr) := []
def slotsUsed : Nat := 0
def theMethod : MethodId := ⟨1, 4⟩
def args0 : Array Value := #[.long 5, .long 3, .long 3, .int 0]
def aboutOver (below : List Frame) : State where
  vm := { classes := classes, interned := interned.toArray }
  heap := heap
  slotsUsed := slotsUsed
  threads := #[{ frames := .invoking theMethod args0 :: below }]
def below0 : List Frame := [.native { method := ⟨0, 0⟩, args := #[] }]
def about1 : State := aboutOver below0
def p0 : Program := .bare "" "" ""
def e0 : Env := launch0.env 0 0 0
theorem w_frames : about1.frames = Frame.invoking theMethod args0 :: below0 := rfl
set_option maxRecDepth 65536 in
theorem w_args : argsFit about1.vm theMethod args0 = true := by decide +kernel
set_option maxRecDepth 65536 in
theorem w_heap : heapFits about1 = true := by decide +kernel
set_option maxRecDepth 65536 in
theorem w_runnable : about1.curStatus? = some .runnable := by decide +kernel
set_option maxRecDepth 65536 in
theorem w_alone : about1.alone = true := by decide +kernel
set_option maxRecDepth 65536 in
theorem w_named : about1.methodNamed? x = some theMethod := by decide +kernel
set_option maxRecDepth 65536 in
theorem w_hears : about1.hears theMethod below0 = true := by decide +kernel
set_option maxRecDepth 65536 in
theorem w_ripe : about1.ripe theMethod args0 below0 = true := by decide +kernel
theorem w_running : about1.status = .running := rfl
set_option maxRecDepth 65536 in
theorem w_room : about1.hasRoom e0.platform room_1 = true :=
  launch0.hasRoom_least _ room_1 (by decide +kernel) (by decide +kernel) (by decide +kernel) (by decide +kernel) (by decide +kernel) (by decide +kernel)
theorem allAtoms_all (ts : List Jvm.Cond) (a : Array Jvm.Value) (st : Jvm.State) : (allAtoms ts).before a st = ts.all (fun c => c.before a st) := by
  induction ts with
  | nil => rfl
  | cons c t ih =>
    show (Jvm.Cond.and c (allAtoms t)).before a st = _
    rw [Jvm.Cond.before_and, ih, List.all_cons]
def words1 : List Jvm.Cond := Jvm.Cond.code x code maxLocals ret :: tables_1
/-- a 'code' word, met by the world's own term for the bytes: nothing is compared byte by byte -/
theorem code_word {y : MethodName} {bytes : ByteArray} {mx : Nat} {rt : Option FieldType} {a : Array Value} {s : State} {m : MethodId} {meth : Method} {c : Code} (h1 : s.methodNamed? y = some m) (h2 : s.vm.method? m = some meth) (h3 : meth.code = some c) (h4 : c.code = bytes)
    (h5 : (c.maxLocals == mx && c.exceptionTable.isEmpty && decide (c.maxStack ≤ mostOperands) && decide (meth.sig.returnType = rt) && !meth.locks && decide (parseMethodDescriptor y.desc = some meth.sig)) = true) : (Jvm.Cond.code y bytes mx rt).before a s = true := by
  simp only [Bool.and_eq_true, beq_iff_eq, Bool.not_eq_true', decide_eq_true_eq] at h5
  obtain ⟨⟨⟨⟨⟨g1, g2⟩, g3⟩, g4⟩, g5⟩, g6⟩ := h5
  simp [Cond.before, Cond.holds, Cond.value, h1, h2, h3, h4, g1, g2, g3, g4, g5, g6]
def isCode : Jvm.Cond → Bool
  | .code _ _ _ _ => true
  | _ => false
theorem all_split {L : List Jvm.Cond} {P : Jvm.Cond → Bool} (h1 : L.all (fun c => isCode c || P c) = true) (h2 : ∀ c ∈ L.filter isCode, P c = true) : L.all P = true := by
  refine List.all_eq_true.mpr fun c hc => ?_
  have h := List.all_eq_true.mp h1 c hc
  rcases Bool.eq_false_or_eq_true (isCode c) with hi | hi
  · exact h2 c (List.mem_filter.mpr ⟨hc, hi⟩)
  · simpa [hi] using h
set_option maxRecDepth 65536 in
theorem w_c0 : (Jvm.Cond.code x code maxLocals ret).before args0 about1 = true := code_word (m := ⟨1, 4⟩) (meth := k1m4) (c := k1c4) (by decide +kernel) rfl rfl rfl (by decide +kernel)
set_option maxRecDepth 65536 in
theorem w_c1 : (Jvm.Cond.code ({ cls := "com/example/unsettle/unsettle/DrawsAcrossPinLaw", name := "pickValue", desc := "(JI)J" } : Jvm.MethodName) method_2_code (4 : Nat) (Option.some Jvm.ClassFile.FieldType.long)).before args0 about1 = true := code_word (m := ⟨1, 1⟩) (meth := k1m1) (c := k1c1) (by decide +kernel) rfl rfl rfl (by decide +kernel)
set_option maxRecDepth 65536 in
theorem w_c2 : (Jvm.Cond.code ({ cls := "com/example/unsettle/unsettle/DrawsAcrossPinLaw", name := "pickMin", desc := "(JI)J" } : Jvm.MethodName) method_3_code (4 : Nat) (Option.some Jvm.ClassFile.FieldType.long)).before args0 about1 = true := code_word (m := ⟨1, 2⟩) (meth := k1m2) (c := k1c2) (by decide +kernel) rfl rfl rfl (by decide +kernel)
set_option maxRecDepth 65536 in
theorem w_c3 : (Jvm.Cond.code ({ cls := "com/example/unsettle/unsettle/DrawsAcrossPinLaw", name := "pickMax", desc := "(JI)J" } : Jvm.MethodName) method_4_code (4 : Nat) (Option.some Jvm.ClassFile.FieldType.long)).before args0 about1 = true := code_word (m := ⟨1, 3⟩) (meth := k1m3) (c := k1c3) (by decide +kernel) rfl rfl rfl (by decide +kernel)
set_option maxRecDepth 65536 in
theorem w_c4 : (Jvm.Cond.code ({ cls := "com/example/unsettle/unsettle/Draws", name := "across", desc := "(JJJ)J" } : Jvm.MethodName) prog_14_method_12_code (8 : Nat) (Option.some Jvm.ClassFile.FieldType.long)).before args0 about1 = true := code_word (m := ⟨2, 0⟩) (meth := k2m0) (c := k2c0) (by decide +kernel) rfl rfl rfl (by decide +kernel)
def codes1 : List Jvm.Cond := [Jvm.Cond.code x code maxLocals ret, Jvm.Cond.code ({ cls := "com/example/unsettle/unsettle/DrawsAcrossPinLaw", name := "pickValue", desc := "(JI)J" } : Jvm.MethodName) method_2_code (4 : Nat) (Option.some Jvm.ClassFile.FieldType.long), Jvm.Cond.code ({ cls := "com/example/unsettle/unsettle/DrawsAcrossPinLaw", name := "pickMin", desc := "(JI)J" } : Jvm.MethodName) method_3_code (4 : Nat) (Option.some Jvm.ClassFile.FieldType.long), Jvm.Cond.code ({ cls := "com/example/unsettle/unsettle/DrawsAcrossPinLaw", name := "pickMax", desc := "(JI)J" } : Jvm.MethodName) method_4_code (4 : Nat) (Option.some Jvm.ClassFile.FieldType.long), Jvm.Cond.code ({ cls := "com/example/unsettle/unsettle/Draws", name := "across", desc := "(JJJ)J" } : Jvm.MethodName) prog_14_method_12_code (8 : Nat) (Option.some Jvm.ClassFile.FieldType.long)]
set_option maxRecDepth 65536 in
theorem codes_eq : words1.filter isCode = codes1 := rfl
theorem w_codes : ∀ c ∈ words1.filter isCode, c.before args0 about1 = true := by
  rw [codes_eq]
  intro c hc
  simp only [codes1, List.mem_cons, List.not_mem_nil, or_false] at hc
  rcases hc with rfl | rfl | rfl | rfl | rfl
  · exact w_c0
  · exact w_c1
  · exact w_c2
  · exact w_c3
  · exact w_c4
set_option maxRecDepth 65536 in
theorem w_t1 : words1.all (fun c => isCode c || c.before args0 about1) = true := by decide +kernel
theorem w_tables : (allAtoms (Jvm.Cond.code x code maxLocals ret :: tables_1)).before args0 about1 = true := by
  rw [allAtoms_all]
  show words1.all (fun c => c.before args0 about1) = true
  refine all_split ?_ w_codes
  rw [w_t1]
set_option maxRecDepth 65536 in
theorem w_case : (Jvm.Cond.and given_1 narrow_1).before args0 about1 = true := by decide +kernel
theorem w_applies : (headSpec (Jvm.Cond.code x code maxLocals ret :: tables_1) room_1).applies x e0.platform about1 = true :=
  (Spec.applies_iff w_frames).mpr ⟨w_running, w_runnable, w_alone, w_named, w_hears, w_ripe, w_room, w_tables⟩
theorem atStart : AtStart classFile x code maxLocals ret World_1 tables_1 room_1 Calls_1 rest_1 Pre_1 launch0 p0 e0 about1 theMethod args0 below0 :=
  ⟨lists_1, trivial, launch0.admits_env _ _ _, launch0.least_env, fairChoices_fair.cas, fairChoices_fair.clock, w_frames, w_args, w_heap, w_applies, trivial, trivial, w_case⟩
end start1
theorem witness_1 : WitnessClaimed_1 := ⟨start1.p0, start1.e0, start1.about1, start1.theMethod, start1.args0, start1.below0, start1.atStart⟩
end Jvm.Pilot.@@N@@
