import JvmDerived
import JvmDerived.Pilot.@@N@@Statement
import JvmDerived.Pilot.@@N@@Code
set_option linter.unusedVariables false
set_option linter.unusedSimpArgs false
namespace Jvm.RoadKit
open Sem ClassFile Op Lib Jvm.Stand Jvm.Free Jvm.LawKit
section New
variable {p : Program} {l : Launch} {e : Env} {R : Room} {s : State} {m : MethodId} {args : Array Value} {below : List Frame} {meth : Method} {c : Code} {T : State} {locs : List Loc} {cells slots : Nat}
theorem retI (X : Stand p l e R s m args below meth c T locs cells slots) (hx : p.tables.exec = Jvm.exec) {pc : Nat} {Ls : Array Slot} {z : Int32} {rest : List Value} (hret : meth.sig.returnType = some .int) (hd : decode c.code pc = .ok (.ireturn, 1)) {fs : List Frame}
    (hl : ∀ (f : JFrame) (acts : List Action), f.method = m → f.locked = none → f.entered = [] → (doReturn e (T.setTop f) acts (some (.int z))).1 = T.setFrames fs) : Steps p.tables e below (T.setTop (mkF m pc Ls (.int z :: rest))) (T.setFrames fs) := by
  have hm' : T.vm.method? m = some meth := X.method'
  have hn : narrow .int (.int z) = .int z := rfl
  show Steps p.tables e below (T.setTop { method := m, pc := pc, locals := Ls, stack := _ :: rest, locked := none }) _
  jvm_step X.here [X.here.top, hx, hd, hm', hret, hn]
  first | (intro acts; rw [hl _ acts rfl rfl rfl]) | rw [hl _ _ rfl rfl rfl]
  exact Steps.refl _
theorem retAddr (X : Stand p l e R s m args below meth c T locs cells slots) (hx : p.tables.exec = Jvm.exec) {pc : Nat} {Ls : Array Slot} {z : Addr} {rest : List Value} {t : FieldType} (hret : meth.sig.returnType = some t) (ht : t.isReference = true) (hd : decode c.code pc = .ok (.areturn, 1)) {fs : List Frame}
    (hl : ∀ (f : JFrame) (acts : List Action), f.method = m → f.locked = none → f.entered = [] → (doReturn e (T.setTop f) acts (some (.ref z))).1 = T.setFrames fs) : Steps p.tables e below (T.setTop (mkF m pc Ls (.ref z :: rest))) (T.setFrames fs) := by
  have hm' : T.vm.method? m = some meth := X.method'
  show Steps p.tables e below (T.setTop { method := m, pc := pc, locals := Ls, stack := _ :: rest, locked := none }) _
  jvm_step X.here [X.here.top, hx, hd, hm', hret, ht, Value.isRef]
  first | (intro acts; rw [hl _ acts rfl rfl rfl]) | rw [hl _ _ rfl rfl rfl]
  exact Steps.refl _
end New
end Jvm.RoadKit
namespace Jvm.Pilot.@@N@@
open Jvm Jvm.ClassFile Sem Op Lib Jvm.Free Jvm.Stand Jvm.LawKit Jvm.RoadKit Bundle Jvm.Pilot.@@N@@.Jvm.D
/-- from A the run ends, returning, as Q says of the value, the heap and the places written -/
def own_Fin (tb : Tables) (e : Env) (below : List Frame) (s : State) (C S : Nat) (Q : Option Value → Heap → List Loc → Prop) (A : State) : Prop :=
  ∃ s₂ o, Steps tb e below A s₂ ∧ s₂.status = .running ∧ Ended s₂ below o ∧ ∃ v L, o = .returned v ∧ Q v s₂.heap L ∧ FrameEnd s o s₂ L C S
theorem own_st {tb : Tables} {e : Env} {below : List Frame} {s : State} {C S : Nat} {Q : Option Value → Heap → List Loc → Prop} {A B : State} (h : ∀ t, Steps tb e below B t → Steps tb e below A t) (k : own_Fin tb e below s C S Q B) : own_Fin tb e below s C S Q A := by
  obtain ⟨s₂, o, h1, h2⟩ := k
  exact ⟨s₂, o, h _ h1, h2⟩
section Ret
variable {p : Program} {l : Launch} {e : Env} {R : Room} {s : State} {m : MethodId} {args : Array Value} {below : List Frame} {meth : Method} {c : Code} {T : State} {locs : List Loc} {cells slots : Nat} {Q : Option Value → Heap → List Loc → Prop} {C S : Nat}
theorem own_retN (X : Stand p l e R s m args below meth c T locs cells slots) (hx : p.tables.exec = Jvm.exec) (hk : meth.locks = false) {t : FieldType} (hret : meth.sig.returnType = some t) (ht : t = .boolean ∨ t = .byte ∨ t = .char ∨ t = .short) {pc : Nat} {Ls : Array Slot} {z : Int32} {rest : List Value} (hd : decode c.code pc = .ok (.ireturn, 1)) (hC : cells ≤ C) (hS : slots ≤ S) (hq : Q (some (.int (nar t z))) T.heap locs) : own_Fin p.tables e below s C S Q (T.setTop (mkF m pc Ls (.int z :: rest))) := by
  obtain ⟨fs, hr, hrun, hended, hW, hsame⟩ := X.leave (v := some (.int (nar t z))) (fun h => by rw [hret] at h; cases h)
  exact ⟨_, _, retN X hx hret ht hd hr, hrun, hended, _, _, rfl, hq, ⟨_, rfl⟩, hW, hsame.mono hC hS⟩
theorem own_retI (X : Stand p l e R s m args below meth c T locs cells slots) (hx : p.tables.exec = Jvm.exec) (hk : meth.locks = false) (hret : meth.sig.returnType = some .int) {pc : Nat} {Ls : Array Slot} {z : Int32} {rest : List Value} (hd : decode c.code pc = .ok (.ireturn, 1)) (hC : cells ≤ C) (hS : slots ≤ S) (hq : Q (some (.int z)) T.heap locs) : own_Fin p.tables e below s C S Q (T.setTop (mkF m pc Ls (.int z :: rest))) := by
  obtain ⟨fs, hr, hrun, hended, hW, hsame⟩ := X.leave (v := some (.int z)) (fun h => by rw [hret] at h; cases h)
  exact ⟨_, _, retI X hx hret hd hr, hrun, hended, _, _, rfl, hq, ⟨_, rfl⟩, hW, hsame.mono hC hS⟩
theorem own_retA (X : Stand p l e R s m args below meth c T locs cells slots) (hx : p.tables.exec = Jvm.exec) (hk : meth.locks = false) {t : FieldType} (hret : meth.sig.returnType = some t) (ht : t.isReference = true) {pc : Nat} {Ls : Array Slot} {z : Addr} {rest : List Value} (hd : decode c.code pc = .ok (.areturn, 1)) (hC : cells ≤ C) (hS : slots ≤ S) (hq : Q (some (.ref z)) T.heap locs) : own_Fin p.tables e below s C S Q (T.setTop (mkF m pc Ls (.ref z :: rest))) := by
  obtain ⟨fs, hr, hrun, hended, hW, hsame⟩ := X.leave (v := some (.ref z)) (fun h => by rw [hret] at h; cases h)
  exact ⟨_, _, retAddr X hx hret ht hd hr, hrun, hended, _, _, rfl, hq, ⟨_, rfl⟩, hW, hsame.mono hC hS⟩
theorem own_retJ (X : Stand p l e R s m args below meth c T locs cells slots) (hx : p.tables.exec = Jvm.exec) (hk : meth.locks = false) (hret : meth.sig.returnType = some .long) {pc : Nat} {Ls : Array Slot} {z : Int64} (hd : decode c.code pc = .ok (.lreturn, 1)) (hC : cells ≤ C) (hS : slots ≤ S) (hq : Q (some (.long z)) T.heap locs) : own_Fin p.tables e below s C S Q (T.setTop (mkF m pc Ls [.long z])) := by
  obtain ⟨fs, hr, hrun, hended, hW, hsame⟩ := X.leave (v := some (.long z)) (fun h => by rw [hret] at h; cases h)
  exact ⟨_, _, X.lreturnOut hx hret hd hr, hrun, hended, _, _, rfl, hq, ⟨_, rfl⟩, hW, hsame.mono hC hS⟩
theorem own_retV (X : Stand p l e R s m args below meth c T locs cells slots) (hx : p.tables.exec = Jvm.exec) (hk : meth.locks = false) (hret : meth.sig.returnType = none) {pc : Nat} {Ls : Array Slot} (hd : decode c.code pc = .ok (.return_, 1)) (hC : cells ≤ C) (hS : slots ≤ S) (hq : Q none T.heap locs) : own_Fin p.tables e below s C S Q (T.setTop (mkF m pc Ls [])) := by
  obtain ⟨fs, hr, hrun, hended, hW, hsame⟩ := X.leave (v := none) (fun _ => rfl)
  exact ⟨_, _, X.returnOut hx hret hd hr, hrun, hended, _, _, rfl, hq, ⟨_, rfl⟩, hW, hsame.mono hC hS⟩
end Ret
theorem own_ltT {a b : Int64} (h : a < b) : ifCond.holds .lt (lcmpW a b) = true ∧ ifCond.holds .ge (lcmpW a b) = false := by
  have q := (lw_lt a b).mpr h
  exact ⟨(if0 _ _).trans (tlt q).1, (if0 _ _).trans (tlt q).2.1⟩
theorem own_ltF {a b : Int64} (h : ¬ a < b) : ifCond.holds .lt (lcmpW a b) = false ∧ ifCond.holds .ge (lcmpW a b) = true := by
  have q := mt (lw_lt a b).mp h
  exact ⟨(if0 _ _).trans (flt q).1, (if0 _ _).trans (flt q).2.1⟩
theorem own_gtT {a b : Int64} (h : b < a) : ifCond.holds .gt (lcmpW a b) = true ∧ ifCond.holds .le (lcmpW a b) = false := by
  have q := (lw_gt a b).mpr h
  exact ⟨(if0 _ _).trans (tlt q).2.2.1, (if0 _ _).trans (tlt q).2.2.2⟩
theorem own_gtF {a b : Int64} (h : ¬ b < a) : ifCond.holds .gt (lcmpW a b) = false ∧ ifCond.holds .le (lcmpW a b) = true := by
  have q := mt (lw_gt a b).mp h
  exact ⟨(if0 _ _).trans (flt q).2.2.1, (if0 _ _).trans (flt q).2.2.2⟩
theorem own_eqT {a b : Int64} (h : a = b) : ifCond.holds .eq (lcmpW a b) = true ∧ ifCond.holds .ne (lcmpW a b) = false := by
  have q := (lw_eq a b).mpr h
  exact ⟨(if0 _ _).trans (teq q).1, (if0 _ _).trans (teq q).2⟩
theorem own_eqF {a b : Int64} (h : ¬ a = b) : ifCond.holds .eq (lcmpW a b) = false ∧ ifCond.holds .ne (lcmpW a b) = true := by
  have q := mt (lw_eq a b).mp h
  exact ⟨(if0 _ _).trans (feq q).1, (if0 _ _).trans (feq q).2⟩
theorem d1_0 : decode method_2_code 0 = .ok (.iload_n 2, 1) := by decide +kernel
theorem d1_1 : decode method_2_code 1 = .ok (.iconst 3, 1) := by decide +kernel
theorem d1_2 : decode method_2_code 2 = .ok (.iand, 1) := by decide +kernel
theorem d1_3 : decode method_2_code 3 = .ok (.istore_n 3, 1) := by decide +kernel
theorem d1_4 : decode method_2_code 4 = .ok (.iload_n 3, 1) := by decide +kernel
theorem d1_5 : decode method_2_code 5 = .ok (.ifCond .ne 9, 3) := by decide +kernel
theorem d1_8 : decode method_2_code 8 = .ok (.lload_n 0, 1) := by decide +kernel
theorem d1_9 : decode method_2_code 9 = .ok (.ldc2_w 7, 3) := by decide +kernel
theorem d1_12 : decode method_2_code 12 = .ok (.land, 1) := by decide +kernel
theorem d1_13 : decode method_2_code 13 = .ok (.lreturn, 1) := by decide +kernel
theorem d1_14 : decode method_2_code 14 = .ok (.iload_n 3, 1) := by decide +kernel
theorem d1_15 : decode method_2_code 15 = .ok (.iconst 1, 1) := by decide +kernel
theorem d1_16 : decode method_2_code 16 = .ok (.if_icmp .ne 17, 3) := by decide +kernel
theorem d1_19 : decode method_2_code 19 = .ok (.ldc2_w 9, 3) := by decide +kernel
theorem d1_22 : decode method_2_code 22 = .ok (.lload_n 0, 1) := by decide +kernel
theorem d1_23 : decode method_2_code 23 = .ok (.ldc2_w 11, 3) := by decide +kernel
theorem d1_26 : decode method_2_code 26 = .ok (.land, 1) := by decide +kernel
theorem d1_27 : decode method_2_code 27 = .ok (.ldc2_w 13, 3) := by decide +kernel
theorem d1_30 : decode method_2_code 30 = .ok (.lsub, 1) := by decide +kernel
theorem d1_31 : decode method_2_code 31 = .ok (.ladd, 1) := by decide +kernel
theorem d1_32 : decode method_2_code 32 = .ok (.lreturn, 1) := by decide +kernel
theorem d1_33 : decode method_2_code 33 = .ok (.iload_n 3, 1) := by decide +kernel
theorem d1_34 : decode method_2_code 34 = .ok (.iconst 2, 1) := by decide +kernel
theorem d1_35 : decode method_2_code 35 = .ok (.if_icmp .ne 9, 3) := by decide +kernel
theorem d1_38 : decode method_2_code 38 = .ok (.lload_n 0, 1) := by decide +kernel
theorem d1_39 : decode method_2_code 39 = .ok (.ldc2_w 15, 3) := by decide +kernel
theorem d1_42 : decode method_2_code 42 = .ok (.land, 1) := by decide +kernel
theorem d1_43 : decode method_2_code 43 = .ok (.lreturn, 1) := by decide +kernel
theorem d1_44 : decode method_2_code 44 = .ok (.ldc2_w 7, 3) := by decide +kernel
theorem d1_47 : decode method_2_code 47 = .ok (.lload_n 0, 1) := by decide +kernel
theorem d1_48 : decode method_2_code 48 = .ok (.ldc2_w 15, 3) := by decide +kernel
theorem d1_51 : decode method_2_code 51 = .ok (.land, 1) := by decide +kernel
theorem d1_52 : decode method_2_code 52 = .ok (.lsub, 1) := by decide +kernel
theorem d1_53 : decode method_2_code 53 = .ok (.lreturn, 1) := by decide +kernel
theorem pn_1 : plainFor (⟨"com/example/anchorwatch/anchorwatch/protocol/ExpiryAtPinLaw", "pickField", "(JI)J"⟩ : MethodName) = true := plainFor_of_name (x := (⟨"com/example/anchorwatch/anchorwatch/protocol/ExpiryAtPinLaw", "pickField", "(JI)J"⟩ : MethodName)) (by first | (simp [plainName, overriddenIn]; done) | decide +kernel)
theorem ef_1 (m : MethodId) (q1 : Int64) (p2 : Int32) : entryFrame m #[(.long q1), (.int p2)] 4 = mkF m 0 #[.val (.long q1), .second, .val (.int p2), .unset] [] := by first | (simp [entryFrame, mkF, argsToLocals, Value.category]; done) | rfl
def own_F1 (q1 : Int64) (p2 : Int32) : Int64 := (if (p2 &&& (3 : Int32)) = (0 : Int32) then (q1 &&& (4294967295 : Int64)) else (if (p2 &&& (3 : Int32)) = (1 : Int32) then ((2592000 : Int64) + ((q1 &&& (7 : Int64)) - (4 : Int64))) else (if (p2 &&& (3 : Int32)) = (2 : Int32) then (q1 &&& (3 : Int64)) else ((4294967295 : Int64) - (q1 &&& (3 : Int64))))))
def own_Q1 (q1 : Int64) (p2 : Int32) (h0 : Heap) (n0 : Nat) (v : Option Value) (h : Heap) (L : List Loc) : Prop := v = some (.long (own_F1 q1 p2)) ∧ Fr n0 L ∧ h = h0
set_option maxRecDepth 65536 in
set_option maxHeartbeats 40000000 in
theorem rm1 (l : Launch) (Z : State) (a0 : Array Value) (hw : ∀ d ∈ tables_1, d.before a0 Z = true) (ws : List Jvm.Cond) (q1 : Int64) (p2 : Int32) (h0 : Heap) (n0 : Nat) (Z0 : n0 ≤ h0.size) :
    MetFree l (⟨"com/example/anchorwatch/anchorwatch/protocol/ExpiryAtPinLaw", "pickField", "(JI)J"⟩ : MethodName) (head1 (Jvm.Cond.code (⟨"com/example/anchorwatch/anchorwatch/protocol/ExpiryAtPinLaw", "pickField", "(JI)J"⟩ : MethodName) method_2_code 4 (some .long) :: ws) ({ frames := 0, cells := 0, slots := 0, locals := 0 } : Room)) (fun a U => a = #[(.long q1), (.int p2)] ∧ Z.Warmed39 U.vm ∧ U.heap = h0) (fun _ _ _ _ _ => True) (fun _ U o U' => ∃ v L, o = .returned v ∧ own_Q1 q1 p2 h0 n0 v U'.heap L ∧ FrameEnd U o U' L ({ frames := 0, cells := 0, slots := 0, locals := 0 } : Room).cells ({ frames := 0, cells := 0, slots := 0, locals := 0 } : Room).slots) := by
  refine MetFree.of_bodySF pn_1 hisR ?_
  intro p e s m args below meth c s₁ Bd hml0 hP hK
  obtain ⟨rfl, hZ, hh⟩ := hP
  have hx := Bd.exec
  have hby := Bd.bytes
  have hml : c.maxLocals = 4 := hml0
  have hown : s.vm.findClass "com/example/anchorwatch/anchorwatch/protocol/ExpiryAtPinLaw" = some m.cls := findClass_of_methodNamed Bd.named
  have X0 : Stand p l e ({ frames := 0, cells := 0, slots := 0, locals := 0 } : Room) s m #[(.long q1), (.int p2)] below meth c s₁ [] 0 0 := Stand.of_body Bd
  have e0 : s₁.heap = h0 := by rw [← hh, Bd.state]; rfl
  have N0 := Fr.nil n0
  show own_Fin p.tables e below s (({ frames := 0, cells := 0, slots := 0, locals := 0 } : Room).cells) (({ frames := 0, cells := 0, slots := 0, locals := 0 } : Room).slots) (own_Q1 q1 p2 h0 n0) (s₁.setTop (entryFrame m #[(.long q1), (.int p2)] 4))
  rw [ef_1 m q1 p2]
  show own_Fin _ _ _ _ _ _ _ (s₁.setTop (mkF m 0 #[.val (.long q1), .second, .val (.int p2), .unset] []))
  refine own_st (fun t k => XS.iloadN X0.here hx rfl (hb hby d1_0) rfl k) ?_
  show own_Fin _ _ _ _ _ _ _ (s₁.setTop (mkF m 1 #[.val (.long q1), .second, .val (.int p2), .unset] [(.int p2)]))
  refine own_st (fun t k => XS.iconst X0.here hx rfl (hb hby d1_1) k) ?_
  show own_Fin _ _ _ _ _ _ _ (s₁.setTop (mkF m 2 #[.val (.long q1), .second, .val (.int p2), .unset] [(.int (3 : Int32)), (.int p2)]))
  refine own_st (fun t k => XS.iand X0.here hx rfl (hb hby d1_2) rfl k) ?_
  show own_Fin _ _ _ _ _ _ _ (s₁.setTop (mkF m 3 #[.val (.long q1), .second, .val (.int p2), .unset] [(.int (p2 &&& (3 : Int32)))]))
  refine own_st (fun t k => XS.istoreN X0.here hx rfl (hb hby d1_3) rfl (l' := #[.val (.long q1), .second, .val (.int p2), .val (.int (p2 &&& (3 : Int32)))]) rfl k) ?_
  show own_Fin _ _ _ _ _ _ _ (s₁.setTop (mkF m 4 #[.val (.long q1), .second, .val (.int p2), .val (.int (p2 &&& (3 : Int32)))] []))
  refine own_st (fun t k => XS.iloadN X0.here hx rfl (hb hby d1_4) rfl k) ?_
  show own_Fin _ _ _ _ _ _ _ (s₁.setTop (mkF m 5 #[.val (.long q1), .second, .val (.int p2), .val (.int (p2 &&& (3 : Int32)))] [(.int (p2 &&& (3 : Int32)))]))
  by_cases hc5_1 : (p2 &&& (3 : Int32)) = (0 : Int32)
  · refine own_st (fun t k => XS.ifNo X0.here hx rfl (hb hby d1_5) rfl ((if0 _ _).trans (teq hc5_1).2) k) ?_
    show own_Fin _ _ _ _ _ _ _ (s₁.setTop (mkF m 8 #[.val (.long q1), .second, .val (.int p2), .val (.int (p2 &&& (3 : Int32)))] []))
    refine own_st (fun t k => XS.lloadN X0.here hx rfl (hb hby d1_8) rfl k) ?_
    show own_Fin _ _ _ _ _ _ _ (s₁.setTop (mkF m 9 #[.val (.long q1), .second, .val (.int p2), .val (.int (p2 &&& (3 : Int32)))] [(.long q1)]))
    refine own_st (X0.ldc2Long hx hown (mvT hZ (hw _ (List.mem_of_getElem? (i := 4) rfl))) (g := (mkF m 9 #[.val (.long q1), .second, .val (.int p2), .val (.int (p2 &&& (3 : Int32)))] [(.long q1)])) rfl (hb hby d1_9)) ?_
    show own_Fin _ _ _ _ _ _ _ (s₁.setTop (mkF m 12 #[.val (.long q1), .second, .val (.int p2), .val (.int (p2 &&& (3 : Int32)))] [(.long (4294967295 : Int64)), (.long q1)]))
    refine own_st (fun t k => XS.land X0.here hx rfl (hb hby d1_12) rfl k) ?_
    show own_Fin _ _ _ _ _ _ _ (s₁.setTop (mkF m 13 #[.val (.long q1), .second, .val (.int p2), .val (.int (p2 &&& (3 : Int32)))] [(.long (q1 &&& (4294967295 : Int64)))]))
    have hv : own_F1 q1 p2 = (q1 &&& (4294967295 : Int64)) := by unfold own_F1; rw [if_pos hc5_1]
    exact own_retJ X0 hx Bd.notSynchronized Bd.returns (hb hby d1_13) (by decide) (by decide) ⟨congrArg (fun z => some (Value.long z)) hv.symm, N0, e0⟩
  · refine own_st (fun t k => XS.ifYes X0.here hx rfl (pc0 := 5) (pc' := 14) rfl (hb hby d1_5) rfl ((if0 _ _).trans (feq hc5_1).2) (by decide) (by decide) k) ?_
    show own_Fin _ _ _ _ _ _ _ (s₁.setTop (mkF m 14 #[.val (.long q1), .second, .val (.int p2), .val (.int (p2 &&& (3 : Int32)))] []))
    refine own_st (fun t k => XS.iloadN X0.here hx rfl (hb hby d1_14) rfl k) ?_
    show own_Fin _ _ _ _ _ _ _ (s₁.setTop (mkF m 15 #[.val (.long q1), .second, .val (.int p2), .val (.int (p2 &&& (3 : Int32)))] [(.int (p2 &&& (3 : Int32)))]))
    refine own_st (fun t k => XS.iconst X0.here hx rfl (hb hby d1_15) k) ?_
    show own_Fin _ _ _ _ _ _ _ (s₁.setTop (mkF m 16 #[.val (.long q1), .second, .val (.int p2), .val (.int (p2 &&& (3 : Int32)))] [(.int (1 : Int32)), (.int (p2 &&& (3 : Int32)))]))
    by_cases hc16_2 : (p2 &&& (3 : Int32)) = (1 : Int32)
    · refine own_st (fun t k => XS.icmpNo X0.here hx rfl (hb hby d1_16) rfl (teq hc16_2).2 k) ?_
      show own_Fin _ _ _ _ _ _ _ (s₁.setTop (mkF m 19 #[.val (.long q1), .second, .val (.int p2), .val (.int (p2 &&& (3 : Int32)))] []))
      refine own_st (X0.ldc2Long hx hown (mvT hZ (hw _ (List.mem_of_getElem? (i := 11) rfl))) (g := (mkF m 19 #[.val (.long q1), .second, .val (.int p2), .val (.int (p2 &&& (3 : Int32)))] [])) rfl (hb hby d1_19)) ?_
      show own_Fin _ _ _ _ _ _ _ (s₁.setTop (mkF m 22 #[.val (.long q1), .second, .val (.int p2), .val (.int (p2 &&& (3 : Int32)))] [(.long (2592000 : Int64))]))
      refine own_st (fun t k => XS.lloadN X0.here hx rfl (hb hby d1_22) rfl k) ?_
      show own_Fin _ _ _ _ _ _ _ (s₁.setTop (mkF m 23 #[.val (.long q1), .second, .val (.int p2), .val (.int (p2 &&& (3 : Int32)))] [(.long q1), (.long (2592000 : Int64))]))
      refine own_st (X0.ldc2Long hx hown (mvT hZ (hw _ (List.mem_of_getElem? (i := 14) rfl))) (g := (mkF m 23 #[.val (.long q1), .second, .val (.int p2), .val (.int (p2 &&& (3 : Int32)))] [(.long q1), (.long (2592000 : Int64))])) rfl (hb hby d1_23)) ?_
      show own_Fin _ _ _ _ _ _ _ (s₁.setTop (mkF m 26 #[.val (.long q1), .second, .val (.int p2), .val (.int (p2 &&& (3 : Int32)))] [(.long (7 : Int64)), (.long q1), (.long (2592000 : Int64))]))
      refine own_st (fun t k => XS.land X0.here hx rfl (hb hby d1_26) rfl k) ?_
      show own_Fin _ _ _ _ _ _ _ (s₁.setTop (mkF m 27 #[.val (.long q1), .second, .val (.int p2), .val (.int (p2 &&& (3 : Int32)))] [(.long (q1 &&& (7 : Int64))), (.long (2592000 : Int64))]))
      refine own_st (X0.ldc2Long hx hown (mvT hZ (hw _ (List.mem_of_getElem? (i := 15) rfl))) (g := (mkF m 27 #[.val (.long q1), .second, .val (.int p2), .val (.int (p2 &&& (3 : Int32)))] [(.long (q1 &&& (7 : Int64))), (.long (2592000 : Int64))])) rfl (hb hby d1_27)) ?_
      show own_Fin _ _ _ _ _ _ _ (s₁.setTop (mkF m 30 #[.val (.long q1), .second, .val (.int p2), .val (.int (p2 &&& (3 : Int32)))] [(.long (4 : Int64)), (.long (q1 &&& (7 : Int64))), (.long (2592000 : Int64))]))
      refine own_st (fun t k => XS.lsub X0.here hx rfl (hb hby d1_30) rfl k) ?_
      show own_Fin _ _ _ _ _ _ _ (s₁.setTop (mkF m 31 #[.val (.long q1), .second, .val (.int p2), .val (.int (p2 &&& (3 : Int32)))] [(.long ((q1 &&& (7 : Int64)) - (4 : Int64))), (.long (2592000 : Int64))]))
      refine own_st (fun t k => XS.ladd X0.here hx rfl (hb hby d1_31) rfl k) ?_
      show own_Fin _ _ _ _ _ _ _ (s₁.setTop (mkF m 32 #[.val (.long q1), .second, .val (.int p2), .val (.int (p2 &&& (3 : Int32)))] [(.long ((2592000 : Int64) + ((q1 &&& (7 : Int64)) - (4 : Int64))))]))
      have hv : own_F1 q1 p2 = ((2592000 : Int64) + ((q1 &&& (7 : Int64)) - (4 : Int64))) := by unfold own_F1; rw [if_neg hc5_1, if_pos hc16_2]
      exact own_retJ X0 hx Bd.notSynchronized Bd.returns (hb hby d1_32) (by decide) (by decide) ⟨congrArg (fun z => some (Value.long z)) hv.symm, N0, e0⟩
    · refine own_st (fun t k => XS.icmpYes X0.here hx rfl (pc0 := 16) (pc' := 33) rfl (hb hby d1_16) rfl (feq hc16_2).2 (by decide) (by decide) k) ?_
      show own_Fin _ _ _ _ _ _ _ (s₁.setTop (mkF m 33 #[.val (.long q1), .second, .val (.int p2), .val (.int (p2 &&& (3 : Int32)))] []))
      refine own_st (fun t k => XS.iloadN X0.here hx rfl (hb hby d1_33) rfl k) ?_
      show own_Fin _ _ _ _ _ _ _ (s₁.setTop (mkF m 34 #[.val (.long q1), .second, .val (.int p2), .val (.int (p2 &&& (3 : Int32)))] [(.int (p2 &&& (3 : Int32)))]))
      refine own_st (fun t k => XS.iconst X0.here hx rfl (hb hby d1_34) k) ?_
      show own_Fin _ _ _ _ _ _ _ (s₁.setTop (mkF m 35 #[.val (.long q1), .second, .val (.int p2), .val (.int (p2 &&& (3 : Int32)))] [(.int (2 : Int32)), (.int (p2 &&& (3 : Int32)))]))
      by_cases hc35_3 : (p2 &&& (3 : Int32)) = (2 : Int32)
      · refine own_st (fun t k => XS.icmpNo X0.here hx rfl (hb hby d1_35) rfl (teq hc35_3).2 k) ?_
        show own_Fin _ _ _ _ _ _ _ (s₁.setTop (mkF m 38 #[.val (.long q1), .second, .val (.int p2), .val (.int (p2 &&& (3 : Int32)))] []))
        refine own_st (fun t k => XS.lloadN X0.here hx rfl (hb hby d1_38) rfl k) ?_
        show own_Fin _ _ _ _ _ _ _ (s₁.setTop (mkF m 39 #[.val (.long q1), .second, .val (.int p2), .val (.int (p2 &&& (3 : Int32)))] [(.long q1)]))
        refine own_st (X0.ldc2Long hx hown (mvT hZ (hw _ (List.mem_of_getElem? (i := 13) rfl))) (g := (mkF m 39 #[.val (.long q1), .second, .val (.int p2), .val (.int (p2 &&& (3 : Int32)))] [(.long q1)])) rfl (hb hby d1_39)) ?_
        show own_Fin _ _ _ _ _ _ _ (s₁.setTop (mkF m 42 #[.val (.long q1), .second, .val (.int p2), .val (.int (p2 &&& (3 : Int32)))] [(.long (3 : Int64)), (.long q1)]))
        refine own_st (fun t k => XS.land X0.here hx rfl (hb hby d1_42) rfl k) ?_
        show own_Fin _ _ _ _ _ _ _ (s₁.setTop (mkF m 43 #[.val (.long q1), .second, .val (.int p2), .val (.int (p2 &&& (3 : Int32)))] [(.long (q1 &&& (3 : Int64)))]))
        have hv : own_F1 q1 p2 = (q1 &&& (3 : Int64)) := by unfold own_F1; rw [if_neg hc5_1, if_neg hc16_2, if_pos hc35_3]
        exact own_retJ X0 hx Bd.notSynchronized Bd.returns (hb hby d1_43) (by decide) (by decide) ⟨congrArg (fun z => some (Value.long z)) hv.symm, N0, e0⟩
      · refine own_st (fun t k => XS.icmpYes X0.here hx rfl (pc0 := 35) (pc' := 44) rfl (hb hby d1_35) rfl (feq hc35_3).2 (by decide) (by decide) k) ?_
        show own_Fin _ _ _ _ _ _ _ (s₁.setTop (mkF m 44 #[.val (.long q1), .second, .val (.int p2), .val (.int (p2 &&& (3 : Int32)))] []))
        refine own_st (X0.ldc2Long hx hown (mvT hZ (hw _ (List.mem_of_getElem? (i := 4) rfl))) (g := (mkF m 44 #[.val (.long q1), .second, .val (.int p2), .val (.int (p2 &&& (3 : Int32)))] [])) rfl (hb hby d1_44)) ?_
        show own_Fin _ _ _ _ _ _ _ (s₁.setTop (mkF m 47 #[.val (.long q1), .second, .val (.int p2), .val (.int (p2 &&& (3 : Int32)))] [(.long (4294967295 : Int64))]))
        refine own_st (fun t k => XS.lloadN X0.here hx rfl (hb hby d1_47) rfl k) ?_
        show own_Fin _ _ _ _ _ _ _ (s₁.setTop (mkF m 48 #[.val (.long q1), .second, .val (.int p2), .val (.int (p2 &&& (3 : Int32)))] [(.long q1), (.long (4294967295 : Int64))]))
        refine own_st (X0.ldc2Long hx hown (mvT hZ (hw _ (List.mem_of_getElem? (i := 13) rfl))) (g := (mkF m 48 #[.val (.long q1), .second, .val (.int p2), .val (.int (p2 &&& (3 : Int32)))] [(.long q1), (.long (4294967295 : Int64))])) rfl (hb hby d1_48)) ?_
        show own_Fin _ _ _ _ _ _ _ (s₁.setTop (mkF m 51 #[.val (.long q1), .second, .val (.int p2), .val (.int (p2 &&& (3 : Int32)))] [(.long (3 : Int64)), (.long q1), (.long (4294967295 : Int64))]))
        refine own_st (fun t k => XS.land X0.here hx rfl (hb hby d1_51) rfl k) ?_
        show own_Fin _ _ _ _ _ _ _ (s₁.setTop (mkF m 52 #[.val (.long q1), .second, .val (.int p2), .val (.int (p2 &&& (3 : Int32)))] [(.long (q1 &&& (3 : Int64))), (.long (4294967295 : Int64))]))
        refine own_st (fun t k => XS.lsub X0.here hx rfl (hb hby d1_52) rfl k) ?_
        show own_Fin _ _ _ _ _ _ _ (s₁.setTop (mkF m 53 #[.val (.long q1), .second, .val (.int p2), .val (.int (p2 &&& (3 : Int32)))] [(.long ((4294967295 : Int64) - (q1 &&& (3 : Int64))))]))
        have hv : own_F1 q1 p2 = ((4294967295 : Int64) - (q1 &&& (3 : Int64))) := by unfold own_F1; rw [if_neg hc5_1, if_neg hc16_2, if_neg hc35_3]
        exact own_retJ X0 hx Bd.notSynchronized Bd.returns (hb hby d1_53) (by decide) (by decide) ⟨congrArg (fun z => some (Value.long z)) hv.symm, N0, e0⟩
theorem d2_0 : decode prog_31_method_2_code 0 = .ok (.lload_n 0, 1) := by decide +kernel
theorem d2_1 : decode prog_31_method_2_code 1 = .ok (.lconst 0, 1) := by decide +kernel
theorem d2_2 : decode prog_31_method_2_code 2 = .ok (.lcmp, 1) := by decide +kernel
theorem d2_3 : decode prog_31_method_2_code 3 = .ok (.ifCond .ne 5, 3) := by decide +kernel
theorem d2_6 : decode prog_31_method_2_code 6 = .ok (.lconst 0, 1) := by decide +kernel
theorem d2_7 : decode prog_31_method_2_code 7 = .ok (.lreturn, 1) := by decide +kernel
theorem d2_8 : decode prog_31_method_2_code 8 = .ok (.lload_n 0, 1) := by decide +kernel
theorem d2_9 : decode prog_31_method_2_code 9 = .ok (.ldc2_w 9, 3) := by decide +kernel
theorem d2_12 : decode prog_31_method_2_code 12 = .ok (.lcmp, 1) := by decide +kernel
theorem d2_13 : decode prog_31_method_2_code 13 = .ok (.ifCond .gt 13, 3) := by decide +kernel
theorem d2_16 : decode prog_31_method_2_code 16 = .ok (.lload_n 2, 1) := by decide +kernel
theorem d2_17 : decode prog_31_method_2_code 17 = .ok (.lload_n 0, 1) := by decide +kernel
theorem d2_18 : decode prog_31_method_2_code 18 = .ok (.ldc2_w 11, 3) := by decide +kernel
theorem d2_21 : decode prog_31_method_2_code 21 = .ok (.lmul, 1) := by decide +kernel
theorem d2_22 : decode prog_31_method_2_code 22 = .ok (.ladd, 1) := by decide +kernel
theorem d2_23 : decode prog_31_method_2_code 23 = .ok (.goto 8, 3) := by decide +kernel
theorem d2_26 : decode prog_31_method_2_code 26 = .ok (.lload_n 0, 1) := by decide +kernel
theorem d2_27 : decode prog_31_method_2_code 27 = .ok (.ldc2_w 11, 3) := by decide +kernel
theorem d2_30 : decode prog_31_method_2_code 30 = .ok (.lmul, 1) := by decide +kernel
theorem d2_31 : decode prog_31_method_2_code 31 = .ok (.lreturn, 1) := by decide +kernel
theorem pn_2 : plainFor (⟨"com/example/anchorwatch/anchorwatch/protocol/Expiry", "at", "(JJ)J"⟩ : MethodName) = true := plainFor_of_name (x := (⟨"com/example/anchorwatch/anchorwatch/protocol/Expiry", "at", "(JJ)J"⟩ : MethodName)) (by first | (simp [plainName, overriddenIn]; done) | decide +kernel)
theorem ef_2 (m : MethodId) (q1 : Int64) (q2 : Int64) : entryFrame m #[(.long q1), (.long q2)] 4 = mkF m 0 #[.val (.long q1), .second, .val (.long q2), .second] [] := by first | (simp [entryFrame, mkF, argsToLocals, Value.category]; done) | rfl
def own_F2 (q1 : Int64) (q2 : Int64) : Int64 := (if q1 = (0 : Int64) then (0 : Int64) else (if (2592000 : Int64) < q1 then (q1 * (1000 : Int64)) else (q2 + (q1 * (1000 : Int64)))))
def own_Q2 (q1 : Int64) (q2 : Int64) (h0 : Heap) (n0 : Nat) (v : Option Value) (h : Heap) (L : List Loc) : Prop := v = some (.long (own_F2 q1 q2)) ∧ Fr n0 L ∧ h = h0
set_option maxRecDepth 65536 in
set_option maxHeartbeats 40000000 in
theorem rm2 (l : Launch) (Z : State) (a0 : Array Value) (hw : ∀ d ∈ tables_1, d.before a0 Z = true) (ws : List Jvm.Cond) (q1 : Int64) (q2 : Int64) (h0 : Heap) (n0 : Nat) (Z0 : n0 ≤ h0.size) :
    MetFree l (⟨"com/example/anchorwatch/anchorwatch/protocol/Expiry", "at", "(JJ)J"⟩ : MethodName) (head1 (Jvm.Cond.code (⟨"com/example/anchorwatch/anchorwatch/protocol/Expiry", "at", "(JJ)J"⟩ : MethodName) prog_31_method_2_code 4 (some .long) :: ws) ({ frames := 0, cells := 0, slots := 0, locals := 0 } : Room)) (fun a U => a = #[(.long q1), (.long q2)] ∧ Z.Warmed39 U.vm ∧ U.heap = h0) (fun _ _ _ _ _ => True) (fun _ U o U' => ∃ v L, o = .returned v ∧ own_Q2 q1 q2 h0 n0 v U'.heap L ∧ FrameEnd U o U' L ({ frames := 0, cells := 0, slots := 0, locals := 0 } : Room).cells ({ frames := 0, cells := 0, slots := 0, locals := 0 } : Room).slots) := by
  refine MetFree.of_bodySF pn_2 hisR ?_
  intro p e s m args below meth c s₁ Bd hml0 hP hK
  obtain ⟨rfl, hZ, hh⟩ := hP
  have hx := Bd.exec
  have hby := Bd.bytes
  have hml : c.maxLocals = 4 := hml0
  have hown : s.vm.findClass "com/example/anchorwatch/anchorwatch/protocol/Expiry" = some m.cls := findClass_of_methodNamed Bd.named
  have X0 : Stand p l e ({ frames := 0, cells := 0, slots := 0, locals := 0 } : Room) s m #[(.long q1), (.long q2)] below meth c s₁ [] 0 0 := Stand.of_body Bd
  have e0 : s₁.heap = h0 := by rw [← hh, Bd.state]; rfl
  have N0 := Fr.nil n0
  show own_Fin p.tables e below s (({ frames := 0, cells := 0, slots := 0, locals := 0 } : Room).cells) (({ frames := 0, cells := 0, slots := 0, locals := 0 } : Room).slots) (own_Q2 q1 q2 h0 n0) (s₁.setTop (entryFrame m #[(.long q1), (.long q2)] 4))
  rw [ef_2 m q1 q2]
  show own_Fin _ _ _ _ _ _ _ (s₁.setTop (mkF m 0 #[.val (.long q1), .second, .val (.long q2), .second] []))
  refine own_st (fun t k => XS.lloadN X0.here hx rfl (hb hby d2_0) rfl k) ?_
  show own_Fin _ _ _ _ _ _ _ (s₁.setTop (mkF m 1 #[.val (.long q1), .second, .val (.long q2), .second] [(.long q1)]))
  refine own_st (fun t k => XS.lconst X0.here hx rfl (hb hby d2_1) k) ?_
  show own_Fin _ _ _ _ _ _ _ (s₁.setTop (mkF m 2 #[.val (.long q1), .second, .val (.long q2), .second] [(.long (0 : Int64)), (.long q1)]))
  refine own_st (fun t k => XS.lcmp X0.here hx rfl (hb hby d2_2) rfl k) ?_
  show own_Fin _ _ _ _ _ _ _ (s₁.setTop (mkF m 3 #[.val (.long q1), .second, .val (.long q2), .second] [(.int (lcmpW q1 (0 : Int64)))]))
  by_cases hc3_1 : q1 = (0 : Int64)
  · refine own_st (fun t k => XS.ifNo X0.here hx rfl (hb hby d2_3) rfl (own_eqT hc3_1).2 k) ?_
    show own_Fin _ _ _ _ _ _ _ (s₁.setTop (mkF m 6 #[.val (.long q1), .second, .val (.long q2), .second] []))
    refine own_st (fun t k => XS.lconst X0.here hx rfl (hb hby d2_6) k) ?_
    show own_Fin _ _ _ _ _ _ _ (s₁.setTop (mkF m 7 #[.val (.long q1), .second, .val (.long q2), .second] [(.long (0 : Int64))]))
    have hv : own_F2 q1 q2 = (0 : Int64) := by unfold own_F2; rw [if_pos hc3_1]
    exact own_retJ X0 hx Bd.notSynchronized Bd.returns (hb hby d2_7) (by decide) (by decide) ⟨congrArg (fun z => some (Value.long z)) hv.symm, N0, e0⟩
  · refine own_st (fun t k => XS.ifYes X0.here hx rfl (pc0 := 3) (pc' := 8) rfl (hb hby d2_3) rfl (own_eqF hc3_1).2 (by decide) (by decide) k) ?_
    show own_Fin _ _ _ _ _ _ _ (s₁.setTop (mkF m 8 #[.val (.long q1), .second, .val (.long q2), .second] []))
    refine own_st (fun t k => XS.lloadN X0.here hx rfl (hb hby d2_8) rfl k) ?_
    show own_Fin _ _ _ _ _ _ _ (s₁.setTop (mkF m 9 #[.val (.long q1), .second, .val (.long q2), .second] [(.long q1)]))
    refine own_st (X0.ldc2Long hx hown (mvT hZ (hw _ (List.mem_of_getElem? (i := 9) rfl))) (g := (mkF m 9 #[.val (.long q1), .second, .val (.long q2), .second] [(.long q1)])) rfl (hb hby d2_9)) ?_
    show own_Fin _ _ _ _ _ _ _ (s₁.setTop (mkF m 12 #[.val (.long q1), .second, .val (.long q2), .second] [(.long (2592000 : Int64)), (.long q1)]))
    refine own_st (fun t k => XS.lcmp X0.here hx rfl (hb hby d2_12) rfl k) ?_
    show own_Fin _ _ _ _ _ _ _ (s₁.setTop (mkF m 13 #[.val (.long q1), .second, .val (.long q2), .second] [(.int (lcmpW q1 (2592000 : Int64)))]))
    by_cases hc13_2 : (2592000 : Int64) < q1
    · refine own_st (fun t k => XS.ifYes X0.here hx rfl (pc0 := 13) (pc' := 26) rfl (hb hby d2_13) rfl (own_gtT hc13_2).1 (by decide) (by decide) k) ?_
      show own_Fin _ _ _ _ _ _ _ (s₁.setTop (mkF m 26 #[.val (.long q1), .second, .val (.long q2), .second] []))
      refine own_st (fun t k => XS.lloadN X0.here hx rfl (hb hby d2_26) rfl k) ?_
      show own_Fin _ _ _ _ _ _ _ (s₁.setTop (mkF m 27 #[.val (.long q1), .second, .val (.long q2), .second] [(.long q1)]))
      refine own_st (X0.ldc2Long hx hown (mvT hZ (hw _ (List.mem_of_getElem? (i := 10) rfl))) (g := (mkF m 27 #[.val (.long q1), .second, .val (.long q2), .second] [(.long q1)])) rfl (hb hby d2_27)) ?_
      show own_Fin _ _ _ _ _ _ _ (s₁.setTop (mkF m 30 #[.val (.long q1), .second, .val (.long q2), .second] [(.long (1000 : Int64)), (.long q1)]))
      refine own_st (fun t k => XS.lmul X0.here hx rfl (hb hby d2_30) rfl k) ?_
      show own_Fin _ _ _ _ _ _ _ (s₁.setTop (mkF m 31 #[.val (.long q1), .second, .val (.long q2), .second] [(.long (q1 * (1000 : Int64)))]))
      have hv : own_F2 q1 q2 = (q1 * (1000 : Int64)) := by unfold own_F2; rw [if_neg hc3_1, if_pos hc13_2]
      exact own_retJ X0 hx Bd.notSynchronized Bd.returns (hb hby d2_31) (by decide) (by decide) ⟨congrArg (fun z => some (Value.long z)) hv.symm, N0, e0⟩
    · refine own_st (fun t k => XS.ifNo X0.here hx rfl (hb hby d2_13) rfl (own_gtF hc13_2).1 k) ?_
      show own_Fin _ _ _ _ _ _ _ (s₁.setTop (mkF m 16 #[.val (.long q1), .second, .val (.long q2), .second] []))
      refine own_st (fun t k => XS.lloadN X0.here hx rfl (hb hby d2_16) rfl k) ?_
      show own_Fin _ _ _ _ _ _ _ (s₁.setTop (mkF m 17 #[.val (.long q1), .second, .val (.long q2), .second] [(.long q2)]))
      refine own_st (fun t k => XS.lloadN X0.here hx rfl (hb hby d2_17) rfl k) ?_
      show own_Fin _ _ _ _ _ _ _ (s₁.setTop (mkF m 18 #[.val (.long q1), .second, .val (.long q2), .second] [(.long q1), (.long q2)]))
      refine own_st (X0.ldc2Long hx hown (mvT hZ (hw _ (List.mem_of_getElem? (i := 10) rfl))) (g := (mkF m 18 #[.val (.long q1), .second, .val (.long q2), .second] [(.long q1), (.long q2)])) rfl (hb hby d2_18)) ?_
      show own_Fin _ _ _ _ _ _ _ (s₁.setTop (mkF m 21 #[.val (.long q1), .second, .val (.long q2), .second] [(.long (1000 : Int64)), (.long q1), (.long q2)]))
      refine own_st (fun t k => XS.lmul X0.here hx rfl (hb hby d2_21) rfl k) ?_
      show own_Fin _ _ _ _ _ _ _ (s₁.setTop (mkF m 22 #[.val (.long q1), .second, .val (.long q2), .second] [(.long (q1 * (1000 : Int64))), (.long q2)]))
      refine own_st (fun t k => XS.ladd X0.here hx rfl (hb hby d2_22) rfl k) ?_
      show own_Fin _ _ _ _ _ _ _ (s₁.setTop (mkF m 23 #[.val (.long q1), .second, .val (.long q2), .second] [(.long (q2 + (q1 * (1000 : Int64))))]))
      refine own_st (fun t k => XS.goto X0.here hx rfl (pc0 := 23) (pc' := 31) rfl (hb hby d2_23) (by decide) (by decide) k) ?_
      show own_Fin _ _ _ _ _ _ _ (s₁.setTop (mkF m 31 #[.val (.long q1), .second, .val (.long q2), .second] [(.long (q2 + (q1 * (1000 : Int64))))]))
      have hv : own_F2 q1 q2 = (q2 + (q1 * (1000 : Int64))) := by unfold own_F2; rw [if_neg hc3_1, if_neg hc13_2]
      exact own_retJ X0 hx Bd.notSynchronized Bd.returns (hb hby d2_31) (by decide) (by decide) ⟨congrArg (fun z => some (Value.long z)) hv.symm, N0, e0⟩
theorem pn_0 : plainFor x = true := plainFor_of_name (x := x) (by first | (simp [plainName, overriddenIn]; done) | decide +kernel)
theorem pd_0_0 : parseMethodDescriptor "(JI)J" = some ⟨[.long, .int], some .long⟩ := by decide +kernel
theorem pd_0_1 : parseMethodDescriptor "(JJ)J" = some ⟨[.long, .long], some .long⟩ := by decide +kernel
theorem ef_0 (m : MethodId) (q1 : Int64) (q2 : Int64) (p3 : Int32) : entryFrame m #[(.long q1), (.long q2), (.int p3)] maxLocals = mkF m 0 #[.val (.long q1), .second, .val (.long q2), .second, .val (.int p3), .unset, .unset, .unset, .unset, .unset, .unset] [] := by first | (simp [entryFrame, mkF, argsToLocals, Value.category, maxLocals]; done) | rfl
def own_F0 (q1 : Int64) (q2 : Int64) (p3 : Int32) : Int32 := (if (own_F1 q1 p3) = (0 : Int64) then (if (own_F2 (own_F1 q1 p3) q2) = (0 : Int64) then (1 : Int32) else (0 : Int32)) else (if (2592000 : Int64) < (own_F1 q1 p3) then (if ((own_F2 (own_F1 q1 p3) q2) - ((own_F2 (own_F1 q1 p3) q2) / (1000 : Int64)) * (1000 : Int64)) = (0 : Int64) then (if ((own_F2 (own_F1 q1 p3) q2) / (1000 : Int64)) = (own_F1 q1 p3) then (1 : Int32) else (0 : Int32)) else (0 : Int32)) else (if (((own_F2 (own_F1 q1 p3) q2) - q2) - (((own_F2 (own_F1 q1 p3) q2) - q2) / (1000 : Int64)) * (1000 : Int64)) = (0 : Int64) then (if (((own_F2 (own_F1 q1 p3) q2) - q2) / (1000 : Int64)) = (own_F1 q1 p3) then (1 : Int32) else (0 : Int32)) else (0 : Int32))))
def own_Q0 (q1 : Int64) (q2 : Int64) (p3 : Int32) (h0 : Heap) (n0 : Nat) (v : Option Value) (h : Heap) (L : List Loc) : Prop := v = some (.int (own_F0 q1 q2 p3)) ∧ Fr n0 L ∧ h = h0
set_option maxRecDepth 65536 in
set_option maxHeartbeats 40000000 in
theorem rm0 (l : Launch) (Z : State) (a0 : Array Value) (hw : ∀ d ∈ tables_1, d.before a0 Z = true) (ws : List Jvm.Cond) (q1 : Int64) (q2 : Int64) (p3 : Int32) (h0 : Heap) (n0 : Nat) (Z0 : n0 ≤ h0.size) :
    MetFree l x (head1 (Jvm.Cond.code x code maxLocals ret :: ws) room_1) (fun a U => a = #[(.long q1), (.long q2), (.int p3)] ∧ Z.Warmed39 U.vm ∧ U.heap = h0) (fun _ _ _ _ _ => True) (fun _ U o U' => ∃ v L, o = .returned v ∧ own_Q0 q1 q2 p3 h0 n0 v U'.heap L ∧ FrameEnd U o U' L 0 0) := by
  refine MetFree.of_bodySF pn_0 hisR ?_
  intro p e s m args below meth c s₁ Bd hml0 hP hK
  obtain ⟨rfl, hZ, hh⟩ := hP
  have hx := Bd.exec
  have hby := Bd.bytes
  have hml : c.maxLocals = 11 := hml0
  have hown : s.vm.findClass "com/example/anchorwatch/anchorwatch/protocol/ExpiryAtPinLaw" = some m.cls := findClass_of_methodNamed Bd.named
  have X0 : Stand p l e room_1 s m #[(.long q1), (.long q2), (.int p3)] below meth c s₁ [] 0 0 := Stand.of_body Bd
  have e0 : s₁.heap = h0 := by rw [← hh, Bd.state]; rfl
  have N0 := Fr.nil n0
  show own_Fin p.tables e below s (0) (0) (own_Q0 q1 q2 p3 h0 n0) (s₁.setTop (entryFrame m #[(.long q1), (.long q2), (.int p3)] maxLocals))
  rw [ef_0 m q1 q2 p3]
  show own_Fin _ _ _ _ _ _ _ (s₁.setTop (mkF m 0 #[.val (.long q1), .second, .val (.long q2), .second, .val (.int p3), .unset, .unset, .unset, .unset, .unset, .unset] []))
  refine own_st (fun t k => XS.lloadN X0.here hx rfl (hb hby at_0) rfl k) ?_
  show own_Fin _ _ _ _ _ _ _ (s₁.setTop (mkF m 1 #[.val (.long q1), .second, .val (.long q2), .second, .val (.int p3), .unset, .unset, .unset, .unset, .unset, .unset] [(.long q1)]))
  refine own_st (fun t k => XS.iload X0.here hx rfl (hb hby at_1) rfl k) ?_
  show own_Fin _ _ _ _ _ _ _ (s₁.setTop (mkF m 3 #[.val (.long q1), .second, .val (.long q2), .second, .val (.int p3), .unset, .unset, .unset, .unset, .unset, .unset] [(.int p3), (.long q1)]))
  obtain ⟨_, _, ⟨T1, L1, k1, n1⟩, -, X1, ⟨Lc1, hQ1, l1, y1, z1⟩, st1⟩ := Jvm.LawKit.callS X0 hx (y := (⟨"com/example/anchorwatch/anchorwatch/protocol/ExpiryAtPinLaw", "pickField", "(JI)J"⟩ : MethodName)) hown (mvT hZ (hw _ (List.mem_of_getElem? (i := 0) rfl))) (mvT hZ (hw _ (List.mem_of_getElem? (i := 1) rfl))) (mvT hZ (hw _ (List.mem_of_getElem? (i := 2) rfl))) (mvT hZ (hw _ (List.mem_of_getElem? (i := 3) rfl))) (by decide) (backOf (W := 0) (rm1 l Z a0 hw [] q1 p3 h0 n0 Z0) hZ (hw _ (List.mem_of_getElem? (i := 3) rfl)) (hw _ (List.mem_of_getElem? (i := 2) rfl)) (by decide) (by decide)) (g := (mkF m 3 #[.val (.long q1), .second, .val (.long q2), .second, .val (.int p3), .unset, .unset, .unset, .unset, .unset, .unset] [(.int p3), (.long q1)])) rfl (by rw [hml]; rfl) (argsL := [(.long q1), (.int p3)]) (rest := []) (lenOf pd_0_0 rfl) rfl (by show 2 * 0 + _ ≤ _; exact Nat.le_of_eq rfl) (hb hby at_3) (fun _ _ => ⟨rfl, e0, (by decide : 0 + 0 ≤ _), (by decide : 0 + 0 ≤ _)⟩)
  dsimp only [Pt.U, Pt.locs, Pt.cells, Pt.slots] at X1 l1 y1 z1 st1 hQ1
  subst l1 y1 z1
  obtain ⟨rfl, N1q, e1⟩ := hQ1
  have N1 := Fr.app N0 N1q
  refine own_st st1 ?_
  show own_Fin _ _ _ _ _ _ _ (T1.setTop (mkF m 6 #[.val (.long q1), .second, .val (.long q2), .second, .val (.int p3), .unset, .unset, .unset, .unset, .unset, .unset] [(.long (own_F1 q1 p3))]))
  refine own_st (fun t k => XS.lstore X1.here hx rfl (hb hby at_6) rfl (l' := #[.val (.long q1), .second, .val (.long q2), .second, .val (.int p3), .val (.long (own_F1 q1 p3)), .second, .unset, .unset, .unset, .unset]) rfl k) ?_
  show own_Fin _ _ _ _ _ _ _ (T1.setTop (mkF m 8 #[.val (.long q1), .second, .val (.long q2), .second, .val (.int p3), .val (.long (own_F1 q1 p3)), .second, .unset, .unset, .unset, .unset] []))
  refine own_st (fun t k => XS.lload X1.here hx rfl (hb hby at_8) rfl k) ?_
  show own_Fin _ _ _ _ _ _ _ (T1.setTop (mkF m 10 #[.val (.long q1), .second, .val (.long q2), .second, .val (.int p3), .val (.long (own_F1 q1 p3)), .second, .unset, .unset, .unset, .unset] [(.long (own_F1 q1 p3))]))
  refine own_st (fun t k => XS.lloadN X1.here hx rfl (hb hby at_10) rfl k) ?_
  show own_Fin _ _ _ _ _ _ _ (T1.setTop (mkF m 11 #[.val (.long q1), .second, .val (.long q2), .second, .val (.int p3), .val (.long (own_F1 q1 p3)), .second, .unset, .unset, .unset, .unset] [(.long q2), (.long (own_F1 q1 p3))]))
  obtain ⟨_, _, ⟨T2, L2, k2, n2⟩, -, X2, ⟨Lc2, hQ2, l2, y2, z2⟩, st2⟩ := Jvm.LawKit.callS X1 hx (y := (⟨"com/example/anchorwatch/anchorwatch/protocol/Expiry", "at", "(JJ)J"⟩ : MethodName)) hown (mvT hZ (hw _ (List.mem_of_getElem? (i := 5) rfl))) (mvT hZ (hw _ (List.mem_of_getElem? (i := 6) rfl))) (mvT hZ (hw _ (List.mem_of_getElem? (i := 7) rfl))) (mvT hZ (hw _ (List.mem_of_getElem? (i := 8) rfl))) (by decide) (backOf (W := 0) (rm2 l Z a0 hw [] (own_F1 q1 p3) q2 h0 n0 Z0) hZ (hw _ (List.mem_of_getElem? (i := 8) rfl)) (hw _ (List.mem_of_getElem? (i := 7) rfl)) (by decide) (by decide)) (g := (mkF m 11 #[.val (.long q1), .second, .val (.long q2), .second, .val (.int p3), .val (.long (own_F1 q1 p3)), .second, .unset, .unset, .unset, .unset] [(.long q2), (.long (own_F1 q1 p3))])) rfl (by rw [hml]; rfl) (argsL := [(.long (own_F1 q1 p3)), (.long q2)]) (rest := []) (lenOf pd_0_1 rfl) rfl (by show 2 * 0 + _ ≤ _; exact Nat.le_of_eq rfl) (hb hby at_11) (fun _ _ => ⟨rfl, e1, (by decide : 0 + 0 ≤ _), (by decide : 0 + 0 ≤ _)⟩)
  dsimp only [Pt.U, Pt.locs, Pt.cells, Pt.slots] at X2 l2 y2 z2 st2 hQ2
  subst l2 y2 z2
  obtain ⟨rfl, N2q, e2⟩ := hQ2
  have N2 := Fr.app N1 N2q
  refine own_st st2 ?_
  show own_Fin _ _ _ _ _ _ _ (T2.setTop (mkF m 14 #[.val (.long q1), .second, .val (.long q2), .second, .val (.int p3), .val (.long (own_F1 q1 p3)), .second, .unset, .unset, .unset, .unset] [(.long (own_F2 (own_F1 q1 p3) q2))]))
  refine own_st (fun t k => XS.lstore X2.here hx rfl (hb hby at_14) rfl (l' := #[.val (.long q1), .second, .val (.long q2), .second, .val (.int p3), .val (.long (own_F1 q1 p3)), .second, .val (.long (own_F2 (own_F1 q1 p3) q2)), .second, .unset, .unset]) rfl k) ?_
  show own_Fin _ _ _ _ _ _ _ (T2.setTop (mkF m 16 #[.val (.long q1), .second, .val (.long q2), .second, .val (.int p3), .val (.long (own_F1 q1 p3)), .second, .val (.long (own_F2 (own_F1 q1 p3) q2)), .second, .unset, .unset] []))
  refine own_st (fun t k => XS.lload X2.here hx rfl (hb hby at_16) rfl k) ?_
  show own_Fin _ _ _ _ _ _ _ (T2.setTop (mkF m 18 #[.val (.long q1), .second, .val (.long q2), .second, .val (.int p3), .val (.long (own_F1 q1 p3)), .second, .val (.long (own_F2 (own_F1 q1 p3) q2)), .second, .unset, .unset] [(.long (own_F1 q1 p3))]))
  refine own_st (fun t k => XS.lconst X2.here hx rfl (hb hby at_18) k) ?_
  show own_Fin _ _ _ _ _ _ _ (T2.setTop (mkF m 19 #[.val (.long q1), .second, .val (.long q2), .second, .val (.int p3), .val (.long (own_F1 q1 p3)), .second, .val (.long (own_F2 (own_F1 q1 p3) q2)), .second, .unset, .unset] [(.long (0 : Int64)), (.long (own_F1 q1 p3))]))
  refine own_st (fun t k => XS.lcmp X2.here hx rfl (hb hby at_19) rfl k) ?_
  show own_Fin _ _ _ _ _ _ _ (T2.setTop (mkF m 20 #[.val (.long q1), .second, .val (.long q2), .second, .val (.int p3), .val (.long (own_F1 q1 p3)), .second, .val (.long (own_F2 (own_F1 q1 p3) q2)), .second, .unset, .unset] [(.int (lcmpW (own_F1 q1 p3) (0 : Int64)))]))
  by_cases hc20_3 : (own_F1 q1 p3) = (0 : Int64)
  · refine own_st (fun t k => XS.ifNo X2.here hx rfl (hb hby at_20) rfl (own_eqT hc20_3).2 k) ?_
    show own_Fin _ _ _ _ _ _ _ (T2.setTop (mkF m 23 #[.val (.long q1), .second, .val (.long q2), .second, .val (.int p3), .val (.long (own_F1 q1 p3)), .second, .val (.long (own_F2 (own_F1 q1 p3) q2)), .second, .unset, .unset] []))
    refine own_st (fun t k => XS.lload X2.here hx rfl (hb hby at_23) rfl k) ?_
    show own_Fin _ _ _ _ _ _ _ (T2.setTop (mkF m 25 #[.val (.long q1), .second, .val (.long q2), .second, .val (.int p3), .val (.long (own_F1 q1 p3)), .second, .val (.long (own_F2 (own_F1 q1 p3) q2)), .second, .unset, .unset] [(.long (own_F2 (own_F1 q1 p3) q2))]))
    refine own_st (fun t k => XS.lconst X2.here hx rfl (hb hby at_25) k) ?_
    show own_Fin _ _ _ _ _ _ _ (T2.setTop (mkF m 26 #[.val (.long q1), .second, .val (.long q2), .second, .val (.int p3), .val (.long (own_F1 q1 p3)), .second, .val (.long (own_F2 (own_F1 q1 p3) q2)), .second, .unset, .unset] [(.long (0 : Int64)), (.long (own_F2 (own_F1 q1 p3) q2))]))
    refine own_st (fun t k => XS.lcmp X2.here hx rfl (hb hby at_26) rfl k) ?_
    show own_Fin _ _ _ _ _ _ _ (T2.setTop (mkF m 27 #[.val (.long q1), .second, .val (.long q2), .second, .val (.int p3), .val (.long (own_F1 q1 p3)), .second, .val (.long (own_F2 (own_F1 q1 p3) q2)), .second, .unset, .unset] [(.int (lcmpW (own_F2 (own_F1 q1 p3) q2) (0 : Int64)))]))
    by_cases hc27_4 : (own_F2 (own_F1 q1 p3) q2) = (0 : Int64)
    · refine own_st (fun t k => XS.ifNo X2.here hx rfl (hb hby at_27) rfl (own_eqT hc27_4).2 k) ?_
      show own_Fin _ _ _ _ _ _ _ (T2.setTop (mkF m 30 #[.val (.long q1), .second, .val (.long q2), .second, .val (.int p3), .val (.long (own_F1 q1 p3)), .second, .val (.long (own_F2 (own_F1 q1 p3) q2)), .second, .unset, .unset] []))
      refine own_st (fun t k => XS.iconst X2.here hx rfl (hb hby at_30) k) ?_
      show own_Fin _ _ _ _ _ _ _ (T2.setTop (mkF m 31 #[.val (.long q1), .second, .val (.long q2), .second, .val (.int p3), .val (.long (own_F1 q1 p3)), .second, .val (.long (own_F2 (own_F1 q1 p3) q2)), .second, .unset, .unset] [(.int (1 : Int32))]))
      refine own_st (fun t k => XS.goto X2.here hx rfl (pc0 := 31) (pc' := 35) rfl (hb hby at_31) (by decide) (by decide) k) ?_
      show own_Fin _ _ _ _ _ _ _ (T2.setTop (mkF m 35 #[.val (.long q1), .second, .val (.long q2), .second, .val (.int p3), .val (.long (own_F1 q1 p3)), .second, .val (.long (own_F2 (own_F1 q1 p3) q2)), .second, .unset, .unset] [(.int (1 : Int32))]))
      have hv : own_F0 q1 q2 p3 = (1 : Int32) := by unfold own_F0; rw [if_pos hc20_3, if_pos hc27_4]
      exact own_retN X2 hx Bd.notSynchronized (t := .boolean) Bd.returns (by simp) (hb hby at_35) (by decide) (by decide) ⟨congrArg (fun z => some (Value.int z)) hv.symm, N2, e2⟩
    · refine own_st (fun t k => XS.ifYes X2.here hx rfl (pc0 := 27) (pc' := 34) rfl (hb hby at_27) rfl (own_eqF hc27_4).2 (by decide) (by decide) k) ?_
      show own_Fin _ _ _ _ _ _ _ (T2.setTop (mkF m 34 #[.val (.long q1), .second, .val (.long q2), .second, .val (.int p3), .val (.long (own_F1 q1 p3)), .second, .val (.long (own_F2 (own_F1 q1 p3) q2)), .second, .unset, .unset] []))
      refine own_st (fun t k => XS.iconst X2.here hx rfl (hb hby at_34) k) ?_
      show own_Fin _ _ _ _ _ _ _ (T2.setTop (mkF m 35 #[.val (.long q1), .second, .val (.long q2), .second, .val (.int p3), .val (.long (own_F1 q1 p3)), .second, .val (.long (own_F2 (own_F1 q1 p3) q2)), .second, .unset, .unset] [(.int (0 : Int32))]))
      have hv : own_F0 q1 q2 p3 = (0 : Int32) := by unfold own_F0; rw [if_pos hc20_3, if_neg hc27_4]
      exact own_retN X2 hx Bd.notSynchronized (t := .boolean) Bd.returns (by simp) (hb hby at_35) (by decide) (by decide) ⟨congrArg (fun z => some (Value.int z)) hv.symm, N2, e2⟩
  · refine own_st (fun t k => XS.ifYes X2.here hx rfl (pc0 := 20) (pc' := 36) rfl (hb hby at_20) rfl (own_eqF hc20_3).2 (by decide) (by decide) k) ?_
    show own_Fin _ _ _ _ _ _ _ (T2.setTop (mkF m 36 #[.val (.long q1), .second, .val (.long q2), .second, .val (.int p3), .val (.long (own_F1 q1 p3)), .second, .val (.long (own_F2 (own_F1 q1 p3) q2)), .second, .unset, .unset] []))
    refine own_st (fun t k => XS.lload X2.here hx rfl (hb hby at_36) rfl k) ?_
    show own_Fin _ _ _ _ _ _ _ (T2.setTop (mkF m 38 #[.val (.long q1), .second, .val (.long q2), .second, .val (.int p3), .val (.long (own_F1 q1 p3)), .second, .val (.long (own_F2 (own_F1 q1 p3) q2)), .second, .unset, .unset] [(.long (own_F1 q1 p3))]))
    refine own_st (X2.ldc2Long hx hown (mvT hZ (hw _ (List.mem_of_getElem? (i := 11) rfl))) (g := (mkF m 38 #[.val (.long q1), .second, .val (.long q2), .second, .val (.int p3), .val (.long (own_F1 q1 p3)), .second, .val (.long (own_F2 (own_F1 q1 p3) q2)), .second, .unset, .unset] [(.long (own_F1 q1 p3))])) rfl (hb hby at_38)) ?_
    show own_Fin _ _ _ _ _ _ _ (T2.setTop (mkF m 41 #[.val (.long q1), .second, .val (.long q2), .second, .val (.int p3), .val (.long (own_F1 q1 p3)), .second, .val (.long (own_F2 (own_F1 q1 p3) q2)), .second, .unset, .unset] [(.long (2592000 : Int64)), (.long (own_F1 q1 p3))]))
    refine own_st (fun t k => XS.lcmp X2.here hx rfl (hb hby at_41) rfl k) ?_
    show own_Fin _ _ _ _ _ _ _ (T2.setTop (mkF m 42 #[.val (.long q1), .second, .val (.long q2), .second, .val (.int p3), .val (.long (own_F1 q1 p3)), .second, .val (.long (own_F2 (own_F1 q1 p3) q2)), .second, .unset, .unset] [(.int (lcmpW (own_F1 q1 p3) (2592000 : Int64)))]))
    by_cases hc42_5 : (2592000 : Int64) < (own_F1 q1 p3)
    · refine own_st (fun t k => XS.ifYes X2.here hx rfl (pc0 := 42) (pc' := 80) rfl (hb hby at_42) rfl (own_gtT hc42_5).1 (by decide) (by decide) k) ?_
      show own_Fin _ _ _ _ _ _ _ (T2.setTop (mkF m 80 #[.val (.long q1), .second, .val (.long q2), .second, .val (.int p3), .val (.long (own_F1 q1 p3)), .second, .val (.long (own_F2 (own_F1 q1 p3) q2)), .second, .unset, .unset] []))
      refine own_st (fun t k => XS.lload X2.here hx rfl (hb hby at_80) rfl k) ?_
      show own_Fin _ _ _ _ _ _ _ (T2.setTop (mkF m 82 #[.val (.long q1), .second, .val (.long q2), .second, .val (.int p3), .val (.long (own_F1 q1 p3)), .second, .val (.long (own_F2 (own_F1 q1 p3) q2)), .second, .unset, .unset] [(.long (own_F2 (own_F1 q1 p3) q2))]))
      refine own_st (X2.ldc2Long hx hown (mvT hZ (hw _ (List.mem_of_getElem? (i := 12) rfl))) (g := (mkF m 82 #[.val (.long q1), .second, .val (.long q2), .second, .val (.int p3), .val (.long (own_F1 q1 p3)), .second, .val (.long (own_F2 (own_F1 q1 p3) q2)), .second, .unset, .unset] [(.long (own_F2 (own_F1 q1 p3) q2))])) rfl (hb hby at_82)) ?_
      show own_Fin _ _ _ _ _ _ _ (T2.setTop (mkF m 85 #[.val (.long q1), .second, .val (.long q2), .second, .val (.int p3), .val (.long (own_F1 q1 p3)), .second, .val (.long (own_F2 (own_F1 q1 p3) q2)), .second, .unset, .unset] [(.long (1000 : Int64)), (.long (own_F2 (own_F1 q1 p3) q2))]))
      refine own_st (fun t k => XS.lrem X2.here hx rfl (hb hby at_85) rfl (by decide) k) ?_
      show own_Fin _ _ _ _ _ _ _ (T2.setTop (mkF m 86 #[.val (.long q1), .second, .val (.long q2), .second, .val (.int p3), .val (.long (own_F1 q1 p3)), .second, .val (.long (own_F2 (own_F1 q1 p3) q2)), .second, .unset, .unset] [(.long ((own_F2 (own_F1 q1 p3) q2) - ((own_F2 (own_F1 q1 p3) q2) / (1000 : Int64)) * (1000 : Int64)))]))
      refine own_st (fun t k => XS.lconst X2.here hx rfl (hb hby at_86) k) ?_
      show own_Fin _ _ _ _ _ _ _ (T2.setTop (mkF m 87 #[.val (.long q1), .second, .val (.long q2), .second, .val (.int p3), .val (.long (own_F1 q1 p3)), .second, .val (.long (own_F2 (own_F1 q1 p3) q2)), .second, .unset, .unset] [(.long (0 : Int64)), (.long ((own_F2 (own_F1 q1 p3) q2) - ((own_F2 (own_F1 q1 p3) q2) / (1000 : Int64)) * (1000 : Int64)))]))
      refine own_st (fun t k => XS.lcmp X2.here hx rfl (hb hby at_87) rfl k) ?_
      show own_Fin _ _ _ _ _ _ _ (T2.setTop (mkF m 88 #[.val (.long q1), .second, .val (.long q2), .second, .val (.int p3), .val (.long (own_F1 q1 p3)), .second, .val (.long (own_F2 (own_F1 q1 p3) q2)), .second, .unset, .unset] [(.int (lcmpW ((own_F2 (own_F1 q1 p3) q2) - ((own_F2 (own_F1 q1 p3) q2) / (1000 : Int64)) * (1000 : Int64)) (0 : Int64)))]))
      by_cases hc88_6 : ((own_F2 (own_F1 q1 p3) q2) - ((own_F2 (own_F1 q1 p3) q2) / (1000 : Int64)) * (1000 : Int64)) = (0 : Int64)
      · refine own_st (fun t k => XS.ifNo X2.here hx rfl (hb hby at_88) rfl (own_eqT hc88_6).2 k) ?_
        show own_Fin _ _ _ _ _ _ _ (T2.setTop (mkF m 91 #[.val (.long q1), .second, .val (.long q2), .second, .val (.int p3), .val (.long (own_F1 q1 p3)), .second, .val (.long (own_F2 (own_F1 q1 p3) q2)), .second, .unset, .unset] []))
        refine own_st (fun t k => XS.lload X2.here hx rfl (hb hby at_91) rfl k) ?_
        show own_Fin _ _ _ _ _ _ _ (T2.setTop (mkF m 93 #[.val (.long q1), .second, .val (.long q2), .second, .val (.int p3), .val (.long (own_F1 q1 p3)), .second, .val (.long (own_F2 (own_F1 q1 p3) q2)), .second, .unset, .unset] [(.long (own_F2 (own_F1 q1 p3) q2))]))
        refine own_st (X2.ldc2Long hx hown (mvT hZ (hw _ (List.mem_of_getElem? (i := 12) rfl))) (g := (mkF m 93 #[.val (.long q1), .second, .val (.long q2), .second, .val (.int p3), .val (.long (own_F1 q1 p3)), .second, .val (.long (own_F2 (own_F1 q1 p3) q2)), .second, .unset, .unset] [(.long (own_F2 (own_F1 q1 p3) q2))])) rfl (hb hby at_93)) ?_
        show own_Fin _ _ _ _ _ _ _ (T2.setTop (mkF m 96 #[.val (.long q1), .second, .val (.long q2), .second, .val (.int p3), .val (.long (own_F1 q1 p3)), .second, .val (.long (own_F2 (own_F1 q1 p3) q2)), .second, .unset, .unset] [(.long (1000 : Int64)), (.long (own_F2 (own_F1 q1 p3) q2))]))
        refine own_st (fun t k => XS.ldiv X2.here hx rfl (hb hby at_96) rfl (by decide) k) ?_
        show own_Fin _ _ _ _ _ _ _ (T2.setTop (mkF m 97 #[.val (.long q1), .second, .val (.long q2), .second, .val (.int p3), .val (.long (own_F1 q1 p3)), .second, .val (.long (own_F2 (own_F1 q1 p3) q2)), .second, .unset, .unset] [(.long ((own_F2 (own_F1 q1 p3) q2) / (1000 : Int64)))]))
        refine own_st (fun t k => XS.lload X2.here hx rfl (hb hby at_97) rfl k) ?_
        show own_Fin _ _ _ _ _ _ _ (T2.setTop (mkF m 99 #[.val (.long q1), .second, .val (.long q2), .second, .val (.int p3), .val (.long (own_F1 q1 p3)), .second, .val (.long (own_F2 (own_F1 q1 p3) q2)), .second, .unset, .unset] [(.long (own_F1 q1 p3)), (.long ((own_F2 (own_F1 q1 p3) q2) / (1000 : Int64)))]))
        refine own_st (fun t k => XS.lcmp X2.here hx rfl (hb hby at_99) rfl k) ?_
        show own_Fin _ _ _ _ _ _ _ (T2.setTop (mkF m 100 #[.val (.long q1), .second, .val (.long q2), .second, .val (.int p3), .val (.long (own_F1 q1 p3)), .second, .val (.long (own_F2 (own_F1 q1 p3) q2)), .second, .unset, .unset] [(.int (lcmpW ((own_F2 (own_F1 q1 p3) q2) / (1000 : Int64)) (own_F1 q1 p3)))]))
        by_cases hc100_7 : ((own_F2 (own_F1 q1 p3) q2) / (1000 : Int64)) = (own_F1 q1 p3)
        · refine own_st (fun t k => XS.ifNo X2.here hx rfl (hb hby at_100) rfl (own_eqT hc100_7).2 k) ?_
          show own_Fin _ _ _ _ _ _ _ (T2.setTop (mkF m 103 #[.val (.long q1), .second, .val (.long q2), .second, .val (.int p3), .val (.long (own_F1 q1 p3)), .second, .val (.long (own_F2 (own_F1 q1 p3) q2)), .second, .unset, .unset] []))
          refine own_st (fun t k => XS.iconst X2.here hx rfl (hb hby at_103) k) ?_
          show own_Fin _ _ _ _ _ _ _ (T2.setTop (mkF m 104 #[.val (.long q1), .second, .val (.long q2), .second, .val (.int p3), .val (.long (own_F1 q1 p3)), .second, .val (.long (own_F2 (own_F1 q1 p3) q2)), .second, .unset, .unset] [(.int (1 : Int32))]))
          refine own_st (fun t k => XS.goto X2.here hx rfl (pc0 := 104) (pc' := 108) rfl (hb hby at_104) (by decide) (by decide) k) ?_
          show own_Fin _ _ _ _ _ _ _ (T2.setTop (mkF m 108 #[.val (.long q1), .second, .val (.long q2), .second, .val (.int p3), .val (.long (own_F1 q1 p3)), .second, .val (.long (own_F2 (own_F1 q1 p3) q2)), .second, .unset, .unset] [(.int (1 : Int32))]))
          have hv : own_F0 q1 q2 p3 = (1 : Int32) := by unfold own_F0; rw [if_neg hc20_3, if_pos hc42_5, if_pos hc88_6, if_pos hc100_7]
          exact own_retN X2 hx Bd.notSynchronized (t := .boolean) Bd.returns (by simp) (hb hby at_108) (by decide) (by decide) ⟨congrArg (fun z => some (Value.int z)) hv.symm, N2, e2⟩
        · refine own_st (fun t k => XS.ifYes X2.here hx rfl (pc0 := 100) (pc' := 107) rfl (hb hby at_100) rfl (own_eqF hc100_7).2 (by decide) (by decide) k) ?_
          show own_Fin _ _ _ _ _ _ _ (T2.setTop (mkF m 107 #[.val (.long q1), .second, .val (.long q2), .second, .val (.int p3), .val (.long (own_F1 q1 p3)), .second, .val (.long (own_F2 (own_F1 q1 p3) q2)), .second, .unset, .unset] []))
          refine own_st (fun t k => XS.iconst X2.here hx rfl (hb hby at_107) k) ?_
          show own_Fin _ _ _ _ _ _ _ (T2.setTop (mkF m 108 #[.val (.long q1), .second, .val (.long q2), .second, .val (.int p3), .val (.long (own_F1 q1 p3)), .second, .val (.long (own_F2 (own_F1 q1 p3) q2)), .second, .unset, .unset] [(.int (0 : Int32))]))
          have hv : own_F0 q1 q2 p3 = (0 : Int32) := by unfold own_F0; rw [if_neg hc20_3, if_pos hc42_5, if_pos hc88_6, if_neg hc100_7]
          exact own_retN X2 hx Bd.notSynchronized (t := .boolean) Bd.returns (by simp) (hb hby at_108) (by decide) (by decide) ⟨congrArg (fun z => some (Value.int z)) hv.symm, N2, e2⟩
      · refine own_st (fun t k => XS.ifYes X2.here hx rfl (pc0 := 88) (pc' := 107) rfl (hb hby at_88) rfl (own_eqF hc88_6).2 (by decide) (by decide) k) ?_
        show own_Fin _ _ _ _ _ _ _ (T2.setTop (mkF m 107 #[.val (.long q1), .second, .val (.long q2), .second, .val (.int p3), .val (.long (own_F1 q1 p3)), .second, .val (.long (own_F2 (own_F1 q1 p3) q2)), .second, .unset, .unset] []))
        refine own_st (fun t k => XS.iconst X2.here hx rfl (hb hby at_107) k) ?_
        show own_Fin _ _ _ _ _ _ _ (T2.setTop (mkF m 108 #[.val (.long q1), .second, .val (.long q2), .second, .val (.int p3), .val (.long (own_F1 q1 p3)), .second, .val (.long (own_F2 (own_F1 q1 p3) q2)), .second, .unset, .unset] [(.int (0 : Int32))]))
        have hv : own_F0 q1 q2 p3 = (0 : Int32) := by unfold own_F0; rw [if_neg hc20_3, if_pos hc42_5, if_neg hc88_6]
        exact own_retN X2 hx Bd.notSynchronized (t := .boolean) Bd.returns (by simp) (hb hby at_108) (by decide) (by decide) ⟨congrArg (fun z => some (Value.int z)) hv.symm, N2, e2⟩
    · refine own_st (fun t k => XS.ifNo X2.here hx rfl (hb hby at_42) rfl (own_gtF hc42_5).1 k) ?_
      show own_Fin _ _ _ _ _ _ _ (T2.setTop (mkF m 45 #[.val (.long q1), .second, .val (.long q2), .second, .val (.int p3), .val (.long (own_F1 q1 p3)), .second, .val (.long (own_F2 (own_F1 q1 p3) q2)), .second, .unset, .unset] []))
      refine own_st (fun t k => XS.lload X2.here hx rfl (hb hby at_45) rfl k) ?_
      show own_Fin _ _ _ _ _ _ _ (T2.setTop (mkF m 47 #[.val (.long q1), .second, .val (.long q2), .second, .val (.int p3), .val (.long (own_F1 q1 p3)), .second, .val (.long (own_F2 (own_F1 q1 p3) q2)), .second, .unset, .unset] [(.long (own_F2 (own_F1 q1 p3) q2))]))
      refine own_st (fun t k => XS.lloadN X2.here hx rfl (hb hby at_47) rfl k) ?_
      show own_Fin _ _ _ _ _ _ _ (T2.setTop (mkF m 48 #[.val (.long q1), .second, .val (.long q2), .second, .val (.int p3), .val (.long (own_F1 q1 p3)), .second, .val (.long (own_F2 (own_F1 q1 p3) q2)), .second, .unset, .unset] [(.long q2), (.long (own_F2 (own_F1 q1 p3) q2))]))
      refine own_st (fun t k => XS.lsub X2.here hx rfl (hb hby at_48) rfl k) ?_
      show own_Fin _ _ _ _ _ _ _ (T2.setTop (mkF m 49 #[.val (.long q1), .second, .val (.long q2), .second, .val (.int p3), .val (.long (own_F1 q1 p3)), .second, .val (.long (own_F2 (own_F1 q1 p3) q2)), .second, .unset, .unset] [(.long ((own_F2 (own_F1 q1 p3) q2) - q2))]))
      refine own_st (fun t k => XS.lstore X2.here hx rfl (hb hby at_49) rfl (l' := #[.val (.long q1), .second, .val (.long q2), .second, .val (.int p3), .val (.long (own_F1 q1 p3)), .second, .val (.long (own_F2 (own_F1 q1 p3) q2)), .second, .val (.long ((own_F2 (own_F1 q1 p3) q2) - q2)), .second]) rfl k) ?_
      show own_Fin _ _ _ _ _ _ _ (T2.setTop (mkF m 51 #[.val (.long q1), .second, .val (.long q2), .second, .val (.int p3), .val (.long (own_F1 q1 p3)), .second, .val (.long (own_F2 (own_F1 q1 p3) q2)), .second, .val (.long ((own_F2 (own_F1 q1 p3) q2) - q2)), .second] []))
      refine own_st (fun t k => XS.lload X2.here hx rfl (hb hby at_51) rfl k) ?_
      show own_Fin _ _ _ _ _ _ _ (T2.setTop (mkF m 53 #[.val (.long q1), .second, .val (.long q2), .second, .val (.int p3), .val (.long (own_F1 q1 p3)), .second, .val (.long (own_F2 (own_F1 q1 p3) q2)), .second, .val (.long ((own_F2 (own_F1 q1 p3) q2) - q2)), .second] [(.long ((own_F2 (own_F1 q1 p3) q2) - q2))]))
      refine own_st (X2.ldc2Long hx hown (mvT hZ (hw _ (List.mem_of_getElem? (i := 12) rfl))) (g := (mkF m 53 #[.val (.long q1), .second, .val (.long q2), .second, .val (.int p3), .val (.long (own_F1 q1 p3)), .second, .val (.long (own_F2 (own_F1 q1 p3) q2)), .second, .val (.long ((own_F2 (own_F1 q1 p3) q2) - q2)), .second] [(.long ((own_F2 (own_F1 q1 p3) q2) - q2))])) rfl (hb hby at_53)) ?_
      show own_Fin _ _ _ _ _ _ _ (T2.setTop (mkF m 56 #[.val (.long q1), .second, .val (.long q2), .second, .val (.int p3), .val (.long (own_F1 q1 p3)), .second, .val (.long (own_F2 (own_F1 q1 p3) q2)), .second, .val (.long ((own_F2 (own_F1 q1 p3) q2) - q2)), .second] [(.long (1000 : Int64)), (.long ((own_F2 (own_F1 q1 p3) q2) - q2))]))
      refine own_st (fun t k => XS.lrem X2.here hx rfl (hb hby at_56) rfl (by decide) k) ?_
      show own_Fin _ _ _ _ _ _ _ (T2.setTop (mkF m 57 #[.val (.long q1), .second, .val (.long q2), .second, .val (.int p3), .val (.long (own_F1 q1 p3)), .second, .val (.long (own_F2 (own_F1 q1 p3) q2)), .second, .val (.long ((own_F2 (own_F1 q1 p3) q2) - q2)), .second] [(.long (((own_F2 (own_F1 q1 p3) q2) - q2) - (((own_F2 (own_F1 q1 p3) q2) - q2) / (1000 : Int64)) * (1000 : Int64)))]))
      refine own_st (fun t k => XS.lconst X2.here hx rfl (hb hby at_57) k) ?_
      show own_Fin _ _ _ _ _ _ _ (T2.setTop (mkF m 58 #[.val (.long q1), .second, .val (.long q2), .second, .val (.int p3), .val (.long (own_F1 q1 p3)), .second, .val (.long (own_F2 (own_F1 q1 p3) q2)), .second, .val (.long ((own_F2 (own_F1 q1 p3) q2) - q2)), .second] [(.long (0 : Int64)), (.long (((own_F2 (own_F1 q1 p3) q2) - q2) - (((own_F2 (own_F1 q1 p3) q2) - q2) / (1000 : Int64)) * (1000 : Int64)))]))
      refine own_st (fun t k => XS.lcmp X2.here hx rfl (hb hby at_58) rfl k) ?_
      show own_Fin _ _ _ _ _ _ _ (T2.setTop (mkF m 59 #[.val (.long q1), .second, .val (.long q2), .second, .val (.int p3), .val (.long (own_F1 q1 p3)), .second, .val (.long (own_F2 (own_F1 q1 p3) q2)), .second, .val (.long ((own_F2 (own_F1 q1 p3) q2) - q2)), .second] [(.int (lcmpW (((own_F2 (own_F1 q1 p3) q2) - q2) - (((own_F2 (own_F1 q1 p3) q2) - q2) / (1000 : Int64)) * (1000 : Int64)) (0 : Int64)))]))
      by_cases hc59_8 : (((own_F2 (own_F1 q1 p3) q2) - q2) - (((own_F2 (own_F1 q1 p3) q2) - q2) / (1000 : Int64)) * (1000 : Int64)) = (0 : Int64)
      · refine own_st (fun t k => XS.ifNo X2.here hx rfl (hb hby at_59) rfl (own_eqT hc59_8).2 k) ?_
        show own_Fin _ _ _ _ _ _ _ (T2.setTop (mkF m 62 #[.val (.long q1), .second, .val (.long q2), .second, .val (.int p3), .val (.long (own_F1 q1 p3)), .second, .val (.long (own_F2 (own_F1 q1 p3) q2)), .second, .val (.long ((own_F2 (own_F1 q1 p3) q2) - q2)), .second] []))
        refine own_st (fun t k => XS.lload X2.here hx rfl (hb hby at_62) rfl k) ?_
        show own_Fin _ _ _ _ _ _ _ (T2.setTop (mkF m 64 #[.val (.long q1), .second, .val (.long q2), .second, .val (.int p3), .val (.long (own_F1 q1 p3)), .second, .val (.long (own_F2 (own_F1 q1 p3) q2)), .second, .val (.long ((own_F2 (own_F1 q1 p3) q2) - q2)), .second] [(.long ((own_F2 (own_F1 q1 p3) q2) - q2))]))
        refine own_st (X2.ldc2Long hx hown (mvT hZ (hw _ (List.mem_of_getElem? (i := 12) rfl))) (g := (mkF m 64 #[.val (.long q1), .second, .val (.long q2), .second, .val (.int p3), .val (.long (own_F1 q1 p3)), .second, .val (.long (own_F2 (own_F1 q1 p3) q2)), .second, .val (.long ((own_F2 (own_F1 q1 p3) q2) - q2)), .second] [(.long ((own_F2 (own_F1 q1 p3) q2) - q2))])) rfl (hb hby at_64)) ?_
        show own_Fin _ _ _ _ _ _ _ (T2.setTop (mkF m 67 #[.val (.long q1), .second, .val (.long q2), .second, .val (.int p3), .val (.long (own_F1 q1 p3)), .second, .val (.long (own_F2 (own_F1 q1 p3) q2)), .second, .val (.long ((own_F2 (own_F1 q1 p3) q2) - q2)), .second] [(.long (1000 : Int64)), (.long ((own_F2 (own_F1 q1 p3) q2) - q2))]))
        refine own_st (fun t k => XS.ldiv X2.here hx rfl (hb hby at_67) rfl (by decide) k) ?_
        show own_Fin _ _ _ _ _ _ _ (T2.setTop (mkF m 68 #[.val (.long q1), .second, .val (.long q2), .second, .val (.int p3), .val (.long (own_F1 q1 p3)), .second, .val (.long (own_F2 (own_F1 q1 p3) q2)), .second, .val (.long ((own_F2 (own_F1 q1 p3) q2) - q2)), .second] [(.long (((own_F2 (own_F1 q1 p3) q2) - q2) / (1000 : Int64)))]))
        refine own_st (fun t k => XS.lload X2.here hx rfl (hb hby at_68) rfl k) ?_
        show own_Fin _ _ _ _ _ _ _ (T2.setTop (mkF m 70 #[.val (.long q1), .second, .val (.long q2), .second, .val (.int p3), .val (.long (own_F1 q1 p3)), .second, .val (.long (own_F2 (own_F1 q1 p3) q2)), .second, .val (.long ((own_F2 (own_F1 q1 p3) q2) - q2)), .second] [(.long (own_F1 q1 p3)), (.long (((own_F2 (own_F1 q1 p3) q2) - q2) / (1000 : Int64)))]))
        refine own_st (fun t k => XS.lcmp X2.here hx rfl (hb hby at_70) rfl k) ?_
        show own_Fin _ _ _ _ _ _ _ (T2.setTop (mkF m 71 #[.val (.long q1), .second, .val (.long q2), .second, .val (.int p3), .val (.long (own_F1 q1 p3)), .second, .val (.long (own_F2 (own_F1 q1 p3) q2)), .second, .val (.long ((own_F2 (own_F1 q1 p3) q2) - q2)), .second] [(.int (lcmpW (((own_F2 (own_F1 q1 p3) q2) - q2) / (1000 : Int64)) (own_F1 q1 p3)))]))
        by_cases hc71_9 : (((own_F2 (own_F1 q1 p3) q2) - q2) / (1000 : Int64)) = (own_F1 q1 p3)
        · refine own_st (fun t k => XS.ifNo X2.here hx rfl (hb hby at_71) rfl (own_eqT hc71_9).2 k) ?_
          show own_Fin _ _ _ _ _ _ _ (T2.setTop (mkF m 74 #[.val (.long q1), .second, .val (.long q2), .second, .val (.int p3), .val (.long (own_F1 q1 p3)), .second, .val (.long (own_F2 (own_F1 q1 p3) q2)), .second, .val (.long ((own_F2 (own_F1 q1 p3) q2) - q2)), .second] []))
          refine own_st (fun t k => XS.iconst X2.here hx rfl (hb hby at_74) k) ?_
          show own_Fin _ _ _ _ _ _ _ (T2.setTop (mkF m 75 #[.val (.long q1), .second, .val (.long q2), .second, .val (.int p3), .val (.long (own_F1 q1 p3)), .second, .val (.long (own_F2 (own_F1 q1 p3) q2)), .second, .val (.long ((own_F2 (own_F1 q1 p3) q2) - q2)), .second] [(.int (1 : Int32))]))
          refine own_st (fun t k => XS.goto X2.here hx rfl (pc0 := 75) (pc' := 79) rfl (hb hby at_75) (by decide) (by decide) k) ?_
          show own_Fin _ _ _ _ _ _ _ (T2.setTop (mkF m 79 #[.val (.long q1), .second, .val (.long q2), .second, .val (.int p3), .val (.long (own_F1 q1 p3)), .second, .val (.long (own_F2 (own_F1 q1 p3) q2)), .second, .val (.long ((own_F2 (own_F1 q1 p3) q2) - q2)), .second] [(.int (1 : Int32))]))
          have hv : own_F0 q1 q2 p3 = (1 : Int32) := by unfold own_F0; rw [if_neg hc20_3, if_neg hc42_5, if_pos hc59_8, if_pos hc71_9]
          exact own_retN X2 hx Bd.notSynchronized (t := .boolean) Bd.returns (by simp) (hb hby at_79) (by decide) (by decide) ⟨congrArg (fun z => some (Value.int z)) hv.symm, N2, e2⟩
        · refine own_st (fun t k => XS.ifYes X2.here hx rfl (pc0 := 71) (pc' := 78) rfl (hb hby at_71) rfl (own_eqF hc71_9).2 (by decide) (by decide) k) ?_
          show own_Fin _ _ _ _ _ _ _ (T2.setTop (mkF m 78 #[.val (.long q1), .second, .val (.long q2), .second, .val (.int p3), .val (.long (own_F1 q1 p3)), .second, .val (.long (own_F2 (own_F1 q1 p3) q2)), .second, .val (.long ((own_F2 (own_F1 q1 p3) q2) - q2)), .second] []))
          refine own_st (fun t k => XS.iconst X2.here hx rfl (hb hby at_78) k) ?_
          show own_Fin _ _ _ _ _ _ _ (T2.setTop (mkF m 79 #[.val (.long q1), .second, .val (.long q2), .second, .val (.int p3), .val (.long (own_F1 q1 p3)), .second, .val (.long (own_F2 (own_F1 q1 p3) q2)), .second, .val (.long ((own_F2 (own_F1 q1 p3) q2) - q2)), .second] [(.int (0 : Int32))]))
          have hv : own_F0 q1 q2 p3 = (0 : Int32) := by unfold own_F0; rw [if_neg hc20_3, if_neg hc42_5, if_pos hc59_8, if_neg hc71_9]
          exact own_retN X2 hx Bd.notSynchronized (t := .boolean) Bd.returns (by simp) (hb hby at_79) (by decide) (by decide) ⟨congrArg (fun z => some (Value.int z)) hv.symm, N2, e2⟩
      · refine own_st (fun t k => XS.ifYes X2.here hx rfl (pc0 := 59) (pc' := 78) rfl (hb hby at_59) rfl (own_eqF hc59_8).2 (by decide) (by decide) k) ?_
        show own_Fin _ _ _ _ _ _ _ (T2.setTop (mkF m 78 #[.val (.long q1), .second, .val (.long q2), .second, .val (.int p3), .val (.long (own_F1 q1 p3)), .second, .val (.long (own_F2 (own_F1 q1 p3) q2)), .second, .val (.long ((own_F2 (own_F1 q1 p3) q2) - q2)), .second] []))
        refine own_st (fun t k => XS.iconst X2.here hx rfl (hb hby at_78) k) ?_
        show own_Fin _ _ _ _ _ _ _ (T2.setTop (mkF m 79 #[.val (.long q1), .second, .val (.long q2), .second, .val (.int p3), .val (.long (own_F1 q1 p3)), .second, .val (.long (own_F2 (own_F1 q1 p3) q2)), .second, .val (.long ((own_F2 (own_F1 q1 p3) q2) - q2)), .second] [(.int (0 : Int32))]))
        have hv : own_F0 q1 q2 p3 = (0 : Int32) := by unfold own_F0; rw [if_neg hc20_3, if_neg hc42_5, if_neg hc59_8]
        exact own_retN X2 hx Bd.notSynchronized (t := .boolean) Bd.returns (by simp) (hb hby at_79) (by decide) (by decide) ⟨congrArg (fun z => some (Value.int z)) hv.symm, N2, e2⟩
theorem own_m32 (q0 : Int64) : 0 ≤ (q0 &&& (4294967295 : Int64)).toInt ∧ (q0 &&& (4294967295 : Int64)).toInt < 4294967296 := by
  rw [c_maskL q0 (4294967295 : Int64) 32 (by decide) (by decide)]
  exact ⟨Int.emod_nonneg _ (by decide), Int.emod_lt_of_pos _ (by decide)⟩
theorem own_m8 (q0 : Int64) : 0 ≤ ((2592000 : Int64) + ((q0 &&& (7 : Int64)) - (4 : Int64))).toInt ∧ ((2592000 : Int64) + ((q0 &&& (7 : Int64)) - (4 : Int64))).toInt < 4294967296 := by
  have m2 : (q0 &&& (7 : Int64)).toInt = q0.toInt % 8 := c_maskL q0 (7 : Int64) 3 (by decide) (by decide)
  have a1 : ((q0 &&& (7 : Int64)) - (4 : Int64)).toInt = (q0 &&& (7 : Int64)).toInt - 4 := by
    have l1 : (4 : Int64).toInt = 4 := by decide
    have a1 := c_lsub (q0 &&& 7) 4
    have r1 := rng64 ((q0 &&& 7) - 4)
    rw [l1] at a1
    omega
  have a2 : ((2592000 : Int64) + ((q0 &&& (7 : Int64)) - (4 : Int64))).toInt = 2592000 + ((q0 &&& (7 : Int64)) - (4 : Int64)).toInt := by
    have l2 : (2592000 : Int64).toInt = 2592000 := by decide
    have a2 := c_ladd 2592000 ((q0 &&& 7) - 4)
    have r2 := rng64 (2592000 + ((q0 &&& 7) - 4))
    rw [l2] at a2
    generalize (2592000 + (q0 &&& 7 - 4)).toInt = zz at *
    generalize ((q0 &&& 7 - 4)).toInt = yy at *
    omega
  omega
theorem own_m4 (q0 : Int64) : 0 ≤ (q0 &&& (3 : Int64)).toInt ∧ (q0 &&& (3 : Int64)).toInt < 4 := by
  rw [c_maskL q0 (3 : Int64) 2 (by decide) (by decide)]
  exact ⟨Int.emod_nonneg _ (by decide), Int.emod_lt_of_pos _ (by decide)⟩
theorem own_m4n (q0 : Int64) : 0 ≤ ((4294967295 : Int64) - (q0 &&& (3 : Int64))).toInt ∧ ((4294967295 : Int64) - (q0 &&& (3 : Int64))).toInt < 4294967296 := by
  have m := own_m4 q0
  have l3 : (4294967295 : Int64).toInt = 4294967295 := by decide
  have a := c_lsub 4294967295 (q0 &&& 3)
  have r := rng64 (4294967295 - (q0 &&& 3))
  rw [l3] at a
  generalize (4294967295 - (q0 &&& 3)).toInt = zz at *
  generalize (q0 &&& 3).toInt = yy at *
  omega
theorem own_pick (q0 : Int64) (p1 : Int32) : 0 ≤ (own_F1 q0 p1).toInt ∧ (own_F1 q0 p1).toInt < 4294967296 := by
  unfold own_F1
  by_cases c1 : (p1 &&& (3 : Int32)) = (0 : Int32)
  · rw [if_pos c1]; exact own_m32 q0
  · rw [if_neg c1]
    by_cases c2 : (p1 &&& (3 : Int32)) = (1 : Int32)
    · rw [if_pos c2]; exact own_m8 q0
    · rw [if_neg c2]
      by_cases c3 : (p1 &&& (3 : Int32)) = (2 : Int32)
      · rw [if_pos c3]; exact ⟨(own_m4 q0).1, Int.lt_trans (own_m4 q0).2 (by decide)⟩
      · rw [if_neg c3]; exact own_m4n q0
theorem own_plain (q0 q1 : Int64) (p2 : Int32) : own_F0 q0 q1 p2 = 1 := by
  have hf := own_pick q0 p2
  unfold own_F0
  generalize own_F1 q0 p2 = f at hf
  have l0 : (0 : Int64).toInt = 0 := by decide
  have l1 : (1000 : Int64).toInt = 1000 := by decide
  have l2 : (2592000 : Int64).toInt = 2592000 := by decide
  by_cases h0 : f = 0
  · rw [if_pos h0]
    unfold own_F2
    rw [if_pos h0, if_pos rfl]
  · rw [if_neg h0]
    have h0' : f.toInt ≠ 0 := fun q => h0 (Int64.toInt_inj.mp (by rw [q, l0]))
    have mul := c_lmul f 1000
    rw [l1] at mul
    have rm := rng64 (f * 1000)
    have em : (f * 1000).toInt = f.toInt * 1000 := by omega
    by_cases h1 : (2592000 : Int64) < f
    · rw [if_pos h1]
      have e : own_F2 f q1 = f * 1000 := by unfold own_F2; rw [if_neg h0, if_pos h1]
      rw [e]
      have d := (c_ldiv (f * 1000) 1000 1000 l1 (by decide)).1 (by omega)
      have r := (c_lrem (f * 1000) 1000 1000 l1).1 (by omega)
      rw [if_pos (Int64.toInt_inj.mp (by rw [r, l0]; omega)), if_pos (Int64.toInt_inj.mp (by rw [d]; omega))]
    · rw [if_neg h1]
      have e : own_F2 f q1 = q1 + f * 1000 := by unfold own_F2; rw [if_neg h0, if_neg h1]
      have e2 : own_F2 f q1 - q1 = f * 1000 := by
        rw [e]
        apply Int64.toInt_inj.mp
        have a := c_ladd q1 (f * 1000)
        have b := c_lsub (q1 + f * 1000) q1
        have r1 := rng64 (q1 + f * 1000)
        have r2 := rng64 (q1 + f * 1000 - q1)
        omega
      rw [e2]
      have d := (c_ldiv (f * 1000) 1000 1000 l1 (by decide)).1 (by omega)
      have r := (c_lrem (f * 1000) 1000 1000 l1).1 (by omega)
      rw [if_pos (Int64.toInt_inj.mp (by rw [r, l0]; omega)), if_pos (Int64.toInt_inj.mp (by rw [d]; omega))]
set_option maxRecDepth 65536 in
set_option maxHeartbeats 40000000 in
theorem comes_1 {Post : Tables → Env → Array Value → State → Outcome → State → Prop} (hpost : ∀ tb e args s v u, (limb_1_1.after args s (.returned v) u = true ∧ limb_1_2.after args s (.returned v) u = true ∧ True) → FrameEnd s (.returned v) u (Jvm.fieldLocs frame_1_writes args s ++ Jvm.arrayLocs frame_1_arrays args s ++ Jvm.staticLocs frame_1_statics s) 0 0 → Post tb e args s (.returned v) u) :
    ArmFor flags0 classFile x code maxLocals ret World_1 tables_1 room_1 Calls_1 rest_1 Pre_1 Post := by
  intro l hfl _ _ p e ha hc hk s m args below hf hA hF happ hP
  obtain ⟨hcalls, hrest, hpre⟩ := hP
  obtain ⟨-, -, -, hnamed, -, -, -, hat⟩ := (Spec.applies_iff hf).mp happ
  obtain ⟨hg, hn⟩ := and_e (Cond.before_iff.mp (show (Jvm.Cond.and given_1 narrow_1).before args s = true from hpre))
  obtain ⟨g3, g4⟩ := and_e hg
  obtain ⟨g5, g6⟩ := and_e g4
  obtain ⟨g7, g8⟩ := and_e g6
  obtain ⟨w0, w1, w2, rfl⟩ : ∃ w0 w1 w2 : Value, args = #[w0, w1, w2] := by
    have hs : args.size = 3 := by simpa [Cond.value, given_1] using g3
    obtain ⟨L⟩ := args
    match L, hs with
    | [w0, w1, w2], _ => exact ⟨w0, w1, w2, rfl⟩
  have hw := fun d (hd : d ∈ tables_1) => atoms_spec (ws := Jvm.Cond.code x code maxLocals ret :: tables_1) hat d (List.mem_cons_of_mem _ hd)
  obtain ⟨i0, ei0⟩ := isL_v g5
  obtain rfl : w0 = (.long i0) := Option.some.inj ei0
  obtain ⟨i1, ei1⟩ := isL_v g7
  obtain rfl : w1 = (.long i1) := Option.some.inj ei1
  obtain ⟨i2, ei2⟩ := is_v g8
  obtain rfl : w2 = (.int i2) := Option.some.inj ei2
  obtain ⟨n, o, h1, h2, h3, v, L, rfl, ⟨hv, N, -⟩, hq⟩ := rm0 l s _ hw tables_1 i0 i1 i2 s.heap s.heap.size (Nat.le_refl _) p e ha hc hk s m _ below hf ((Spec.applies_iff_loose hf).mp happ).1 ⟨rfl, State.Warmed39.refl s, rfl⟩ trivial
  rw [own_plain i0 i1 i2] at hv
  subst hv
  refine ⟨n, _, h1, h2, h3, hpost _ _ _ _ _ _ ⟨Cond.after_iff.mpr rfl, Cond.after_iff.mpr (eq_i res_at (Term.int_eval (1)) rfl), trivial⟩ ⟨hq.1, hq.2.1, (hq.2.2.sift fun y hy => Or.inr (N y hy)).mono (by decide) (by decide)⟩⟩
theorem main_1_1 : Claimed_1_1 := comes_1 fun _ _ _ _ _ _ h hF => ⟨h.1, hF⟩
theorem main_1_2 : Claimed_1_2 := comes_1 fun _ _ _ _ _ _ h hF => ⟨h.2.1, hF⟩
end Jvm.Pilot.@@N@@
namespace Jvm.Pilot.@@N@@
open Jvm Jvm.ClassFile Sem Op Lib Jvm.Free Jvm.Stand Jvm.Pilot.@@N@@.Jvm.D
/-! MADE BY PROGRAM (witnessworld.py) out of the Statement's table words and the real class files: 9 classes; the members and pool entries that the words name. The judged class is class 1, her method 2. -/
namespace start1
open Jvm.ClassFile
def u (s : String) : CpInfo := .utf8 (stringToUtf16 s)
/-- a pool by its gaps: so many unusable entries, then the entry; so many at the end -/
def gap : Nat → List CpInfo → List CpInfo
  | 0, r => r
  | n + 1, r => .unusable :: gap n r
def poolList (es : List (Nat × CpInfo)) (last : Nat) : List CpInfo := es.foldr (fun e r => gap e.1 (e.2 :: r)) (gap last [])
def pool (es : List (Nat × CpInfo)) (last : Nat) : Array CpInfo := ⟨poolList es last⟩
def fileOf (pool : Array CpInfo) (this : Nat) (attrs : Array Attribute := #[]) (ms : Array MethodInfo := #[]) (fl : Nat := 33) (sup : Nat := 0) (ifs : Array Nat := #[]) (fds : Array FieldInfo := #[]) : ClassFile where
  minorVersion := 0
  majorVersion := 65
  constantPool := pool
  accessFlags := fl
  thisClass := this
  superClass := sup
  interfaces := ifs
  fields := fds
  methods := ms
  attributes := attrs
def plain (name : String) (sup : Option ClassId) : Class where
  name := name
  kind := .ordinary
  loader := none
  accessFlags := 33
  super := sup
  interfaces := #[]
  cf := none
  fields := #[]
  methods := #[]
  instanceTypes := #[]
  staticTypes := #[]
  resolved := #[]
  callSites := []
  init := .initialized
  statics := none
  mirror := none

def pool0 : Array CpInfo := pool [(5, u "<init>"), (0, u "()V"), (1, .class_ 10), (1, u "java/lang/Object")] 113

def k0m0 : Method := { name := "<init>", desc := "()V", sig := { parameters := [], returnType := none }, accessFlags := 1, code := none }
/-- java/lang/Object -/
def k0 : Class := { plain "java/lang/Object" none with
  accessFlags := 33
  interfaces := #[]
  cf := some (fileOf pool0 8 #[] #[{ accessFlags := 1, nameIndex := 5, descriptorIndex := 6, attributes := #[] }] 33 0 #[] #[])
  fields := #[]
  methods := #[k0m0]
  instanceTypes := #[]
  staticTypes := #[]
  resolved := Array.replicate 124 none
  statics := none }

def pool1 : Array CpInfo := pool [(2, .class_ 4), (1, u "java/lang/Object"), (0, u "<init>"), (0, u "()V"), (0, .long 4294967295), (1, .long 2592000), (1, .long 7), (1, .long 4), (1, .long 3), (1, .methodref 18 19), (0, .class_ 20), (0, .nameAndType 21 22), (0, u "com/example/anchorwatch/anchorwatch/protocol/ExpiryAtPinLaw"), (0, u "pickField"), (0, u "(JI)J"), (0, .methodref 24 25), (0, .class_ 26), (0, .nameAndType 27 28), (0, u "com/example/anchorwatch/anchorwatch/protocol/Expiry"), (0, u "at"), (0, u "(JJ)J"), (0, .long 1000), (4, u "law"), (0, u "(JJI)Z")] 2

def k1m0 : Method := { name := "<init>", desc := "()V", sig := { parameters := [], returnType := none }, accessFlags := 2, code := none }
def k1c1 : Code := { maxStack := 6, maxLocals := 4, code := method_2_code, exceptionTable := #[], attributes := #[] }
def k1m1 : Method := { name := "pickField", desc := "(JI)J", sig := { parameters := [.long, .int], returnType := some .long }, accessFlags := 10, code := some k1c1 }
def k1c2 : Code := { maxStack := 4, maxLocals := 11, code := code, exceptionTable := #[], attributes := #[] }
def k1m2 : Method := { name := "law", desc := "(JJI)Z", sig := { parameters := [.long, .long, .int], returnType := some .boolean }, accessFlags := 9, code := some k1c2 }
/-- com/example/anchorwatch/anchorwatch/protocol/ExpiryAtPinLaw -/
def k1 : Class := { plain "com/example/anchorwatch/anchorwatch/protocol/ExpiryAtPinLaw" (some 0) with
  accessFlags := 49
  interfaces := #[]
  cf := some (fileOf pool1 18 #[] #[{ accessFlags := 2, nameIndex := 5, descriptorIndex := 6, attributes := #[] }, { accessFlags := 10, nameIndex := 21, descriptorIndex := 22, attributes := #[] }, { accessFlags := 9, nameIndex := 34, descriptorIndex := 35, attributes := #[] }] 49 2 #[] #[])
  fields := #[]
  methods := #[k1m0, k1m1, k1m2]
  instanceTypes := #[]
  staticTypes := #[]
  resolved := Array.replicate 38 none
  statics := none }

def pool2 : Array CpInfo := pool [(2, .class_ 4), (1, u "java/lang/Object"), (0, u "<init>"), (0, u "()V"), (0, .class_ 8), (0, u "com/example/anchorwatch/anchorwatch/protocol/Expiry"), (0, .long 2592000), (1, .long 1000), (1, u "MAX_RELATIVE_SECONDS"), (0, u "J"), (3, u "at"), (0, u "(JJ)J")] 3

def k2m0 : Method := { name := "<init>", desc := "()V", sig := { parameters := [], returnType := none }, accessFlags := 2, code := none }
def k2c1 : Code := { maxStack := 6, maxLocals := 4, code := prog_31_method_2_code, exceptionTable := #[], attributes := #[] }
def k2m1 : Method := { name := "at", desc := "(JJ)J", sig := { parameters := [.long, .long], returnType := some .long }, accessFlags := 9, code := some k2c1 }
/-- com/example/anchorwatch/anchorwatch/protocol/Expiry -/
def k2 : Class := { plain "com/example/anchorwatch/anchorwatch/protocol/Expiry" (some 0) with
  accessFlags := 49
  interfaces := #[]
  cf := some (fileOf pool2 7 #[] #[{ accessFlags := 2, nameIndex := 5, descriptorIndex := 6, attributes := #[] }, { accessFlags := 9, nameIndex := 18, descriptorIndex := 19, attributes := #[] }] 49 2 #[] #[{ accessFlags := 26, nameIndex := 13, descriptorIndex := 14, attributes := #[] }])
  fields := #[{ name := "MAX_RELATIVE_SECONDS", type := .long, accessFlags := 26, slot := 0, constantValue := 0 }]
  methods := #[k2m0, k2m1]
  instanceTypes := #[]
  staticTypes := #[.long]
  resolved := Array.replicate 23 none
  statics := none }

def pool3 : Array CpInfo := pool [(1, u "java/lang/Cloneable"), (0, .class_ 1), (0, u "java/lang/Object"), (0, .class_ 3)] 3

/-- java/lang/Cloneable -/
def k3 : Class := { plain "java/lang/Cloneable" (some 0) with
  accessFlags := 1537
  interfaces := #[]
  cf := some (fileOf pool3 2 #[] #[] 1537 4 #[] #[])
  fields := #[]
  methods := #[]
  instanceTypes := #[]
  staticTypes := #[]
  resolved := Array.replicate 8 none
  statics := none }

def pool4 : Array CpInfo := pool [(1, u "java/io/Serializable"), (0, .class_ 1), (0, u "java/lang/Object"), (0, .class_ 3)] 3

/-- java/io/Serializable -/
def k4 : Class := { plain "java/io/Serializable" (some 0) with
  accessFlags := 1537
  interfaces := #[]
  cf := some (fileOf pool4 2 #[] #[] 1537 4 #[] #[])
  fields := #[]
  methods := #[]
  instanceTypes := #[]
  staticTypes := #[]
  resolved := Array.replicate 8 none
  statics := none }

/-- the primitive byte -/
def k5 : Class := { plain "byte" none with kind := .primitive 'B', accessFlags := 0x411 }
/-- [B -/
def k6 : Class := { plain "[B" (some 0) with kind := .array 5 .byte, interfaces := #[3, 4], accessFlags := 1041 }

/-- the primitive int -/
def k7 : Class := { plain "int" none with kind := .primitive 'I', accessFlags := 0x411 }
/-- [I -/
def k8 : Class := { plain "[I" (some 0) with kind := .array 7 .int, interfaces := #[3, 4], accessFlags := 1041 }

def heap : Heap := #[]
def classes : Array Class := #[k0, k1, k2, k3, k4, k5, k6, k7, k8]
def interned : List (Array UInt16 × Addr) := []
def slotsUsed : Nat := 0
def theMethod : MethodId := ⟨1, 2⟩
def args0 : Array Value := #[.long 5, .long 7, .int 0]
def aboutOver (below : List Frame) : State where
  vm := { classes := classes, interned := interned.toArray }
  heap := heap
  slotsUsed := slotsUsed
  threads := #[{ frames := .invoking theMethod args0 :: below }]
def below0 : List Frame := [.native { method := ⟨0, 0⟩, args := #[] }]
def about1 : State := aboutOver below0
def p0 : Program := .bare "" "" ""
def e0 : Env := launch0.env 0 0 0
theorem w_frames : about1.frames = Frame.invoking theMethod args0 :: below0 := rfl
set_option maxRecDepth 65536 in
theorem w_args : argsFit about1.vm theMethod args0 = true := by decide +kernel
set_option maxRecDepth 65536 in
theorem w_heap : heapFits about1 = true := by decide +kernel
set_option maxRecDepth 65536 in
theorem w_runnable : about1.curStatus? = some .runnable := by decide +kernel
set_option maxRecDepth 65536 in
theorem w_alone : about1.alone = true := by decide +kernel
set_option maxRecDepth 65536 in
theorem w_named : about1.methodNamed? x = some theMethod := by decide +kernel
set_option maxRecDepth 65536 in
theorem w_hears : about1.hears theMethod below0 = true := by decide +kernel
set_option maxRecDepth 65536 in
theorem w_ripe : about1.ripe theMethod args0 below0 = true := by decide +kernel
theorem w_running : about1.status = .running := rfl
set_option maxRecDepth 65536 in
theorem w_room : about1.hasRoom e0.platform room_1 = true :=
  launch0.hasRoom_least _ room_1 (by decide +kernel) (by decide +kernel) (by decide +kernel) (by decide +kernel) (by decide +kernel) (by decide +kernel)
theorem allAtoms_all (ts : List Jvm.Cond) (a : Array Jvm.Value) (st : Jvm.State) : (allAtoms ts).before a st = ts.all (fun c => c.before a st) := by
  induction ts with
  | nil => rfl
  | cons c t ih =>
    show (Jvm.Cond.and c (allAtoms t)).before a st = _
    rw [Jvm.Cond.before_and, ih, List.all_cons]
def words1 : List Jvm.Cond := Jvm.Cond.code x code maxLocals ret :: tables_1
/-- a 'code' word, met by the world's own term for the bytes: nothing is compared byte by byte -/
theorem code_word {y : MethodName} {bytes : ByteArray} {mx : Nat} {rt : Option FieldType} {a : Array Value} {s : State} {m : MethodId} {meth : Method} {c : Code} (h1 : s.methodNamed? y = some m) (h2 : s.vm.method? m = some meth) (h3 : meth.code = some c) (h4 : c.code = bytes)
    (h5 : (c.maxLocals == mx && c.exceptionTable.isEmpty && decide (c.maxStack ≤ mostOperands) && decide (meth.sig.returnType = rt) && !meth.locks && decide (parseMethodDescriptor y.desc = some meth.sig)) = true) : (Jvm.Cond.code y bytes mx rt).before a s = true := by
  simp only [Bool.and_eq_true, beq_iff_eq, Bool.not_eq_true', decide_eq_true_eq] at h5
  obtain ⟨⟨⟨⟨⟨g1, g2⟩, g3⟩, g4⟩, g5⟩, g6⟩ := h5
  simp [Cond.before, Cond.holds, Cond.value, h1, h2, h3, h4, g1, g2, g3, g4, g5, g6]
def isCode : Jvm.Cond → Bool
  | .code _ _ _ _ => true
  | _ => false
theorem all_split {L : List Jvm.Cond} {P : Jvm.Cond → Bool} (h1 : L.all (fun c => isCode c || P c) = true) (h2 : ∀ c ∈ L.filter isCode, P c = true) : L.all P = true := by
  refine List.all_eq_true.mpr fun c hc => ?_
  have h := List.all_eq_true.mp h1 c hc
  rcases Bool.eq_false_or_eq_true (isCode c) with hi | hi
  · exact h2 c (List.mem_filter.mpr ⟨hc, hi⟩)
  · simpa [hi] using h
set_option maxRecDepth 65536 in
theorem w_c0 : (Jvm.Cond.code x code maxLocals ret).before args0 about1 = true := code_word (m := ⟨1, 2⟩) (meth := k1m2) (c := k1c2) (by decide +kernel) rfl rfl rfl (by decide +kernel)
set_option maxRecDepth 65536 in
theorem w_c1 : (Jvm.Cond.code ({ cls := "com/example/anchorwatch/anchorwatch/protocol/ExpiryAtPinLaw", name := "pickField", desc := "(JI)J" } : Jvm.MethodName) method_2_code (4 : Nat) (Option.some Jvm.ClassFile.FieldType.long)).before args0 about1 = true := code_word (m := ⟨1, 1⟩) (meth := k1m1) (c := k1c1) (by decide +kernel) rfl rfl rfl (by decide +kernel)
set_option maxRecDepth 65536 in
theorem w_c2 : (Jvm.Cond.code ({ cls := "com/example/anchorwatch/anchorwatch/protocol/Expiry", name := "at", desc := "(JJ)J" } : Jvm.MethodName) prog_31_method_2_code (4 : Nat) (Option.some Jvm.ClassFile.FieldType.long)).before args0 about1 = true := code_word (m := ⟨2, 1⟩) (meth := k2m1) (c := k2c1) (by decide +kernel) rfl rfl rfl (by decide +kernel)
def codes1 : List Jvm.Cond := [Jvm.Cond.code x code maxLocals ret, Jvm.Cond.code ({ cls := "com/example/anchorwatch/anchorwatch/protocol/ExpiryAtPinLaw", name := "pickField", desc := "(JI)J" } : Jvm.MethodName) method_2_code (4 : Nat) (Option.some Jvm.ClassFile.FieldType.long), Jvm.Cond.code ({ cls := "com/example/anchorwatch/anchorwatch/protocol/Expiry", name := "at", desc := "(JJ)J" } : Jvm.MethodName) prog_31_method_2_code (4 : Nat) (Option.some Jvm.ClassFile.FieldType.long)]
set_option maxRecDepth 65536 in
theorem codes_eq : words1.filter isCode = codes1 := rfl
theorem w_codes : ∀ c ∈ words1.filter isCode, c.before args0 about1 = true := by
  rw [codes_eq]
  intro c hc
  simp only [codes1, List.mem_cons, List.not_mem_nil, or_false] at hc
  rcases hc with rfl | rfl | rfl
  · exact w_c0
  · exact w_c1
  · exact w_c2
set_option maxRecDepth 65536 in
theorem w_t1 : words1.all (fun c => isCode c || c.before args0 about1) = true := by decide +kernel
theorem w_tables : (allAtoms (Jvm.Cond.code x code maxLocals ret :: tables_1)).before args0 about1 = true := by
  rw [allAtoms_all]
  show words1.all (fun c => c.before args0 about1) = true
  refine all_split ?_ w_codes
  rw [w_t1]
set_option maxRecDepth 65536 in
theorem w_case : (Jvm.Cond.and given_1 narrow_1).before args0 about1 = true := by decide +kernel
theorem w_applies : (headSpec (Jvm.Cond.code x code maxLocals ret :: tables_1) room_1).applies x e0.platform about1 = true :=
  (Spec.applies_iff w_frames).mpr ⟨w_running, w_runnable, w_alone, w_named, w_hears, w_ripe, w_room, w_tables⟩
theorem atStart : AtStart classFile x code maxLocals ret World_1 tables_1 room_1 Calls_1 rest_1 Pre_1 launch0 p0 e0 about1 theMethod args0 below0 :=
  ⟨lists_1, trivial, launch0.admits_env _ _ _, launch0.least_env, fairChoices_fair.cas, fairChoices_fair.clock, w_frames, w_args, w_heap, w_applies, trivial, trivial, w_case⟩
end start1
theorem witness_1 : WitnessClaimed_1 := ⟨start1.p0, start1.e0, start1.about1, start1.theMethod, start1.args0, start1.below0, start1.atStart⟩
end Jvm.Pilot.@@N@@
