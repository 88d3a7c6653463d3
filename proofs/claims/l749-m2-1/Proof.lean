import JvmDerived
import JvmDerived.Pilot.@@N@@Statement
import JvmDerived.Pilot.@@N@@Code
set_option linter.unusedVariables false
set_option linter.unusedSimpArgs false
namespace Jvm.RoadKit
open Sem ClassFile Op Lib Jvm.Stand Jvm.Free Jvm.LawKit
section New
variable {p : Program} {l : Launch} {e : Env} {R : Room} {s : State} {m : MethodId} {args : Array Value} {below : List Frame} {meth : Method} {c : Code} {T : State} {locs : List Loc} {cells slots : Nat}
theorem retI (X : Stand p l e R s m args below meth c T locs cells slots) (hx : p.tables.exec = Jvm.exec) {pc : Nat} {Ls : Array Slot} {z : Int32} {rest : List Value} (hret : meth.sig.returnType = some .int) (hd : decode c.code pc = .ok (.ireturn, 1)) {fs : List Frame}
    (hl : ∀ (f : JFrame) (acts : List Action), f.method = m → f.locked = none → f.entered = [] → (doReturn e (T.setTop f) acts (some (.int z))).1 = T.setFrames fs) : Steps p.tables e below (T.setTop (mkF m pc Ls (.int z :: rest))) (T.setFrames fs) := by
  have hm' : T.vm.method? m = some meth := X.method'
  have hn : narrow .int (.int z) = .int z := rfl
  show Steps p.tables e below (T.setTop { method := m, pc := pc, locals := Ls, stack := _ :: rest, locked := none }) _
  jvm_step X.here [X.here.top, hx, hd, hm', hret, hn]
  first | (intro acts; rw [hl _ acts rfl rfl rfl]) | rw [hl _ _ rfl rfl rfl]
  exact Steps.refl _
theorem retAddr (X : Stand p l e R s m args below meth c T locs cells slots) (hx : p.tables.exec = Jvm.exec) {pc : Nat} {Ls : Array Slot} {z : Addr} {rest : List Value} {t : FieldType} (hret : meth.sig.returnType = some t) (ht : t.isReference = true) (hd : decode c.code pc = .ok (.areturn, 1)) {fs : List Frame}
    (hl : ∀ (f : JFrame) (acts : List Action), f.method = m → f.locked = none → f.entered = [] → (doReturn e (T.setTop f) acts (some (.ref z))).1 = T.setFrames fs) : Steps p.tables e below (T.setTop (mkF m pc Ls (.ref z :: rest))) (T.setFrames fs) := by
  have hm' : T.vm.method? m = some meth := X.method'
  show Steps p.tables e below (T.setTop { method := m, pc := pc, locals := Ls, stack := _ :: rest, locked := none }) _
  jvm_step X.here [X.here.top, hx, hd, hm', hret, ht, Value.isRef]
  first | (intro acts; rw [hl _ acts rfl rfl rfl]) | rw [hl _ _ rfl rfl rfl]
  exact Steps.refl _
end New
end Jvm.RoadKit
namespace Jvm.Pilot.@@N@@
open Jvm Jvm.ClassFile Sem Op Lib Jvm.Free Jvm.Stand Jvm.LawKit Jvm.RoadKit Bundle Jvm.Pilot.@@N@@.Jvm.D
/-- from A the run ends, returning, as Q says of the value, the heap and the places written -/
def own_Fin (tb : Tables) (e : Env) (below : List Frame) (s : State) (C S : Nat) (Q : Option Value → Heap → List Loc → Prop) (A : State) : Prop :=
  ∃ s₂ o, Steps tb e below A s₂ ∧ s₂.status = .running ∧ Ended s₂ below o ∧ ∃ v L, o = .returned v ∧ Q v s₂.heap L ∧ FrameEnd s o s₂ L C S
theorem own_st {tb : Tables} {e : Env} {below : List Frame} {s : State} {C S : Nat} {Q : Option Value → Heap → List Loc → Prop} {A B : State} (h : ∀ t, Steps tb e below B t → Steps tb e below A t) (k : own_Fin tb e below s C S Q B) : own_Fin tb e below s C S Q A := by
  obtain ⟨s₂, o, h1, h2⟩ := k
  exact ⟨s₂, o, h _ h1, h2⟩
section Ret
variable {p : Program} {l : Launch} {e : Env} {R : Room} {s : State} {m : MethodId} {args : Array Value} {below : List Frame} {meth : Method} {c : Code} {T : State} {locs : List Loc} {cells slots : Nat} {Q : Option Value → Heap → List Loc → Prop} {C S : Nat}
theorem own_retN (X : Stand p l e R s m args below meth c T locs cells slots) (hx : p.tables.exec = Jvm.exec) (hk : meth.locks = false) {t : FieldType} (hret : meth.sig.returnType = some t) (ht : t = .boolean ∨ t = .byte ∨ t = .char ∨ t = .short) {pc : Nat} {Ls : Array Slot} {z : Int32} {rest : List Value} (hd : decode c.code pc = .ok (.ireturn, 1)) (hC : cells ≤ C) (hS : slots ≤ S) (hq : Q (some (.int (nar t z))) T.heap locs) : own_Fin p.tables e below s C S Q (T.setTop (mkF m pc Ls (.int z :: rest))) := by
  obtain ⟨fs, hr, hrun, hended, hW, hsame⟩ := X.leave (v := some (.int (nar t z))) (fun h => by rw [hret] at h; cases h)
  exact ⟨_, _, retN X hx hret ht hd hr, hrun, hended, _, _, rfl, hq, ⟨_, rfl⟩, hW, hsame.mono hC hS⟩
theorem own_retI (X : Stand p l e R s m args below meth c T locs cells slots) (hx : p.tables.exec = Jvm.exec) (hk : meth.locks = false) (hret : meth.sig.returnType = some .int) {pc : Nat} {Ls : Array Slot} {z : Int32} {rest : List Value} (hd : decode c.code pc = .ok (.ireturn, 1)) (hC : cells ≤ C) (hS : slots ≤ S) (hq : Q (some (.int z)) T.heap locs) : own_Fin p.tables e below s C S Q (T.setTop (mkF m pc Ls (.int z :: rest))) := by
  obtain ⟨fs, hr, hrun, hended, hW, hsame⟩ := X.leave (v := some (.int z)) (fun h => by rw [hret] at h; cases h)
  exact ⟨_, _, retI X hx hret hd hr, hrun, hended, _, _, rfl, hq, ⟨_, rfl⟩, hW, hsame.mono hC hS⟩
theorem own_retA (X : Stand p l e R s m args below meth c T locs cells slots) (hx : p.tables.exec = Jvm.exec) (hk : meth.locks = false) {t : FieldType} (hret : meth.sig.returnType = some t) (ht : t.isReference = true) {pc : Nat} {Ls : Array Slot} {z : Addr} {rest : List Value} (hd : decode c.code pc = .ok (.areturn, 1)) (hC : cells ≤ C) (hS : slots ≤ S) (hq : Q (some (.ref z)) T.heap locs) : own_Fin p.tables e below s C S Q (T.setTop (mkF m pc Ls (.ref z :: rest))) := by
  obtain ⟨fs, hr, hrun, hended, hW, hsame⟩ := X.leave (v := some (.ref z)) (fun h => by rw [hret] at h; cases h)
  exact ⟨_, _, retAddr X hx hret ht hd hr, hrun, hended, _, _, rfl, hq, ⟨_, rfl⟩, hW, hsame.mono hC hS⟩
theorem own_retJ (X : Stand p l e R s m args below meth c T locs cells slots) (hx : p.tables.exec = Jvm.exec) (hk : meth.locks = false) (hret : meth.sig.returnType = some .long) {pc : Nat} {Ls : Array Slot} {z : Int64} (hd : decode c.code pc = .ok (.lreturn, 1)) (hC : cells ≤ C) (hS : slots ≤ S) (hq : Q (some (.long z)) T.heap locs) : own_Fin p.tables e below s C S Q (T.setTop (mkF m pc Ls [.long z])) := by
  obtain ⟨fs, hr, hrun, hended, hW, hsame⟩ := X.leave (v := some (.long z)) (fun h => by rw [hret] at h; cases h)
  exact ⟨_, _, X.lreturnOut hx hret hd hr, hrun, hended, _, _, rfl, hq, ⟨_, rfl⟩, hW, hsame.mono hC hS⟩
theorem own_retV (X : Stand p l e R s m args below meth c T locs cells slots) (hx : p.tables.exec = Jvm.exec) (hk : meth.locks = false) (hret : meth.sig.returnType = none) {pc : Nat} {Ls : Array Slot} (hd : decode c.code pc = .ok (.return_, 1)) (hC : cells ≤ C) (hS : slots ≤ S) (hq : Q none T.heap locs) : own_Fin p.tables e below s C S Q (T.setTop (mkF m pc Ls [])) := by
  obtain ⟨fs, hr, hrun, hended, hW, hsame⟩ := X.leave (v := none) (fun _ => rfl)
  exact ⟨_, _, X.returnOut hx hret hd hr, hrun, hended, _, _, rfl, hq, ⟨_, rfl⟩, hW, hsame.mono hC hS⟩
end Ret
theorem own_ltT {a b : Int64} (h : a < b) : ifCond.holds .lt (lcmpW a b) = true ∧ ifCond.holds .ge (lcmpW a b) = false := by
  have q := (lw_lt a b).mpr h
  exact ⟨(if0 _ _).trans (tlt q).1, (if0 _ _).trans (tlt q).2.1⟩
theorem own_ltF {a b : Int64} (h : ¬ a < b) : ifCond.holds .lt (lcmpW a b) = false ∧ ifCond.holds .ge (lcmpW a b) = true := by
  have q := mt (lw_lt a b).mp h
  exact ⟨(if0 _ _).trans (flt q).1, (if0 _ _).trans (flt q).2.1⟩
theorem own_gtT {a b : Int64} (h : b < a) : ifCond.holds .gt (lcmpW a b) = true ∧ ifCond.holds .le (lcmpW a b) = false := by
  have q := (lw_gt a b).mpr h
  exact ⟨(if0 _ _).trans (tlt q).2.2.1, (if0 _ _).trans (tlt q).2.2.2⟩
theorem own_gtF {a b : Int64} (h : ¬ b < a) : ifCond.holds .gt (lcmpW a b) = false ∧ ifCond.holds .le (lcmpW a b) = true := by
  have q := mt (lw_gt a b).mp h
  exact ⟨(if0 _ _).trans (flt q).2.2.1, (if0 _ _).trans (flt q).2.2.2⟩
theorem own_eqT {a b : Int64} (h : a = b) : ifCond.holds .eq (lcmpW a b) = true ∧ ifCond.holds .ne (lcmpW a b) = false := by
  have q := (lw_eq a b).mpr h
  exact ⟨(if0 _ _).trans (teq q).1, (if0 _ _).trans (teq q).2⟩
theorem own_eqF {a b : Int64} (h : ¬ a = b) : ifCond.holds .eq (lcmpW a b) = false ∧ ifCond.holds .ne (lcmpW a b) = true := by
  have q := mt (lw_eq a b).mp h
  exact ⟨(if0 _ _).trans (feq q).1, (if0 _ _).trans (feq q).2⟩
def own_FinW (tb : Tables) (e : Env) (below : List Frame) (s : State) (C S : Nat) (Q : Option Value → Heap → List Loc → Prop) (A : State) : Prop :=
  ∃ s₂ o, Steps tb e below A s₂ ∧ s₂.status = .running ∧ Ended s₂ below o ∧ ∃ v L, o = .returned v ∧ Q v s₂.heap L ∧ FramedW s o s₂ L C S
theorem own_stW {tb : Tables} {e : Env} {below : List Frame} {s : State} {C S : Nat} {Q : Option Value → Heap → List Loc → Prop} {A B : State} (h : ∀ t, Steps tb e below B t → Steps tb e below A t) (k : own_FinW tb e below s C S Q B) : own_FinW tb e below s C S Q A := by
  obtain ⟨s₂, o, h1, h2⟩ := k
  exact ⟨s₂, o, h _ h1, h2⟩
theorem own_retNW {p : Program} {l : Launch} {e : Env} {R : Room} {s : State} {vm₁ : Vm} {m : MethodId} {args : Array Value} {below : List Frame} {meth : Method} {c : Code} {T : State} {locs : List Loc} {cells slots : Nat} {Q : Option Value → Heap → List Loc → Prop} {C S n : Nat}
    (X : Stand p l e R (s.setVm vm₁) m args below meth c T locs cells slots) (hS : s.Since vm₁ n) (hn : n ≤ T.heap.size) (hx : p.tables.exec = Jvm.exec) (hk : meth.locks = false) {t : FieldType} (hret : meth.sig.returnType = some t) (ht : t = .boolean ∨ t = .byte ∨ t = .char ∨ t = .short) {pc : Nat} {Ls : Array Slot} {z : Int32} {rest : List Value} (hd : decode c.code pc = .ok (.ireturn, 1)) (hC : cells ≤ C) (hL : slots ≤ S) (hq : Q (some (.int (nar t z))) T.heap locs) : own_FinW p.tables e below s C S Q (T.setTop (mkF m pc Ls (.int z :: rest))) := by
  obtain ⟨fs, hr, hrun, hended, hv, ha, hb, hsame⟩ := X.leaveW hS hn (v := some (.int (nar t z))) (fun h => by rw [hret] at h; cases h)
  exact ⟨_, _, retN X hx hret ht hd hr, hrun, hended, _, _, rfl, hq, hv, ha, hb, hsame.mono hC hL⟩
def own_pick (k : Int32) (ca0 ca1 ca2 ca3 ca4 ca5 : Addr) : Addr := if k = (0 : Int32) then ca0 else if k = (1 : Int32) then ca1 else if k = (2 : Int32) then ca2 else if k = (3 : Int32) then ca3 else if k = (4 : Int32) then ca4 else ca5
theorem d1_0 : decode method_3_code 0 = .ok (.iload_n 0, 1) := by decide +kernel
theorem d1_1 : decode method_3_code 1 = .ok (.ifCond .ne 7, 3) := by decide +kernel
theorem d1_4 : decode method_3_code 4 = .ok (.getstatic 34, 3) := by decide +kernel
theorem d1_7 : decode method_3_code 7 = .ok (.areturn, 1) := by decide +kernel
theorem d1_8 : decode method_3_code 8 = .ok (.iload_n 0, 1) := by decide +kernel
theorem d1_9 : decode method_3_code 9 = .ok (.iconst 1, 1) := by decide +kernel
theorem d1_10 : decode method_3_code 10 = .ok (.if_icmp .ne 7, 3) := by decide +kernel
theorem d1_13 : decode method_3_code 13 = .ok (.getstatic 38, 3) := by decide +kernel
theorem d1_16 : decode method_3_code 16 = .ok (.areturn, 1) := by decide +kernel
theorem d1_17 : decode method_3_code 17 = .ok (.iload_n 0, 1) := by decide +kernel
theorem d1_18 : decode method_3_code 18 = .ok (.iconst 2, 1) := by decide +kernel
theorem d1_19 : decode method_3_code 19 = .ok (.if_icmp .ne 7, 3) := by decide +kernel
theorem d1_22 : decode method_3_code 22 = .ok (.getstatic 41, 3) := by decide +kernel
theorem d1_25 : decode method_3_code 25 = .ok (.areturn, 1) := by decide +kernel
theorem d1_26 : decode method_3_code 26 = .ok (.iload_n 0, 1) := by decide +kernel
theorem d1_27 : decode method_3_code 27 = .ok (.iconst 3, 1) := by decide +kernel
theorem d1_28 : decode method_3_code 28 = .ok (.if_icmp .ne 7, 3) := by decide +kernel
theorem d1_31 : decode method_3_code 31 = .ok (.getstatic 44, 3) := by decide +kernel
theorem d1_34 : decode method_3_code 34 = .ok (.areturn, 1) := by decide +kernel
theorem d1_35 : decode method_3_code 35 = .ok (.iload_n 0, 1) := by decide +kernel
theorem d1_36 : decode method_3_code 36 = .ok (.iconst 4, 1) := by decide +kernel
theorem d1_37 : decode method_3_code 37 = .ok (.if_icmp .ne 7, 3) := by decide +kernel
theorem d1_40 : decode method_3_code 40 = .ok (.getstatic 47, 3) := by decide +kernel
theorem d1_43 : decode method_3_code 43 = .ok (.areturn, 1) := by decide +kernel
theorem d1_44 : decode method_3_code 44 = .ok (.getstatic 50, 3) := by decide +kernel
theorem d1_47 : decode method_3_code 47 = .ok (.areturn, 1) := by decide +kernel
theorem pn_1 : plainFor (⟨"hedgerow/ComparisonComparesTextsPinLaw", "pick", "(I)Lhedgerow/Comparison;"⟩ : MethodName) = true := plainFor_of_name (x := (⟨"hedgerow/ComparisonComparesTextsPinLaw", "pick", "(I)Lhedgerow/Comparison;"⟩ : MethodName)) (by first | (simp [plainName, overriddenIn]; done) | decide +kernel)
theorem ef_1 (m : MethodId) (p1 : Int32) : entryFrame m #[(.int p1)] 1 = mkF m 0 #[.val (.int p1)] [] := by first | (simp [entryFrame, mkF, argsToLocals, Value.category]; done) | rfl
def own_Q_rm1 (Z : State) (p1 : Int32) (ca0 ca1 ca2 ca3 ca4 ca5 : Addr) (h0 : Heap) (n0 : Nat) (v : Option Value) (h : Heap) (L : List Loc) : Prop := v = some (.ref (own_pick p1 ca0 ca1 ca2 ca3 ca4 ca5)) ∧ Fr n0 L ∧ h = h0
set_option maxRecDepth 65536 in
set_option maxHeartbeats 40000000 in
theorem rm1 (l : Launch) (Z : State) (a0 : Array Value) (hw : ∀ d ∈ tables_1, d.before a0 Z = true) (ws : List Jvm.Cond) (p1 : Int32) (ca0 ca1 ca2 ca3 ca4 ca5 : Addr) (h0 : Heap) (n0 : Nat) (Z0 : n0 ≤ h0.size) (Sp0 : Sta Z h0 "hedgerow/Comparison" "LESS" "Lhedgerow/Comparison;" (.ref ca0)) (Sp1 : Sta Z h0 "hedgerow/Comparison" "LESS_OR_EQUAL" "Lhedgerow/Comparison;" (.ref ca1)) (Sp2 : Sta Z h0 "hedgerow/Comparison" "GREATER" "Lhedgerow/Comparison;" (.ref ca2)) (Sp3 : Sta Z h0 "hedgerow/Comparison" "GREATER_OR_EQUAL" "Lhedgerow/Comparison;" (.ref ca3)) (Sp4 : Sta Z h0 "hedgerow/Comparison" "EQUAL" "Lhedgerow/Comparison;" (.ref ca4)) (Sp5 : Sta Z h0 "hedgerow/Comparison" "NOT_EQUAL" "Lhedgerow/Comparison;" (.ref ca5)) :
    MetFree l (⟨"hedgerow/ComparisonComparesTextsPinLaw", "pick", "(I)Lhedgerow/Comparison;"⟩ : MethodName) (head1 (Jvm.Cond.code (⟨"hedgerow/ComparisonComparesTextsPinLaw", "pick", "(I)Lhedgerow/Comparison;"⟩ : MethodName) method_3_code 1 (some (.object "hedgerow/Comparison")) :: ws) ({ frames := 0, cells := 0, slots := 0, locals := 0 } : Room)) (fun a U => a = #[(.int p1)] ∧ Z.Warmed39 U.vm ∧ U.heap = h0) (fun _ _ _ _ _ => True) (fun _ U o U' => ∃ v L, o = .returned v ∧ own_Q_rm1 Z p1 ca0 ca1 ca2 ca3 ca4 ca5 h0 n0 v U'.heap L ∧ FrameEnd U o U' L ({ frames := 0, cells := 0, slots := 0, locals := 0 } : Room).cells ({ frames := 0, cells := 0, slots := 0, locals := 0 } : Room).slots) := by
  refine MetFree.of_bodySF pn_1 hisR ?_
  intro p e s m args below meth c s₁ Bd hml0 hP hK
  obtain ⟨rfl, hZ, hh⟩ := hP
  have hx := Bd.exec
  have hby := Bd.bytes
  have hml : c.maxLocals = 1 := hml0
  have hown : s.vm.findClass "hedgerow/ComparisonComparesTextsPinLaw" = some m.cls := findClass_of_methodNamed Bd.named
  have hnm := (name_of_methodNamed Bd.named Bd.method).1
  have X0 : Stand p l e ({ frames := 0, cells := 0, slots := 0, locals := 0 } : Room) s m #[(.int p1)] below meth c s₁ [] 0 0 := Stand.of_body Bd
  have e0 : s₁.heap = h0 := by rw [← hh, Bd.state]; rfl
  have N0 := Fr.nil n0
  show own_Fin p.tables e below s (({ frames := 0, cells := 0, slots := 0, locals := 0 } : Room).cells) (({ frames := 0, cells := 0, slots := 0, locals := 0 } : Room).slots) (own_Q_rm1 Z p1 ca0 ca1 ca2 ca3 ca4 ca5 h0 n0) (s₁.setTop (entryFrame m #[(.int p1)] 1))
  rw [ef_1 m p1]
  show own_Fin _ _ _ _ _ _ _ (s₁.setTop (mkF m 0 #[.val (.int p1)] []))
  refine own_st (fun t k => XS.iloadN X0.here hx rfl (hb hby d1_0) rfl k) ?_
  show own_Fin _ _ _ _ _ _ _ (s₁.setTop (mkF m 1 #[.val (.int p1)] [(.int p1)]))
  by_cases hc1_1 : p1 = (0 : Int32)
  · refine own_st (fun t k => XS.ifNo X0.here hx rfl (hb hby d1_1) rfl ((if0 _ _).trans (teq hc1_1).2) k) ?_
    show own_Fin _ _ _ _ _ _ _ (s₁.setTop (mkF m 4 #[.val (.int p1)] []))
    obtain ⟨T2, X2, e2, st2⟩ := getS2 X0 hx hZ hown (host := "") (Or.inl (hw _ (List.mem_of_getElem? (i := 5) rfl))) Via.refl e0 Sp0 (g := (mkF m 4 #[.val (.int p1)] [])) rfl (hb hby d1_4)
    refine own_st st2 ?_
    show own_Fin _ _ _ _ _ _ _ (T2.setTop (mkF m 7 #[.val (.int p1)] [(.ref ca0)]))
    have hv : own_pick p1 ca0 ca1 ca2 ca3 ca4 ca5 = ca0 := by unfold own_pick; rw [if_pos hc1_1]
    exact own_retA X2 hx Bd.notSynchronized Bd.returns rfl (hb hby d1_7) (by decide) (by decide) (by rw [e2]; unfold own_Q_rm1; rw [hv]; exact ⟨rfl, N0, rfl⟩)
  · refine own_st (fun t k => XS.ifYes X0.here hx rfl (pc0 := 1) (pc' := 8) rfl (hb hby d1_1) rfl ((if0 _ _).trans (feq hc1_1).2) (by decide) (by decide) k) ?_
    show own_Fin _ _ _ _ _ _ _ (s₁.setTop (mkF m 8 #[.val (.int p1)] []))
    refine own_st (fun t k => XS.iloadN X0.here hx rfl (hb hby d1_8) rfl k) ?_
    show own_Fin _ _ _ _ _ _ _ (s₁.setTop (mkF m 9 #[.val (.int p1)] [(.int p1)]))
    refine own_st (fun t k => XS.iconst X0.here hx rfl (hb hby d1_9) k) ?_
    show own_Fin _ _ _ _ _ _ _ (s₁.setTop (mkF m 10 #[.val (.int p1)] [(.int (1 : Int32)), (.int p1)]))
    by_cases hc10_3 : p1 = (1 : Int32)
    · refine own_st (fun t k => XS.icmpNo X0.here hx rfl (hb hby d1_10) rfl (teq hc10_3).2 k) ?_
      show own_Fin _ _ _ _ _ _ _ (s₁.setTop (mkF m 13 #[.val (.int p1)] []))
      obtain ⟨T4, X4, e4, st4⟩ := getS2 X0 hx hZ hown (host := "") (Or.inl (hw _ (List.mem_of_getElem? (i := 51) rfl))) Via.refl e0 Sp1 (g := (mkF m 13 #[.val (.int p1)] [])) rfl (hb hby d1_13)
      refine own_st st4 ?_
      show own_Fin _ _ _ _ _ _ _ (T4.setTop (mkF m 16 #[.val (.int p1)] [(.ref ca1)]))
      have hv : own_pick p1 ca0 ca1 ca2 ca3 ca4 ca5 = ca1 := by unfold own_pick; rw [if_neg hc1_1, if_pos hc10_3]
      exact own_retA X4 hx Bd.notSynchronized Bd.returns rfl (hb hby d1_16) (by decide) (by decide) (by rw [e4]; unfold own_Q_rm1; rw [hv]; exact ⟨rfl, N0, rfl⟩)
    · refine own_st (fun t k => XS.icmpYes X0.here hx rfl (pc0 := 10) (pc' := 17) rfl (hb hby d1_10) rfl (feq hc10_3).2 (by decide) (by decide) k) ?_
      show own_Fin _ _ _ _ _ _ _ (s₁.setTop (mkF m 17 #[.val (.int p1)] []))
      refine own_st (fun t k => XS.iloadN X0.here hx rfl (hb hby d1_17) rfl k) ?_
      show own_Fin _ _ _ _ _ _ _ (s₁.setTop (mkF m 18 #[.val (.int p1)] [(.int p1)]))
      refine own_st (fun t k => XS.iconst X0.here hx rfl (hb hby d1_18) k) ?_
      show own_Fin _ _ _ _ _ _ _ (s₁.setTop (mkF m 19 #[.val (.int p1)] [(.int (2 : Int32)), (.int p1)]))
      by_cases hc19_5 : p1 = (2 : Int32)
      · refine own_st (fun t k => XS.icmpNo X0.here hx rfl (hb hby d1_19) rfl (teq hc19_5).2 k) ?_
        show own_Fin _ _ _ _ _ _ _ (s₁.setTop (mkF m 22 #[.val (.int p1)] []))
        obtain ⟨T6, X6, e6, st6⟩ := getS2 X0 hx hZ hown (host := "") (Or.inl (hw _ (List.mem_of_getElem? (i := 49) rfl))) Via.refl e0 Sp2 (g := (mkF m 22 #[.val (.int p1)] [])) rfl (hb hby d1_22)
        refine own_st st6 ?_
        show own_Fin _ _ _ _ _ _ _ (T6.setTop (mkF m 25 #[.val (.int p1)] [(.ref ca2)]))
        have hv : own_pick p1 ca0 ca1 ca2 ca3 ca4 ca5 = ca2 := by unfold own_pick; rw [if_neg hc1_1, if_neg hc10_3, if_pos hc19_5]
        exact own_retA X6 hx Bd.notSynchronized Bd.returns rfl (hb hby d1_25) (by decide) (by decide) (by rw [e6]; unfold own_Q_rm1; rw [hv]; exact ⟨rfl, N0, rfl⟩)
      · refine own_st (fun t k => XS.icmpYes X0.here hx rfl (pc0 := 19) (pc' := 26) rfl (hb hby d1_19) rfl (feq hc19_5).2 (by decide) (by decide) k) ?_
        show own_Fin _ _ _ _ _ _ _ (s₁.setTop (mkF m 26 #[.val (.int p1)] []))
        refine own_st (fun t k => XS.iloadN X0.here hx rfl (hb hby d1_26) rfl k) ?_
        show own_Fin _ _ _ _ _ _ _ (s₁.setTop (mkF m 27 #[.val (.int p1)] [(.int p1)]))
        refine own_st (fun t k => XS.iconst X0.here hx rfl (hb hby d1_27) k) ?_
        show own_Fin _ _ _ _ _ _ _ (s₁.setTop (mkF m 28 #[.val (.int p1)] [(.int (3 : Int32)), (.int p1)]))
        by_cases hc28_7 : p1 = (3 : Int32)
        · refine own_st (fun t k => XS.icmpNo X0.here hx rfl (hb hby d1_28) rfl (teq hc28_7).2 k) ?_
          show own_Fin _ _ _ _ _ _ _ (s₁.setTop (mkF m 31 #[.val (.int p1)] []))
          obtain ⟨T8, X8, e8, st8⟩ := getS2 X0 hx hZ hown (host := "") (Or.inl (hw _ (List.mem_of_getElem? (i := 47) rfl))) Via.refl e0 Sp3 (g := (mkF m 31 #[.val (.int p1)] [])) rfl (hb hby d1_31)
          refine own_st st8 ?_
          show own_Fin _ _ _ _ _ _ _ (T8.setTop (mkF m 34 #[.val (.int p1)] [(.ref ca3)]))
          have hv : own_pick p1 ca0 ca1 ca2 ca3 ca4 ca5 = ca3 := by unfold own_pick; rw [if_neg hc1_1, if_neg hc10_3, if_neg hc19_5, if_pos hc28_7]
          exact own_retA X8 hx Bd.notSynchronized Bd.returns rfl (hb hby d1_34) (by decide) (by decide) (by rw [e8]; unfold own_Q_rm1; rw [hv]; exact ⟨rfl, N0, rfl⟩)
        · refine own_st (fun t k => XS.icmpYes X0.here hx rfl (pc0 := 28) (pc' := 35) rfl (hb hby d1_28) rfl (feq hc28_7).2 (by decide) (by decide) k) ?_
          show own_Fin _ _ _ _ _ _ _ (s₁.setTop (mkF m 35 #[.val (.int p1)] []))
          refine own_st (fun t k => XS.iloadN X0.here hx rfl (hb hby d1_35) rfl k) ?_
          show own_Fin _ _ _ _ _ _ _ (s₁.setTop (mkF m 36 #[.val (.int p1)] [(.int p1)]))
          refine own_st (fun t k => XS.iconst X0.here hx rfl (hb hby d1_36) k) ?_
          show own_Fin _ _ _ _ _ _ _ (s₁.setTop (mkF m 37 #[.val (.int p1)] [(.int (4 : Int32)), (.int p1)]))
          by_cases hc37_9 : p1 = (4 : Int32)
          · refine own_st (fun t k => XS.icmpNo X0.here hx rfl (hb hby d1_37) rfl (teq hc37_9).2 k) ?_
            show own_Fin _ _ _ _ _ _ _ (s₁.setTop (mkF m 40 #[.val (.int p1)] []))
            obtain ⟨T10, X10, e10, st10⟩ := getS2 X0 hx hZ hown (host := "") (Or.inl (hw _ (List.mem_of_getElem? (i := 54) rfl))) Via.refl e0 Sp4 (g := (mkF m 40 #[.val (.int p1)] [])) rfl (hb hby d1_40)
            refine own_st st10 ?_
            show own_Fin _ _ _ _ _ _ _ (T10.setTop (mkF m 43 #[.val (.int p1)] [(.ref ca4)]))
            have hv : own_pick p1 ca0 ca1 ca2 ca3 ca4 ca5 = ca4 := by unfold own_pick; rw [if_neg hc1_1, if_neg hc10_3, if_neg hc19_5, if_neg hc28_7, if_pos hc37_9]
            exact own_retA X10 hx Bd.notSynchronized Bd.returns rfl (hb hby d1_43) (by decide) (by decide) (by rw [e10]; unfold own_Q_rm1; rw [hv]; exact ⟨rfl, N0, rfl⟩)
          · refine own_st (fun t k => XS.icmpYes X0.here hx rfl (pc0 := 37) (pc' := 44) rfl (hb hby d1_37) rfl (feq hc37_9).2 (by decide) (by decide) k) ?_
            show own_Fin _ _ _ _ _ _ _ (s₁.setTop (mkF m 44 #[.val (.int p1)] []))
            obtain ⟨T11, X11, e11, st11⟩ := getS2 X0 hx hZ hown (host := "") (Or.inl (hw _ (List.mem_of_getElem? (i := 53) rfl))) Via.refl e0 Sp5 (g := (mkF m 44 #[.val (.int p1)] [])) rfl (hb hby d1_44)
            refine own_st st11 ?_
            show own_Fin _ _ _ _ _ _ _ (T11.setTop (mkF m 47 #[.val (.int p1)] [(.ref ca5)]))
            have hv : own_pick p1 ca0 ca1 ca2 ca3 ca4 ca5 = ca5 := by unfold own_pick; rw [if_neg hc1_1, if_neg hc10_3, if_neg hc19_5, if_neg hc28_7, if_neg hc37_9]
            exact own_retA X11 hx Bd.notSynchronized Bd.returns rfl (hb hby d1_47) (by decide) (by decide) (by rw [e11]; unfold own_Q_rm1; rw [hv]; exact ⟨rfl, N0, rfl⟩)
theorem d2_0 : decode prog_15_method_6_code 0 = .ok (.aload_n 0, 1) := by decide +kernel
theorem d2_1 : decode prog_15_method_6_code 1 = .ok (.getfield 41, 3) := by decide +kernel
theorem d2_4 : decode prog_15_method_6_code 4 = .ok (.areturn, 1) := by decide +kernel
theorem pn_2 : plainFor (⟨"hedgerow/Comparison", "toString", "()Ljava/lang/String;"⟩ : MethodName) = true := plainFor_of_name (x := (⟨"hedgerow/Comparison", "toString", "()Ljava/lang/String;"⟩ : MethodName)) (by first | (simp [plainName, overriddenIn]; done) | decide +kernel)
theorem ef_2 (m : MethodId) (a1 : Addr) : entryFrame m #[(.ref a1)] 1 = mkF m 0 #[.val (.ref a1)] [] := by first | (simp [entryFrame, mkF, argsToLocals, Value.category]; done) | rfl
def own_Q_rm2 (Z : State) (a1 : Addr) (sa : Addr) (h0 : Heap) (n0 : Nat) (v : Option Value) (h : Heap) (L : List Loc) : Prop := v = some (.ref sa) ∧ Fr n0 L ∧ h = h0
set_option maxRecDepth 65536 in
set_option maxHeartbeats 40000000 in
theorem rm2 (l : Launch) (Z : State) (a0 : Array Value) (hw : ∀ d ∈ tables_1, d.before a0 Z = true) (ws : List Jvm.Cond) (a1 : Addr) (sa : Addr) (h0 : Heap) (n0 : Nat) (Z0 : n0 ≤ h0.size) (Fs : Fld Z h0 a1 "hedgerow/Comparison" "symbol" "Ljava/lang/String;" (.ref sa)) :
    MetFree l (⟨"hedgerow/Comparison", "toString", "()Ljava/lang/String;"⟩ : MethodName) (head1 (Jvm.Cond.code (⟨"hedgerow/Comparison", "toString", "()Ljava/lang/String;"⟩ : MethodName) prog_15_method_6_code 1 (some (.object "java/lang/String")) :: ws) ({ frames := 0, cells := 0, slots := 0, locals := 0 } : Room)) (fun a U => a = #[(.ref a1)] ∧ Z.Warmed39 U.vm ∧ U.heap = h0) (fun _ _ _ _ _ => True) (fun _ U o U' => ∃ v L, o = .returned v ∧ own_Q_rm2 Z a1 sa h0 n0 v U'.heap L ∧ FrameEnd U o U' L ({ frames := 0, cells := 0, slots := 0, locals := 0 } : Room).cells ({ frames := 0, cells := 0, slots := 0, locals := 0 } : Room).slots) := by
  refine MetFree.of_bodySF pn_2 hisR ?_
  intro p e s m args below meth c s₁ Bd hml0 hP hK
  obtain ⟨rfl, hZ, hh⟩ := hP
  have hx := Bd.exec
  have hby := Bd.bytes
  have hml : c.maxLocals = 1 := hml0
  have hown : s.vm.findClass "hedgerow/Comparison" = some m.cls := findClass_of_methodNamed Bd.named
  have hnm := (name_of_methodNamed Bd.named Bd.method).1
  have X0 : Stand p l e ({ frames := 0, cells := 0, slots := 0, locals := 0 } : Room) s m #[(.ref a1)] below meth c s₁ [] 0 0 := Stand.of_body Bd
  have e0 : s₁.heap = h0 := by rw [← hh, Bd.state]; rfl
  have N0 := Fr.nil n0
  show own_Fin p.tables e below s (({ frames := 0, cells := 0, slots := 0, locals := 0 } : Room).cells) (({ frames := 0, cells := 0, slots := 0, locals := 0 } : Room).slots) (own_Q_rm2 Z a1 sa h0 n0) (s₁.setTop (entryFrame m #[(.ref a1)] 1))
  rw [ef_2 m a1]
  show own_Fin _ _ _ _ _ _ _ (s₁.setTop (mkF m 0 #[.val (.ref a1)] []))
  refine own_st (fun t k => XS.aloadN X0.here hx rfl (hb hby d2_0) rfl rfl k) ?_
  show own_Fin _ _ _ _ _ _ _ (s₁.setTop (mkF m 1 #[.val (.ref a1)] [(.ref a1)]))
  obtain ⟨T1, X1, e1, st1⟩ := getF X0 hx hZ hown (host := "") (Or.inl (hw _ (List.mem_of_getElem? (i := 13) rfl))) Via.refl e0 Fs (g := (mkF m 1 #[.val (.ref a1)] [(.ref a1)])) rfl rfl (hb hby d2_1)
  refine own_st st1 ?_
  show own_Fin _ _ _ _ _ _ _ (T1.setTop (mkF m 4 #[.val (.ref a1)] [(.ref sa)]))
  exact own_retA X1 hx Bd.notSynchronized Bd.returns rfl (hb hby d2_4) (by decide) (by decide) (by rw [e1]; exact ⟨rfl, N0, rfl⟩)
def own_ct (a e n : Addr) : Int32 := if a = e then (1 : Int32) else if a = n then (1 : Int32) else (0 : Int32)
theorem d5_0 : decode prog_15_method_5_code 0 = .ok (.aload_n 0, 1) := by decide +kernel
theorem d5_1 : decode prog_15_method_5_code 1 = .ok (.getstatic 16, 3) := by decide +kernel
theorem d5_4 : decode prog_15_method_5_code 4 = .ok (.if_acmp .eq 10, 3) := by decide +kernel
theorem d5_7 : decode prog_15_method_5_code 7 = .ok (.aload_n 0, 1) := by decide +kernel
theorem d5_8 : decode prog_15_method_5_code 8 = .ok (.getstatic 19, 3) := by decide +kernel
theorem d5_11 : decode prog_15_method_5_code 11 = .ok (.if_acmp .ne 7, 3) := by decide +kernel
theorem d5_14 : decode prog_15_method_5_code 14 = .ok (.iconst 1, 1) := by decide +kernel
theorem d5_15 : decode prog_15_method_5_code 15 = .ok (.goto 4, 3) := by decide +kernel
theorem d5_18 : decode prog_15_method_5_code 18 = .ok (.iconst 0, 1) := by decide +kernel
theorem d5_19 : decode prog_15_method_5_code 19 = .ok (.ireturn, 1) := by decide +kernel
theorem pn_5 : plainFor (⟨"hedgerow/Comparison", "comparesTexts", "()Z"⟩ : MethodName) = true := plainFor_of_name (x := (⟨"hedgerow/Comparison", "comparesTexts", "()Z"⟩ : MethodName)) (by first | (simp [plainName, overriddenIn]; done) | decide +kernel)
theorem ef_5 (m : MethodId) (a1 : Addr) : entryFrame m #[(.ref a1)] 1 = mkF m 0 #[.val (.ref a1)] [] := by first | (simp [entryFrame, mkF, argsToLocals, Value.category]; done) | rfl
def own_Q_rm5 (Z : State) (a1 : Addr) (ca4 ca5 : Addr) (h0 : Heap) (n0 : Nat) (v : Option Value) (h : Heap) (L : List Loc) : Prop := v = some (.int (own_ct a1 ca4 ca5)) ∧ Fr n0 L ∧ h = h0
set_option maxRecDepth 65536 in
set_option maxHeartbeats 40000000 in
theorem rm5 (l : Launch) (Z : State) (a0 : Array Value) (hw : ∀ d ∈ tables_1, d.before a0 Z = true) (ws : List Jvm.Cond) (a1 : Addr) (ca4 ca5 : Addr) (h0 : Heap) (n0 : Nat) (Z0 : n0 ≤ h0.size) (Sq4 : Sta Z h0 "hedgerow/Comparison" "EQUAL" "Lhedgerow/Comparison;" (.ref ca4)) (Sq5 : Sta Z h0 "hedgerow/Comparison" "NOT_EQUAL" "Lhedgerow/Comparison;" (.ref ca5)) :
    MetFree l (⟨"hedgerow/Comparison", "comparesTexts", "()Z"⟩ : MethodName) (head1 (Jvm.Cond.code (⟨"hedgerow/Comparison", "comparesTexts", "()Z"⟩ : MethodName) prog_15_method_5_code 1 (some .boolean) :: ws) ({ frames := 0, cells := 0, slots := 0, locals := 0 } : Room)) (fun a U => a = #[(.ref a1)] ∧ Z.Warmed39 U.vm ∧ U.heap = h0) (fun _ _ _ _ _ => True) (fun _ U o U' => ∃ v L, o = .returned v ∧ own_Q_rm5 Z a1 ca4 ca5 h0 n0 v U'.heap L ∧ FrameEnd U o U' L ({ frames := 0, cells := 0, slots := 0, locals := 0 } : Room).cells ({ frames := 0, cells := 0, slots := 0, locals := 0 } : Room).slots) := by
  refine MetFree.of_bodySF pn_5 hisR ?_
  intro p e s m args below meth c s₁ Bd hml0 hP hK
  obtain ⟨rfl, hZ, hh⟩ := hP
  have hx := Bd.exec
  have hby := Bd.bytes
  have hml : c.maxLocals = 1 := hml0
  have hown : s.vm.findClass "hedgerow/Comparison" = some m.cls := findClass_of_methodNamed Bd.named
  have hnm := (name_of_methodNamed Bd.named Bd.method).1
  have X0 : Stand p l e ({ frames := 0, cells := 0, slots := 0, locals := 0 } : Room) s m #[(.ref a1)] below meth c s₁ [] 0 0 := Stand.of_body Bd
  have e0 : s₁.heap = h0 := by rw [← hh, Bd.state]; rfl
  have N0 := Fr.nil n0
  show own_Fin p.tables e below s (({ frames := 0, cells := 0, slots := 0, locals := 0 } : Room).cells) (({ frames := 0, cells := 0, slots := 0, locals := 0 } : Room).slots) (own_Q_rm5 Z a1 ca4 ca5 h0 n0) (s₁.setTop (entryFrame m #[(.ref a1)] 1))
  rw [ef_5 m a1]
  show own_Fin _ _ _ _ _ _ _ (s₁.setTop (mkF m 0 #[.val (.ref a1)] []))
  refine own_st (fun t k => XS.aloadN X0.here hx rfl (hb hby d5_0) rfl rfl k) ?_
  show own_Fin _ _ _ _ _ _ _ (s₁.setTop (mkF m 1 #[.val (.ref a1)] [(.ref a1)]))
  obtain ⟨T1, X1, e1, st1⟩ := getS2 X0 hx hZ hown (host := "") (Or.inl (hw _ (List.mem_of_getElem? (i := 43) rfl))) Via.refl e0 Sq4 (g := (mkF m 1 #[.val (.ref a1)] [(.ref a1)])) rfl (hb hby d5_1)
  refine own_st st1 ?_
  show own_Fin _ _ _ _ _ _ _ (T1.setTop (mkF m 4 #[.val (.ref a1)] [(.ref ca4), (.ref a1)]))
  by_cases ha4_2 : a1 = ca4
  · refine own_st (fun t k => Jvm.RoadKit.acmp (g := (mkF m 4 #[.val (.ref a1)] [(.ref ca4), (.ref a1)])) X1 hx rfl rfl rfl (pc0 := 4) (pc' := 14) (same := true) rfl (hb hby d5_4) rfl (decide_eq_true (congrArg Value.ref ha4_2)) (by decide) (by decide) k) ?_
    show own_Fin _ _ _ _ _ _ _ (T1.setTop (mkF m 14 #[.val (.ref a1)] []))
    refine own_st (fun t k => XS.iconst X1.here hx rfl (hb hby d5_14) k) ?_
    show own_Fin _ _ _ _ _ _ _ (T1.setTop (mkF m 15 #[.val (.ref a1)] [(.int (1 : Int32))]))
    refine own_st (fun t k => XS.goto X1.here hx rfl (pc0 := 15) (pc' := 19) rfl (hb hby d5_15) (by decide) (by decide) k) ?_
    show own_Fin _ _ _ _ _ _ _ (T1.setTop (mkF m 19 #[.val (.ref a1)] [(.int (1 : Int32))]))
    have hv : own_ct a1 ca4 ca5 = (1 : Int32) := by unfold own_ct; rw [if_pos ha4_2]
    exact own_retN X1 hx Bd.notSynchronized (t := .boolean) Bd.returns (by simp) (hb hby d5_19) (by decide) (by decide) (by rw [e1]; unfold own_Q_rm5; rw [hv]; exact ⟨rfl, N0, rfl⟩)
  · refine own_st (fun t k => Jvm.RoadKit.acmp (g := (mkF m 4 #[.val (.ref a1)] [(.ref ca4), (.ref a1)])) X1 hx rfl rfl rfl (pc0 := 4) (pc' := 7) (same := false) rfl (hb hby d5_4) rfl (decide_eq_false fun q => ha4_2 (Value.ref.inj q)) (by decide) (by decide) k) ?_
    show own_Fin _ _ _ _ _ _ _ (T1.setTop (mkF m 7 #[.val (.ref a1)] []))
    refine own_st (fun t k => XS.aloadN X1.here hx rfl (hb hby d5_7) rfl rfl k) ?_
    show own_Fin _ _ _ _ _ _ _ (T1.setTop (mkF m 8 #[.val (.ref a1)] [(.ref a1)]))
    obtain ⟨T3, X3, e3, st3⟩ := getS2 X1 hx hZ hown (host := "") (Or.inl (hw _ (List.mem_of_getElem? (i := 45) rfl))) Via.refl e1 Sq5 (g := (mkF m 8 #[.val (.ref a1)] [(.ref a1)])) rfl (hb hby d5_8)
    refine own_st st3 ?_
    show own_Fin _ _ _ _ _ _ _ (T3.setTop (mkF m 11 #[.val (.ref a1)] [(.ref ca5), (.ref a1)]))
    by_cases ha11_4 : a1 = ca5
    · refine own_st (fun t k => Jvm.RoadKit.acmp (g := (mkF m 11 #[.val (.ref a1)] [(.ref ca5), (.ref a1)])) X3 hx rfl rfl rfl (pc0 := 11) (pc' := 14) (same := true) rfl (hb hby d5_11) rfl (decide_eq_true (congrArg Value.ref ha11_4)) (by decide) (by decide) k) ?_
      show own_Fin _ _ _ _ _ _ _ (T3.setTop (mkF m 14 #[.val (.ref a1)] []))
      refine own_st (fun t k => XS.iconst X3.here hx rfl (hb hby d5_14) k) ?_
      show own_Fin _ _ _ _ _ _ _ (T3.setTop (mkF m 15 #[.val (.ref a1)] [(.int (1 : Int32))]))
      refine own_st (fun t k => XS.goto X3.here hx rfl (pc0 := 15) (pc' := 19) rfl (hb hby d5_15) (by decide) (by decide) k) ?_
      show own_Fin _ _ _ _ _ _ _ (T3.setTop (mkF m 19 #[.val (.ref a1)] [(.int (1 : Int32))]))
      have hv : own_ct a1 ca4 ca5 = (1 : Int32) := by unfold own_ct; rw [if_neg ha4_2, if_pos ha11_4]
      exact own_retN X3 hx Bd.notSynchronized (t := .boolean) Bd.returns (by simp) (hb hby d5_19) (by decide) (by decide) (by rw [e3]; unfold own_Q_rm5; rw [hv]; exact ⟨rfl, N0, rfl⟩)
    · refine own_st (fun t k => Jvm.RoadKit.acmp (g := (mkF m 11 #[.val (.ref a1)] [(.ref ca5), (.ref a1)])) X3 hx rfl rfl rfl (pc0 := 11) (pc' := 18) (same := false) rfl (hb hby d5_11) rfl (decide_eq_false fun q => ha11_4 (Value.ref.inj q)) (by decide) (by decide) k) ?_
      show own_Fin _ _ _ _ _ _ _ (T3.setTop (mkF m 18 #[.val (.ref a1)] []))
      refine own_st (fun t k => XS.iconst X3.here hx rfl (hb hby d5_18) k) ?_
      show own_Fin _ _ _ _ _ _ _ (T3.setTop (mkF m 19 #[.val (.ref a1)] [(.int (0 : Int32))]))
      have hv : own_ct a1 ca4 ca5 = (0 : Int32) := by unfold own_ct; rw [if_neg ha4_2, if_neg ha11_4]
      exact own_retN X3 hx Bd.notSynchronized (t := .boolean) Bd.returns (by simp) (hb hby d5_19) (by decide) (by decide) (by rw [e3]; unfold own_Q_rm5; rw [hv]; exact ⟨rfl, N0, rfl⟩)
theorem d4_0 : decode jdk_43_method_13_code 0 = .ok (.aload_n 0, 1) := by decide +kernel
theorem d4_1 : decode jdk_43_method_13_code 1 = .ok (.arraylength, 1) := by decide +kernel
theorem d4_2 : decode jdk_43_method_13_code 2 = .ok (.aload_n 1, 1) := by decide +kernel
theorem d4_3 : decode jdk_43_method_13_code 3 = .ok (.arraylength, 1) := by decide +kernel
theorem d4_4 : decode jdk_43_method_13_code 4 = .ok (.if_icmp .ne 30, 3) := by decide +kernel
theorem d4_7 : decode jdk_43_method_13_code 7 = .ok (.iconst 0, 1) := by decide +kernel
theorem d4_8 : decode jdk_43_method_13_code 8 = .ok (.istore_n 2, 1) := by decide +kernel
theorem d4_9 : decode jdk_43_method_13_code 9 = .ok (.iload_n 2, 1) := by decide +kernel
theorem d4_10 : decode jdk_43_method_13_code 10 = .ok (.aload_n 0, 1) := by decide +kernel
theorem d4_11 : decode jdk_43_method_13_code 11 = .ok (.arraylength, 1) := by decide +kernel
theorem d4_12 : decode jdk_43_method_13_code 12 = .ok (.if_icmp .ge 20, 3) := by decide +kernel
theorem d4_15 : decode jdk_43_method_13_code 15 = .ok (.aload_n 0, 1) := by decide +kernel
theorem d4_16 : decode jdk_43_method_13_code 16 = .ok (.iload_n 2, 1) := by decide +kernel
theorem d4_17 : decode jdk_43_method_13_code 17 = .ok (.baload, 1) := by decide +kernel
theorem d4_18 : decode jdk_43_method_13_code 18 = .ok (.aload_n 1, 1) := by decide +kernel
theorem d4_19 : decode jdk_43_method_13_code 19 = .ok (.iload_n 2, 1) := by decide +kernel
theorem d4_20 : decode jdk_43_method_13_code 20 = .ok (.baload, 1) := by decide +kernel
theorem d4_21 : decode jdk_43_method_13_code 21 = .ok (.if_icmp .eq 5, 3) := by decide +kernel
theorem d4_24 : decode jdk_43_method_13_code 24 = .ok (.iconst 0, 1) := by decide +kernel
theorem d4_25 : decode jdk_43_method_13_code 25 = .ok (.ireturn, 1) := by decide +kernel
theorem d4_26 : decode jdk_43_method_13_code 26 = .ok (.iinc 2 1, 3) := by decide +kernel
theorem d4_29 : decode jdk_43_method_13_code 29 = .ok (.goto (-20), 3) := by decide +kernel
theorem d4_32 : decode jdk_43_method_13_code 32 = .ok (.iconst 1, 1) := by decide +kernel
theorem d4_33 : decode jdk_43_method_13_code 33 = .ok (.ireturn, 1) := by decide +kernel
theorem d4_34 : decode jdk_43_method_13_code 34 = .ok (.iconst 0, 1) := by decide +kernel
theorem d4_35 : decode jdk_43_method_13_code 35 = .ok (.ireturn, 1) := by decide +kernel
theorem pn_4 : plainFor (⟨"java/lang/StringLatin1", "equals", "([B[B)Z"⟩ : MethodName) = true := plainFor_of_name (x := (⟨"java/lang/StringLatin1", "equals", "([B[B)Z"⟩ : MethodName)) (by first | (simp [plainName, overriddenIn]; done) | decide +kernel)
theorem ef_4 (m : MethodId) (a1 : Addr) (a2 : Addr) : entryFrame m #[(.ref a1), (.ref a2)] 3 = mkF m 0 #[.val (.ref a1), .val (.ref a2), .unset] [] := by first | (simp [entryFrame, mkF, argsToLocals, Value.category]; done) | rfl
def own_Q_rmLD (Z : State) (a1 : Addr) (a2 : Addr) (k1 k2 : ClassId) (z1 z2 : Int32) (vs1 vs2 : List Value) (h0 : Heap) (n0 : Nat) (v : Option Value) (h : Heap) (L : List Loc) : Prop := v = some (.int (0 : Int32)) ∧ Fr n0 L ∧ h = h0
set_option maxRecDepth 65536 in
set_option maxHeartbeats 40000000 in
theorem rmLD (l : Launch) (Z : State) (a0 : Array Value) (hw : ∀ d ∈ tables_1, d.before a0 Z = true) (ws : List Jvm.Cond) (a1 : Addr) (a2 : Addr) (k1 k2 : ClassId) (z1 z2 : Int32) (vs1 vs2 : List Value) (h0 : Heap) (n0 : Nat) (Z0 : n0 ≤ h0.size) (V1 : Arv Z h0 a1 k1 .byte z1 vs1 (.int (0 : Int32))) (V2 : Arv Z h0 a2 k2 .byte z2 vs2 (.int (0 : Int32))) (hz : ¬ (z1 = z2)) :
    MetFree l (⟨"java/lang/StringLatin1", "equals", "([B[B)Z"⟩ : MethodName) (head1 (Jvm.Cond.code (⟨"java/lang/StringLatin1", "equals", "([B[B)Z"⟩ : MethodName) jdk_43_method_13_code 3 (some .boolean) :: ws) ({ frames := 0, cells := 0, slots := 0, locals := 0 } : Room)) (fun a U => a = #[(.ref a1), (.ref a2)] ∧ Z.Warmed39 U.vm ∧ U.heap = h0) (fun _ _ _ _ _ => True) (fun _ U o U' => ∃ v L, o = .returned v ∧ own_Q_rmLD Z a1 a2 k1 k2 z1 z2 vs1 vs2 h0 n0 v U'.heap L ∧ FrameEnd U o U' L ({ frames := 0, cells := 0, slots := 0, locals := 0 } : Room).cells ({ frames := 0, cells := 0, slots := 0, locals := 0 } : Room).slots) := by
  refine MetFree.of_bodySF pn_4 hisR ?_
  intro p e s m args below meth c s₁ Bd hml0 hP hK
  obtain ⟨rfl, hZ, hh⟩ := hP
  have hx := Bd.exec
  have hby := Bd.bytes
  have hml : c.maxLocals = 3 := hml0
  have hown : s.vm.findClass "java/lang/StringLatin1" = some m.cls := findClass_of_methodNamed Bd.named
  have hnm := (name_of_methodNamed Bd.named Bd.method).1
  have X0 : Stand p l e ({ frames := 0, cells := 0, slots := 0, locals := 0 } : Room) s m #[(.ref a1), (.ref a2)] below meth c s₁ [] 0 0 := Stand.of_body Bd
  have e0 : s₁.heap = h0 := by rw [← hh, Bd.state]; rfl
  have N0 := Fr.nil n0
  show own_Fin p.tables e below s (({ frames := 0, cells := 0, slots := 0, locals := 0 } : Room).cells) (({ frames := 0, cells := 0, slots := 0, locals := 0 } : Room).slots) (own_Q_rmLD Z a1 a2 k1 k2 z1 z2 vs1 vs2 h0 n0) (s₁.setTop (entryFrame m #[(.ref a1), (.ref a2)] 3))
  rw [ef_4 m a1 a2]
  show own_Fin _ _ _ _ _ _ _ (s₁.setTop (mkF m 0 #[.val (.ref a1), .val (.ref a2), .unset] []))
  refine own_st (fun t k => XS.aloadN X0.here hx rfl (hb hby d4_0) rfl rfl k) ?_
  show own_Fin _ _ _ _ _ _ _ (s₁.setTop (mkF m 1 #[.val (.ref a1), .val (.ref a2), .unset] [(.ref a1)]))
  obtain ⟨cl1, Ar1, Cq1, Sz1, Mn1, Hs1, Gf1⟩ := id V1
  refine own_st (X0.arraylength hx (by rw [e0]; exact Ar1.1) (State.isArrayOf_alike hZ.alike Ar1.2.1) (g := (mkF m 1 #[.val (.ref a1), .val (.ref a2), .unset] [(.ref a1)])) rfl rfl (hb hby d4_1)) ?_
  rw [len_of Sz1 Mn1]
  show own_Fin _ _ _ _ _ _ _ (s₁.setTop (mkF m 2 #[.val (.ref a1), .val (.ref a2), .unset] [(.int z1)]))
  refine own_st (fun t k => XS.aloadN X0.here hx rfl (hb hby d4_2) rfl rfl k) ?_
  show own_Fin _ _ _ _ _ _ _ (s₁.setTop (mkF m 3 #[.val (.ref a1), .val (.ref a2), .unset] [(.ref a2), (.int z1)]))
  obtain ⟨cl2, Ar2, Cq2, Sz2, Mn2, Hs2, Gf2⟩ := id V2
  refine own_st (X0.arraylength hx (by rw [e0]; exact Ar2.1) (State.isArrayOf_alike hZ.alike Ar2.2.1) (g := (mkF m 3 #[.val (.ref a1), .val (.ref a2), .unset] [(.ref a2), (.int z1)])) rfl rfl (hb hby d4_3)) ?_
  rw [len_of Sz2 Mn2]
  show own_Fin _ _ _ _ _ _ _ (s₁.setTop (mkF m 4 #[.val (.ref a1), .val (.ref a2), .unset] [(.int z2), (.int z1)]))
  have hd4_3 : ¬ (z1 = z2) := hz
  refine own_st (fun t k => XS.icmpYes X0.here hx rfl (pc0 := 4) (pc' := 34) rfl (hb hby d4_4) rfl (feq hd4_3).2 (by decide) (by decide) k) ?_
  show own_Fin _ _ _ _ _ _ _ (s₁.setTop (mkF m 34 #[.val (.ref a1), .val (.ref a2), .unset] []))
  refine own_st (fun t k => XS.iconst X0.here hx rfl (hb hby d4_34) k) ?_
  show own_Fin _ _ _ _ _ _ _ (s₁.setTop (mkF m 35 #[.val (.ref a1), .val (.ref a2), .unset] [(.int (0 : Int32))]))
  exact own_retN X0 hx Bd.notSynchronized (t := .boolean) Bd.returns (by simp) (hb hby d4_35) (by decide) (by decide) (by rw [e0]; exact ⟨rfl, N0, rfl⟩)
theorem d3_0 : decode jdk_42_method_66_code 0 = .ok (.aload_n 0, 1) := by decide +kernel
theorem d3_1 : decode jdk_42_method_66_code 1 = .ok (.aload_n 1, 1) := by decide +kernel
theorem d3_2 : decode jdk_42_method_66_code 2 = .ok (.if_acmp .ne 5, 3) := by decide +kernel
theorem d3_5 : decode jdk_42_method_66_code 5 = .ok (.iconst 1, 1) := by decide +kernel
theorem d3_6 : decode jdk_42_method_66_code 6 = .ok (.ireturn, 1) := by decide +kernel
theorem d3_7 : decode jdk_42_method_66_code 7 = .ok (.aload_n 1, 1) := by decide +kernel
theorem d3_8 : decode jdk_42_method_66_code 8 = .ok (.instanceof 10, 3) := by decide +kernel
theorem d3_11 : decode jdk_42_method_66_code 11 = .ok (.ifCond .eq 43, 3) := by decide +kernel
theorem d3_14 : decode jdk_42_method_66_code 14 = .ok (.aload_n 1, 1) := by decide +kernel
theorem d3_15 : decode jdk_42_method_66_code 15 = .ok (.checkcast 10, 3) := by decide +kernel
theorem d3_18 : decode jdk_42_method_66_code 18 = .ok (.astore_n 2, 1) := by decide +kernel
theorem d3_19 : decode jdk_42_method_66_code 19 = .ok (.getstatic 38, 3) := by decide +kernel
theorem d3_22 : decode jdk_42_method_66_code 22 = .ok (.ifCond .eq 14, 3) := by decide +kernel
theorem d3_25 : decode jdk_42_method_66_code 25 = .ok (.aload_n 0, 1) := by decide +kernel
theorem d3_26 : decode jdk_42_method_66_code 26 = .ok (.getfield 15, 3) := by decide +kernel
theorem d3_29 : decode jdk_42_method_66_code 29 = .ok (.aload_n 2, 1) := by decide +kernel
theorem d3_30 : decode jdk_42_method_66_code 30 = .ok (.getfield 15, 3) := by decide +kernel
theorem d3_33 : decode jdk_42_method_66_code 33 = .ok (.if_icmp .ne 21, 3) := by decide +kernel
theorem d3_36 : decode jdk_42_method_66_code 36 = .ok (.aload_n 0, 1) := by decide +kernel
theorem d3_37 : decode jdk_42_method_66_code 37 = .ok (.getfield 9, 3) := by decide +kernel
theorem d3_40 : decode jdk_42_method_66_code 40 = .ok (.aload_n 2, 1) := by decide +kernel
theorem d3_41 : decode jdk_42_method_66_code 41 = .ok (.getfield 9, 3) := by decide +kernel
theorem d3_44 : decode jdk_42_method_66_code 44 = .ok (.invokestatic 541, 3) := by decide +kernel
theorem d3_47 : decode jdk_42_method_66_code 47 = .ok (.ifCond .eq 7, 3) := by decide +kernel
theorem d3_50 : decode jdk_42_method_66_code 50 = .ok (.iconst 1, 1) := by decide +kernel
theorem d3_51 : decode jdk_42_method_66_code 51 = .ok (.goto 4, 3) := by decide +kernel
theorem d3_54 : decode jdk_42_method_66_code 54 = .ok (.iconst 0, 1) := by decide +kernel
theorem d3_55 : decode jdk_42_method_66_code 55 = .ok (.ireturn, 1) := by decide +kernel
theorem pn_3 : plainFor (⟨"java/lang/String", "equals", "(Ljava/lang/Object;)Z"⟩ : MethodName) = true := plainFor_of_name (x := (⟨"java/lang/String", "equals", "(Ljava/lang/Object;)Z"⟩ : MethodName)) (by first | (simp [plainName, overriddenIn]; done) | decide +kernel)
theorem pd_3_0 : parseMethodDescriptor "([B[B)Z" = some ⟨[(.array .byte), (.array .byte)], some .boolean⟩ := by decide +kernel
theorem ef_3 (m : MethodId) (a1 : Addr) (a2 : Addr) : entryFrame m #[(.ref a1), (.ref a2)] 3 = mkF m 0 #[.val (.ref a1), .val (.ref a2), .unset] [] := by first | (simp [entryFrame, mkF, argsToLocals, Value.category]; done) | rfl
def own_Q_rmED (Z : State) (a1 : Addr) (a2 : Addr) (t1 t2 : Addr) (k1 k2 : ClassId) (G1 : Int32) (z1 z2 : Int32) (vs1 vs2 : List Value) (h0 : Heap) (n0 : Nat) (v : Option Value) (h : Heap) (L : List Loc) : Prop := v = some (.int (0 : Int32)) ∧ Fr n0 L ∧ h = h0
set_option maxRecDepth 65536 in
set_option maxHeartbeats 40000000 in
theorem rmED (l : Launch) (Z : State) (a0 : Array Value) (hw : ∀ d ∈ tables_1, d.before a0 Z = true) (ws : List Jvm.Cond) (a1 : Addr) (a2 : Addr) (t1 t2 : Addr) (k1 k2 : ClassId) (G1 : Int32) (z1 z2 : Int32) (vs1 vs2 : List Value) (h0 : Heap) (n0 : Nat) (Z0 : n0 ≤ h0.size) (E1 : Exa Z h0 a1 "java/lang/String") (E2 : Exa Z h0 a2 "java/lang/String") (Fc1 : Fld Z h0 a1 "java/lang/String" "coder" "B" (.int (0 : Int32))) (Fc2 : Fld Z h0 a2 "java/lang/String" "coder" "B" (.int (0 : Int32))) (Fv1 : Fld Z h0 a1 "java/lang/String" "value" "[B" (.ref t1)) (Fv2 : Fld Z h0 a2 "java/lang/String" "value" "[B" (.ref t2)) (V1 : Arv Z h0 t1 k1 .byte z1 vs1 (.int (0 : Int32))) (V2 : Arv Z h0 t2 k2 .byte z2 vs2 (.int (0 : Int32))) (O2 : Sta Z h0 "java/lang/String" "COMPACT_STRINGS" "Z" (.int G1)) (P5 : ¬ (G1 = (0 : Int32))) (hne : ¬ (a1 = a2)) (hz : ¬ (z1 = z2)) :
    MetFree l (⟨"java/lang/String", "equals", "(Ljava/lang/Object;)Z"⟩ : MethodName) (head1 (Jvm.Cond.code (⟨"java/lang/String", "equals", "(Ljava/lang/Object;)Z"⟩ : MethodName) jdk_42_method_66_code 3 (some .boolean) :: ws) ({ frames := 1, cells := 0, slots := 0, locals := 14 } : Room)) (fun a U => a = #[(.ref a1), (.ref a2)] ∧ Z.Warmed39 U.vm ∧ U.heap = h0) (fun _ _ _ _ _ => True) (fun _ U o U' => ∃ v L, o = .returned v ∧ own_Q_rmED Z a1 a2 t1 t2 k1 k2 G1 z1 z2 vs1 vs2 h0 n0 v U'.heap L ∧ FrameEnd U o U' L ({ frames := 1, cells := 0, slots := 0, locals := 14 } : Room).cells ({ frames := 1, cells := 0, slots := 0, locals := 14 } : Room).slots) := by
  refine MetFree.of_bodySF pn_3 hisR ?_
  intro p e s m args below meth c s₁ Bd hml0 hP hK
  obtain ⟨rfl, hZ, hh⟩ := hP
  have hx := Bd.exec
  have hby := Bd.bytes
  have hml : c.maxLocals = 3 := hml0
  have hown : s.vm.findClass "java/lang/String" = some m.cls := findClass_of_methodNamed Bd.named
  have hnm := (name_of_methodNamed Bd.named Bd.method).1
  have X0 : Stand p l e ({ frames := 1, cells := 0, slots := 0, locals := 14 } : Room) s m #[(.ref a1), (.ref a2)] below meth c s₁ [] 0 0 := Stand.of_body Bd
  have e0 : s₁.heap = h0 := by rw [← hh, Bd.state]; rfl
  have N0 := Fr.nil n0
  show own_Fin p.tables e below s (({ frames := 1, cells := 0, slots := 0, locals := 14 } : Room).cells) (({ frames := 1, cells := 0, slots := 0, locals := 14 } : Room).slots) (own_Q_rmED Z a1 a2 t1 t2 k1 k2 G1 z1 z2 vs1 vs2 h0 n0) (s₁.setTop (entryFrame m #[(.ref a1), (.ref a2)] 3))
  rw [ef_3 m a1 a2]
  show own_Fin _ _ _ _ _ _ _ (s₁.setTop (mkF m 0 #[.val (.ref a1), .val (.ref a2), .unset] []))
  refine own_st (fun t k => XS.aloadN X0.here hx rfl (hb hby d3_0) rfl rfl k) ?_
  show own_Fin _ _ _ _ _ _ _ (s₁.setTop (mkF m 1 #[.val (.ref a1), .val (.ref a2), .unset] [(.ref a1)]))
  refine own_st (fun t k => XS.aloadN X0.here hx rfl (hb hby d3_1) rfl rfl k) ?_
  show own_Fin _ _ _ _ _ _ _ (s₁.setTop (mkF m 2 #[.val (.ref a1), .val (.ref a2), .unset] [(.ref a2), (.ref a1)]))
  refine own_st (fun t k => Jvm.RoadKit.acmp (g := (mkF m 2 #[.val (.ref a1), .val (.ref a2), .unset] [(.ref a2), (.ref a1)])) X0 hx rfl rfl rfl (pc0 := 2) (pc' := 7) (same := false) rfl (hb hby d3_2) rfl (decide_eq_false fun q => hne (Value.ref.inj q)) (by decide) (by decide) k) ?_
  show own_Fin _ _ _ _ _ _ _ (s₁.setTop (mkF m 7 #[.val (.ref a1), .val (.ref a2), .unset] []))
  refine own_st (fun t k => XS.aloadN X0.here hx rfl (hb hby d3_7) rfl rfl k) ?_
  show own_Fin _ _ _ _ _ _ _ (s₁.setTop (mkF m 8 #[.val (.ref a1), .val (.ref a2), .unset] [(.ref a2)]))
  obtain ⟨T1, X1, e1, st1⟩ := instY X0 hx hZ hown (hw _ (List.mem_of_getElem? (i := 28) rfl)) e0 (Ins.self E2) (g := (mkF m 8 #[.val (.ref a1), .val (.ref a2), .unset] [(.ref a2)])) rfl rfl (hb hby d3_8)
  refine own_st st1 ?_
  show own_Fin _ _ _ _ _ _ _ (T1.setTop (mkF m 11 #[.val (.ref a1), .val (.ref a2), .unset] [(.int (1 : Int32))]))
  refine own_st (fun t k => XS.ifNo X1.here hx rfl (hb hby d3_11) rfl ((if0 _ _).trans (feq (by decide : ¬ ((1 : Int32) = (0 : Int32)))).1) k) ?_
  show own_Fin _ _ _ _ _ _ _ (T1.setTop (mkF m 14 #[.val (.ref a1), .val (.ref a2), .unset] []))
  refine own_st (fun t k => XS.aloadN X1.here hx rfl (hb hby d3_14) rfl rfl k) ?_
  show own_Fin _ _ _ _ _ _ _ (T1.setTop (mkF m 15 #[.val (.ref a1), .val (.ref a2), .unset] [(.ref a2)]))
  obtain ⟨T2, X2, e2, st2⟩ := castY X1 hx hZ hown (hw _ (List.mem_of_getElem? (i := 28) rfl)) e1 (Ins.self E2) (g := (mkF m 15 #[.val (.ref a1), .val (.ref a2), .unset] [(.ref a2)])) rfl rfl (hb hby d3_15)
  refine own_st st2 ?_
  show own_Fin _ _ _ _ _ _ _ (T2.setTop (mkF m 18 #[.val (.ref a1), .val (.ref a2), .unset] [(.ref a2)]))
  refine own_st (fun t k => XS.astoreN X2.here hx rfl (hb hby d3_18) rfl rfl (l' := #[.val (.ref a1), .val (.ref a2), .val (.ref a2)]) rfl k) ?_
  show own_Fin _ _ _ _ _ _ _ (T2.setTop (mkF m 19 #[.val (.ref a1), .val (.ref a2), .val (.ref a2)] []))
  obtain ⟨T3, X3, e3, st3⟩ := getS2 X2 hx hZ hown (host := "") (Or.inl (hw _ (List.mem_of_getElem? (i := 30) rfl))) Via.refl e2 O2 (g := (mkF m 19 #[.val (.ref a1), .val (.ref a2), .val (.ref a2)] [])) rfl (hb hby d3_19)
  refine own_st st3 ?_
  show own_Fin _ _ _ _ _ _ _ (T3.setTop (mkF m 22 #[.val (.ref a1), .val (.ref a2), .val (.ref a2)] [(.int G1)]))
  have hd22_4 : ¬ (G1 = (0 : Int32)) := P5
  refine own_st (fun t k => XS.ifNo X3.here hx rfl (hb hby d3_22) rfl ((if0 _ _).trans (feq hd22_4).1) k) ?_
  show own_Fin _ _ _ _ _ _ _ (T3.setTop (mkF m 25 #[.val (.ref a1), .val (.ref a2), .val (.ref a2)] []))
  refine own_st (fun t k => XS.aloadN X3.here hx rfl (hb hby d3_25) rfl rfl k) ?_
  show own_Fin _ _ _ _ _ _ _ (T3.setTop (mkF m 26 #[.val (.ref a1), .val (.ref a2), .val (.ref a2)] [(.ref a1)]))
  obtain ⟨T5, X5, e5, st5⟩ := getF X3 hx hZ hown (host := "") (Or.inl (hw _ (List.mem_of_getElem? (i := 31) rfl))) Via.refl e3 Fc1 (g := (mkF m 26 #[.val (.ref a1), .val (.ref a2), .val (.ref a2)] [(.ref a1)])) rfl rfl (hb hby d3_26)
  refine own_st st5 ?_
  show own_Fin _ _ _ _ _ _ _ (T5.setTop (mkF m 29 #[.val (.ref a1), .val (.ref a2), .val (.ref a2)] [(.int (0 : Int32))]))
  refine own_st (fun t k => XS.aloadN X5.here hx rfl (hb hby d3_29) rfl rfl k) ?_
  show own_Fin _ _ _ _ _ _ _ (T5.setTop (mkF m 30 #[.val (.ref a1), .val (.ref a2), .val (.ref a2)] [(.ref a2), (.int (0 : Int32))]))
  obtain ⟨T6, X6, e6, st6⟩ := getF X5 hx hZ hown (host := "") (Or.inl (hw _ (List.mem_of_getElem? (i := 31) rfl))) Via.refl e5 Fc2 (g := (mkF m 30 #[.val (.ref a1), .val (.ref a2), .val (.ref a2)] [(.ref a2), (.int (0 : Int32))])) rfl rfl (hb hby d3_30)
  refine own_st st6 ?_
  show own_Fin _ _ _ _ _ _ _ (T6.setTop (mkF m 33 #[.val (.ref a1), .val (.ref a2), .val (.ref a2)] [(.int (0 : Int32)), (.int (0 : Int32))]))
  refine own_st (fun t k => XS.icmpNo X6.here hx rfl (hb hby d3_33) rfl (teq (by decide : (0 : Int32) = (0 : Int32))).2 k) ?_
  show own_Fin _ _ _ _ _ _ _ (T6.setTop (mkF m 36 #[.val (.ref a1), .val (.ref a2), .val (.ref a2)] []))
  refine own_st (fun t k => XS.aloadN X6.here hx rfl (hb hby d3_36) rfl rfl k) ?_
  show own_Fin _ _ _ _ _ _ _ (T6.setTop (mkF m 37 #[.val (.ref a1), .val (.ref a2), .val (.ref a2)] [(.ref a1)]))
  obtain ⟨T7, X7, e7, st7⟩ := getF X6 hx hZ hown (host := "") (Or.inl (hw _ (List.mem_of_getElem? (i := 32) rfl))) Via.refl e6 Fv1 (g := (mkF m 37 #[.val (.ref a1), .val (.ref a2), .val (.ref a2)] [(.ref a1)])) rfl rfl (hb hby d3_37)
  refine own_st st7 ?_
  show own_Fin _ _ _ _ _ _ _ (T7.setTop (mkF m 40 #[.val (.ref a1), .val (.ref a2), .val (.ref a2)] [(.ref t1)]))
  refine own_st (fun t k => XS.aloadN X7.here hx rfl (hb hby d3_40) rfl rfl k) ?_
  show own_Fin _ _ _ _ _ _ _ (T7.setTop (mkF m 41 #[.val (.ref a1), .val (.ref a2), .val (.ref a2)] [(.ref a2), (.ref t1)]))
  obtain ⟨T8, X8, e8, st8⟩ := getF X7 hx hZ hown (host := "") (Or.inl (hw _ (List.mem_of_getElem? (i := 32) rfl))) Via.refl e7 Fv2 (g := (mkF m 41 #[.val (.ref a1), .val (.ref a2), .val (.ref a2)] [(.ref a2), (.ref t1)])) rfl rfl (hb hby d3_41)
  refine own_st st8 ?_
  show own_Fin _ _ _ _ _ _ _ (T8.setTop (mkF m 44 #[.val (.ref a1), .val (.ref a2), .val (.ref a2)] [(.ref t2), (.ref t1)]))
  obtain ⟨_, _, ⟨T9, L9, k9, n9⟩, -, X9, ⟨Lc9, hQ9, l9, y9, z9⟩, st9⟩ := Jvm.LawKit.callS X8 hx (y := (⟨"java/lang/StringLatin1", "equals", "([B[B)Z"⟩ : MethodName)) hown (mvT hZ (hw _ (List.mem_of_getElem? (i := 33) rfl))) (mvT hZ (hw _ (List.mem_of_getElem? (i := 34) rfl))) (mvT hZ (hw _ (List.mem_of_getElem? (i := 35) rfl))) (mvT hZ (hw _ (List.mem_of_getElem? (i := 36) rfl))) (by decide) (backOf (W := 0) (rmLD l Z a0 hw [] t1 t2 k1 k2 z1 z2 vs1 vs2 h0 n0 Z0 V1 V2 hz) hZ (hw _ (List.mem_of_getElem? (i := 36) rfl)) (hw _ (List.mem_of_getElem? (i := 35) rfl)) (by decide) (by decide)) (g := (mkF m 44 #[.val (.ref a1), .val (.ref a2), .val (.ref a2)] [(.ref t2), (.ref t1)])) rfl (by rw [hml]; rfl) (argsL := [(.ref t1), (.ref t2)]) (rest := []) (lenOf pd_3_0 rfl) rfl (by show 2 * 0 + _ ≤ _; exact Nat.le_of_eq rfl) (hb hby d3_44) (fun _ _ => ⟨rfl, e8, (by decide : 0 + 0 ≤ _), (by decide : 0 + 0 ≤ _)⟩)
  dsimp only [Pt.U, Pt.locs, Pt.cells, Pt.slots] at X9 l9 y9 z9 st9 hQ9
  subst l9 y9 z9
  obtain ⟨rfl, N9q, e9⟩ := hQ9
  have N9 := Fr.app N0 N9q
  refine own_st st9 ?_
  show own_Fin _ _ _ _ _ _ _ (T9.setTop (mkF m 47 #[.val (.ref a1), .val (.ref a2), .val (.ref a2)] [(.int (0 : Int32))]))
  refine own_st (fun t k => XS.ifYes X9.here hx rfl (pc0 := 47) (pc' := 54) rfl (hb hby d3_47) rfl ((if0 _ _).trans (teq (by decide : (0 : Int32) = (0 : Int32))).1) (by decide) (by decide) k) ?_
  show own_Fin _ _ _ _ _ _ _ (T9.setTop (mkF m 54 #[.val (.ref a1), .val (.ref a2), .val (.ref a2)] []))
  refine own_st (fun t k => XS.iconst X9.here hx rfl (hb hby d3_54) k) ?_
  show own_Fin _ _ _ _ _ _ _ (T9.setTop (mkF m 55 #[.val (.ref a1), .val (.ref a2), .val (.ref a2)] [(.int (0 : Int32))]))
  exact own_retN X9 hx Bd.notSynchronized (t := .boolean) Bd.returns (by simp) (hb hby d3_55) (by decide) (by decide) (by rw [e9]; exact ⟨rfl, N9, rfl⟩)
def own_Q_rmLF (Z : State) (a1 : Addr) (a2 : Addr) (k1 k2 : ClassId) (z1 : Int32) (vs1 vs2 : List Value) (w1 w2 : Int32) (h0 : Heap) (n0 : Nat) (v : Option Value) (h : Heap) (L : List Loc) : Prop := v = some (.int (0 : Int32)) ∧ Fr n0 L ∧ h = h0
set_option maxRecDepth 65536 in
set_option maxHeartbeats 40000000 in
theorem rmLF (l : Launch) (Z : State) (a0 : Array Value) (hw : ∀ d ∈ tables_1, d.before a0 Z = true) (ws : List Jvm.Cond) (a1 : Addr) (a2 : Addr) (k1 k2 : ClassId) (z1 : Int32) (vs1 vs2 : List Value) (w1 w2 : Int32) (h0 : Heap) (n0 : Nat) (Z0 : n0 ≤ h0.size) (V1 : Arv Z h0 a1 k1 .byte z1 vs1 (.int (0 : Int32))) (V2 : Arv Z h0 a2 k2 .byte z1 vs2 (.int (0 : Int32))) (hlt : (0 : Int32) < z1) (hat1 : vs1.getD (0 : Int32).toNatClampNeg (.int (0 : Int32)) = .int w1) (hat2 : vs2.getD (0 : Int32).toNatClampNeg (.int (0 : Int32)) = .int w2) (hz : ¬ (w1 = w2)) :
    MetFree l (⟨"java/lang/StringLatin1", "equals", "([B[B)Z"⟩ : MethodName) (head1 (Jvm.Cond.code (⟨"java/lang/StringLatin1", "equals", "([B[B)Z"⟩ : MethodName) jdk_43_method_13_code 3 (some .boolean) :: ws) ({ frames := 0, cells := 0, slots := 0, locals := 0 } : Room)) (fun a U => a = #[(.ref a1), (.ref a2)] ∧ Z.Warmed39 U.vm ∧ U.heap = h0) (fun _ _ _ _ _ => True) (fun _ U o U' => ∃ v L, o = .returned v ∧ own_Q_rmLF Z a1 a2 k1 k2 z1 vs1 vs2 w1 w2 h0 n0 v U'.heap L ∧ FrameEnd U o U' L ({ frames := 0, cells := 0, slots := 0, locals := 0 } : Room).cells ({ frames := 0, cells := 0, slots := 0, locals := 0 } : Room).slots) := by
  refine MetFree.of_bodySF pn_4 hisR ?_
  intro p e s m args below meth c s₁ Bd hml0 hP hK
  obtain ⟨rfl, hZ, hh⟩ := hP
  have hx := Bd.exec
  have hby := Bd.bytes
  have hml : c.maxLocals = 3 := hml0
  have hown : s.vm.findClass "java/lang/StringLatin1" = some m.cls := findClass_of_methodNamed Bd.named
  have hnm := (name_of_methodNamed Bd.named Bd.method).1
  have X0 : Stand p l e ({ frames := 0, cells := 0, slots := 0, locals := 0 } : Room) s m #[(.ref a1), (.ref a2)] below meth c s₁ [] 0 0 := Stand.of_body Bd
  have e0 : s₁.heap = h0 := by rw [← hh, Bd.state]; rfl
  have N0 := Fr.nil n0
  show own_Fin p.tables e below s (({ frames := 0, cells := 0, slots := 0, locals := 0 } : Room).cells) (({ frames := 0, cells := 0, slots := 0, locals := 0 } : Room).slots) (own_Q_rmLF Z a1 a2 k1 k2 z1 vs1 vs2 w1 w2 h0 n0) (s₁.setTop (entryFrame m #[(.ref a1), (.ref a2)] 3))
  rw [ef_4 m a1 a2]
  show own_Fin _ _ _ _ _ _ _ (s₁.setTop (mkF m 0 #[.val (.ref a1), .val (.ref a2), .unset] []))
  refine own_st (fun t k => XS.aloadN X0.here hx rfl (hb hby d4_0) rfl rfl k) ?_
  show own_Fin _ _ _ _ _ _ _ (s₁.setTop (mkF m 1 #[.val (.ref a1), .val (.ref a2), .unset] [(.ref a1)]))
  obtain ⟨cl1, Ar1, Cq1, Sz1, Mn1, Hs1, Gf1⟩ := id V1
  refine own_st (X0.arraylength hx (by rw [e0]; exact Ar1.1) (State.isArrayOf_alike hZ.alike Ar1.2.1) (g := (mkF m 1 #[.val (.ref a1), .val (.ref a2), .unset] [(.ref a1)])) rfl rfl (hb hby d4_1)) ?_
  rw [len_of Sz1 Mn1]
  show own_Fin _ _ _ _ _ _ _ (s₁.setTop (mkF m 2 #[.val (.ref a1), .val (.ref a2), .unset] [(.int z1)]))
  refine own_st (fun t k => XS.aloadN X0.here hx rfl (hb hby d4_2) rfl rfl k) ?_
  show own_Fin _ _ _ _ _ _ _ (s₁.setTop (mkF m 3 #[.val (.ref a1), .val (.ref a2), .unset] [(.ref a2), (.int z1)]))
  obtain ⟨cl2, Ar2, Cq2, Sz2, Mn2, Hs2, Gf2⟩ := id V2
  refine own_st (X0.arraylength hx (by rw [e0]; exact Ar2.1) (State.isArrayOf_alike hZ.alike Ar2.2.1) (g := (mkF m 3 #[.val (.ref a1), .val (.ref a2), .unset] [(.ref a2), (.int z1)])) rfl rfl (hb hby d4_3)) ?_
  rw [len_of Sz2 Mn2]
  show own_Fin _ _ _ _ _ _ _ (s₁.setTop (mkF m 4 #[.val (.ref a1), .val (.ref a2), .unset] [(.int z1), (.int z1)]))
  refine own_st (fun t k => XS.icmpNo X0.here hx rfl (hb hby d4_4) rfl (teq (rfl : z1 = z1)).2 k) ?_
  show own_Fin _ _ _ _ _ _ _ (s₁.setTop (mkF m 7 #[.val (.ref a1), .val (.ref a2), .unset] []))
  refine own_st (fun t k => XS.iconst X0.here hx rfl (hb hby d4_7) k) ?_
  show own_Fin _ _ _ _ _ _ _ (s₁.setTop (mkF m 8 #[.val (.ref a1), .val (.ref a2), .unset] [(.int (0 : Int32))]))
  refine own_st (fun t k => XS.istoreN X0.here hx rfl (hb hby d4_8) rfl (l' := #[.val (.ref a1), .val (.ref a2), .val (.int (0 : Int32))]) rfl k) ?_
  show own_Fin _ _ _ _ _ _ _ (s₁.setTop (mkF m 9 #[.val (.ref a1), .val (.ref a2), .val (.int (0 : Int32))] []))
  refine own_st (fun t k => XS.iloadN X0.here hx rfl (hb hby d4_9) rfl k) ?_
  show own_Fin _ _ _ _ _ _ _ (s₁.setTop (mkF m 10 #[.val (.ref a1), .val (.ref a2), .val (.int (0 : Int32))] [(.int (0 : Int32))]))
  refine own_st (fun t k => XS.aloadN X0.here hx rfl (hb hby d4_10) rfl rfl k) ?_
  show own_Fin _ _ _ _ _ _ _ (s₁.setTop (mkF m 11 #[.val (.ref a1), .val (.ref a2), .val (.int (0 : Int32))] [(.ref a1), (.int (0 : Int32))]))
  obtain ⟨cl3, Ar3, Cq3, Sz3, Mn3, Hs3, Gf3⟩ := id V1
  refine own_st (X0.arraylength hx (by rw [e0]; exact Ar3.1) (State.isArrayOf_alike hZ.alike Ar3.2.1) (g := (mkF m 11 #[.val (.ref a1), .val (.ref a2), .val (.int (0 : Int32))] [(.ref a1), (.int (0 : Int32))])) rfl rfl (hb hby d4_11)) ?_
  rw [len_of Sz3 Mn3]
  show own_Fin _ _ _ _ _ _ _ (s₁.setTop (mkF m 12 #[.val (.ref a1), .val (.ref a2), .val (.int (0 : Int32))] [(.int z1), (.int (0 : Int32))]))
  have hd12_4 : (0 : Int32) < z1 := hlt
  refine own_st (fun t k => XS.icmpNo X0.here hx rfl (hb hby d4_12) rfl (tlt hd12_4).2.1 k) ?_
  show own_Fin _ _ _ _ _ _ _ (s₁.setTop (mkF m 15 #[.val (.ref a1), .val (.ref a2), .val (.int (0 : Int32))] []))
  refine own_st (fun t k => XS.aloadN X0.here hx rfl (hb hby d4_15) rfl rfl k) ?_
  show own_Fin _ _ _ _ _ _ _ (s₁.setTop (mkF m 16 #[.val (.ref a1), .val (.ref a2), .val (.int (0 : Int32))] [(.ref a1)]))
  refine own_st (fun t k => XS.iloadN X0.here hx rfl (hb hby d4_16) rfl k) ?_
  show own_Fin _ _ _ _ _ _ _ (s₁.setTop (mkF m 17 #[.val (.ref a1), .val (.ref a2), .val (.int (0 : Int32))] [(.int (0 : Int32)), (.ref a1)]))
  obtain ⟨cl5, Ar5, Cq5, Sz5, Mn5, Hs5, Gf5⟩ := id V1
  have hin5 := inb_of Sz5 (j := (0 : Int32)) ⟨by decide, hlt⟩
  refine own_st (X0.baloadBytes hx (j := (0 : Int32)) (v := (.int w1)) (by rw [e0]; exact Ar5.1) (State.isArrayOf_alike hZ.alike Ar5.2.1) Ar5.2.2 hin5 (Hs5.at hin5 hat1) (g := (mkF m 17 #[.val (.ref a1), .val (.ref a2), .val (.int (0 : Int32))] [(.int (0 : Int32)), (.ref a1)])) rfl rfl (hb hby d4_17)) ?_
  show own_Fin _ _ _ _ _ _ _ (s₁.setTop (mkF m 18 #[.val (.ref a1), .val (.ref a2), .val (.int (0 : Int32))] [(.int w1)]))
  refine own_st (fun t k => XS.aloadN X0.here hx rfl (hb hby d4_18) rfl rfl k) ?_
  show own_Fin _ _ _ _ _ _ _ (s₁.setTop (mkF m 19 #[.val (.ref a1), .val (.ref a2), .val (.int (0 : Int32))] [(.ref a2), (.int w1)]))
  refine own_st (fun t k => XS.iloadN X0.here hx rfl (hb hby d4_19) rfl k) ?_
  show own_Fin _ _ _ _ _ _ _ (s₁.setTop (mkF m 20 #[.val (.ref a1), .val (.ref a2), .val (.int (0 : Int32))] [(.int (0 : Int32)), (.ref a2), (.int w1)]))
  obtain ⟨cl6, Ar6, Cq6, Sz6, Mn6, Hs6, Gf6⟩ := id V2
  have hin6 := inb_of Sz6 (j := (0 : Int32)) ⟨by decide, hlt⟩
  refine own_st (X0.baloadBytes hx (j := (0 : Int32)) (v := (.int w2)) (by rw [e0]; exact Ar6.1) (State.isArrayOf_alike hZ.alike Ar6.2.1) Ar6.2.2 hin6 (Hs6.at hin6 hat2) (g := (mkF m 20 #[.val (.ref a1), .val (.ref a2), .val (.int (0 : Int32))] [(.int (0 : Int32)), (.ref a2), (.int w1)])) rfl rfl (hb hby d4_20)) ?_
  show own_Fin _ _ _ _ _ _ _ (s₁.setTop (mkF m 21 #[.val (.ref a1), .val (.ref a2), .val (.int (0 : Int32))] [(.int w2), (.int w1)]))
  have hd21_7 : ¬ (w1 = w2) := hz
  refine own_st (fun t k => XS.icmpNo X0.here hx rfl (hb hby d4_21) rfl (feq hd21_7).1 k) ?_
  show own_Fin _ _ _ _ _ _ _ (s₁.setTop (mkF m 24 #[.val (.ref a1), .val (.ref a2), .val (.int (0 : Int32))] []))
  refine own_st (fun t k => XS.iconst X0.here hx rfl (hb hby d4_24) k) ?_
  show own_Fin _ _ _ _ _ _ _ (s₁.setTop (mkF m 25 #[.val (.ref a1), .val (.ref a2), .val (.int (0 : Int32))] [(.int (0 : Int32))]))
  exact own_retN X0 hx Bd.notSynchronized (t := .boolean) Bd.returns (by simp) (hb hby d4_25) (by decide) (by decide) (by rw [e0]; exact ⟨rfl, N0, rfl⟩)
def own_Q_rmEF (Z : State) (a1 : Addr) (a2 : Addr) (t1 t2 : Addr) (k1 k2 : ClassId) (G1 : Int32) (z1 : Int32) (vs1 vs2 : List Value) (w1 w2 : Int32) (h0 : Heap) (n0 : Nat) (v : Option Value) (h : Heap) (L : List Loc) : Prop := v = some (.int (0 : Int32)) ∧ Fr n0 L ∧ h = h0
set_option maxRecDepth 65536 in
set_option maxHeartbeats 40000000 in
theorem rmEF (l : Launch) (Z : State) (a0 : Array Value) (hw : ∀ d ∈ tables_1, d.before a0 Z = true) (ws : List Jvm.Cond) (a1 : Addr) (a2 : Addr) (t1 t2 : Addr) (k1 k2 : ClassId) (G1 : Int32) (z1 : Int32) (vs1 vs2 : List Value) (w1 w2 : Int32) (h0 : Heap) (n0 : Nat) (Z0 : n0 ≤ h0.size) (E1 : Exa Z h0 a1 "java/lang/String") (E2 : Exa Z h0 a2 "java/lang/String") (Fc1 : Fld Z h0 a1 "java/lang/String" "coder" "B" (.int (0 : Int32))) (Fc2 : Fld Z h0 a2 "java/lang/String" "coder" "B" (.int (0 : Int32))) (Fv1 : Fld Z h0 a1 "java/lang/String" "value" "[B" (.ref t1)) (Fv2 : Fld Z h0 a2 "java/lang/String" "value" "[B" (.ref t2)) (V1 : Arv Z h0 t1 k1 .byte z1 vs1 (.int (0 : Int32))) (V2 : Arv Z h0 t2 k2 .byte z1 vs2 (.int (0 : Int32))) (O2 : Sta Z h0 "java/lang/String" "COMPACT_STRINGS" "Z" (.int G1)) (P5 : ¬ (G1 = (0 : Int32))) (hne : ¬ (a1 = a2)) (hlt : (0 : Int32) < z1) (hat1 : vs1.getD (0 : Int32).toNatClampNeg (.int (0 : Int32)) = .int w1) (hat2 : vs2.getD (0 : Int32).toNatClampNeg (.int (0 : Int32)) = .int w2) (hz : ¬ (w1 = w2)) :
    MetFree l (⟨"java/lang/String", "equals", "(Ljava/lang/Object;)Z"⟩ : MethodName) (head1 (Jvm.Cond.code (⟨"java/lang/String", "equals", "(Ljava/lang/Object;)Z"⟩ : MethodName) jdk_42_method_66_code 3 (some .boolean) :: ws) ({ frames := 1, cells := 0, slots := 0, locals := 14 } : Room)) (fun a U => a = #[(.ref a1), (.ref a2)] ∧ Z.Warmed39 U.vm ∧ U.heap = h0) (fun _ _ _ _ _ => True) (fun _ U o U' => ∃ v L, o = .returned v ∧ own_Q_rmEF Z a1 a2 t1 t2 k1 k2 G1 z1 vs1 vs2 w1 w2 h0 n0 v U'.heap L ∧ FrameEnd U o U' L ({ frames := 1, cells := 0, slots := 0, locals := 14 } : Room).cells ({ frames := 1, cells := 0, slots := 0, locals := 14 } : Room).slots) := by
  refine MetFree.of_bodySF pn_3 hisR ?_
  intro p e s m args below meth c s₁ Bd hml0 hP hK
  obtain ⟨rfl, hZ, hh⟩ := hP
  have hx := Bd.exec
  have hby := Bd.bytes
  have hml : c.maxLocals = 3 := hml0
  have hown : s.vm.findClass "java/lang/String" = some m.cls := findClass_of_methodNamed Bd.named
  have hnm := (name_of_methodNamed Bd.named Bd.method).1
  have X0 : Stand p l e ({ frames := 1, cells := 0, slots := 0, locals := 14 } : Room) s m #[(.ref a1), (.ref a2)] below meth c s₁ [] 0 0 := Stand.of_body Bd
  have e0 : s₁.heap = h0 := by rw [← hh, Bd.state]; rfl
  have N0 := Fr.nil n0
  show own_Fin p.tables e below s (({ frames := 1, cells := 0, slots := 0, locals := 14 } : Room).cells) (({ frames := 1, cells := 0, slots := 0, locals := 14 } : Room).slots) (own_Q_rmEF Z a1 a2 t1 t2 k1 k2 G1 z1 vs1 vs2 w1 w2 h0 n0) (s₁.setTop (entryFrame m #[(.ref a1), (.ref a2)] 3))
  rw [ef_3 m a1 a2]
  show own_Fin _ _ _ _ _ _ _ (s₁.setTop (mkF m 0 #[.val (.ref a1), .val (.ref a2), .unset] []))
  refine own_st (fun t k => XS.aloadN X0.here hx rfl (hb hby d3_0) rfl rfl k) ?_
  show own_Fin _ _ _ _ _ _ _ (s₁.setTop (mkF m 1 #[.val (.ref a1), .val (.ref a2), .unset] [(.ref a1)]))
  refine own_st (fun t k => XS.aloadN X0.here hx rfl (hb hby d3_1) rfl rfl k) ?_
  show own_Fin _ _ _ _ _ _ _ (s₁.setTop (mkF m 2 #[.val (.ref a1), .val (.ref a2), .unset] [(.ref a2), (.ref a1)]))
  refine own_st (fun t k => Jvm.RoadKit.acmp (g := (mkF m 2 #[.val (.ref a1), .val (.ref a2), .unset] [(.ref a2), (.ref a1)])) X0 hx rfl rfl rfl (pc0 := 2) (pc' := 7) (same := false) rfl (hb hby d3_2) rfl (decide_eq_false fun q => hne (Value.ref.inj q)) (by decide) (by decide) k) ?_
  show own_Fin _ _ _ _ _ _ _ (s₁.setTop (mkF m 7 #[.val (.ref a1), .val (.ref a2), .unset] []))
  refine own_st (fun t k => XS.aloadN X0.here hx rfl (hb hby d3_7) rfl rfl k) ?_
  show own_Fin _ _ _ _ _ _ _ (s₁.setTop (mkF m 8 #[.val (.ref a1), .val (.ref a2), .unset] [(.ref a2)]))
  obtain ⟨T1, X1, e1, st1⟩ := instY X0 hx hZ hown (hw _ (List.mem_of_getElem? (i := 28) rfl)) e0 (Ins.self E2) (g := (mkF m 8 #[.val (.ref a1), .val (.ref a2), .unset] [(.ref a2)])) rfl rfl (hb hby d3_8)
  refine own_st st1 ?_
  show own_Fin _ _ _ _ _ _ _ (T1.setTop (mkF m 11 #[.val (.ref a1), .val (.ref a2), .unset] [(.int (1 : Int32))]))
  refine own_st (fun t k => XS.ifNo X1.here hx rfl (hb hby d3_11) rfl ((if0 _ _).trans (feq (by decide : ¬ ((1 : Int32) = (0 : Int32)))).1) k) ?_
  show own_Fin _ _ _ _ _ _ _ (T1.setTop (mkF m 14 #[.val (.ref a1), .val (.ref a2), .unset] []))
  refine own_st (fun t k => XS.aloadN X1.here hx rfl (hb hby d3_14) rfl rfl k) ?_
  show own_Fin _ _ _ _ _ _ _ (T1.setTop (mkF m 15 #[.val (.ref a1), .val (.ref a2), .unset] [(.ref a2)]))
  obtain ⟨T2, X2, e2, st2⟩ := castY X1 hx hZ hown (hw _ (List.mem_of_getElem? (i := 28) rfl)) e1 (Ins.self E2) (g := (mkF m 15 #[.val (.ref a1), .val (.ref a2), .unset] [(.ref a2)])) rfl rfl (hb hby d3_15)
  refine own_st st2 ?_
  show own_Fin _ _ _ _ _ _ _ (T2.setTop (mkF m 18 #[.val (.ref a1), .val (.ref a2), .unset] [(.ref a2)]))
  refine own_st (fun t k => XS.astoreN X2.here hx rfl (hb hby d3_18) rfl rfl (l' := #[.val (.ref a1), .val (.ref a2), .val (.ref a2)]) rfl k) ?_
  show own_Fin _ _ _ _ _ _ _ (T2.setTop (mkF m 19 #[.val (.ref a1), .val (.ref a2), .val (.ref a2)] []))
  obtain ⟨T3, X3, e3, st3⟩ := getS2 X2 hx hZ hown (host := "") (Or.inl (hw _ (List.mem_of_getElem? (i := 30) rfl))) Via.refl e2 O2 (g := (mkF m 19 #[.val (.ref a1), .val (.ref a2), .val (.ref a2)] [])) rfl (hb hby d3_19)
  refine own_st st3 ?_
  show own_Fin _ _ _ _ _ _ _ (T3.setTop (mkF m 22 #[.val (.ref a1), .val (.ref a2), .val (.ref a2)] [(.int G1)]))
  have hd22_4 : ¬ (G1 = (0 : Int32)) := P5
  refine own_st (fun t k => XS.ifNo X3.here hx rfl (hb hby d3_22) rfl ((if0 _ _).trans (feq hd22_4).1) k) ?_
  show own_Fin _ _ _ _ _ _ _ (T3.setTop (mkF m 25 #[.val (.ref a1), .val (.ref a2), .val (.ref a2)] []))
  refine own_st (fun t k => XS.aloadN X3.here hx rfl (hb hby d3_25) rfl rfl k) ?_
  show own_Fin _ _ _ _ _ _ _ (T3.setTop (mkF m 26 #[.val (.ref a1), .val (.ref a2), .val (.ref a2)] [(.ref a1)]))
  obtain ⟨T5, X5, e5, st5⟩ := getF X3 hx hZ hown (host := "") (Or.inl (hw _ (List.mem_of_getElem? (i := 31) rfl))) Via.refl e3 Fc1 (g := (mkF m 26 #[.val (.ref a1), .val (.ref a2), .val (.ref a2)] [(.ref a1)])) rfl rfl (hb hby d3_26)
  refine own_st st5 ?_
  show own_Fin _ _ _ _ _ _ _ (T5.setTop (mkF m 29 #[.val (.ref a1), .val (.ref a2), .val (.ref a2)] [(.int (0 : Int32))]))
  refine own_st (fun t k => XS.aloadN X5.here hx rfl (hb hby d3_29) rfl rfl k) ?_
  show own_Fin _ _ _ _ _ _ _ (T5.setTop (mkF m 30 #[.val (.ref a1), .val (.ref a2), .val (.ref a2)] [(.ref a2), (.int (0 : Int32))]))
  obtain ⟨T6, X6, e6, st6⟩ := getF X5 hx hZ hown (host := "") (Or.inl (hw _ (List.mem_of_getElem? (i := 31) rfl))) Via.refl e5 Fc2 (g := (mkF m 30 #[.val (.ref a1), .val (.ref a2), .val (.ref a2)] [(.ref a2), (.int (0 : Int32))])) rfl rfl (hb hby d3_30)
  refine own_st st6 ?_
  show own_Fin _ _ _ _ _ _ _ (T6.setTop (mkF m 33 #[.val (.ref a1), .val (.ref a2), .val (.ref a2)] [(.int (0 : Int32)), (.int (0 : Int32))]))
  refine own_st (fun t k => XS.icmpNo X6.here hx rfl (hb hby d3_33) rfl (teq (by decide : (0 : Int32) = (0 : Int32))).2 k) ?_
  show own_Fin _ _ _ _ _ _ _ (T6.setTop (mkF m 36 #[.val (.ref a1), .val (.ref a2), .val (.ref a2)] []))
  refine own_st (fun t k => XS.aloadN X6.here hx rfl (hb hby d3_36) rfl rfl k) ?_
  show own_Fin _ _ _ _ _ _ _ (T6.setTop (mkF m 37 #[.val (.ref a1), .val (.ref a2), .val (.ref a2)] [(.ref a1)]))
  obtain ⟨T7, X7, e7, st7⟩ := getF X6 hx hZ hown (host := "") (Or.inl (hw _ (List.mem_of_getElem? (i := 32) rfl))) Via.refl e6 Fv1 (g := (mkF m 37 #[.val (.ref a1), .val (.ref a2), .val (.ref a2)] [(.ref a1)])) rfl rfl (hb hby d3_37)
  refine own_st st7 ?_
  show own_Fin _ _ _ _ _ _ _ (T7.setTop (mkF m 40 #[.val (.ref a1), .val (.ref a2), .val (.ref a2)] [(.ref t1)]))
  refine own_st (fun t k => XS.aloadN X7.here hx rfl (hb hby d3_40) rfl rfl k) ?_
  show own_Fin _ _ _ _ _ _ _ (T7.setTop (mkF m 41 #[.val (.ref a1), .val (.ref a2), .val (.ref a2)] [(.ref a2), (.ref t1)]))
  obtain ⟨T8, X8, e8, st8⟩ := getF X7 hx hZ hown (host := "") (Or.inl (hw _ (List.mem_of_getElem? (i := 32) rfl))) Via.refl e7 Fv2 (g := (mkF m 41 #[.val (.ref a1), .val (.ref a2), .val (.ref a2)] [(.ref a2), (.ref t1)])) rfl rfl (hb hby d3_41)
  refine own_st st8 ?_
  show own_Fin _ _ _ _ _ _ _ (T8.setTop (mkF m 44 #[.val (.ref a1), .val (.ref a2), .val (.ref a2)] [(.ref t2), (.ref t1)]))
  obtain ⟨_, _, ⟨T9, L9, k9, n9⟩, -, X9, ⟨Lc9, hQ9, l9, y9, z9⟩, st9⟩ := Jvm.LawKit.callS X8 hx (y := (⟨"java/lang/StringLatin1", "equals", "([B[B)Z"⟩ : MethodName)) hown (mvT hZ (hw _ (List.mem_of_getElem? (i := 33) rfl))) (mvT hZ (hw _ (List.mem_of_getElem? (i := 34) rfl))) (mvT hZ (hw _ (List.mem_of_getElem? (i := 35) rfl))) (mvT hZ (hw _ (List.mem_of_getElem? (i := 36) rfl))) (by decide) (backOf (W := 0) (rmLF l Z a0 hw [] t1 t2 k1 k2 z1 vs1 vs2 w1 w2 h0 n0 Z0 V1 V2 hlt hat1 hat2 hz) hZ (hw _ (List.mem_of_getElem? (i := 36) rfl)) (hw _ (List.mem_of_getElem? (i := 35) rfl)) (by decide) (by decide)) (g := (mkF m 44 #[.val (.ref a1), .val (.ref a2), .val (.ref a2)] [(.ref t2), (.ref t1)])) rfl (by rw [hml]; rfl) (argsL := [(.ref t1), (.ref t2)]) (rest := []) (lenOf pd_3_0 rfl) rfl (by show 2 * 0 + _ ≤ _; exact Nat.le_of_eq rfl) (hb hby d3_44) (fun _ _ => ⟨rfl, e8, (by decide : 0 + 0 ≤ _), (by decide : 0 + 0 ≤ _)⟩)
  dsimp only [Pt.U, Pt.locs, Pt.cells, Pt.slots] at X9 l9 y9 z9 st9 hQ9
  subst l9 y9 z9
  obtain ⟨rfl, N9q, e9⟩ := hQ9
  have N9 := Fr.app N0 N9q
  refine own_st st9 ?_
  show own_Fin _ _ _ _ _ _ _ (T9.setTop (mkF m 47 #[.val (.ref a1), .val (.ref a2), .val (.ref a2)] [(.int (0 : Int32))]))
  refine own_st (fun t k => XS.ifYes X9.here hx rfl (pc0 := 47) (pc' := 54) rfl (hb hby d3_47) rfl ((if0 _ _).trans (teq (by decide : (0 : Int32) = (0 : Int32))).1) (by decide) (by decide) k) ?_
  show own_Fin _ _ _ _ _ _ _ (T9.setTop (mkF m 54 #[.val (.ref a1), .val (.ref a2), .val (.ref a2)] []))
  refine own_st (fun t k => XS.iconst X9.here hx rfl (hb hby d3_54) k) ?_
  show own_Fin _ _ _ _ _ _ _ (T9.setTop (mkF m 55 #[.val (.ref a1), .val (.ref a2), .val (.ref a2)] [(.int (0 : Int32))]))
  exact own_retN X9 hx Bd.notSynchronized (t := .boolean) Bd.returns (by simp) (hb hby d3_55) (by decide) (by decide) (by rw [e9]; exact ⟨rfl, N9, rfl⟩)
def own_Q_rmL1 (Z : State) (a1 : Addr) (a2 : Addr) (k1 k2 : ClassId) (x : Int32) (h0 : Heap) (n0 : Nat) (v : Option Value) (h : Heap) (L : List Loc) : Prop := v = some (.int (1 : Int32)) ∧ Fr n0 L ∧ h = h0
set_option maxRecDepth 65536 in
set_option maxHeartbeats 40000000 in
theorem rmL1 (l : Launch) (Z : State) (a0 : Array Value) (hw : ∀ d ∈ tables_1, d.before a0 Z = true) (ws : List Jvm.Cond) (a1 : Addr) (a2 : Addr) (k1 k2 : ClassId) (x : Int32) (h0 : Heap) (n0 : Nat) (Z0 : n0 ≤ h0.size) (V1 : Arv Z h0 a1 k1 .byte (1 : Int32) [(.int x)] (.int (0 : Int32))) (V2 : Arv Z h0 a2 k2 .byte (1 : Int32) [(.int x)] (.int (0 : Int32)))  :
    MetFree l (⟨"java/lang/StringLatin1", "equals", "([B[B)Z"⟩ : MethodName) (head1 (Jvm.Cond.code (⟨"java/lang/StringLatin1", "equals", "([B[B)Z"⟩ : MethodName) jdk_43_method_13_code 3 (some .boolean) :: ws) ({ frames := 0, cells := 0, slots := 0, locals := 0 } : Room)) (fun a U => a = #[(.ref a1), (.ref a2)] ∧ Z.Warmed39 U.vm ∧ U.heap = h0) (fun _ _ _ _ _ => True) (fun _ U o U' => ∃ v L, o = .returned v ∧ own_Q_rmL1 Z a1 a2 k1 k2 x h0 n0 v U'.heap L ∧ FrameEnd U o U' L ({ frames := 0, cells := 0, slots := 0, locals := 0 } : Room).cells ({ frames := 0, cells := 0, slots := 0, locals := 0 } : Room).slots) := by
  refine MetFree.of_bodySF pn_4 hisR ?_
  intro p e s m args below meth c s₁ Bd hml0 hP hK
  obtain ⟨rfl, hZ, hh⟩ := hP
  have hx := Bd.exec
  have hby := Bd.bytes
  have hml : c.maxLocals = 3 := hml0
  have hown : s.vm.findClass "java/lang/StringLatin1" = some m.cls := findClass_of_methodNamed Bd.named
  have hnm := (name_of_methodNamed Bd.named Bd.method).1
  have X0 : Stand p l e ({ frames := 0, cells := 0, slots := 0, locals := 0 } : Room) s m #[(.ref a1), (.ref a2)] below meth c s₁ [] 0 0 := Stand.of_body Bd
  have e0 : s₁.heap = h0 := by rw [← hh, Bd.state]; rfl
  have N0 := Fr.nil n0
  show own_Fin p.tables e below s (({ frames := 0, cells := 0, slots := 0, locals := 0 } : Room).cells) (({ frames := 0, cells := 0, slots := 0, locals := 0 } : Room).slots) (own_Q_rmL1 Z a1 a2 k1 k2 x h0 n0) (s₁.setTop (entryFrame m #[(.ref a1), (.ref a2)] 3))
  rw [ef_4 m a1 a2]
  show own_Fin _ _ _ _ _ _ _ (s₁.setTop (mkF m 0 #[.val (.ref a1), .val (.ref a2), .unset] []))
  refine own_st (fun t k => XS.aloadN X0.here hx rfl (hb hby d4_0) rfl rfl k) ?_
  show own_Fin _ _ _ _ _ _ _ (s₁.setTop (mkF m 1 #[.val (.ref a1), .val (.ref a2), .unset] [(.ref a1)]))
  obtain ⟨cl1, Ar1, Cq1, Sz1, Mn1, Hs1, Gf1⟩ := id V1
  refine own_st (X0.arraylength hx (by rw [e0]; exact Ar1.1) (State.isArrayOf_alike hZ.alike Ar1.2.1) (g := (mkF m 1 #[.val (.ref a1), .val (.ref a2), .unset] [(.ref a1)])) rfl rfl (hb hby d4_1)) ?_
  rw [len_of Sz1 Mn1]
  show own_Fin _ _ _ _ _ _ _ (s₁.setTop (mkF m 2 #[.val (.ref a1), .val (.ref a2), .unset] [(.int (1 : Int32))]))
  refine own_st (fun t k => XS.aloadN X0.here hx rfl (hb hby d4_2) rfl rfl k) ?_
  show own_Fin _ _ _ _ _ _ _ (s₁.setTop (mkF m 3 #[.val (.ref a1), .val (.ref a2), .unset] [(.ref a2), (.int (1 : Int32))]))
  obtain ⟨cl2, Ar2, Cq2, Sz2, Mn2, Hs2, Gf2⟩ := id V2
  refine own_st (X0.arraylength hx (by rw [e0]; exact Ar2.1) (State.isArrayOf_alike hZ.alike Ar2.2.1) (g := (mkF m 3 #[.val (.ref a1), .val (.ref a2), .unset] [(.ref a2), (.int (1 : Int32))])) rfl rfl (hb hby d4_3)) ?_
  rw [len_of Sz2 Mn2]
  show own_Fin _ _ _ _ _ _ _ (s₁.setTop (mkF m 4 #[.val (.ref a1), .val (.ref a2), .unset] [(.int (1 : Int32)), (.int (1 : Int32))]))
  refine own_st (fun t k => XS.icmpNo X0.here hx rfl (hb hby d4_4) rfl (teq (by decide : (1 : Int32) = (1 : Int32))).2 k) ?_
  show own_Fin _ _ _ _ _ _ _ (s₁.setTop (mkF m 7 #[.val (.ref a1), .val (.ref a2), .unset] []))
  refine own_st (fun t k => XS.iconst X0.here hx rfl (hb hby d4_7) k) ?_
  show own_Fin _ _ _ _ _ _ _ (s₁.setTop (mkF m 8 #[.val (.ref a1), .val (.ref a2), .unset] [(.int (0 : Int32))]))
  refine own_st (fun t k => XS.istoreN X0.here hx rfl (hb hby d4_8) rfl (l' := #[.val (.ref a1), .val (.ref a2), .val (.int (0 : Int32))]) rfl k) ?_
  show own_Fin _ _ _ _ _ _ _ (s₁.setTop (mkF m 9 #[.val (.ref a1), .val (.ref a2), .val (.int (0 : Int32))] []))
  refine own_st (fun t k => XS.iloadN X0.here hx rfl (hb hby d4_9) rfl k) ?_
  show own_Fin _ _ _ _ _ _ _ (s₁.setTop (mkF m 10 #[.val (.ref a1), .val (.ref a2), .val (.int (0 : Int32))] [(.int (0 : Int32))]))
  refine own_st (fun t k => XS.aloadN X0.here hx rfl (hb hby d4_10) rfl rfl k) ?_
  show own_Fin _ _ _ _ _ _ _ (s₁.setTop (mkF m 11 #[.val (.ref a1), .val (.ref a2), .val (.int (0 : Int32))] [(.ref a1), (.int (0 : Int32))]))
  obtain ⟨cl3, Ar3, Cq3, Sz3, Mn3, Hs3, Gf3⟩ := id V1
  refine own_st (X0.arraylength hx (by rw [e0]; exact Ar3.1) (State.isArrayOf_alike hZ.alike Ar3.2.1) (g := (mkF m 11 #[.val (.ref a1), .val (.ref a2), .val (.int (0 : Int32))] [(.ref a1), (.int (0 : Int32))])) rfl rfl (hb hby d4_11)) ?_
  rw [len_of Sz3 Mn3]
  show own_Fin _ _ _ _ _ _ _ (s₁.setTop (mkF m 12 #[.val (.ref a1), .val (.ref a2), .val (.int (0 : Int32))] [(.int (1 : Int32)), (.int (0 : Int32))]))
  refine own_st (fun t k => XS.icmpNo X0.here hx rfl (hb hby d4_12) rfl (tlt (by decide : (0 : Int32) < (1 : Int32))).2.1 k) ?_
  show own_Fin _ _ _ _ _ _ _ (s₁.setTop (mkF m 15 #[.val (.ref a1), .val (.ref a2), .val (.int (0 : Int32))] []))
  refine own_st (fun t k => XS.aloadN X0.here hx rfl (hb hby d4_15) rfl rfl k) ?_
  show own_Fin _ _ _ _ _ _ _ (s₁.setTop (mkF m 16 #[.val (.ref a1), .val (.ref a2), .val (.int (0 : Int32))] [(.ref a1)]))
  refine own_st (fun t k => XS.iloadN X0.here hx rfl (hb hby d4_16) rfl k) ?_
  show own_Fin _ _ _ _ _ _ _ (s₁.setTop (mkF m 17 #[.val (.ref a1), .val (.ref a2), .val (.int (0 : Int32))] [(.int (0 : Int32)), (.ref a1)]))
  obtain ⟨cl4, Ar4, Cq4, Sz4, Mn4, Hs4, Gf4⟩ := id V1
  have hin4 := inb_of Sz4 (j := (0 : Int32)) ⟨by decide, by decide⟩
  refine own_st (X0.baloadBytes hx (j := (0 : Int32)) (v := (.int x)) (by rw [e0]; exact Ar4.1) (State.isArrayOf_alike hZ.alike Ar4.2.1) Ar4.2.2 hin4 (Hs4.at hin4 rfl) (g := (mkF m 17 #[.val (.ref a1), .val (.ref a2), .val (.int (0 : Int32))] [(.int (0 : Int32)), (.ref a1)])) rfl rfl (hb hby d4_17)) ?_
  show own_Fin _ _ _ _ _ _ _ (s₁.setTop (mkF m 18 #[.val (.ref a1), .val (.ref a2), .val (.int (0 : Int32))] [(.int x)]))
  refine own_st (fun t k => XS.aloadN X0.here hx rfl (hb hby d4_18) rfl rfl k) ?_
  show own_Fin _ _ _ _ _ _ _ (s₁.setTop (mkF m 19 #[.val (.ref a1), .val (.ref a2), .val (.int (0 : Int32))] [(.ref a2), (.int x)]))
  refine own_st (fun t k => XS.iloadN X0.here hx rfl (hb hby d4_19) rfl k) ?_
  show own_Fin _ _ _ _ _ _ _ (s₁.setTop (mkF m 20 #[.val (.ref a1), .val (.ref a2), .val (.int (0 : Int32))] [(.int (0 : Int32)), (.ref a2), (.int x)]))
  obtain ⟨cl5, Ar5, Cq5, Sz5, Mn5, Hs5, Gf5⟩ := id V2
  have hin5 := inb_of Sz5 (j := (0 : Int32)) ⟨by decide, by decide⟩
  refine own_st (X0.baloadBytes hx (j := (0 : Int32)) (v := (.int x)) (by rw [e0]; exact Ar5.1) (State.isArrayOf_alike hZ.alike Ar5.2.1) Ar5.2.2 hin5 (Hs5.at hin5 rfl) (g := (mkF m 20 #[.val (.ref a1), .val (.ref a2), .val (.int (0 : Int32))] [(.int (0 : Int32)), (.ref a2), (.int x)])) rfl rfl (hb hby d4_20)) ?_
  show own_Fin _ _ _ _ _ _ _ (s₁.setTop (mkF m 21 #[.val (.ref a1), .val (.ref a2), .val (.int (0 : Int32))] [(.int x), (.int x)]))
  refine own_st (fun t k => XS.icmpYes X0.here hx rfl (pc0 := 21) (pc' := 26) rfl (hb hby d4_21) rfl (teq (rfl : x = x)).1 (by decide) (by decide) k) ?_
  show own_Fin _ _ _ _ _ _ _ (s₁.setTop (mkF m 26 #[.val (.ref a1), .val (.ref a2), .val (.int (0 : Int32))] []))
  refine own_st (fun t k => XS.iinc X0.here hx rfl (hb hby d4_26) rfl (l' := #[.val (.ref a1), .val (.ref a2), .val (.int (1 : Int32))]) rfl k) ?_
  show own_Fin _ _ _ _ _ _ _ (s₁.setTop (mkF m 29 #[.val (.ref a1), .val (.ref a2), .val (.int (1 : Int32))] []))
  refine own_st (fun t k => XS.goto X0.here hx rfl (pc0 := 29) (pc' := 9) rfl (hb hby d4_29) (by decide) (by decide) k) ?_
  show own_Fin _ _ _ _ _ _ _ (s₁.setTop (mkF m 9 #[.val (.ref a1), .val (.ref a2), .val (.int (1 : Int32))] []))
  refine own_st (fun t k => XS.iloadN X0.here hx rfl (hb hby d4_9) rfl k) ?_
  show own_Fin _ _ _ _ _ _ _ (s₁.setTop (mkF m 10 #[.val (.ref a1), .val (.ref a2), .val (.int (1 : Int32))] [(.int (1 : Int32))]))
  refine own_st (fun t k => XS.aloadN X0.here hx rfl (hb hby d4_10) rfl rfl k) ?_
  show own_Fin _ _ _ _ _ _ _ (s₁.setTop (mkF m 11 #[.val (.ref a1), .val (.ref a2), .val (.int (1 : Int32))] [(.ref a1), (.int (1 : Int32))]))
  obtain ⟨cl6, Ar6, Cq6, Sz6, Mn6, Hs6, Gf6⟩ := id V1
  refine own_st (X0.arraylength hx (by rw [e0]; exact Ar6.1) (State.isArrayOf_alike hZ.alike Ar6.2.1) (g := (mkF m 11 #[.val (.ref a1), .val (.ref a2), .val (.int (1 : Int32))] [(.ref a1), (.int (1 : Int32))])) rfl rfl (hb hby d4_11)) ?_
  rw [len_of Sz6 Mn6]
  show own_Fin _ _ _ _ _ _ _ (s₁.setTop (mkF m 12 #[.val (.ref a1), .val (.ref a2), .val (.int (1 : Int32))] [(.int (1 : Int32)), (.int (1 : Int32))]))
  refine own_st (fun t k => XS.icmpYes X0.here hx rfl (pc0 := 12) (pc' := 32) rfl (hb hby d4_12) rfl (flt (by decide : ¬ ((1 : Int32) < (1 : Int32)))).2.1 (by decide) (by decide) k) ?_
  show own_Fin _ _ _ _ _ _ _ (s₁.setTop (mkF m 32 #[.val (.ref a1), .val (.ref a2), .val (.int (1 : Int32))] []))
  refine own_st (fun t k => XS.iconst X0.here hx rfl (hb hby d4_32) k) ?_
  show own_Fin _ _ _ _ _ _ _ (s₁.setTop (mkF m 33 #[.val (.ref a1), .val (.ref a2), .val (.int (1 : Int32))] [(.int (1 : Int32))]))
  exact own_retN X0 hx Bd.notSynchronized (t := .boolean) Bd.returns (by simp) (hb hby d4_33) (by decide) (by decide) (by rw [e0]; exact ⟨rfl, N0, rfl⟩)
def own_Q_rmE1 (Z : State) (a1 : Addr) (a2 : Addr) (t1 t2 : Addr) (k1 k2 : ClassId) (G1 : Int32) (x : Int32) (h0 : Heap) (n0 : Nat) (v : Option Value) (h : Heap) (L : List Loc) : Prop := v = some (.int (1 : Int32)) ∧ Fr n0 L ∧ h = h0
set_option maxRecDepth 65536 in
set_option maxHeartbeats 40000000 in
theorem rmE1 (l : Launch) (Z : State) (a0 : Array Value) (hw : ∀ d ∈ tables_1, d.before a0 Z = true) (ws : List Jvm.Cond) (a1 : Addr) (a2 : Addr) (t1 t2 : Addr) (k1 k2 : ClassId) (G1 : Int32) (x : Int32) (h0 : Heap) (n0 : Nat) (Z0 : n0 ≤ h0.size) (E1 : Exa Z h0 a1 "java/lang/String") (E2 : Exa Z h0 a2 "java/lang/String") (Fc1 : Fld Z h0 a1 "java/lang/String" "coder" "B" (.int (0 : Int32))) (Fc2 : Fld Z h0 a2 "java/lang/String" "coder" "B" (.int (0 : Int32))) (Fv1 : Fld Z h0 a1 "java/lang/String" "value" "[B" (.ref t1)) (Fv2 : Fld Z h0 a2 "java/lang/String" "value" "[B" (.ref t2)) (V1 : Arv Z h0 t1 k1 .byte (1 : Int32) [(.int x)] (.int (0 : Int32))) (V2 : Arv Z h0 t2 k2 .byte (1 : Int32) [(.int x)] (.int (0 : Int32))) (O2 : Sta Z h0 "java/lang/String" "COMPACT_STRINGS" "Z" (.int G1)) (P5 : ¬ (G1 = (0 : Int32)))  :
    MetFree l (⟨"java/lang/String", "equals", "(Ljava/lang/Object;)Z"⟩ : MethodName) (head1 (Jvm.Cond.code (⟨"java/lang/String", "equals", "(Ljava/lang/Object;)Z"⟩ : MethodName) jdk_42_method_66_code 3 (some .boolean) :: ws) ({ frames := 1, cells := 0, slots := 0, locals := 14 } : Room)) (fun a U => a = #[(.ref a1), (.ref a2)] ∧ Z.Warmed39 U.vm ∧ U.heap = h0) (fun _ _ _ _ _ => True) (fun _ U o U' => ∃ v L, o = .returned v ∧ own_Q_rmE1 Z a1 a2 t1 t2 k1 k2 G1 x h0 n0 v U'.heap L ∧ FrameEnd U o U' L ({ frames := 1, cells := 0, slots := 0, locals := 14 } : Room).cells ({ frames := 1, cells := 0, slots := 0, locals := 14 } : Room).slots) := by
  refine MetFree.of_bodySF pn_3 hisR ?_
  intro p e s m args below meth c s₁ Bd hml0 hP hK
  obtain ⟨rfl, hZ, hh⟩ := hP
  have hx := Bd.exec
  have hby := Bd.bytes
  have hml : c.maxLocals = 3 := hml0
  have hown : s.vm.findClass "java/lang/String" = some m.cls := findClass_of_methodNamed Bd.named
  have hnm := (name_of_methodNamed Bd.named Bd.method).1
  have X0 : Stand p l e ({ frames := 1, cells := 0, slots := 0, locals := 14 } : Room) s m #[(.ref a1), (.ref a2)] below meth c s₁ [] 0 0 := Stand.of_body Bd
  have e0 : s₁.heap = h0 := by rw [← hh, Bd.state]; rfl
  have N0 := Fr.nil n0
  show own_Fin p.tables e below s (({ frames := 1, cells := 0, slots := 0, locals := 14 } : Room).cells) (({ frames := 1, cells := 0, slots := 0, locals := 14 } : Room).slots) (own_Q_rmE1 Z a1 a2 t1 t2 k1 k2 G1 x h0 n0) (s₁.setTop (entryFrame m #[(.ref a1), (.ref a2)] 3))
  rw [ef_3 m a1 a2]
  show own_Fin _ _ _ _ _ _ _ (s₁.setTop (mkF m 0 #[.val (.ref a1), .val (.ref a2), .unset] []))
  refine own_st (fun t k => XS.aloadN X0.here hx rfl (hb hby d3_0) rfl rfl k) ?_
  show own_Fin _ _ _ _ _ _ _ (s₁.setTop (mkF m 1 #[.val (.ref a1), .val (.ref a2), .unset] [(.ref a1)]))
  refine own_st (fun t k => XS.aloadN X0.here hx rfl (hb hby d3_1) rfl rfl k) ?_
  show own_Fin _ _ _ _ _ _ _ (s₁.setTop (mkF m 2 #[.val (.ref a1), .val (.ref a2), .unset] [(.ref a2), (.ref a1)]))
  by_cases ha2_1 : a1 = a2
  · refine own_st (fun t k => Jvm.RoadKit.acmp (g := (mkF m 2 #[.val (.ref a1), .val (.ref a2), .unset] [(.ref a2), (.ref a1)])) X0 hx rfl rfl rfl (pc0 := 2) (pc' := 5) (same := true) rfl (hb hby d3_2) rfl (decide_eq_true (congrArg Value.ref ha2_1)) (by decide) (by decide) k) ?_
    show own_Fin _ _ _ _ _ _ _ (s₁.setTop (mkF m 5 #[.val (.ref a1), .val (.ref a2), .unset] []))
    refine own_st (fun t k => XS.iconst X0.here hx rfl (hb hby d3_5) k) ?_
    show own_Fin _ _ _ _ _ _ _ (s₁.setTop (mkF m 6 #[.val (.ref a1), .val (.ref a2), .unset] [(.int (1 : Int32))]))
    exact own_retN X0 hx Bd.notSynchronized (t := .boolean) Bd.returns (by simp) (hb hby d3_6) (by decide) (by decide) (by rw [e0]; exact ⟨rfl, N0, rfl⟩)
  · refine own_st (fun t k => Jvm.RoadKit.acmp (g := (mkF m 2 #[.val (.ref a1), .val (.ref a2), .unset] [(.ref a2), (.ref a1)])) X0 hx rfl rfl rfl (pc0 := 2) (pc' := 7) (same := false) rfl (hb hby d3_2) rfl (decide_eq_false fun q => ha2_1 (Value.ref.inj q)) (by decide) (by decide) k) ?_
    show own_Fin _ _ _ _ _ _ _ (s₁.setTop (mkF m 7 #[.val (.ref a1), .val (.ref a2), .unset] []))
    refine own_st (fun t k => XS.aloadN X0.here hx rfl (hb hby d3_7) rfl rfl k) ?_
    show own_Fin _ _ _ _ _ _ _ (s₁.setTop (mkF m 8 #[.val (.ref a1), .val (.ref a2), .unset] [(.ref a2)]))
    obtain ⟨T2, X2, e2, st2⟩ := instY X0 hx hZ hown (hw _ (List.mem_of_getElem? (i := 28) rfl)) e0 (Ins.self E2) (g := (mkF m 8 #[.val (.ref a1), .val (.ref a2), .unset] [(.ref a2)])) rfl rfl (hb hby d3_8)
    refine own_st st2 ?_
    show own_Fin _ _ _ _ _ _ _ (T2.setTop (mkF m 11 #[.val (.ref a1), .val (.ref a2), .unset] [(.int (1 : Int32))]))
    refine own_st (fun t k => XS.ifNo X2.here hx rfl (hb hby d3_11) rfl ((if0 _ _).trans (feq (by decide : ¬ ((1 : Int32) = (0 : Int32)))).1) k) ?_
    show own_Fin _ _ _ _ _ _ _ (T2.setTop (mkF m 14 #[.val (.ref a1), .val (.ref a2), .unset] []))
    refine own_st (fun t k => XS.aloadN X2.here hx rfl (hb hby d3_14) rfl rfl k) ?_
    show own_Fin _ _ _ _ _ _ _ (T2.setTop (mkF m 15 #[.val (.ref a1), .val (.ref a2), .unset] [(.ref a2)]))
    obtain ⟨T3, X3, e3, st3⟩ := castY X2 hx hZ hown (hw _ (List.mem_of_getElem? (i := 28) rfl)) e2 (Ins.self E2) (g := (mkF m 15 #[.val (.ref a1), .val (.ref a2), .unset] [(.ref a2)])) rfl rfl (hb hby d3_15)
    refine own_st st3 ?_
    show own_Fin _ _ _ _ _ _ _ (T3.setTop (mkF m 18 #[.val (.ref a1), .val (.ref a2), .unset] [(.ref a2)]))
    refine own_st (fun t k => XS.astoreN X3.here hx rfl (hb hby d3_18) rfl rfl (l' := #[.val (.ref a1), .val (.ref a2), .val (.ref a2)]) rfl k) ?_
    show own_Fin _ _ _ _ _ _ _ (T3.setTop (mkF m 19 #[.val (.ref a1), .val (.ref a2), .val (.ref a2)] []))
    obtain ⟨T4, X4, e4, st4⟩ := getS2 X3 hx hZ hown (host := "") (Or.inl (hw _ (List.mem_of_getElem? (i := 30) rfl))) Via.refl e3 O2 (g := (mkF m 19 #[.val (.ref a1), .val (.ref a2), .val (.ref a2)] [])) rfl (hb hby d3_19)
    refine own_st st4 ?_
    show own_Fin _ _ _ _ _ _ _ (T4.setTop (mkF m 22 #[.val (.ref a1), .val (.ref a2), .val (.ref a2)] [(.int G1)]))
    have hd22_5 : ¬ (G1 = (0 : Int32)) := P5
    refine own_st (fun t k => XS.ifNo X4.here hx rfl (hb hby d3_22) rfl ((if0 _ _).trans (feq hd22_5).1) k) ?_
    show own_Fin _ _ _ _ _ _ _ (T4.setTop (mkF m 25 #[.val (.ref a1), .val (.ref a2), .val (.ref a2)] []))
    refine own_st (fun t k => XS.aloadN X4.here hx rfl (hb hby d3_25) rfl rfl k) ?_
    show own_Fin _ _ _ _ _ _ _ (T4.setTop (mkF m 26 #[.val (.ref a1), .val (.ref a2), .val (.ref a2)] [(.ref a1)]))
    obtain ⟨T6, X6, e6, st6⟩ := getF X4 hx hZ hown (host := "") (Or.inl (hw _ (List.mem_of_getElem? (i := 31) rfl))) Via.refl e4 Fc1 (g := (mkF m 26 #[.val (.ref a1), .val (.ref a2), .val (.ref a2)] [(.ref a1)])) rfl rfl (hb hby d3_26)
    refine own_st st6 ?_
    show own_Fin _ _ _ _ _ _ _ (T6.setTop (mkF m 29 #[.val (.ref a1), .val (.ref a2), .val (.ref a2)] [(.int (0 : Int32))]))
    refine own_st (fun t k => XS.aloadN X6.here hx rfl (hb hby d3_29) rfl rfl k) ?_
    show own_Fin _ _ _ _ _ _ _ (T6.setTop (mkF m 30 #[.val (.ref a1), .val (.ref a2), .val (.ref a2)] [(.ref a2), (.int (0 : Int32))]))
    obtain ⟨T7, X7, e7, st7⟩ := getF X6 hx hZ hown (host := "") (Or.inl (hw _ (List.mem_of_getElem? (i := 31) rfl))) Via.refl e6 Fc2 (g := (mkF m 30 #[.val (.ref a1), .val (.ref a2), .val (.ref a2)] [(.ref a2), (.int (0 : Int32))])) rfl rfl (hb hby d3_30)
    refine own_st st7 ?_
    show own_Fin _ _ _ _ _ _ _ (T7.setTop (mkF m 33 #[.val (.ref a1), .val (.ref a2), .val (.ref a2)] [(.int (0 : Int32)), (.int (0 : Int32))]))
    refine own_st (fun t k => XS.icmpNo X7.here hx rfl (hb hby d3_33) rfl (teq (by decide : (0 : Int32) = (0 : Int32))).2 k) ?_
    show own_Fin _ _ _ _ _ _ _ (T7.setTop (mkF m 36 #[.val (.ref a1), .val (.ref a2), .val (.ref a2)] []))
    refine own_st (fun t k => XS.aloadN X7.here hx rfl (hb hby d3_36) rfl rfl k) ?_
    show own_Fin _ _ _ _ _ _ _ (T7.setTop (mkF m 37 #[.val (.ref a1), .val (.ref a2), .val (.ref a2)] [(.ref a1)]))
    obtain ⟨T8, X8, e8, st8⟩ := getF X7 hx hZ hown (host := "") (Or.inl (hw _ (List.mem_of_getElem? (i := 32) rfl))) Via.refl e7 Fv1 (g := (mkF m 37 #[.val (.ref a1), .val (.ref a2), .val (.ref a2)] [(.ref a1)])) rfl rfl (hb hby d3_37)
    refine own_st st8 ?_
    show own_Fin _ _ _ _ _ _ _ (T8.setTop (mkF m 40 #[.val (.ref a1), .val (.ref a2), .val (.ref a2)] [(.ref t1)]))
    refine own_st (fun t k => XS.aloadN X8.here hx rfl (hb hby d3_40) rfl rfl k) ?_
    show own_Fin _ _ _ _ _ _ _ (T8.setTop (mkF m 41 #[.val (.ref a1), .val (.ref a2), .val (.ref a2)] [(.ref a2), (.ref t1)]))
    obtain ⟨T9, X9, e9, st9⟩ := getF X8 hx hZ hown (host := "") (Or.inl (hw _ (List.mem_of_getElem? (i := 32) rfl))) Via.refl e8 Fv2 (g := (mkF m 41 #[.val (.ref a1), .val (.ref a2), .val (.ref a2)] [(.ref a2), (.ref t1)])) rfl rfl (hb hby d3_41)
    refine own_st st9 ?_
    show own_Fin _ _ _ _ _ _ _ (T9.setTop (mkF m 44 #[.val (.ref a1), .val (.ref a2), .val (.ref a2)] [(.ref t2), (.ref t1)]))
    obtain ⟨_, _, ⟨T10, L10, k10, n10⟩, -, X10, ⟨Lc10, hQ10, l10, y10, z10⟩, st10⟩ := Jvm.LawKit.callS X9 hx (y := (⟨"java/lang/StringLatin1", "equals", "([B[B)Z"⟩ : MethodName)) hown (mvT hZ (hw _ (List.mem_of_getElem? (i := 33) rfl))) (mvT hZ (hw _ (List.mem_of_getElem? (i := 34) rfl))) (mvT hZ (hw _ (List.mem_of_getElem? (i := 35) rfl))) (mvT hZ (hw _ (List.mem_of_getElem? (i := 36) rfl))) (by decide) (backOf (W := 0) (rmL1 l Z a0 hw [] t1 t2 k1 k2 x h0 n0 Z0 V1 V2) hZ (hw _ (List.mem_of_getElem? (i := 36) rfl)) (hw _ (List.mem_of_getElem? (i := 35) rfl)) (by decide) (by decide)) (g := (mkF m 44 #[.val (.ref a1), .val (.ref a2), .val (.ref a2)] [(.ref t2), (.ref t1)])) rfl (by rw [hml]; rfl) (argsL := [(.ref t1), (.ref t2)]) (rest := []) (lenOf pd_3_0 rfl) rfl (by show 2 * 0 + _ ≤ _; exact Nat.le_of_eq rfl) (hb hby d3_44) (fun _ _ => ⟨rfl, e9, (by decide : 0 + 0 ≤ _), (by decide : 0 + 0 ≤ _)⟩)
    dsimp only [Pt.U, Pt.locs, Pt.cells, Pt.slots] at X10 l10 y10 z10 st10 hQ10
    subst l10 y10 z10
    obtain ⟨rfl, N10q, e10⟩ := hQ10
    have N10 := Fr.app N0 N10q
    refine own_st st10 ?_
    show own_Fin _ _ _ _ _ _ _ (T10.setTop (mkF m 47 #[.val (.ref a1), .val (.ref a2), .val (.ref a2)] [(.int (1 : Int32))]))
    refine own_st (fun t k => XS.ifNo X10.here hx rfl (hb hby d3_47) rfl ((if0 _ _).trans (feq (by decide : ¬ ((1 : Int32) = (0 : Int32)))).1) k) ?_
    show own_Fin _ _ _ _ _ _ _ (T10.setTop (mkF m 50 #[.val (.ref a1), .val (.ref a2), .val (.ref a2)] []))
    refine own_st (fun t k => XS.iconst X10.here hx rfl (hb hby d3_50) k) ?_
    show own_Fin _ _ _ _ _ _ _ (T10.setTop (mkF m 51 #[.val (.ref a1), .val (.ref a2), .val (.ref a2)] [(.int (1 : Int32))]))
    refine own_st (fun t k => XS.goto X10.here hx rfl (pc0 := 51) (pc' := 55) rfl (hb hby d3_51) (by decide) (by decide) k) ?_
    show own_Fin _ _ _ _ _ _ _ (T10.setTop (mkF m 55 #[.val (.ref a1), .val (.ref a2), .val (.ref a2)] [(.int (1 : Int32))]))
    exact own_retN X10 hx Bd.notSynchronized (t := .boolean) Bd.returns (by simp) (hb hby d3_55) (by decide) (by decide) (by rw [e10]; exact ⟨rfl, N10, rfl⟩)
def own_Q_rmL2 (Z : State) (a1 : Addr) (a2 : Addr) (k1 k2 : ClassId) (x y : Int32) (h0 : Heap) (n0 : Nat) (v : Option Value) (h : Heap) (L : List Loc) : Prop := v = some (.int (1 : Int32)) ∧ Fr n0 L ∧ h = h0
set_option maxRecDepth 65536 in
set_option maxHeartbeats 40000000 in
theorem rmL2 (l : Launch) (Z : State) (a0 : Array Value) (hw : ∀ d ∈ tables_1, d.before a0 Z = true) (ws : List Jvm.Cond) (a1 : Addr) (a2 : Addr) (k1 k2 : ClassId) (x y : Int32) (h0 : Heap) (n0 : Nat) (Z0 : n0 ≤ h0.size) (V1 : Arv Z h0 a1 k1 .byte (2 : Int32) [(.int x), (.int y)] (.int (0 : Int32))) (V2 : Arv Z h0 a2 k2 .byte (2 : Int32) [(.int x), (.int y)] (.int (0 : Int32)))  :
    MetFree l (⟨"java/lang/StringLatin1", "equals", "([B[B)Z"⟩ : MethodName) (head1 (Jvm.Cond.code (⟨"java/lang/StringLatin1", "equals", "([B[B)Z"⟩ : MethodName) jdk_43_method_13_code 3 (some .boolean) :: ws) ({ frames := 0, cells := 0, slots := 0, locals := 0 } : Room)) (fun a U => a = #[(.ref a1), (.ref a2)] ∧ Z.Warmed39 U.vm ∧ U.heap = h0) (fun _ _ _ _ _ => True) (fun _ U o U' => ∃ v L, o = .returned v ∧ own_Q_rmL2 Z a1 a2 k1 k2 x y h0 n0 v U'.heap L ∧ FrameEnd U o U' L ({ frames := 0, cells := 0, slots := 0, locals := 0 } : Room).cells ({ frames := 0, cells := 0, slots := 0, locals := 0 } : Room).slots) := by
  refine MetFree.of_bodySF pn_4 hisR ?_
  intro p e s m args below meth c s₁ Bd hml0 hP hK
  obtain ⟨rfl, hZ, hh⟩ := hP
  have hx := Bd.exec
  have hby := Bd.bytes
  have hml : c.maxLocals = 3 := hml0
  have hown : s.vm.findClass "java/lang/StringLatin1" = some m.cls := findClass_of_methodNamed Bd.named
  have hnm := (name_of_methodNamed Bd.named Bd.method).1
  have X0 : Stand p l e ({ frames := 0, cells := 0, slots := 0, locals := 0 } : Room) s m #[(.ref a1), (.ref a2)] below meth c s₁ [] 0 0 := Stand.of_body Bd
  have e0 : s₁.heap = h0 := by rw [← hh, Bd.state]; rfl
  have N0 := Fr.nil n0
  show own_Fin p.tables e below s (({ frames := 0, cells := 0, slots := 0, locals := 0 } : Room).cells) (({ frames := 0, cells := 0, slots := 0, locals := 0 } : Room).slots) (own_Q_rmL2 Z a1 a2 k1 k2 x y h0 n0) (s₁.setTop (entryFrame m #[(.ref a1), (.ref a2)] 3))
  rw [ef_4 m a1 a2]
  show own_Fin _ _ _ _ _ _ _ (s₁.setTop (mkF m 0 #[.val (.ref a1), .val (.ref a2), .unset] []))
  refine own_st (fun t k => XS.aloadN X0.here hx rfl (hb hby d4_0) rfl rfl k) ?_
  show own_Fin _ _ _ _ _ _ _ (s₁.setTop (mkF m 1 #[.val (.ref a1), .val (.ref a2), .unset] [(.ref a1)]))
  obtain ⟨cl1, Ar1, Cq1, Sz1, Mn1, Hs1, Gf1⟩ := id V1
  refine own_st (X0.arraylength hx (by rw [e0]; exact Ar1.1) (State.isArrayOf_alike hZ.alike Ar1.2.1) (g := (mkF m 1 #[.val (.ref a1), .val (.ref a2), .unset] [(.ref a1)])) rfl rfl (hb hby d4_1)) ?_
  rw [len_of Sz1 Mn1]
  show own_Fin _ _ _ _ _ _ _ (s₁.setTop (mkF m 2 #[.val (.ref a1), .val (.ref a2), .unset] [(.int (2 : Int32))]))
  refine own_st (fun t k => XS.aloadN X0.here hx rfl (hb hby d4_2) rfl rfl k) ?_
  show own_Fin _ _ _ _ _ _ _ (s₁.setTop (mkF m 3 #[.val (.ref a1), .val (.ref a2), .unset] [(.ref a2), (.int (2 : Int32))]))
  obtain ⟨cl2, Ar2, Cq2, Sz2, Mn2, Hs2, Gf2⟩ := id V2
  refine own_st (X0.arraylength hx (by rw [e0]; exact Ar2.1) (State.isArrayOf_alike hZ.alike Ar2.2.1) (g := (mkF m 3 #[.val (.ref a1), .val (.ref a2), .unset] [(.ref a2), (.int (2 : Int32))])) rfl rfl (hb hby d4_3)) ?_
  rw [len_of Sz2 Mn2]
  show own_Fin _ _ _ _ _ _ _ (s₁.setTop (mkF m 4 #[.val (.ref a1), .val (.ref a2), .unset] [(.int (2 : Int32)), (.int (2 : Int32))]))
  refine own_st (fun t k => XS.icmpNo X0.here hx rfl (hb hby d4_4) rfl (teq (by decide : (2 : Int32) = (2 : Int32))).2 k) ?_
  show own_Fin _ _ _ _ _ _ _ (s₁.setTop (mkF m 7 #[.val (.ref a1), .val (.ref a2), .unset] []))
  refine own_st (fun t k => XS.iconst X0.here hx rfl (hb hby d4_7) k) ?_
  show own_Fin _ _ _ _ _ _ _ (s₁.setTop (mkF m 8 #[.val (.ref a1), .val (.ref a2), .unset] [(.int (0 : Int32))]))
  refine own_st (fun t k => XS.istoreN X0.here hx rfl (hb hby d4_8) rfl (l' := #[.val (.ref a1), .val (.ref a2), .val (.int (0 : Int32))]) rfl k) ?_
  show own_Fin _ _ _ _ _ _ _ (s₁.setTop (mkF m 9 #[.val (.ref a1), .val (.ref a2), .val (.int (0 : Int32))] []))
  refine own_st (fun t k => XS.iloadN X0.here hx rfl (hb hby d4_9) rfl k) ?_
  show own_Fin _ _ _ _ _ _ _ (s₁.setTop (mkF m 10 #[.val (.ref a1), .val (.ref a2), .val (.int (0 : Int32))] [(.int (0 : Int32))]))
  refine own_st (fun t k => XS.aloadN X0.here hx rfl (hb hby d4_10) rfl rfl k) ?_
  show own_Fin _ _ _ _ _ _ _ (s₁.setTop (mkF m 11 #[.val (.ref a1), .val (.ref a2), .val (.int (0 : Int32))] [(.ref a1), (.int (0 : Int32))]))
  obtain ⟨cl3, Ar3, Cq3, Sz3, Mn3, Hs3, Gf3⟩ := id V1
  refine own_st (X0.arraylength hx (by rw [e0]; exact Ar3.1) (State.isArrayOf_alike hZ.alike Ar3.2.1) (g := (mkF m 11 #[.val (.ref a1), .val (.ref a2), .val (.int (0 : Int32))] [(.ref a1), (.int (0 : Int32))])) rfl rfl (hb hby d4_11)) ?_
  rw [len_of Sz3 Mn3]
  show own_Fin _ _ _ _ _ _ _ (s₁.setTop (mkF m 12 #[.val (.ref a1), .val (.ref a2), .val (.int (0 : Int32))] [(.int (2 : Int32)), (.int (0 : Int32))]))
  refine own_st (fun t k => XS.icmpNo X0.here hx rfl (hb hby d4_12) rfl (tlt (by decide : (0 : Int32) < (2 : Int32))).2.1 k) ?_
  show own_Fin _ _ _ _ _ _ _ (s₁.setTop (mkF m 15 #[.val (.ref a1), .val (.ref a2), .val (.int (0 : Int32))] []))
  refine own_st (fun t k => XS.aloadN X0.here hx rfl (hb hby d4_15) rfl rfl k) ?_
  show own_Fin _ _ _ _ _ _ _ (s₁.setTop (mkF m 16 #[.val (.ref a1), .val (.ref a2), .val (.int (0 : Int32))] [(.ref a1)]))
  refine own_st (fun t k => XS.iloadN X0.here hx rfl (hb hby d4_16) rfl k) ?_
  show own_Fin _ _ _ _ _ _ _ (s₁.setTop (mkF m 17 #[.val (.ref a1), .val (.ref a2), .val (.int (0 : Int32))] [(.int (0 : Int32)), (.ref a1)]))
  obtain ⟨cl4, Ar4, Cq4, Sz4, Mn4, Hs4, Gf4⟩ := id V1
  have hin4 := inb_of Sz4 (j := (0 : Int32)) ⟨by decide, by decide⟩
  refine own_st (X0.baloadBytes hx (j := (0 : Int32)) (v := (.int x)) (by rw [e0]; exact Ar4.1) (State.isArrayOf_alike hZ.alike Ar4.2.1) Ar4.2.2 hin4 (Hs4.at hin4 rfl) (g := (mkF m 17 #[.val (.ref a1), .val (.ref a2), .val (.int (0 : Int32))] [(.int (0 : Int32)), (.ref a1)])) rfl rfl (hb hby d4_17)) ?_
  show own_Fin _ _ _ _ _ _ _ (s₁.setTop (mkF m 18 #[.val (.ref a1), .val (.ref a2), .val (.int (0 : Int32))] [(.int x)]))
  refine own_st (fun t k => XS.aloadN X0.here hx rfl (hb hby d4_18) rfl rfl k) ?_
  show own_Fin _ _ _ _ _ _ _ (s₁.setTop (mkF m 19 #[.val (.ref a1), .val (.ref a2), .val (.int (0 : Int32))] [(.ref a2), (.int x)]))
  refine own_st (fun t k => XS.iloadN X0.here hx rfl (hb hby d4_19) rfl k) ?_
  show own_Fin _ _ _ _ _ _ _ (s₁.setTop (mkF m 20 #[.val (.ref a1), .val (.ref a2), .val (.int (0 : Int32))] [(.int (0 : Int32)), (.ref a2), (.int x)]))
  obtain ⟨cl5, Ar5, Cq5, Sz5, Mn5, Hs5, Gf5⟩ := id V2
  have hin5 := inb_of Sz5 (j := (0 : Int32)) ⟨by decide, by decide⟩
  refine own_st (X0.baloadBytes hx (j := (0 : Int32)) (v := (.int x)) (by rw [e0]; exact Ar5.1) (State.isArrayOf_alike hZ.alike Ar5.2.1) Ar5.2.2 hin5 (Hs5.at hin5 rfl) (g := (mkF m 20 #[.val (.ref a1), .val (.ref a2), .val (.int (0 : Int32))] [(.int (0 : Int32)), (.ref a2), (.int x)])) rfl rfl (hb hby d4_20)) ?_
  show own_Fin _ _ _ _ _ _ _ (s₁.setTop (mkF m 21 #[.val (.ref a1), .val (.ref a2), .val (.int (0 : Int32))] [(.int x), (.int x)]))
  refine own_st (fun t k => XS.icmpYes X0.here hx rfl (pc0 := 21) (pc' := 26) rfl (hb hby d4_21) rfl (teq (rfl : x = x)).1 (by decide) (by decide) k) ?_
  show own_Fin _ _ _ _ _ _ _ (s₁.setTop (mkF m 26 #[.val (.ref a1), .val (.ref a2), .val (.int (0 : Int32))] []))
  refine own_st (fun t k => XS.iinc X0.here hx rfl (hb hby d4_26) rfl (l' := #[.val (.ref a1), .val (.ref a2), .val (.int (1 : Int32))]) rfl k) ?_
  show own_Fin _ _ _ _ _ _ _ (s₁.setTop (mkF m 29 #[.val (.ref a1), .val (.ref a2), .val (.int (1 : Int32))] []))
  refine own_st (fun t k => XS.goto X0.here hx rfl (pc0 := 29) (pc' := 9) rfl (hb hby d4_29) (by decide) (by decide) k) ?_
  show own_Fin _ _ _ _ _ _ _ (s₁.setTop (mkF m 9 #[.val (.ref a1), .val (.ref a2), .val (.int (1 : Int32))] []))
  refine own_st (fun t k => XS.iloadN X0.here hx rfl (hb hby d4_9) rfl k) ?_
  show own_Fin _ _ _ _ _ _ _ (s₁.setTop (mkF m 10 #[.val (.ref a1), .val (.ref a2), .val (.int (1 : Int32))] [(.int (1 : Int32))]))
  refine own_st (fun t k => XS.aloadN X0.here hx rfl (hb hby d4_10) rfl rfl k) ?_
  show own_Fin _ _ _ _ _ _ _ (s₁.setTop (mkF m 11 #[.val (.ref a1), .val (.ref a2), .val (.int (1 : Int32))] [(.ref a1), (.int (1 : Int32))]))
  obtain ⟨cl6, Ar6, Cq6, Sz6, Mn6, Hs6, Gf6⟩ := id V1
  refine own_st (X0.arraylength hx (by rw [e0]; exact Ar6.1) (State.isArrayOf_alike hZ.alike Ar6.2.1) (g := (mkF m 11 #[.val (.ref a1), .val (.ref a2), .val (.int (1 : Int32))] [(.ref a1), (.int (1 : Int32))])) rfl rfl (hb hby d4_11)) ?_
  rw [len_of Sz6 Mn6]
  show own_Fin _ _ _ _ _ _ _ (s₁.setTop (mkF m 12 #[.val (.ref a1), .val (.ref a2), .val (.int (1 : Int32))] [(.int (2 : Int32)), (.int (1 : Int32))]))
  refine own_st (fun t k => XS.icmpNo X0.here hx rfl (hb hby d4_12) rfl (tlt (by decide : (1 : Int32) < (2 : Int32))).2.1 k) ?_
  show own_Fin _ _ _ _ _ _ _ (s₁.setTop (mkF m 15 #[.val (.ref a1), .val (.ref a2), .val (.int (1 : Int32))] []))
  refine own_st (fun t k => XS.aloadN X0.here hx rfl (hb hby d4_15) rfl rfl k) ?_
  show own_Fin _ _ _ _ _ _ _ (s₁.setTop (mkF m 16 #[.val (.ref a1), .val (.ref a2), .val (.int (1 : Int32))] [(.ref a1)]))
  refine own_st (fun t k => XS.iloadN X0.here hx rfl (hb hby d4_16) rfl k) ?_
  show own_Fin _ _ _ _ _ _ _ (s₁.setTop (mkF m 17 #[.val (.ref a1), .val (.ref a2), .val (.int (1 : Int32))] [(.int (1 : Int32)), (.ref a1)]))
  obtain ⟨cl7, Ar7, Cq7, Sz7, Mn7, Hs7, Gf7⟩ := id V1
  have hin7 := inb_of Sz7 (j := (1 : Int32)) ⟨by decide, by decide⟩
  refine own_st (X0.baloadBytes hx (j := (1 : Int32)) (v := (.int y)) (by rw [e0]; exact Ar7.1) (State.isArrayOf_alike hZ.alike Ar7.2.1) Ar7.2.2 hin7 (Hs7.at hin7 rfl) (g := (mkF m 17 #[.val (.ref a1), .val (.ref a2), .val (.int (1 : Int32))] [(.int (1 : Int32)), (.ref a1)])) rfl rfl (hb hby d4_17)) ?_
  show own_Fin _ _ _ _ _ _ _ (s₁.setTop (mkF m 18 #[.val (.ref a1), .val (.ref a2), .val (.int (1 : Int32))] [(.int y)]))
  refine own_st (fun t k => XS.aloadN X0.here hx rfl (hb hby d4_18) rfl rfl k) ?_
  show own_Fin _ _ _ _ _ _ _ (s₁.setTop (mkF m 19 #[.val (.ref a1), .val (.ref a2), .val (.int (1 : Int32))] [(.ref a2), (.int y)]))
  refine own_st (fun t k => XS.iloadN X0.here hx rfl (hb hby d4_19) rfl k) ?_
  show own_Fin _ _ _ _ _ _ _ (s₁.setTop (mkF m 20 #[.val (.ref a1), .val (.ref a2), .val (.int (1 : Int32))] [(.int (1 : Int32)), (.ref a2), (.int y)]))
  obtain ⟨cl8, Ar8, Cq8, Sz8, Mn8, Hs8, Gf8⟩ := id V2
  have hin8 := inb_of Sz8 (j := (1 : Int32)) ⟨by decide, by decide⟩
  refine own_st (X0.baloadBytes hx (j := (1 : Int32)) (v := (.int y)) (by rw [e0]; exact Ar8.1) (State.isArrayOf_alike hZ.alike Ar8.2.1) Ar8.2.2 hin8 (Hs8.at hin8 rfl) (g := (mkF m 20 #[.val (.ref a1), .val (.ref a2), .val (.int (1 : Int32))] [(.int (1 : Int32)), (.ref a2), (.int y)])) rfl rfl (hb hby d4_20)) ?_
  show own_Fin _ _ _ _ _ _ _ (s₁.setTop (mkF m 21 #[.val (.ref a1), .val (.ref a2), .val (.int (1 : Int32))] [(.int y), (.int y)]))
  refine own_st (fun t k => XS.icmpYes X0.here hx rfl (pc0 := 21) (pc' := 26) rfl (hb hby d4_21) rfl (teq (rfl : y = y)).1 (by decide) (by decide) k) ?_
  show own_Fin _ _ _ _ _ _ _ (s₁.setTop (mkF m 26 #[.val (.ref a1), .val (.ref a2), .val (.int (1 : Int32))] []))
  refine own_st (fun t k => XS.iinc X0.here hx rfl (hb hby d4_26) rfl (l' := #[.val (.ref a1), .val (.ref a2), .val (.int (2 : Int32))]) rfl k) ?_
  show own_Fin _ _ _ _ _ _ _ (s₁.setTop (mkF m 29 #[.val (.ref a1), .val (.ref a2), .val (.int (2 : Int32))] []))
  refine own_st (fun t k => XS.goto X0.here hx rfl (pc0 := 29) (pc' := 9) rfl (hb hby d4_29) (by decide) (by decide) k) ?_
  show own_Fin _ _ _ _ _ _ _ (s₁.setTop (mkF m 9 #[.val (.ref a1), .val (.ref a2), .val (.int (2 : Int32))] []))
  refine own_st (fun t k => XS.iloadN X0.here hx rfl (hb hby d4_9) rfl k) ?_
  show own_Fin _ _ _ _ _ _ _ (s₁.setTop (mkF m 10 #[.val (.ref a1), .val (.ref a2), .val (.int (2 : Int32))] [(.int (2 : Int32))]))
  refine own_st (fun t k => XS.aloadN X0.here hx rfl (hb hby d4_10) rfl rfl k) ?_
  show own_Fin _ _ _ _ _ _ _ (s₁.setTop (mkF m 11 #[.val (.ref a1), .val (.ref a2), .val (.int (2 : Int32))] [(.ref a1), (.int (2 : Int32))]))
  obtain ⟨cl9, Ar9, Cq9, Sz9, Mn9, Hs9, Gf9⟩ := id V1
  refine own_st (X0.arraylength hx (by rw [e0]; exact Ar9.1) (State.isArrayOf_alike hZ.alike Ar9.2.1) (g := (mkF m 11 #[.val (.ref a1), .val (.ref a2), .val (.int (2 : Int32))] [(.ref a1), (.int (2 : Int32))])) rfl rfl (hb hby d4_11)) ?_
  rw [len_of Sz9 Mn9]
  show own_Fin _ _ _ _ _ _ _ (s₁.setTop (mkF m 12 #[.val (.ref a1), .val (.ref a2), .val (.int (2 : Int32))] [(.int (2 : Int32)), (.int (2 : Int32))]))
  refine own_st (fun t k => XS.icmpYes X0.here hx rfl (pc0 := 12) (pc' := 32) rfl (hb hby d4_12) rfl (flt (by decide : ¬ ((2 : Int32) < (2 : Int32)))).2.1 (by decide) (by decide) k) ?_
  show own_Fin _ _ _ _ _ _ _ (s₁.setTop (mkF m 32 #[.val (.ref a1), .val (.ref a2), .val (.int (2 : Int32))] []))
  refine own_st (fun t k => XS.iconst X0.here hx rfl (hb hby d4_32) k) ?_
  show own_Fin _ _ _ _ _ _ _ (s₁.setTop (mkF m 33 #[.val (.ref a1), .val (.ref a2), .val (.int (2 : Int32))] [(.int (1 : Int32))]))
  exact own_retN X0 hx Bd.notSynchronized (t := .boolean) Bd.returns (by simp) (hb hby d4_33) (by decide) (by decide) (by rw [e0]; exact ⟨rfl, N0, rfl⟩)
def own_Q_rmE2 (Z : State) (a1 : Addr) (a2 : Addr) (t1 t2 : Addr) (k1 k2 : ClassId) (G1 : Int32) (x y : Int32) (h0 : Heap) (n0 : Nat) (v : Option Value) (h : Heap) (L : List Loc) : Prop := v = some (.int (1 : Int32)) ∧ Fr n0 L ∧ h = h0
set_option maxRecDepth 65536 in
set_option maxHeartbeats 40000000 in
theorem rmE2 (l : Launch) (Z : State) (a0 : Array Value) (hw : ∀ d ∈ tables_1, d.before a0 Z = true) (ws : List Jvm.Cond) (a1 : Addr) (a2 : Addr) (t1 t2 : Addr) (k1 k2 : ClassId) (G1 : Int32) (x y : Int32) (h0 : Heap) (n0 : Nat) (Z0 : n0 ≤ h0.size) (E1 : Exa Z h0 a1 "java/lang/String") (E2 : Exa Z h0 a2 "java/lang/String") (Fc1 : Fld Z h0 a1 "java/lang/String" "coder" "B" (.int (0 : Int32))) (Fc2 : Fld Z h0 a2 "java/lang/String" "coder" "B" (.int (0 : Int32))) (Fv1 : Fld Z h0 a1 "java/lang/String" "value" "[B" (.ref t1)) (Fv2 : Fld Z h0 a2 "java/lang/String" "value" "[B" (.ref t2)) (V1 : Arv Z h0 t1 k1 .byte (2 : Int32) [(.int x), (.int y)] (.int (0 : Int32))) (V2 : Arv Z h0 t2 k2 .byte (2 : Int32) [(.int x), (.int y)] (.int (0 : Int32))) (O2 : Sta Z h0 "java/lang/String" "COMPACT_STRINGS" "Z" (.int G1)) (P5 : ¬ (G1 = (0 : Int32)))  :
    MetFree l (⟨"java/lang/String", "equals", "(Ljava/lang/Object;)Z"⟩ : MethodName) (head1 (Jvm.Cond.code (⟨"java/lang/String", "equals", "(Ljava/lang/Object;)Z"⟩ : MethodName) jdk_42_method_66_code 3 (some .boolean) :: ws) ({ frames := 1, cells := 0, slots := 0, locals := 14 } : Room)) (fun a U => a = #[(.ref a1), (.ref a2)] ∧ Z.Warmed39 U.vm ∧ U.heap = h0) (fun _ _ _ _ _ => True) (fun _ U o U' => ∃ v L, o = .returned v ∧ own_Q_rmE2 Z a1 a2 t1 t2 k1 k2 G1 x y h0 n0 v U'.heap L ∧ FrameEnd U o U' L ({ frames := 1, cells := 0, slots := 0, locals := 14 } : Room).cells ({ frames := 1, cells := 0, slots := 0, locals := 14 } : Room).slots) := by
  refine MetFree.of_bodySF pn_3 hisR ?_
  intro p e s m args below meth c s₁ Bd hml0 hP hK
  obtain ⟨rfl, hZ, hh⟩ := hP
  have hx := Bd.exec
  have hby := Bd.bytes
  have hml : c.maxLocals = 3 := hml0
  have hown : s.vm.findClass "java/lang/String" = some m.cls := findClass_of_methodNamed Bd.named
  have hnm := (name_of_methodNamed Bd.named Bd.method).1
  have X0 : Stand p l e ({ frames := 1, cells := 0, slots := 0, locals := 14 } : Room) s m #[(.ref a1), (.ref a2)] below meth c s₁ [] 0 0 := Stand.of_body Bd
  have e0 : s₁.heap = h0 := by rw [← hh, Bd.state]; rfl
  have N0 := Fr.nil n0
  show own_Fin p.tables e below s (({ frames := 1, cells := 0, slots := 0, locals := 14 } : Room).cells) (({ frames := 1, cells := 0, slots := 0, locals := 14 } : Room).slots) (own_Q_rmE2 Z a1 a2 t1 t2 k1 k2 G1 x y h0 n0) (s₁.setTop (entryFrame m #[(.ref a1), (.ref a2)] 3))
  rw [ef_3 m a1 a2]
  show own_Fin _ _ _ _ _ _ _ (s₁.setTop (mkF m 0 #[.val (.ref a1), .val (.ref a2), .unset] []))
  refine own_st (fun t k => XS.aloadN X0.here hx rfl (hb hby d3_0) rfl rfl k) ?_
  show own_Fin _ _ _ _ _ _ _ (s₁.setTop (mkF m 1 #[.val (.ref a1), .val (.ref a2), .unset] [(.ref a1)]))
  refine own_st (fun t k => XS.aloadN X0.here hx rfl (hb hby d3_1) rfl rfl k) ?_
  show own_Fin _ _ _ _ _ _ _ (s₁.setTop (mkF m 2 #[.val (.ref a1), .val (.ref a2), .unset] [(.ref a2), (.ref a1)]))
  by_cases ha2_1 : a1 = a2
  · refine own_st (fun t k => Jvm.RoadKit.acmp (g := (mkF m 2 #[.val (.ref a1), .val (.ref a2), .unset] [(.ref a2), (.ref a1)])) X0 hx rfl rfl rfl (pc0 := 2) (pc' := 5) (same := true) rfl (hb hby d3_2) rfl (decide_eq_true (congrArg Value.ref ha2_1)) (by decide) (by decide) k) ?_
    show own_Fin _ _ _ _ _ _ _ (s₁.setTop (mkF m 5 #[.val (.ref a1), .val (.ref a2), .unset] []))
    refine own_st (fun t k => XS.iconst X0.here hx rfl (hb hby d3_5) k) ?_
    show own_Fin _ _ _ _ _ _ _ (s₁.setTop (mkF m 6 #[.val (.ref a1), .val (.ref a2), .unset] [(.int (1 : Int32))]))
    exact own_retN X0 hx Bd.notSynchronized (t := .boolean) Bd.returns (by simp) (hb hby d3_6) (by decide) (by decide) (by rw [e0]; exact ⟨rfl, N0, rfl⟩)
  · refine own_st (fun t k => Jvm.RoadKit.acmp (g := (mkF m 2 #[.val (.ref a1), .val (.ref a2), .unset] [(.ref a2), (.ref a1)])) X0 hx rfl rfl rfl (pc0 := 2) (pc' := 7) (same := false) rfl (hb hby d3_2) rfl (decide_eq_false fun q => ha2_1 (Value.ref.inj q)) (by decide) (by decide) k) ?_
    show own_Fin _ _ _ _ _ _ _ (s₁.setTop (mkF m 7 #[.val (.ref a1), .val (.ref a2), .unset] []))
    refine own_st (fun t k => XS.aloadN X0.here hx rfl (hb hby d3_7) rfl rfl k) ?_
    show own_Fin _ _ _ _ _ _ _ (s₁.setTop (mkF m 8 #[.val (.ref a1), .val (.ref a2), .unset] [(.ref a2)]))
    obtain ⟨T2, X2, e2, st2⟩ := instY X0 hx hZ hown (hw _ (List.mem_of_getElem? (i := 28) rfl)) e0 (Ins.self E2) (g := (mkF m 8 #[.val (.ref a1), .val (.ref a2), .unset] [(.ref a2)])) rfl rfl (hb hby d3_8)
    refine own_st st2 ?_
    show own_Fin _ _ _ _ _ _ _ (T2.setTop (mkF m 11 #[.val (.ref a1), .val (.ref a2), .unset] [(.int (1 : Int32))]))
    refine own_st (fun t k => XS.ifNo X2.here hx rfl (hb hby d3_11) rfl ((if0 _ _).trans (feq (by decide : ¬ ((1 : Int32) = (0 : Int32)))).1) k) ?_
    show own_Fin _ _ _ _ _ _ _ (T2.setTop (mkF m 14 #[.val (.ref a1), .val (.ref a2), .unset] []))
    refine own_st (fun t k => XS.aloadN X2.here hx rfl (hb hby d3_14) rfl rfl k) ?_
    show own_Fin _ _ _ _ _ _ _ (T2.setTop (mkF m 15 #[.val (.ref a1), .val (.ref a2), .unset] [(.ref a2)]))
    obtain ⟨T3, X3, e3, st3⟩ := castY X2 hx hZ hown (hw _ (List.mem_of_getElem? (i := 28) rfl)) e2 (Ins.self E2) (g := (mkF m 15 #[.val (.ref a1), .val (.ref a2), .unset] [(.ref a2)])) rfl rfl (hb hby d3_15)
    refine own_st st3 ?_
    show own_Fin _ _ _ _ _ _ _ (T3.setTop (mkF m 18 #[.val (.ref a1), .val (.ref a2), .unset] [(.ref a2)]))
    refine own_st (fun t k => XS.astoreN X3.here hx rfl (hb hby d3_18) rfl rfl (l' := #[.val (.ref a1), .val (.ref a2), .val (.ref a2)]) rfl k) ?_
    show own_Fin _ _ _ _ _ _ _ (T3.setTop (mkF m 19 #[.val (.ref a1), .val (.ref a2), .val (.ref a2)] []))
    obtain ⟨T4, X4, e4, st4⟩ := getS2 X3 hx hZ hown (host := "") (Or.inl (hw _ (List.mem_of_getElem? (i := 30) rfl))) Via.refl e3 O2 (g := (mkF m 19 #[.val (.ref a1), .val (.ref a2), .val (.ref a2)] [])) rfl (hb hby d3_19)
    refine own_st st4 ?_
    show own_Fin _ _ _ _ _ _ _ (T4.setTop (mkF m 22 #[.val (.ref a1), .val (.ref a2), .val (.ref a2)] [(.int G1)]))
    have hd22_5 : ¬ (G1 = (0 : Int32)) := P5
    refine own_st (fun t k => XS.ifNo X4.here hx rfl (hb hby d3_22) rfl ((if0 _ _).trans (feq hd22_5).1) k) ?_
    show own_Fin _ _ _ _ _ _ _ (T4.setTop (mkF m 25 #[.val (.ref a1), .val (.ref a2), .val (.ref a2)] []))
    refine own_st (fun t k => XS.aloadN X4.here hx rfl (hb hby d3_25) rfl rfl k) ?_
    show own_Fin _ _ _ _ _ _ _ (T4.setTop (mkF m 26 #[.val (.ref a1), .val (.ref a2), .val (.ref a2)] [(.ref a1)]))
    obtain ⟨T6, X6, e6, st6⟩ := getF X4 hx hZ hown (host := "") (Or.inl (hw _ (List.mem_of_getElem? (i := 31) rfl))) Via.refl e4 Fc1 (g := (mkF m 26 #[.val (.ref a1), .val (.ref a2), .val (.ref a2)] [(.ref a1)])) rfl rfl (hb hby d3_26)
    refine own_st st6 ?_
    show own_Fin _ _ _ _ _ _ _ (T6.setTop (mkF m 29 #[.val (.ref a1), .val (.ref a2), .val (.ref a2)] [(.int (0 : Int32))]))
    refine own_st (fun t k => XS.aloadN X6.here hx rfl (hb hby d3_29) rfl rfl k) ?_
    show own_Fin _ _ _ _ _ _ _ (T6.setTop (mkF m 30 #[.val (.ref a1), .val (.ref a2), .val (.ref a2)] [(.ref a2), (.int (0 : Int32))]))
    obtain ⟨T7, X7, e7, st7⟩ := getF X6 hx hZ hown (host := "") (Or.inl (hw _ (List.mem_of_getElem? (i := 31) rfl))) Via.refl e6 Fc2 (g := (mkF m 30 #[.val (.ref a1), .val (.ref a2), .val (.ref a2)] [(.ref a2), (.int (0 : Int32))])) rfl rfl (hb hby d3_30)
    refine own_st st7 ?_
    show own_Fin _ _ _ _ _ _ _ (T7.setTop (mkF m 33 #[.val (.ref a1), .val (.ref a2), .val (.ref a2)] [(.int (0 : Int32)), (.int (0 : Int32))]))
    refine own_st (fun t k => XS.icmpNo X7.here hx rfl (hb hby d3_33) rfl (teq (by decide : (0 : Int32) = (0 : Int32))).2 k) ?_
    show own_Fin _ _ _ _ _ _ _ (T7.setTop (mkF m 36 #[.val (.ref a1), .val (.ref a2), .val (.ref a2)] []))
    refine own_st (fun t k => XS.aloadN X7.here hx rfl (hb hby d3_36) rfl rfl k) ?_
    show own_Fin _ _ _ _ _ _ _ (T7.setTop (mkF m 37 #[.val (.ref a1), .val (.ref a2), .val (.ref a2)] [(.ref a1)]))
    obtain ⟨T8, X8, e8, st8⟩ := getF X7 hx hZ hown (host := "") (Or.inl (hw _ (List.mem_of_getElem? (i := 32) rfl))) Via.refl e7 Fv1 (g := (mkF m 37 #[.val (.ref a1), .val (.ref a2), .val (.ref a2)] [(.ref a1)])) rfl rfl (hb hby d3_37)
    refine own_st st8 ?_
    show own_Fin _ _ _ _ _ _ _ (T8.setTop (mkF m 40 #[.val (.ref a1), .val (.ref a2), .val (.ref a2)] [(.ref t1)]))
    refine own_st (fun t k => XS.aloadN X8.here hx rfl (hb hby d3_40) rfl rfl k) ?_
    show own_Fin _ _ _ _ _ _ _ (T8.setTop (mkF m 41 #[.val (.ref a1), .val (.ref a2), .val (.ref a2)] [(.ref a2), (.ref t1)]))
    obtain ⟨T9, X9, e9, st9⟩ := getF X8 hx hZ hown (host := "") (Or.inl (hw _ (List.mem_of_getElem? (i := 32) rfl))) Via.refl e8 Fv2 (g := (mkF m 41 #[.val (.ref a1), .val (.ref a2), .val (.ref a2)] [(.ref a2), (.ref t1)])) rfl rfl (hb hby d3_41)
    refine own_st st9 ?_
    show own_Fin _ _ _ _ _ _ _ (T9.setTop (mkF m 44 #[.val (.ref a1), .val (.ref a2), .val (.ref a2)] [(.ref t2), (.ref t1)]))
    obtain ⟨_, _, ⟨T10, L10, k10, n10⟩, -, X10, ⟨Lc10, hQ10, l10, y10, z10⟩, st10⟩ := Jvm.LawKit.callS X9 hx (y := (⟨"java/lang/StringLatin1", "equals", "([B[B)Z"⟩ : MethodName)) hown (mvT hZ (hw _ (List.mem_of_getElem? (i := 33) rfl))) (mvT hZ (hw _ (List.mem_of_getElem? (i := 34) rfl))) (mvT hZ (hw _ (List.mem_of_getElem? (i := 35) rfl))) (mvT hZ (hw _ (List.mem_of_getElem? (i := 36) rfl))) (by decide) (backOf (W := 0) (rmL2 l Z a0 hw [] t1 t2 k1 k2 x y h0 n0 Z0 V1 V2) hZ (hw _ (List.mem_of_getElem? (i := 36) rfl)) (hw _ (List.mem_of_getElem? (i := 35) rfl)) (by decide) (by decide)) (g := (mkF m 44 #[.val (.ref a1), .val (.ref a2), .val (.ref a2)] [(.ref t2), (.ref t1)])) rfl (by rw [hml]; rfl) (argsL := [(.ref t1), (.ref t2)]) (rest := []) (lenOf pd_3_0 rfl) rfl (by show 2 * 0 + _ ≤ _; exact Nat.le_of_eq rfl) (hb hby d3_44) (fun _ _ => ⟨rfl, e9, (by decide : 0 + 0 ≤ _), (by decide : 0 + 0 ≤ _)⟩)
    dsimp only [Pt.U, Pt.locs, Pt.cells, Pt.slots] at X10 l10 y10 z10 st10 hQ10
    subst l10 y10 z10
    obtain ⟨rfl, N10q, e10⟩ := hQ10
    have N10 := Fr.app N0 N10q
    refine own_st st10 ?_
    show own_Fin _ _ _ _ _ _ _ (T10.setTop (mkF m 47 #[.val (.ref a1), .val (.ref a2), .val (.ref a2)] [(.int (1 : Int32))]))
    refine own_st (fun t k => XS.ifNo X10.here hx rfl (hb hby d3_47) rfl ((if0 _ _).trans (feq (by decide : ¬ ((1 : Int32) = (0 : Int32)))).1) k) ?_
    show own_Fin _ _ _ _ _ _ _ (T10.setTop (mkF m 50 #[.val (.ref a1), .val (.ref a2), .val (.ref a2)] []))
    refine own_st (fun t k => XS.iconst X10.here hx rfl (hb hby d3_50) k) ?_
    show own_Fin _ _ _ _ _ _ _ (T10.setTop (mkF m 51 #[.val (.ref a1), .val (.ref a2), .val (.ref a2)] [(.int (1 : Int32))]))
    refine own_st (fun t k => XS.goto X10.here hx rfl (pc0 := 51) (pc' := 55) rfl (hb hby d3_51) (by decide) (by decide) k) ?_
    show own_Fin _ _ _ _ _ _ _ (T10.setTop (mkF m 55 #[.val (.ref a1), .val (.ref a2), .val (.ref a2)] [(.int (1 : Int32))]))
    exact own_retN X10 hx Bd.notSynchronized (t := .boolean) Bd.returns (by simp) (hb hby d3_55) (by decide) (by decide) (by rw [e10]; exact ⟨rfl, N10, rfl⟩)
theorem own_neD {Z : State} {h : Heap} {a b t u : Addr} {k k' : ClassId} {z z' : Int32} {vs vs' : List Value} {d d' : Value} (F : Fld Z h a "java/lang/String" "value" "[B" (.ref t)) (A : Arv Z h t k .byte z vs d) (G : Fld Z h b "java/lang/String" "value" "[B" (.ref u)) (B : Arv Z h u k' .byte z' vs' d') (hz : z.toNatClampNeg ≠ z'.toNatClampNeg) : ¬ (a = b) := fun e => by
  by_cases q : t = u
  · subst q
    obtain ⟨c, A1, -, S1, -⟩ := A
    obtain ⟨c', B1, -, S2, -⟩ := B
    have ec : c = c' := Option.some.inj (A1.1.symm.trans B1.1)
    rw [← ec, S1] at S2
    exact hz S2
  · exact Fld.ne F G (fun r => q (Value.ref.inj r)) e
theorem own_neF {Z : State} {h : Heap} {a b t u : Addr} {k k' : ClassId} {z z' : Int32} {vs vs' : List Value} {d d' : Value} (F : Fld Z h a "java/lang/String" "value" "[B" (.ref t)) (A : Arv Z h t k .byte z vs d) (G : Fld Z h b "java/lang/String" "value" "[B" (.ref u)) (B : Arv Z h u k' .byte z' vs' d') (hz : 0 < z.toNatClampNeg) (hv : vs.getD 0 d ≠ vs'.getD 0 d') : ¬ (a = b) := fun e => by
  by_cases q : t = u
  · subst q
    obtain ⟨c, A1, -, S1, -, H1, -⟩ := A
    obtain ⟨c', B1, -, S2, -, H2, -⟩ := B
    have ec : c = c' := Option.some.inj (A1.1.symm.trans B1.1)
    subst ec
    have x1 := H1 0 (by rw [S1]; exact hz)
    have x2 := H2 0 (by rw [S1]; exact hz)
    exact hv (Option.some.inj (x1.symm.trans x2))
  · exact Fld.ne F G (fun r => q (Value.ref.inj r)) e
theorem own_vne {x y : Int32} (h : ¬ x = y) : Value.int x ≠ Value.int y := fun q => h (Value.int.inj q)
theorem own_k (x : Int32) : ((x &&& (2147483647 : Int32)) % (6 : Int32)) = (0 : Int32) ∨ ((x &&& (2147483647 : Int32)) % (6 : Int32)) = (1 : Int32) ∨ ((x &&& (2147483647 : Int32)) % (6 : Int32)) = (2 : Int32) ∨ ((x &&& (2147483647 : Int32)) % (6 : Int32)) = (3 : Int32) ∨ ((x &&& (2147483647 : Int32)) % (6 : Int32)) = (4 : Int32) ∨ ((x &&& (2147483647 : Int32)) % (6 : Int32)) = (5 : Int32) := by
  have b := c_and x (2147483647 : Int32) (by decide)
  have r := (c_irem (x &&& 2147483647) (6 : Int32) 6 (by decide)).1 b.1
  simp only [← Int32.toInt_inj (x := (x &&& (2147483647 : Int32)) % (6 : Int32)), show (0 : Int32).toInt = 0 by decide, show (1 : Int32).toInt = 1 by decide, show (2 : Int32).toInt = 2 by decide, show (3 : Int32).toInt = 3 by decide, show (4 : Int32).toInt = 4 by decide, show (5 : Int32).toInt = 5 by decide]
  generalize ((x &&& (2147483647 : Int32)) % (6 : Int32)).toInt = z at *
  omega
section Start
variable {s : State} {args : Array Value} {t : Term} {y : Addr}
abbrev own_vt (t : Term) : Term := .field t "java/lang/String" "value" "[B"
theorem own_strA (ev : t.eval args s none [] s = some (.ref y)) (hE : (Jvm.Cond.exactly t "java/lang/String").value args s none s [] = some true) (hC : (Jvm.Cond.eq (.field t "java/lang/String" "coder" "B") (.int (0 : Int32))).value args s none s [] = some true) (hA : (Jvm.Cond.arrayOf (own_vt t) .byte).value args s none s [] = some true) {z : Int32} (hL : (Jvm.Cond.eq (.length (own_vt t)) (.int z)).value args s none s [] = some true) :
    ∃ (b : Addr) (cl : Cell), Exa s s.heap y "java/lang/String" ∧ Fld s s.heap y "java/lang/String" "coder" "B" (.int 0) ∧ Fld s s.heap y "java/lang/String" "value" "[B" (.ref b) ∧ Arr s s.heap b cl .byte ∧ cl.slots.size < 2 ^ 31 ∧ cl.slots.size.toInt32 = z ∧ (own_vt t).eval args s none [] s = some (.ref b) ∧ s.arrayAt? b = some cl := by
  have ec := Cond.eq_int (Cond.before_iff.mpr hC) rfl
  rw [fld_at ev] at ec
  obtain ⟨b, eb⟩ := arr_v hA
  have eb' := eb
  unfold own_vt at eb'
  rw [fld_at ev] at eb'
  obtain ⟨cl, A⟩ := Arr.start eb hA
  have hAt : s.arrayAt? b = some cl := Arr.fin (State.Warmed39.refl s).alike A
  have el := Cond.eq_int (Cond.before_iff.mpr hL) rfl
  have h31 := Jvm.Free.SBG.length_lt eb hAt el
  have e2 := len_f eb hAt h31
  have e3 := Value.int.inj (Option.some.inj (e2.symm.trans el))
  exact ⟨b, cl, Exa.start ev hE, Fld.start ec, Fld.start eb', A, h31, e3, eb, hAt⟩
theorem own_elem {b : Addr} {cl : Cell} (eb : (own_vt t).eval args s none [] s = some (.ref b)) (hAt : s.arrayAt? b = some cl) {j w : Int32} (hj : ¬ j < 0) (h : (Jvm.Cond.eq (.elem (own_vt t) (.int j)) (.int w)).value args s none s [] = some true) : cl.slots[j.toNatClampNeg]? = some (.int w) := by
  have e := Cond.eq_int (Cond.before_iff.mpr h) rfl
  rw [elem_f eb rfl hAt hj] at e
  exact e
end Start
theorem own_text_37 : (∀ c ∈ ("=" : String).toList, c.toNat < 256) ∧ ("=" : String).toList.map (fun c => Value.int (Jvm.Lit.byteI c.toNat.toUInt16)) = [(.int (61 : Int32))] := by decide +kernel
theorem own_tlen_37 : 4 * ("=" : String).toList.length ≤ 4 := by decide +kernel
theorem own_text_47 : (∀ c ∈ ("!=" : String).toList, c.toNat < 256) ∧ ("!=" : String).toList.map (fun c => Value.int (Jvm.Lit.byteI c.toNat.toUInt16)) = [(.int (33 : Int32)), (.int (61 : Int32))] := by decide +kernel
theorem own_tlen_47 : 4 * ("!=" : String).toList.length ≤ 8 := by decide +kernel
theorem pn_0 : plainFor x = true := plainFor_of_name (x := x) (by first | (simp [plainName, overriddenIn]; done) | decide +kernel)
theorem pd_0_0 : parseMethodDescriptor "(I)Lhedgerow/Comparison;" = some ⟨[.int], some (.object "hedgerow/Comparison")⟩ := by decide +kernel
theorem pd_0_1 : parseMethodDescriptor "()Ljava/lang/String;" = some ⟨[], some (.object "java/lang/String")⟩ := by decide +kernel
theorem pd_0_2 : parseMethodDescriptor "(Ljava/lang/Object;)Z" = some ⟨[(.object "java/lang/Object")], some .boolean⟩ := by decide +kernel
theorem pd_0_3 : parseMethodDescriptor "()Z" = some ⟨[], some .boolean⟩ := by decide +kernel
theorem ef_0 (m : MethodId) (p1 : Int32) : entryFrame m #[(.int p1)] maxLocals = mkF m 0 #[.val (.int p1), .unset, .unset, .unset, .unset, .unset, .unset] [] := by first | (simp [entryFrame, mkF, argsToLocals, Value.category, maxLocals]; done) | rfl
def own_Q_rm0 (Z : State) (p1 : Int32) (G1 : Int32) (ca0 ca1 ca2 ca3 ca4 ca5 : Addr) (sa0 sa1 sa2 sa3 sa4 sa5 : Addr) (ba0 ba1 ba2 ba3 ba4 ba5 : Addr) (ka0 ka1 ka2 ka3 ka4 ka5 : ClassId) (h0 : Heap) (n0 : Nat) (v : Option Value) (h : Heap) (L : List Loc) : Prop := v = some (.int (1 : Int32)) ∧ Fr n0 L ∧ True
set_option maxRecDepth 65536 in
set_option maxHeartbeats 40000000 in
theorem rm0 (l : Launch) (Z : State) (a0 : Array Value) (hw : ∀ d ∈ tables_1, d.before a0 Z = true) (ws : List Jvm.Cond) (p1 : Int32) (G1 : Int32) (ca0 ca1 ca2 ca3 ca4 ca5 : Addr) (sa0 sa1 sa2 sa3 sa4 sa5 : Addr) (ba0 ba1 ba2 ba3 ba4 ba5 : Addr) (ka0 ka1 ka2 ka3 ka4 ka5 : ClassId) (h0 : Heap) (n0 : Nat) (Z0 : n0 ≤ h0.size) (hz0 : Z.heap = h0) (hn0 : n0 = h0.size) (hh : ∀ q ∈ consts_1, Jvm.Lit.constHeld Z q.1 q.2) (hcw : Jvm.Lit.compactW.before a0 Z = true) (P5 : ¬ (G1 = (0 : Int32))) (Sp0 : Sta Z h0 "hedgerow/Comparison" "LESS" "Lhedgerow/Comparison;" (.ref ca0)) (Sp1 : Sta Z h0 "hedgerow/Comparison" "LESS_OR_EQUAL" "Lhedgerow/Comparison;" (.ref ca1)) (Sp2 : Sta Z h0 "hedgerow/Comparison" "GREATER" "Lhedgerow/Comparison;" (.ref ca2)) (Sp3 : Sta Z h0 "hedgerow/Comparison" "GREATER_OR_EQUAL" "Lhedgerow/Comparison;" (.ref ca3)) (Sp4 : Sta Z h0 "hedgerow/Comparison" "EQUAL" "Lhedgerow/Comparison;" (.ref ca4)) (Sp5 : Sta Z h0 "hedgerow/Comparison" "NOT_EQUAL" "Lhedgerow/Comparison;" (.ref ca5)) (O2 : Sta Z h0 "java/lang/String" "COMPACT_STRINGS" "Z" (.int G1)) (Ec0 : Exa Z h0 ca0 "hedgerow/Comparison") (Fs0 : Fld Z h0 ca0 "hedgerow/Comparison" "symbol" "Ljava/lang/String;" (.ref sa0)) (Es0 : Exa Z h0 sa0 "java/lang/String") (Fc0 : Fld Z h0 sa0 "java/lang/String" "coder" "B" (.int (0 : Int32))) (Fv0 : Fld Z h0 sa0 "java/lang/String" "value" "[B" (.ref ba0)) (Vb0 : Arv Z h0 ba0 ka0 .byte (1 : Int32) [(.int (60 : Int32))] (.int (0 : Int32))) (Ec1 : Exa Z h0 ca1 "hedgerow/Comparison") (Fs1 : Fld Z h0 ca1 "hedgerow/Comparison" "symbol" "Ljava/lang/String;" (.ref sa1)) (Es1 : Exa Z h0 sa1 "java/lang/String") (Fc1 : Fld Z h0 sa1 "java/lang/String" "coder" "B" (.int (0 : Int32))) (Fv1 : Fld Z h0 sa1 "java/lang/String" "value" "[B" (.ref ba1)) (Vb1 : Arv Z h0 ba1 ka1 .byte (2 : Int32) [(.int (60 : Int32)), (.int (61 : Int32))] (.int (0 : Int32))) (Ec2 : Exa Z h0 ca2 "hedgerow/Comparison") (Fs2 : Fld Z h0 ca2 "hedgerow/Comparison" "symbol" "Ljava/lang/String;" (.ref sa2)) (Es2 : Exa Z h0 sa2 "java/lang/String") (Fc2 : Fld Z h0 sa2 "java/lang/String" "coder" "B" (.int (0 : Int32))) (Fv2 : Fld Z h0 sa2 "java/lang/String" "value" "[B" (.ref ba2)) (Vb2 : Arv Z h0 ba2 ka2 .byte (1 : Int32) [(.int (62 : Int32))] (.int (0 : Int32))) (Ec3 : Exa Z h0 ca3 "hedgerow/Comparison") (Fs3 : Fld Z h0 ca3 "hedgerow/Comparison" "symbol" "Ljava/lang/String;" (.ref sa3)) (Es3 : Exa Z h0 sa3 "java/lang/String") (Fc3 : Fld Z h0 sa3 "java/lang/String" "coder" "B" (.int (0 : Int32))) (Fv3 : Fld Z h0 sa3 "java/lang/String" "value" "[B" (.ref ba3)) (Vb3 : Arv Z h0 ba3 ka3 .byte (2 : Int32) [(.int (62 : Int32)), (.int (61 : Int32))] (.int (0 : Int32))) (Ec4 : Exa Z h0 ca4 "hedgerow/Comparison") (Fs4 : Fld Z h0 ca4 "hedgerow/Comparison" "symbol" "Ljava/lang/String;" (.ref sa4)) (Es4 : Exa Z h0 sa4 "java/lang/String") (Fc4 : Fld Z h0 sa4 "java/lang/String" "coder" "B" (.int (0 : Int32))) (Fv4 : Fld Z h0 sa4 "java/lang/String" "value" "[B" (.ref ba4)) (Vb4 : Arv Z h0 ba4 ka4 .byte (1 : Int32) [(.int (61 : Int32))] (.int (0 : Int32))) (Ec5 : Exa Z h0 ca5 "hedgerow/Comparison") (Fs5 : Fld Z h0 ca5 "hedgerow/Comparison" "symbol" "Ljava/lang/String;" (.ref sa5)) (Es5 : Exa Z h0 sa5 "java/lang/String") (Fc5 : Fld Z h0 sa5 "java/lang/String" "coder" "B" (.int (0 : Int32))) (Fv5 : Fld Z h0 sa5 "java/lang/String" "value" "[B" (.ref ba5)) (Vb5 : Arv Z h0 ba5 ka5 .byte (2 : Int32) [(.int (33 : Int32)), (.int (61 : Int32))] (.int (0 : Int32))) (ne0_4 : ¬ (ca0 = ca4)) (ne0_5 : ¬ (ca0 = ca5)) (ne1_4 : ¬ (ca1 = ca4)) (ne1_5 : ¬ (ca1 = ca5)) (ne2_4 : ¬ (ca2 = ca4)) (ne2_5 : ¬ (ca2 = ca5)) (ne3_4 : ¬ (ca3 = ca4)) (ne3_5 : ¬ (ca3 = ca5)) (ne5_4 : ¬ (ca5 = ca4)) :
    MetFree l x (head1 (Jvm.Cond.code x code maxLocals ret :: ws) room_1) (fun a U => a = #[(.int p1)] ∧ U = Z) (fun _ _ _ _ _ => True) (fun _ U o U' => ∃ v L, o = .returned v ∧ own_Q_rm0 Z p1 G1 ca0 ca1 ca2 ca3 ca4 ca5 sa0 sa1 sa2 sa3 sa4 sa5 ba0 ba1 ba2 ba3 ba4 ba5 ka0 ka1 ka2 ka3 ka4 ka5 h0 n0 v U'.heap L ∧ FramedW U o U' L 8 2112) := by
  refine MetFree.of_bodySF pn_0 hisR ?_
  intro p e s m args below meth c s₁ Bd hml0 hP hK
  obtain ⟨rfl, hs⟩ := hP
  have hx := Bd.exec
  have hby := Bd.bytes
  have hml : c.maxLocals = 7 := hml0
  have hown : s.vm.findClass "hedgerow/ComparisonComparesTextsPinLaw" = some m.cls := findClass_of_methodNamed Bd.named
  have hZ : Z.Warmed39 s.vm := by rw [hs]; exact State.Warmed39.refl Z
  have hhp : s.heap = h0 := by rw [hs]; exact hz0
  have X0 : Stand p l e room_1 (s.setVm s.vm) m #[(.int p1)] below meth c s₁ [] 0 0 := (Stand.of_body Bd : Stand p l e room_1 s m #[(.int p1)] below meth c s₁ [] 0 0)
  have e0 : s₁.heap = h0 := by rw [← hhp, Bd.state]; rfl
  have N0 := Fr.nil n0
  have I0 : IB Z s.vm [] := by rw [hs]; exact IB.start
  have S0 : s.Since s.vm h0.size := (State.WarmedH.refl s).since _
  have hkeep : ∀ (b : Addr) (cl : Cell), Z.heap[b]? = some cl → s.heap[b]? = some cl := by rw [hs]; exact fun _ _ q => q
  have hsz : s.heap.size = n0 := by rw [hhp, hn0]
  have hwS : ∀ d ∈ Bundle.stringAtoms, d.before a0 Z = true := fun d hd => hw d ((by decide +kernel : ∀ d ∈ Bundle.stringAtoms, d ∈ tables_1) d hd)
  show own_FinW p.tables e below s (8) (2112) (own_Q_rm0 Z p1 G1 ca0 ca1 ca2 ca3 ca4 ca5 sa0 sa1 sa2 sa3 sa4 sa5 ba0 ba1 ba2 ba3 ba4 ba5 ka0 ka1 ka2 ka3 ka4 ka5 h0 n0) (s₁.setTop (entryFrame m #[(.int p1)] maxLocals))
  rw [ef_0 m p1]
  show own_FinW _ _ _ _ _ _ _ (s₁.setTop (mkF m 0 #[.val (.int p1), .unset, .unset, .unset, .unset, .unset, .unset] []))
  refine own_stW (fun t k => XS.iloadN X0.here hx rfl (hb hby at_0) rfl k) ?_
  show own_FinW _ _ _ _ _ _ _ (s₁.setTop (mkF m 1 #[.val (.int p1), .unset, .unset, .unset, .unset, .unset, .unset] [(.int p1)]))
  refine own_stW (X0.ldcInt hx hown (mvT hZ (hw _ (List.mem_of_getElem? (i := 0) rfl))) (g := (mkF m 1 #[.val (.int p1), .unset, .unset, .unset, .unset, .unset, .unset] [(.int p1)])) rfl (hb hby at_1)) ?_
  show own_FinW _ _ _ _ _ _ _ (s₁.setTop (mkF m 3 #[.val (.int p1), .unset, .unset, .unset, .unset, .unset, .unset] [(.int (2147483647 : Int32)), (.int p1)]))
  refine own_stW (fun t k => XS.iand X0.here hx rfl (hb hby at_3) rfl k) ?_
  show own_FinW _ _ _ _ _ _ _ (s₁.setTop (mkF m 4 #[.val (.int p1), .unset, .unset, .unset, .unset, .unset, .unset] [(.int (p1 &&& (2147483647 : Int32)))]))
  refine own_stW (fun t k => XS.bipush X0.here hx rfl (hb hby at_4) k) ?_
  show own_FinW _ _ _ _ _ _ _ (s₁.setTop (mkF m 6 #[.val (.int p1), .unset, .unset, .unset, .unset, .unset, .unset] [(.int (6 : Int32)), (.int (p1 &&& (2147483647 : Int32)))]))
  refine own_stW (fun t k => iremM X0 hx rfl (hb hby at_6) rfl (by decide) k) ?_
  show own_FinW _ _ _ _ _ _ _ (s₁.setTop (mkF m 7 #[.val (.int p1), .unset, .unset, .unset, .unset, .unset, .unset] [(.int ((p1 &&& (2147483647 : Int32)) % (6 : Int32)))]))
  refine own_stW (fun t k => XS.istoreN X0.here hx rfl (hb hby at_7) rfl (l' := #[.val (.int p1), .val (.int ((p1 &&& (2147483647 : Int32)) % (6 : Int32))), .unset, .unset, .unset, .unset, .unset]) rfl k) ?_
  show own_FinW _ _ _ _ _ _ _ (s₁.setTop (mkF m 8 #[.val (.int p1), .val (.int ((p1 &&& (2147483647 : Int32)) % (6 : Int32))), .unset, .unset, .unset, .unset, .unset] []))
  rcases own_k p1 with hk | hk | hk | hk | hk | hk
  · rw [hk]
    show own_FinW _ _ _ _ _ _ _ (s₁.setTop (mkF m 8 #[.val (.int p1), .val (.int (0 : Int32)), .unset, .unset, .unset, .unset, .unset] []))
    refine own_stW (fun t k => XS.iloadN X0.here hx rfl (hb hby at_8) rfl k) ?_
    show own_FinW _ _ _ _ _ _ _ (s₁.setTop (mkF m 9 #[.val (.int p1), .val (.int (0 : Int32)), .unset, .unset, .unset, .unset, .unset] [(.int (0 : Int32))]))
    obtain ⟨_, _, ⟨T1, L1, k1, n1⟩, -, X1, ⟨Lc1, hQ1, l1, y1, z1⟩, st1⟩ := Jvm.LawKit.callS X0 hx (y := (⟨"hedgerow/ComparisonComparesTextsPinLaw", "pick", "(I)Lhedgerow/Comparison;"⟩ : MethodName)) hown (mvT hZ (hw _ (List.mem_of_getElem? (i := 1) rfl))) (mvT hZ (hw _ (List.mem_of_getElem? (i := 2) rfl))) (mvT hZ (hw _ (List.mem_of_getElem? (i := 3) rfl))) (mvT hZ (hw _ (List.mem_of_getElem? (i := 4) rfl))) (by decide) (backOf (W := 0) (rm1 l Z a0 hw [] (0 : Int32) ca0 ca1 ca2 ca3 ca4 ca5 h0 n0 Z0 Sp0 Sp1 Sp2 Sp3 Sp4 Sp5) hZ (hw _ (List.mem_of_getElem? (i := 4) rfl)) (hw _ (List.mem_of_getElem? (i := 3) rfl)) (by decide) (by decide)) (g := (mkF m 9 #[.val (.int p1), .val (.int (0 : Int32)), .unset, .unset, .unset, .unset, .unset] [(.int (0 : Int32))])) rfl (by rw [hml]; rfl) (argsL := [(.int (0 : Int32))]) (rest := []) (lenOf pd_0_0 rfl) rfl (by show 2 * 0 + _ ≤ _; exact Nat.le_of_eq rfl) (hb hby at_9) (fun _ _ => ⟨rfl, e0, (by decide : 0 + 0 ≤ _), (by decide : 0 + 0 ≤ _)⟩)
    dsimp only [Pt.U, Pt.locs, Pt.cells, Pt.slots] at X1 l1 y1 z1 st1 hQ1
    subst l1 y1 z1
    obtain ⟨rfl, N1q, e1⟩ := hQ1
    have N1 := Fr.app N0 N1q
    refine own_stW st1 ?_
    show own_FinW _ _ _ _ _ _ _ (T1.setTop (mkF m 12 #[.val (.int p1), .val (.int (0 : Int32)), .unset, .unset, .unset, .unset, .unset] [(.ref (own_pick (0 : Int32) ca0 ca1 ca2 ca3 ca4 ca5))]))
    rw [show (own_pick (0 : Int32) ca0 ca1 ca2 ca3 ca4 ca5) = ca0 from rfl]
    show own_FinW _ _ _ _ _ _ _ (T1.setTop (mkF m 12 #[.val (.int p1), .val (.int (0 : Int32)), .unset, .unset, .unset, .unset, .unset] [(.ref ca0)]))
    refine own_stW (fun t k => XS.astoreN X1.here hx rfl (hb hby at_12) rfl rfl (l' := #[.val (.int p1), .val (.int (0 : Int32)), .val (.ref ca0), .unset, .unset, .unset, .unset]) rfl k) ?_
    show own_FinW _ _ _ _ _ _ _ (T1.setTop (mkF m 13 #[.val (.int p1), .val (.int (0 : Int32)), .val (.ref ca0), .unset, .unset, .unset, .unset] []))
    refine own_stW (fun t k => XS.iloadN X1.here hx rfl (hb hby at_13) rfl k) ?_
    show own_FinW _ _ _ _ _ _ _ (T1.setTop (mkF m 14 #[.val (.int p1), .val (.int (0 : Int32)), .val (.ref ca0), .unset, .unset, .unset, .unset] [(.int (0 : Int32))]))
    refine own_stW (fun t k => XS.iconst X1.here hx rfl (hb hby at_14) k) ?_
    show own_FinW _ _ _ _ _ _ _ (T1.setTop (mkF m 15 #[.val (.int p1), .val (.int (0 : Int32)), .val (.ref ca0), .unset, .unset, .unset, .unset] [(.int (4 : Int32)), (.int (0 : Int32))]))
    refine own_stW (fun t k => XS.icmpNo X1.here hx rfl (hb hby at_15) rfl (feq (by decide : ¬ ((0 : Int32) = (4 : Int32)))).1 k) ?_
    show own_FinW _ _ _ _ _ _ _ (T1.setTop (mkF m 18 #[.val (.int p1), .val (.int (0 : Int32)), .val (.ref ca0), .unset, .unset, .unset, .unset] []))
    refine own_stW (fun t k => XS.iloadN X1.here hx rfl (hb hby at_18) rfl k) ?_
    show own_FinW _ _ _ _ _ _ _ (T1.setTop (mkF m 19 #[.val (.int p1), .val (.int (0 : Int32)), .val (.ref ca0), .unset, .unset, .unset, .unset] [(.int (0 : Int32))]))
    refine own_stW (fun t k => XS.iconst X1.here hx rfl (hb hby at_19) k) ?_
    show own_FinW _ _ _ _ _ _ _ (T1.setTop (mkF m 20 #[.val (.int p1), .val (.int (0 : Int32)), .val (.ref ca0), .unset, .unset, .unset, .unset] [(.int (5 : Int32)), (.int (0 : Int32))]))
    refine own_stW (fun t k => XS.icmpYes X1.here hx rfl (pc0 := 20) (pc' := 27) rfl (hb hby at_20) rfl (feq (by decide : ¬ ((0 : Int32) = (5 : Int32)))).2 (by decide) (by decide) k) ?_
    show own_FinW _ _ _ _ _ _ _ (T1.setTop (mkF m 27 #[.val (.int p1), .val (.int (0 : Int32)), .val (.ref ca0), .unset, .unset, .unset, .unset] []))
    refine own_stW (fun t k => XS.iconst X1.here hx rfl (hb hby at_27) k) ?_
    show own_FinW _ _ _ _ _ _ _ (T1.setTop (mkF m 28 #[.val (.int p1), .val (.int (0 : Int32)), .val (.ref ca0), .unset, .unset, .unset, .unset] [(.int (0 : Int32))]))
    refine own_stW (fun t k => XS.istoreN X1.here hx rfl (hb hby at_28) rfl (l' := #[.val (.int p1), .val (.int (0 : Int32)), .val (.ref ca0), .val (.int (0 : Int32)), .unset, .unset, .unset]) rfl k) ?_
    show own_FinW _ _ _ _ _ _ _ (T1.setTop (mkF m 29 #[.val (.int p1), .val (.int (0 : Int32)), .val (.ref ca0), .val (.int (0 : Int32)), .unset, .unset, .unset] []))
    refine own_stW (fun t k => XS.aloadN X1.here hx rfl (hb hby at_29) rfl rfl k) ?_
    show own_FinW _ _ _ _ _ _ _ (T1.setTop (mkF m 30 #[.val (.int p1), .val (.int (0 : Int32)), .val (.ref ca0), .val (.int (0 : Int32)), .unset, .unset, .unset] [(.ref ca0)]))
    obtain ⟨cq2, kq2, qa2, qb2, qc2⟩ := isOf hZ e1 Ec0
    obtain ⟨_, _, ⟨T2, L2, k2, n2⟩, -, X2, ⟨Lc2, hQ2, l2, y2, z2⟩, st2⟩ := X1.virtualBack hx (y := (⟨"hedgerow/Comparison", "toString", "()Ljava/lang/String;"⟩ : MethodName)) (z := (⟨"hedgerow/Comparison", "toString", "()Ljava/lang/String;"⟩ : MethodName)) hown (mvT hZ (hw _ (List.mem_of_getElem? (i := 8) rfl))) (mvT hZ (hw _ (List.mem_of_getElem? (i := 9) rfl))) (notFace_of_selects (args := #[]) (mvT hZ (hw _ (List.mem_of_getElem? (i := 11) rfl)))) (mvT hZ (hw _ (List.mem_of_getElem? (i := 11) rfl))) (mvT hZ (hw _ (List.mem_of_getElem? (i := 10) rfl))) (by decide) (backOf (W := 0) (rm2 l Z a0 hw [] ca0 sa0 h0 n0 Z0 Fs0) hZ (hw _ (List.mem_of_getElem? (i := 12) rfl)) (hw _ (List.mem_of_getElem? (i := 6) rfl)) (by decide) (by decide)) qa2 qc2 (g := (mkF m 30 #[.val (.int p1), .val (.int (0 : Int32)), .val (.ref ca0), .val (.int (0 : Int32)), .unset, .unset, .unset] [(.ref ca0)])) rfl (by rw [hml]; rfl) (Steps.refl _) (argsL := []) (rest := []) (lenOf pd_0_1 rfl) rfl (by show 2 * 0 + _ ≤ _; exact Nat.le_of_eq rfl) (hb hby at_30) (fun _ _ => ⟨rfl, e1, (by decide : 0 + 0 ≤ _), (by decide : 0 + 0 ≤ _)⟩)
    dsimp only [Pt.U, Pt.locs, Pt.cells, Pt.slots] at X2 l2 y2 z2 st2 hQ2
    subst l2 y2 z2
    obtain ⟨rfl, N2q, e2⟩ := hQ2
    have N2 := Fr.app N1 N2q
    refine own_stW (fun t k => st2.trans k) ?_
    show own_FinW _ _ _ _ _ _ _ (T2.setTop (mkF m 33 #[.val (.int p1), .val (.int (0 : Int32)), .val (.ref ca0), .val (.int (0 : Int32)), .unset, .unset, .unset] [(.ref sa0)]))
    refine own_stW (fun t k => XS.astore X2.here hx rfl (hb hby at_33) rfl rfl (l' := #[.val (.int p1), .val (.int (0 : Int32)), .val (.ref ca0), .val (.int (0 : Int32)), .val (.ref sa0), .unset, .unset]) rfl k) ?_
    show own_FinW _ _ _ _ _ _ _ (T2.setTop (mkF m 35 #[.val (.int p1), .val (.int (0 : Int32)), .val (.ref ca0), .val (.int (0 : Int32)), .val (.ref sa0), .unset, .unset] []))
    refine own_stW (fun t k => XS.aload X2.here hx rfl (hb hby at_35) rfl rfl k) ?_
    show own_FinW _ _ _ _ _ _ _ (T2.setTop (mkF m 37 #[.val (.int p1), .val (.int (0 : Int32)), .val (.ref ca0), .val (.int (0 : Int32)), .val (.ref sa0), .unset, .unset] [(.ref sa0)]))
    obtain ⟨a3, T3, h3, k3, b3, kb3, X3, e3, E3, S3, ks3, hZ3, ho3, oE3, oC3, oV3, oA3, -, -, I3, st3⟩ := ldcSV (s := s) (vm0 := s.vm) (Ts := []) (text := "=") X2 hx hZ hown (hw _ (List.mem_of_getElem? (i := 15) rfl)) hwS e2 S0 (Nat.le_refl _) (by rw [hsz]; exact N2) hkeep I0 (by decide) (hh _ (List.mem_of_getElem? (i := 0) rfl)) hcw (vs := [(.int (61 : Int32))]) (z := (1 : Int32)) (own_text_37) (by decide) rfl (g := (mkF m 37 #[.val (.int p1), .val (.int (0 : Int32)), .val (.ref ca0), .val (.int (0 : Int32)), .val (.ref sa0), .unset, .unset] [(.ref sa0)])) rfl (hb hby at_37) (n := 4) (own_tlen_37) (by decide) (by decide) (by decide)
    have f3_0 := Sp0.ext E3
    have f3_1 := Sp1.ext E3
    have f3_2 := Sp2.ext E3
    have f3_3 := Sp3.ext E3
    have f3_4 := Sp4.ext E3
    have f3_5 := Sp5.ext E3
    have f3_6 := O2.ext E3
    have f3_7 := Ec0.ext E3
    have f3_8 := Fs0.ext E3
    have f3_9 := Es0.ext E3
    have f3_10 := Fc0.ext E3
    have f3_11 := Fv0.ext E3
    have f3_12 := Vb0.ext E3
    have Z3 : n0 ≤ h3.size := Nat.le_trans Z0 E3.1
    have hZ := hZ3
    have hown := ho3
    refine own_stW st3 ?_
    show own_FinW _ _ _ _ _ _ _ (T3.setTop (mkF m 39 #[.val (.int p1), .val (.int (0 : Int32)), .val (.ref ca0), .val (.int (0 : Int32)), .val (.ref sa0), .unset, .unset] [(.ref a3), (.ref sa0)]))
    obtain ⟨cq4, kq4, qa4, qb4, qc4⟩ := isOf hZ e3 f3_9
    obtain ⟨_, _, ⟨T4, L4, k4, n4⟩, -, X4, ⟨Lc4, hQ4, l4, y4, z4⟩, st4⟩ := X3.virtualBack hx (y := (⟨"java/lang/String", "equals", "(Ljava/lang/Object;)Z"⟩ : MethodName)) (z := (⟨"java/lang/String", "equals", "(Ljava/lang/Object;)Z"⟩ : MethodName)) hown (mvT hZ (hw _ (List.mem_of_getElem? (i := 23) rfl))) (mvT hZ (hw _ (List.mem_of_getElem? (i := 24) rfl))) (notFace_of_selects (args := #[]) (mvT hZ (hw _ (List.mem_of_getElem? (i := 26) rfl)))) (mvT hZ (hw _ (List.mem_of_getElem? (i := 26) rfl))) (mvT hZ (hw _ (List.mem_of_getElem? (i := 25) rfl))) (by decide) (backOf (W := 0) (rmEF l Z a0 hw [] sa0 a3 ba0 b3 ka0 kb3 G1 (1 : Int32) [(.int (60 : Int32))] [(.int (61 : Int32))] (60 : Int32) (61 : Int32) h3 n0 Z3 f3_9 oE3 f3_10 oC3 f3_11 oV3 f3_12 oA3 f3_6 P5 (own_neF f3_11 f3_12 oV3 oA3 (by decide) (own_vne (by decide))) (by decide) rfl rfl (by decide)) hZ (hw _ (List.mem_of_getElem? (i := 27) rfl)) (hw _ (List.mem_of_getElem? (i := 16) rfl)) (by decide) (by decide)) qa4 qc4 (g := (mkF m 39 #[.val (.int p1), .val (.int (0 : Int32)), .val (.ref ca0), .val (.int (0 : Int32)), .val (.ref sa0), .unset, .unset] [(.ref a3), (.ref sa0)])) rfl (by rw [hml]; rfl) (Steps.refl _) (argsL := [(.ref a3)]) (rest := []) (lenOf pd_0_2 rfl) rfl (by show 2 * 0 + _ ≤ _; exact Nat.le_of_eq rfl) (hb hby at_39) (fun _ _ => ⟨rfl, e3, (by decide : 2 + 0 ≤ _), (by decide : 8 + 0 ≤ _)⟩)
    dsimp only [Pt.U, Pt.locs, Pt.cells, Pt.slots] at X4 l4 y4 z4 st4 hQ4
    subst l4 y4 z4
    obtain ⟨rfl, N4q, e4⟩ := hQ4
    have N4 := Fr.app N2 N4q
    refine own_stW (fun t k => st4.trans k) ?_
    show own_FinW _ _ _ _ _ _ _ (T4.setTop (mkF m 42 #[.val (.int p1), .val (.int (0 : Int32)), .val (.ref ca0), .val (.int (0 : Int32)), .val (.ref sa0), .unset, .unset] [(.int (0 : Int32))]))
    refine own_stW (fun t k => XS.ifNo X4.here hx rfl (hb hby at_42) rfl ((if0 _ _).trans (teq (by decide : (0 : Int32) = (0 : Int32))).2) k) ?_
    show own_FinW _ _ _ _ _ _ _ (T4.setTop (mkF m 45 #[.val (.int p1), .val (.int (0 : Int32)), .val (.ref ca0), .val (.int (0 : Int32)), .val (.ref sa0), .unset, .unset] []))
    refine own_stW (fun t k => XS.aload X4.here hx rfl (hb hby at_45) rfl rfl k) ?_
    show own_FinW _ _ _ _ _ _ _ (T4.setTop (mkF m 47 #[.val (.int p1), .val (.int (0 : Int32)), .val (.ref ca0), .val (.int (0 : Int32)), .val (.ref sa0), .unset, .unset] [(.ref sa0)]))
    obtain ⟨a5, T5, h5, k5, b5, kb5, X5, e5, E5, S5, ks5, hZ5, ho5, oE5, oC5, oV5, oA5, -, -, I5, st5⟩ := ldcSV (s := s) (vm0 := T3.vm) (Ts := ["="]) (text := "!=") X4 hx hZ hown (hw _ (List.mem_of_getElem? (i := 37) rfl)) hwS e4 S3 ks3 (by rw [hsz]; exact N4) hkeep I3 (by decide) (hh _ (List.mem_of_getElem? (i := 1) rfl)) hcw (vs := [(.int (33 : Int32)), (.int (61 : Int32))]) (z := (2 : Int32)) (own_text_47) (by decide) rfl (g := (mkF m 47 #[.val (.int p1), .val (.int (0 : Int32)), .val (.ref ca0), .val (.int (0 : Int32)), .val (.ref sa0), .unset, .unset] [(.ref sa0)])) rfl (hb hby at_47) (n := 8) (own_tlen_47) (by decide) (by decide) (by decide)
    have f5_0 := f3_0.ext E5
    have f5_1 := f3_1.ext E5
    have f5_2 := f3_2.ext E5
    have f5_3 := f3_3.ext E5
    have f5_4 := f3_4.ext E5
    have f5_5 := f3_5.ext E5
    have f5_6 := f3_6.ext E5
    have f5_7 := f3_7.ext E5
    have f5_8 := f3_8.ext E5
    have f5_9 := f3_9.ext E5
    have f5_10 := f3_10.ext E5
    have f5_11 := f3_11.ext E5
    have f5_12 := f3_12.ext E5
    have f5_13 := oE3.ext E5
    have f5_14 := oC3.ext E5
    have f5_15 := oV3.ext E5
    have f5_16 := oA3.ext E5
    have Z5 : n0 ≤ h5.size := Nat.le_trans Z3 E5.1
    have hZ := hZ5
    have hown := ho5
    refine own_stW st5 ?_
    show own_FinW _ _ _ _ _ _ _ (T5.setTop (mkF m 49 #[.val (.int p1), .val (.int (0 : Int32)), .val (.ref ca0), .val (.int (0 : Int32)), .val (.ref sa0), .unset, .unset] [(.ref a5), (.ref sa0)]))
    obtain ⟨cq6, kq6, qa6, qb6, qc6⟩ := isOf hZ e5 f5_9
    obtain ⟨_, _, ⟨T6, L6, k6, n6⟩, -, X6, ⟨Lc6, hQ6, l6, y6, z6⟩, st6⟩ := X5.virtualBack hx (y := (⟨"java/lang/String", "equals", "(Ljava/lang/Object;)Z"⟩ : MethodName)) (z := (⟨"java/lang/String", "equals", "(Ljava/lang/Object;)Z"⟩ : MethodName)) hown (mvT hZ (hw _ (List.mem_of_getElem? (i := 23) rfl))) (mvT hZ (hw _ (List.mem_of_getElem? (i := 24) rfl))) (notFace_of_selects (args := #[]) (mvT hZ (hw _ (List.mem_of_getElem? (i := 26) rfl)))) (mvT hZ (hw _ (List.mem_of_getElem? (i := 26) rfl))) (mvT hZ (hw _ (List.mem_of_getElem? (i := 25) rfl))) (by decide) (backOf (W := 0) (rmED l Z a0 hw [] sa0 a5 ba0 b5 ka0 kb5 G1 (1 : Int32) (2 : Int32) [(.int (60 : Int32))] [(.int (33 : Int32)), (.int (61 : Int32))] h5 n0 Z5 f5_9 oE5 f5_10 oC5 f5_11 oV5 f5_12 oA5 f5_6 P5 (own_neD f5_11 f5_12 oV5 oA5 (by decide)) (by decide)) hZ (hw _ (List.mem_of_getElem? (i := 27) rfl)) (hw _ (List.mem_of_getElem? (i := 16) rfl)) (by decide) (by decide)) qa6 qc6 (g := (mkF m 49 #[.val (.int p1), .val (.int (0 : Int32)), .val (.ref ca0), .val (.int (0 : Int32)), .val (.ref sa0), .unset, .unset] [(.ref a5), (.ref sa0)])) rfl (by rw [hml]; rfl) (Steps.refl _) (argsL := [(.ref a5)]) (rest := []) (lenOf pd_0_2 rfl) rfl (by show 2 * 0 + _ ≤ _; exact Nat.le_of_eq rfl) (hb hby at_49) (fun _ _ => ⟨rfl, e5, (by decide : 4 + 0 ≤ _), (by decide : 20 + 0 ≤ _)⟩)
    dsimp only [Pt.U, Pt.locs, Pt.cells, Pt.slots] at X6 l6 y6 z6 st6 hQ6
    subst l6 y6 z6
    obtain ⟨rfl, N6q, e6⟩ := hQ6
    have N6 := Fr.app N4 N6q
    refine own_stW (fun t k => st6.trans k) ?_
    show own_FinW _ _ _ _ _ _ _ (T6.setTop (mkF m 52 #[.val (.int p1), .val (.int (0 : Int32)), .val (.ref ca0), .val (.int (0 : Int32)), .val (.ref sa0), .unset, .unset] [(.int (0 : Int32))]))
    refine own_stW (fun t k => XS.ifYes X6.here hx rfl (pc0 := 52) (pc' := 59) rfl (hb hby at_52) rfl ((if0 _ _).trans (teq (by decide : (0 : Int32) = (0 : Int32))).1) (by decide) (by decide) k) ?_
    show own_FinW _ _ _ _ _ _ _ (T6.setTop (mkF m 59 #[.val (.int p1), .val (.int (0 : Int32)), .val (.ref ca0), .val (.int (0 : Int32)), .val (.ref sa0), .unset, .unset] []))
    refine own_stW (fun t k => XS.iconst X6.here hx rfl (hb hby at_59) k) ?_
    show own_FinW _ _ _ _ _ _ _ (T6.setTop (mkF m 60 #[.val (.int p1), .val (.int (0 : Int32)), .val (.ref ca0), .val (.int (0 : Int32)), .val (.ref sa0), .unset, .unset] [(.int (0 : Int32))]))
    refine own_stW (fun t k => XS.istore X6.here hx rfl (hb hby at_60) rfl (l' := #[.val (.int p1), .val (.int (0 : Int32)), .val (.ref ca0), .val (.int (0 : Int32)), .val (.ref sa0), .val (.int (0 : Int32)), .unset]) rfl k) ?_
    show own_FinW _ _ _ _ _ _ _ (T6.setTop (mkF m 62 #[.val (.int p1), .val (.int (0 : Int32)), .val (.ref ca0), .val (.int (0 : Int32)), .val (.ref sa0), .val (.int (0 : Int32)), .unset] []))
    refine own_stW (fun t k => XS.aloadN X6.here hx rfl (hb hby at_62) rfl rfl k) ?_
    show own_FinW _ _ _ _ _ _ _ (T6.setTop (mkF m 63 #[.val (.int p1), .val (.int (0 : Int32)), .val (.ref ca0), .val (.int (0 : Int32)), .val (.ref sa0), .val (.int (0 : Int32)), .unset] [(.ref ca0)]))
    obtain ⟨cq7, kq7, qa7, qb7, qc7⟩ := isOf hZ e6 f5_7
    obtain ⟨_, _, ⟨T7, L7, k7, n7⟩, -, X7, ⟨Lc7, hQ7, l7, y7, z7⟩, st7⟩ := X6.virtualBack hx (y := (⟨"hedgerow/Comparison", "comparesTexts", "()Z"⟩ : MethodName)) (z := (⟨"hedgerow/Comparison", "comparesTexts", "()Z"⟩ : MethodName)) hown (mvT hZ (hw _ (List.mem_of_getElem? (i := 38) rfl))) (mvT hZ (hw _ (List.mem_of_getElem? (i := 39) rfl))) (notFace_of_selects (args := #[]) (mvT hZ (hw _ (List.mem_of_getElem? (i := 41) rfl)))) (mvT hZ (hw _ (List.mem_of_getElem? (i := 41) rfl))) (mvT hZ (hw _ (List.mem_of_getElem? (i := 40) rfl))) (by decide) (backOf (W := 0) (rm5 l Z a0 hw [] ca0 ca4 ca5 h5 n0 Z5 f5_4 f5_5) hZ (hw _ (List.mem_of_getElem? (i := 42) rfl)) (hw _ (List.mem_of_getElem? (i := 6) rfl)) (by decide) (by decide)) qa7 qc7 (g := (mkF m 63 #[.val (.int p1), .val (.int (0 : Int32)), .val (.ref ca0), .val (.int (0 : Int32)), .val (.ref sa0), .val (.int (0 : Int32)), .unset] [(.ref ca0)])) rfl (by rw [hml]; rfl) (Steps.refl _) (argsL := []) (rest := []) (lenOf pd_0_3 rfl) rfl (by show 2 * 0 + _ ≤ _; exact Nat.le_of_eq rfl) (hb hby at_63) (fun _ _ => ⟨rfl, e6, (by decide : 4 + 0 ≤ _), (by decide : 20 + 0 ≤ _)⟩)
    dsimp only [Pt.U, Pt.locs, Pt.cells, Pt.slots] at X7 l7 y7 z7 st7 hQ7
    subst l7 y7 z7
    obtain ⟨rfl, N7q, e7⟩ := hQ7
    have N7 := Fr.app N6 N7q
    refine own_stW (fun t k => st7.trans k) ?_
    show own_FinW _ _ _ _ _ _ _ (T7.setTop (mkF m 66 #[.val (.int p1), .val (.int (0 : Int32)), .val (.ref ca0), .val (.int (0 : Int32)), .val (.ref sa0), .val (.int (0 : Int32)), .unset] [(.int (own_ct ca0 ca4 ca5))]))
    rw [show (own_ct ca0 ca4 ca5) = (0 : Int32) by unfold own_ct; rw [if_neg ne0_4, if_neg ne0_5]]
    show own_FinW _ _ _ _ _ _ _ (T7.setTop (mkF m 66 #[.val (.int p1), .val (.int (0 : Int32)), .val (.ref ca0), .val (.int (0 : Int32)), .val (.ref sa0), .val (.int (0 : Int32)), .unset] [(.int (0 : Int32))]))
    refine own_stW (fun t k => XS.istore X7.here hx rfl (hb hby at_66) rfl (l' := #[.val (.int p1), .val (.int (0 : Int32)), .val (.ref ca0), .val (.int (0 : Int32)), .val (.ref sa0), .val (.int (0 : Int32)), .val (.int (0 : Int32))]) rfl k) ?_
    show own_FinW _ _ _ _ _ _ _ (T7.setTop (mkF m 68 #[.val (.int p1), .val (.int (0 : Int32)), .val (.ref ca0), .val (.int (0 : Int32)), .val (.ref sa0), .val (.int (0 : Int32)), .val (.int (0 : Int32))] []))
    refine own_stW (fun t k => XS.iload X7.here hx rfl (hb hby at_68) rfl k) ?_
    show own_FinW _ _ _ _ _ _ _ (T7.setTop (mkF m 70 #[.val (.int p1), .val (.int (0 : Int32)), .val (.ref ca0), .val (.int (0 : Int32)), .val (.ref sa0), .val (.int (0 : Int32)), .val (.int (0 : Int32))] [(.int (0 : Int32))]))
    refine own_stW (fun t k => XS.iloadN X7.here hx rfl (hb hby at_70) rfl k) ?_
    show own_FinW _ _ _ _ _ _ _ (T7.setTop (mkF m 71 #[.val (.int p1), .val (.int (0 : Int32)), .val (.ref ca0), .val (.int (0 : Int32)), .val (.ref sa0), .val (.int (0 : Int32)), .val (.int (0 : Int32))] [(.int (0 : Int32)), (.int (0 : Int32))]))
    refine own_stW (fun t k => XS.icmpNo X7.here hx rfl (hb hby at_71) rfl (teq (by decide : (0 : Int32) = (0 : Int32))).2 k) ?_
    show own_FinW _ _ _ _ _ _ _ (T7.setTop (mkF m 74 #[.val (.int p1), .val (.int (0 : Int32)), .val (.ref ca0), .val (.int (0 : Int32)), .val (.ref sa0), .val (.int (0 : Int32)), .val (.int (0 : Int32))] []))
    refine own_stW (fun t k => XS.iload X7.here hx rfl (hb hby at_74) rfl k) ?_
    show own_FinW _ _ _ _ _ _ _ (T7.setTop (mkF m 76 #[.val (.int p1), .val (.int (0 : Int32)), .val (.ref ca0), .val (.int (0 : Int32)), .val (.ref sa0), .val (.int (0 : Int32)), .val (.int (0 : Int32))] [(.int (0 : Int32))]))
    refine own_stW (fun t k => XS.iload X7.here hx rfl (hb hby at_76) rfl k) ?_
    show own_FinW _ _ _ _ _ _ _ (T7.setTop (mkF m 78 #[.val (.int p1), .val (.int (0 : Int32)), .val (.ref ca0), .val (.int (0 : Int32)), .val (.ref sa0), .val (.int (0 : Int32)), .val (.int (0 : Int32))] [(.int (0 : Int32)), (.int (0 : Int32))]))
    refine own_stW (fun t k => XS.icmpNo X7.here hx rfl (hb hby at_78) rfl (teq (by decide : (0 : Int32) = (0 : Int32))).2 k) ?_
    show own_FinW _ _ _ _ _ _ _ (T7.setTop (mkF m 81 #[.val (.int p1), .val (.int (0 : Int32)), .val (.ref ca0), .val (.int (0 : Int32)), .val (.ref sa0), .val (.int (0 : Int32)), .val (.int (0 : Int32))] []))
    refine own_stW (fun t k => XS.iconst X7.here hx rfl (hb hby at_81) k) ?_
    show own_FinW _ _ _ _ _ _ _ (T7.setTop (mkF m 82 #[.val (.int p1), .val (.int (0 : Int32)), .val (.ref ca0), .val (.int (0 : Int32)), .val (.ref sa0), .val (.int (0 : Int32)), .val (.int (0 : Int32))] [(.int (1 : Int32))]))
    refine own_stW (fun t k => XS.goto X7.here hx rfl (pc0 := 82) (pc' := 86) rfl (hb hby at_82) (by decide) (by decide) k) ?_
    show own_FinW _ _ _ _ _ _ _ (T7.setTop (mkF m 86 #[.val (.int p1), .val (.int (0 : Int32)), .val (.ref ca0), .val (.int (0 : Int32)), .val (.ref sa0), .val (.int (0 : Int32)), .val (.int (0 : Int32))] [(.int (1 : Int32))]))
    exact own_retNW X7 S5 (by rw [e7]; exact ks5) hx Bd.notSynchronized (t := .boolean) Bd.returns (by simp) (hb hby at_86) (by decide) (by decide) ⟨rfl, N7, trivial⟩
  · rw [hk]
    show own_FinW _ _ _ _ _ _ _ (s₁.setTop (mkF m 8 #[.val (.int p1), .val (.int (1 : Int32)), .unset, .unset, .unset, .unset, .unset] []))
    refine own_stW (fun t k => XS.iloadN X0.here hx rfl (hb hby at_8) rfl k) ?_
    show own_FinW _ _ _ _ _ _ _ (s₁.setTop (mkF m 9 #[.val (.int p1), .val (.int (1 : Int32)), .unset, .unset, .unset, .unset, .unset] [(.int (1 : Int32))]))
    obtain ⟨_, _, ⟨T8, L8, k8, n8⟩, -, X8, ⟨Lc8, hQ8, l8, y8, z8⟩, st8⟩ := Jvm.LawKit.callS X0 hx (y := (⟨"hedgerow/ComparisonComparesTextsPinLaw", "pick", "(I)Lhedgerow/Comparison;"⟩ : MethodName)) hown (mvT hZ (hw _ (List.mem_of_getElem? (i := 1) rfl))) (mvT hZ (hw _ (List.mem_of_getElem? (i := 2) rfl))) (mvT hZ (hw _ (List.mem_of_getElem? (i := 3) rfl))) (mvT hZ (hw _ (List.mem_of_getElem? (i := 4) rfl))) (by decide) (backOf (W := 0) (rm1 l Z a0 hw [] (1 : Int32) ca0 ca1 ca2 ca3 ca4 ca5 h0 n0 Z0 Sp0 Sp1 Sp2 Sp3 Sp4 Sp5) hZ (hw _ (List.mem_of_getElem? (i := 4) rfl)) (hw _ (List.mem_of_getElem? (i := 3) rfl)) (by decide) (by decide)) (g := (mkF m 9 #[.val (.int p1), .val (.int (1 : Int32)), .unset, .unset, .unset, .unset, .unset] [(.int (1 : Int32))])) rfl (by rw [hml]; rfl) (argsL := [(.int (1 : Int32))]) (rest := []) (lenOf pd_0_0 rfl) rfl (by show 2 * 0 + _ ≤ _; exact Nat.le_of_eq rfl) (hb hby at_9) (fun _ _ => ⟨rfl, e0, (by decide : 0 + 0 ≤ _), (by decide : 0 + 0 ≤ _)⟩)
    dsimp only [Pt.U, Pt.locs, Pt.cells, Pt.slots] at X8 l8 y8 z8 st8 hQ8
    subst l8 y8 z8
    obtain ⟨rfl, N8q, e8⟩ := hQ8
    have N8 := Fr.app N0 N8q
    refine own_stW st8 ?_
    show own_FinW _ _ _ _ _ _ _ (T8.setTop (mkF m 12 #[.val (.int p1), .val (.int (1 : Int32)), .unset, .unset, .unset, .unset, .unset] [(.ref (own_pick (1 : Int32) ca0 ca1 ca2 ca3 ca4 ca5))]))
    rw [show (own_pick (1 : Int32) ca0 ca1 ca2 ca3 ca4 ca5) = ca1 from rfl]
    show own_FinW _ _ _ _ _ _ _ (T8.setTop (mkF m 12 #[.val (.int p1), .val (.int (1 : Int32)), .unset, .unset, .unset, .unset, .unset] [(.ref ca1)]))
    refine own_stW (fun t k => XS.astoreN X8.here hx rfl (hb hby at_12) rfl rfl (l' := #[.val (.int p1), .val (.int (1 : Int32)), .val (.ref ca1), .unset, .unset, .unset, .unset]) rfl k) ?_
    show own_FinW _ _ _ _ _ _ _ (T8.setTop (mkF m 13 #[.val (.int p1), .val (.int (1 : Int32)), .val (.ref ca1), .unset, .unset, .unset, .unset] []))
    refine own_stW (fun t k => XS.iloadN X8.here hx rfl (hb hby at_13) rfl k) ?_
    show own_FinW _ _ _ _ _ _ _ (T8.setTop (mkF m 14 #[.val (.int p1), .val (.int (1 : Int32)), .val (.ref ca1), .unset, .unset, .unset, .unset] [(.int (1 : Int32))]))
    refine own_stW (fun t k => XS.iconst X8.here hx rfl (hb hby at_14) k) ?_
    show own_FinW _ _ _ _ _ _ _ (T8.setTop (mkF m 15 #[.val (.int p1), .val (.int (1 : Int32)), .val (.ref ca1), .unset, .unset, .unset, .unset] [(.int (4 : Int32)), (.int (1 : Int32))]))
    refine own_stW (fun t k => XS.icmpNo X8.here hx rfl (hb hby at_15) rfl (feq (by decide : ¬ ((1 : Int32) = (4 : Int32)))).1 k) ?_
    show own_FinW _ _ _ _ _ _ _ (T8.setTop (mkF m 18 #[.val (.int p1), .val (.int (1 : Int32)), .val (.ref ca1), .unset, .unset, .unset, .unset] []))
    refine own_stW (fun t k => XS.iloadN X8.here hx rfl (hb hby at_18) rfl k) ?_
    show own_FinW _ _ _ _ _ _ _ (T8.setTop (mkF m 19 #[.val (.int p1), .val (.int (1 : Int32)), .val (.ref ca1), .unset, .unset, .unset, .unset] [(.int (1 : Int32))]))
    refine own_stW (fun t k => XS.iconst X8.here hx rfl (hb hby at_19) k) ?_
    show own_FinW _ _ _ _ _ _ _ (T8.setTop (mkF m 20 #[.val (.int p1), .val (.int (1 : Int32)), .val (.ref ca1), .unset, .unset, .unset, .unset] [(.int (5 : Int32)), (.int (1 : Int32))]))
    refine own_stW (fun t k => XS.icmpYes X8.here hx rfl (pc0 := 20) (pc' := 27) rfl (hb hby at_20) rfl (feq (by decide : ¬ ((1 : Int32) = (5 : Int32)))).2 (by decide) (by decide) k) ?_
    show own_FinW _ _ _ _ _ _ _ (T8.setTop (mkF m 27 #[.val (.int p1), .val (.int (1 : Int32)), .val (.ref ca1), .unset, .unset, .unset, .unset] []))
    refine own_stW (fun t k => XS.iconst X8.here hx rfl (hb hby at_27) k) ?_
    show own_FinW _ _ _ _ _ _ _ (T8.setTop (mkF m 28 #[.val (.int p1), .val (.int (1 : Int32)), .val (.ref ca1), .unset, .unset, .unset, .unset] [(.int (0 : Int32))]))
    refine own_stW (fun t k => XS.istoreN X8.here hx rfl (hb hby at_28) rfl (l' := #[.val (.int p1), .val (.int (1 : Int32)), .val (.ref ca1), .val (.int (0 : Int32)), .unset, .unset, .unset]) rfl k) ?_
    show own_FinW _ _ _ _ _ _ _ (T8.setTop (mkF m 29 #[.val (.int p1), .val (.int (1 : Int32)), .val (.ref ca1), .val (.int (0 : Int32)), .unset, .unset, .unset] []))
    refine own_stW (fun t k => XS.aloadN X8.here hx rfl (hb hby at_29) rfl rfl k) ?_
    show own_FinW _ _ _ _ _ _ _ (T8.setTop (mkF m 30 #[.val (.int p1), .val (.int (1 : Int32)), .val (.ref ca1), .val (.int (0 : Int32)), .unset, .unset, .unset] [(.ref ca1)]))
    obtain ⟨cq9, kq9, qa9, qb9, qc9⟩ := isOf hZ e8 Ec1
    obtain ⟨_, _, ⟨T9, L9, k9, n9⟩, -, X9, ⟨Lc9, hQ9, l9, y9, z9⟩, st9⟩ := X8.virtualBack hx (y := (⟨"hedgerow/Comparison", "toString", "()Ljava/lang/String;"⟩ : MethodName)) (z := (⟨"hedgerow/Comparison", "toString", "()Ljava/lang/String;"⟩ : MethodName)) hown (mvT hZ (hw _ (List.mem_of_getElem? (i := 8) rfl))) (mvT hZ (hw _ (List.mem_of_getElem? (i := 9) rfl))) (notFace_of_selects (args := #[]) (mvT hZ (hw _ (List.mem_of_getElem? (i := 11) rfl)))) (mvT hZ (hw _ (List.mem_of_getElem? (i := 11) rfl))) (mvT hZ (hw _ (List.mem_of_getElem? (i := 10) rfl))) (by decide) (backOf (W := 0) (rm2 l Z a0 hw [] ca1 sa1 h0 n0 Z0 Fs1) hZ (hw _ (List.mem_of_getElem? (i := 12) rfl)) (hw _ (List.mem_of_getElem? (i := 6) rfl)) (by decide) (by decide)) qa9 qc9 (g := (mkF m 30 #[.val (.int p1), .val (.int (1 : Int32)), .val (.ref ca1), .val (.int (0 : Int32)), .unset, .unset, .unset] [(.ref ca1)])) rfl (by rw [hml]; rfl) (Steps.refl _) (argsL := []) (rest := []) (lenOf pd_0_1 rfl) rfl (by show 2 * 0 + _ ≤ _; exact Nat.le_of_eq rfl) (hb hby at_30) (fun _ _ => ⟨rfl, e8, (by decide : 0 + 0 ≤ _), (by decide : 0 + 0 ≤ _)⟩)
    dsimp only [Pt.U, Pt.locs, Pt.cells, Pt.slots] at X9 l9 y9 z9 st9 hQ9
    subst l9 y9 z9
    obtain ⟨rfl, N9q, e9⟩ := hQ9
    have N9 := Fr.app N8 N9q
    refine own_stW (fun t k => st9.trans k) ?_
    show own_FinW _ _ _ _ _ _ _ (T9.setTop (mkF m 33 #[.val (.int p1), .val (.int (1 : Int32)), .val (.ref ca1), .val (.int (0 : Int32)), .unset, .unset, .unset] [(.ref sa1)]))
    refine own_stW (fun t k => XS.astore X9.here hx rfl (hb hby at_33) rfl rfl (l' := #[.val (.int p1), .val (.int (1 : Int32)), .val (.ref ca1), .val (.int (0 : Int32)), .val (.ref sa1), .unset, .unset]) rfl k) ?_
    show own_FinW _ _ _ _ _ _ _ (T9.setTop (mkF m 35 #[.val (.int p1), .val (.int (1 : Int32)), .val (.ref ca1), .val (.int (0 : Int32)), .val (.ref sa1), .unset, .unset] []))
    refine own_stW (fun t k => XS.aload X9.here hx rfl (hb hby at_35) rfl rfl k) ?_
    show own_FinW _ _ _ _ _ _ _ (T9.setTop (mkF m 37 #[.val (.int p1), .val (.int (1 : Int32)), .val (.ref ca1), .val (.int (0 : Int32)), .val (.ref sa1), .unset, .unset] [(.ref sa1)]))
    obtain ⟨a10, T10, h10, k10, b10, kb10, X10, e10, E10, S10, ks10, hZ10, ho10, oE10, oC10, oV10, oA10, -, -, I10, st10⟩ := ldcSV (s := s) (vm0 := s.vm) (Ts := []) (text := "=") X9 hx hZ hown (hw _ (List.mem_of_getElem? (i := 15) rfl)) hwS e9 S0 (Nat.le_refl _) (by rw [hsz]; exact N9) hkeep I0 (by decide) (hh _ (List.mem_of_getElem? (i := 0) rfl)) hcw (vs := [(.int (61 : Int32))]) (z := (1 : Int32)) (own_text_37) (by decide) rfl (g := (mkF m 37 #[.val (.int p1), .val (.int (1 : Int32)), .val (.ref ca1), .val (.int (0 : Int32)), .val (.ref sa1), .unset, .unset] [(.ref sa1)])) rfl (hb hby at_37) (n := 4) (own_tlen_37) (by decide) (by decide) (by decide)
    have f10_0 := Sp0.ext E10
    have f10_1 := Sp1.ext E10
    have f10_2 := Sp2.ext E10
    have f10_3 := Sp3.ext E10
    have f10_4 := Sp4.ext E10
    have f10_5 := Sp5.ext E10
    have f10_6 := O2.ext E10
    have f10_7 := Ec1.ext E10
    have f10_8 := Fs1.ext E10
    have f10_9 := Es1.ext E10
    have f10_10 := Fc1.ext E10
    have f10_11 := Fv1.ext E10
    have f10_12 := Vb1.ext E10
    have Z10 : n0 ≤ h10.size := Nat.le_trans Z0 E10.1
    have hZ := hZ10
    have hown := ho10
    refine own_stW st10 ?_
    show own_FinW _ _ _ _ _ _ _ (T10.setTop (mkF m 39 #[.val (.int p1), .val (.int (1 : Int32)), .val (.ref ca1), .val (.int (0 : Int32)), .val (.ref sa1), .unset, .unset] [(.ref a10), (.ref sa1)]))
    obtain ⟨cq11, kq11, qa11, qb11, qc11⟩ := isOf hZ e10 f10_9
    obtain ⟨_, _, ⟨T11, L11, k11, n11⟩, -, X11, ⟨Lc11, hQ11, l11, y11, z11⟩, st11⟩ := X10.virtualBack hx (y := (⟨"java/lang/String", "equals", "(Ljava/lang/Object;)Z"⟩ : MethodName)) (z := (⟨"java/lang/String", "equals", "(Ljava/lang/Object;)Z"⟩ : MethodName)) hown (mvT hZ (hw _ (List.mem_of_getElem? (i := 23) rfl))) (mvT hZ (hw _ (List.mem_of_getElem? (i := 24) rfl))) (notFace_of_selects (args := #[]) (mvT hZ (hw _ (List.mem_of_getElem? (i := 26) rfl)))) (mvT hZ (hw _ (List.mem_of_getElem? (i := 26) rfl))) (mvT hZ (hw _ (List.mem_of_getElem? (i := 25) rfl))) (by decide) (backOf (W := 0) (rmED l Z a0 hw [] sa1 a10 ba1 b10 ka1 kb10 G1 (2 : Int32) (1 : Int32) [(.int (60 : Int32)), (.int (61 : Int32))] [(.int (61 : Int32))] h10 n0 Z10 f10_9 oE10 f10_10 oC10 f10_11 oV10 f10_12 oA10 f10_6 P5 (own_neD f10_11 f10_12 oV10 oA10 (by decide)) (by decide)) hZ (hw _ (List.mem_of_getElem? (i := 27) rfl)) (hw _ (List.mem_of_getElem? (i := 16) rfl)) (by decide) (by decide)) qa11 qc11 (g := (mkF m 39 #[.val (.int p1), .val (.int (1 : Int32)), .val (.ref ca1), .val (.int (0 : Int32)), .val (.ref sa1), .unset, .unset] [(.ref a10), (.ref sa1)])) rfl (by rw [hml]; rfl) (Steps.refl _) (argsL := [(.ref a10)]) (rest := []) (lenOf pd_0_2 rfl) rfl (by show 2 * 0 + _ ≤ _; exact Nat.le_of_eq rfl) (hb hby at_39) (fun _ _ => ⟨rfl, e10, (by decide : 2 + 0 ≤ _), (by decide : 8 + 0 ≤ _)⟩)
    dsimp only [Pt.U, Pt.locs, Pt.cells, Pt.slots] at X11 l11 y11 z11 st11 hQ11
    subst l11 y11 z11
    obtain ⟨rfl, N11q, e11⟩ := hQ11
    have N11 := Fr.app N9 N11q
    refine own_stW (fun t k => st11.trans k) ?_
    show own_FinW _ _ _ _ _ _ _ (T11.setTop (mkF m 42 #[.val (.int p1), .val (.int (1 : Int32)), .val (.ref ca1), .val (.int (0 : Int32)), .val (.ref sa1), .unset, .unset] [(.int (0 : Int32))]))
    refine own_stW (fun t k => XS.ifNo X11.here hx rfl (hb hby at_42) rfl ((if0 _ _).trans (teq (by decide : (0 : Int32) = (0 : Int32))).2) k) ?_
    show own_FinW _ _ _ _ _ _ _ (T11.setTop (mkF m 45 #[.val (.int p1), .val (.int (1 : Int32)), .val (.ref ca1), .val (.int (0 : Int32)), .val (.ref sa1), .unset, .unset] []))
    refine own_stW (fun t k => XS.aload X11.here hx rfl (hb hby at_45) rfl rfl k) ?_
    show own_FinW _ _ _ _ _ _ _ (T11.setTop (mkF m 47 #[.val (.int p1), .val (.int (1 : Int32)), .val (.ref ca1), .val (.int (0 : Int32)), .val (.ref sa1), .unset, .unset] [(.ref sa1)]))
    obtain ⟨a12, T12, h12, k12, b12, kb12, X12, e12, E12, S12, ks12, hZ12, ho12, oE12, oC12, oV12, oA12, -, -, I12, st12⟩ := ldcSV (s := s) (vm0 := T10.vm) (Ts := ["="]) (text := "!=") X11 hx hZ hown (hw _ (List.mem_of_getElem? (i := 37) rfl)) hwS e11 S10 ks10 (by rw [hsz]; exact N11) hkeep I10 (by decide) (hh _ (List.mem_of_getElem? (i := 1) rfl)) hcw (vs := [(.int (33 : Int32)), (.int (61 : Int32))]) (z := (2 : Int32)) (own_text_47) (by decide) rfl (g := (mkF m 47 #[.val (.int p1), .val (.int (1 : Int32)), .val (.ref ca1), .val (.int (0 : Int32)), .val (.ref sa1), .unset, .unset] [(.ref sa1)])) rfl (hb hby at_47) (n := 8) (own_tlen_47) (by decide) (by decide) (by decide)
    have f12_0 := f10_0.ext E12
    have f12_1 := f10_1.ext E12
    have f12_2 := f10_2.ext E12
    have f12_3 := f10_3.ext E12
    have f12_4 := f10_4.ext E12
    have f12_5 := f10_5.ext E12
    have f12_6 := f10_6.ext E12
    have f12_7 := f10_7.ext E12
    have f12_8 := f10_8.ext E12
    have f12_9 := f10_9.ext E12
    have f12_10 := f10_10.ext E12
    have f12_11 := f10_11.ext E12
    have f12_12 := f10_12.ext E12
    have f12_13 := oE10.ext E12
    have f12_14 := oC10.ext E12
    have f12_15 := oV10.ext E12
    have f12_16 := oA10.ext E12
    have Z12 : n0 ≤ h12.size := Nat.le_trans Z10 E12.1
    have hZ := hZ12
    have hown := ho12
    refine own_stW st12 ?_
    show own_FinW _ _ _ _ _ _ _ (T12.setTop (mkF m 49 #[.val (.int p1), .val (.int (1 : Int32)), .val (.ref ca1), .val (.int (0 : Int32)), .val (.ref sa1), .unset, .unset] [(.ref a12), (.ref sa1)]))
    obtain ⟨cq13, kq13, qa13, qb13, qc13⟩ := isOf hZ e12 f12_9
    obtain ⟨_, _, ⟨T13, L13, k13, n13⟩, -, X13, ⟨Lc13, hQ13, l13, y13, z13⟩, st13⟩ := X12.virtualBack hx (y := (⟨"java/lang/String", "equals", "(Ljava/lang/Object;)Z"⟩ : MethodName)) (z := (⟨"java/lang/String", "equals", "(Ljava/lang/Object;)Z"⟩ : MethodName)) hown (mvT hZ (hw _ (List.mem_of_getElem? (i := 23) rfl))) (mvT hZ (hw _ (List.mem_of_getElem? (i := 24) rfl))) (notFace_of_selects (args := #[]) (mvT hZ (hw _ (List.mem_of_getElem? (i := 26) rfl)))) (mvT hZ (hw _ (List.mem_of_getElem? (i := 26) rfl))) (mvT hZ (hw _ (List.mem_of_getElem? (i := 25) rfl))) (by decide) (backOf (W := 0) (rmEF l Z a0 hw [] sa1 a12 ba1 b12 ka1 kb12 G1 (2 : Int32) [(.int (60 : Int32)), (.int (61 : Int32))] [(.int (33 : Int32)), (.int (61 : Int32))] (60 : Int32) (33 : Int32) h12 n0 Z12 f12_9 oE12 f12_10 oC12 f12_11 oV12 f12_12 oA12 f12_6 P5 (own_neF f12_11 f12_12 oV12 oA12 (by decide) (own_vne (by decide))) (by decide) rfl rfl (by decide)) hZ (hw _ (List.mem_of_getElem? (i := 27) rfl)) (hw _ (List.mem_of_getElem? (i := 16) rfl)) (by decide) (by decide)) qa13 qc13 (g := (mkF m 49 #[.val (.int p1), .val (.int (1 : Int32)), .val (.ref ca1), .val (.int (0 : Int32)), .val (.ref sa1), .unset, .unset] [(.ref a12), (.ref sa1)])) rfl (by rw [hml]; rfl) (Steps.refl _) (argsL := [(.ref a12)]) (rest := []) (lenOf pd_0_2 rfl) rfl (by show 2 * 0 + _ ≤ _; exact Nat.le_of_eq rfl) (hb hby at_49) (fun _ _ => ⟨rfl, e12, (by decide : 4 + 0 ≤ _), (by decide : 20 + 0 ≤ _)⟩)
    dsimp only [Pt.U, Pt.locs, Pt.cells, Pt.slots] at X13 l13 y13 z13 st13 hQ13
    subst l13 y13 z13
    obtain ⟨rfl, N13q, e13⟩ := hQ13
    have N13 := Fr.app N11 N13q
    refine own_stW (fun t k => st13.trans k) ?_
    show own_FinW _ _ _ _ _ _ _ (T13.setTop (mkF m 52 #[.val (.int p1), .val (.int (1 : Int32)), .val (.ref ca1), .val (.int (0 : Int32)), .val (.ref sa1), .unset, .unset] [(.int (0 : Int32))]))
    refine own_stW (fun t k => XS.ifYes X13.here hx rfl (pc0 := 52) (pc' := 59) rfl (hb hby at_52) rfl ((if0 _ _).trans (teq (by decide : (0 : Int32) = (0 : Int32))).1) (by decide) (by decide) k) ?_
    show own_FinW _ _ _ _ _ _ _ (T13.setTop (mkF m 59 #[.val (.int p1), .val (.int (1 : Int32)), .val (.ref ca1), .val (.int (0 : Int32)), .val (.ref sa1), .unset, .unset] []))
    refine own_stW (fun t k => XS.iconst X13.here hx rfl (hb hby at_59) k) ?_
    show own_FinW _ _ _ _ _ _ _ (T13.setTop (mkF m 60 #[.val (.int p1), .val (.int (1 : Int32)), .val (.ref ca1), .val (.int (0 : Int32)), .val (.ref sa1), .unset, .unset] [(.int (0 : Int32))]))
    refine own_stW (fun t k => XS.istore X13.here hx rfl (hb hby at_60) rfl (l' := #[.val (.int p1), .val (.int (1 : Int32)), .val (.ref ca1), .val (.int (0 : Int32)), .val (.ref sa1), .val (.int (0 : Int32)), .unset]) rfl k) ?_
    show own_FinW _ _ _ _ _ _ _ (T13.setTop (mkF m 62 #[.val (.int p1), .val (.int (1 : Int32)), .val (.ref ca1), .val (.int (0 : Int32)), .val (.ref sa1), .val (.int (0 : Int32)), .unset] []))
    refine own_stW (fun t k => XS.aloadN X13.here hx rfl (hb hby at_62) rfl rfl k) ?_
    show own_FinW _ _ _ _ _ _ _ (T13.setTop (mkF m 63 #[.val (.int p1), .val (.int (1 : Int32)), .val (.ref ca1), .val (.int (0 : Int32)), .val (.ref sa1), .val (.int (0 : Int32)), .unset] [(.ref ca1)]))
    obtain ⟨cq14, kq14, qa14, qb14, qc14⟩ := isOf hZ e13 f12_7
    obtain ⟨_, _, ⟨T14, L14, k14, n14⟩, -, X14, ⟨Lc14, hQ14, l14, y14, z14⟩, st14⟩ := X13.virtualBack hx (y := (⟨"hedgerow/Comparison", "comparesTexts", "()Z"⟩ : MethodName)) (z := (⟨"hedgerow/Comparison", "comparesTexts", "()Z"⟩ : MethodName)) hown (mvT hZ (hw _ (List.mem_of_getElem? (i := 38) rfl))) (mvT hZ (hw _ (List.mem_of_getElem? (i := 39) rfl))) (notFace_of_selects (args := #[]) (mvT hZ (hw _ (List.mem_of_getElem? (i := 41) rfl)))) (mvT hZ (hw _ (List.mem_of_getElem? (i := 41) rfl))) (mvT hZ (hw _ (List.mem_of_getElem? (i := 40) rfl))) (by decide) (backOf (W := 0) (rm5 l Z a0 hw [] ca1 ca4 ca5 h12 n0 Z12 f12_4 f12_5) hZ (hw _ (List.mem_of_getElem? (i := 42) rfl)) (hw _ (List.mem_of_getElem? (i := 6) rfl)) (by decide) (by decide)) qa14 qc14 (g := (mkF m 63 #[.val (.int p1), .val (.int (1 : Int32)), .val (.ref ca1), .val (.int (0 : Int32)), .val (.ref sa1), .val (.int (0 : Int32)), .unset] [(.ref ca1)])) rfl (by rw [hml]; rfl) (Steps.refl _) (argsL := []) (rest := []) (lenOf pd_0_3 rfl) rfl (by show 2 * 0 + _ ≤ _; exact Nat.le_of_eq rfl) (hb hby at_63) (fun _ _ => ⟨rfl, e13, (by decide : 4 + 0 ≤ _), (by decide : 20 + 0 ≤ _)⟩)
    dsimp only [Pt.U, Pt.locs, Pt.cells, Pt.slots] at X14 l14 y14 z14 st14 hQ14
    subst l14 y14 z14
    obtain ⟨rfl, N14q, e14⟩ := hQ14
    have N14 := Fr.app N13 N14q
    refine own_stW (fun t k => st14.trans k) ?_
    show own_FinW _ _ _ _ _ _ _ (T14.setTop (mkF m 66 #[.val (.int p1), .val (.int (1 : Int32)), .val (.ref ca1), .val (.int (0 : Int32)), .val (.ref sa1), .val (.int (0 : Int32)), .unset] [(.int (own_ct ca1 ca4 ca5))]))
    rw [show (own_ct ca1 ca4 ca5) = (0 : Int32) by unfold own_ct; rw [if_neg ne1_4, if_neg ne1_5]]
    show own_FinW _ _ _ _ _ _ _ (T14.setTop (mkF m 66 #[.val (.int p1), .val (.int (1 : Int32)), .val (.ref ca1), .val (.int (0 : Int32)), .val (.ref sa1), .val (.int (0 : Int32)), .unset] [(.int (0 : Int32))]))
    refine own_stW (fun t k => XS.istore X14.here hx rfl (hb hby at_66) rfl (l' := #[.val (.int p1), .val (.int (1 : Int32)), .val (.ref ca1), .val (.int (0 : Int32)), .val (.ref sa1), .val (.int (0 : Int32)), .val (.int (0 : Int32))]) rfl k) ?_
    show own_FinW _ _ _ _ _ _ _ (T14.setTop (mkF m 68 #[.val (.int p1), .val (.int (1 : Int32)), .val (.ref ca1), .val (.int (0 : Int32)), .val (.ref sa1), .val (.int (0 : Int32)), .val (.int (0 : Int32))] []))
    refine own_stW (fun t k => XS.iload X14.here hx rfl (hb hby at_68) rfl k) ?_
    show own_FinW _ _ _ _ _ _ _ (T14.setTop (mkF m 70 #[.val (.int p1), .val (.int (1 : Int32)), .val (.ref ca1), .val (.int (0 : Int32)), .val (.ref sa1), .val (.int (0 : Int32)), .val (.int (0 : Int32))] [(.int (0 : Int32))]))
    refine own_stW (fun t k => XS.iloadN X14.here hx rfl (hb hby at_70) rfl k) ?_
    show own_FinW _ _ _ _ _ _ _ (T14.setTop (mkF m 71 #[.val (.int p1), .val (.int (1 : Int32)), .val (.ref ca1), .val (.int (0 : Int32)), .val (.ref sa1), .val (.int (0 : Int32)), .val (.int (0 : Int32))] [(.int (0 : Int32)), (.int (0 : Int32))]))
    refine own_stW (fun t k => XS.icmpNo X14.here hx rfl (hb hby at_71) rfl (teq (by decide : (0 : Int32) = (0 : Int32))).2 k) ?_
    show own_FinW _ _ _ _ _ _ _ (T14.setTop (mkF m 74 #[.val (.int p1), .val (.int (1 : Int32)), .val (.ref ca1), .val (.int (0 : Int32)), .val (.ref sa1), .val (.int (0 : Int32)), .val (.int (0 : Int32))] []))
    refine own_stW (fun t k => XS.iload X14.here hx rfl (hb hby at_74) rfl k) ?_
    show own_FinW _ _ _ _ _ _ _ (T14.setTop (mkF m 76 #[.val (.int p1), .val (.int (1 : Int32)), .val (.ref ca1), .val (.int (0 : Int32)), .val (.ref sa1), .val (.int (0 : Int32)), .val (.int (0 : Int32))] [(.int (0 : Int32))]))
    refine own_stW (fun t k => XS.iload X14.here hx rfl (hb hby at_76) rfl k) ?_
    show own_FinW _ _ _ _ _ _ _ (T14.setTop (mkF m 78 #[.val (.int p1), .val (.int (1 : Int32)), .val (.ref ca1), .val (.int (0 : Int32)), .val (.ref sa1), .val (.int (0 : Int32)), .val (.int (0 : Int32))] [(.int (0 : Int32)), (.int (0 : Int32))]))
    refine own_stW (fun t k => XS.icmpNo X14.here hx rfl (hb hby at_78) rfl (teq (by decide : (0 : Int32) = (0 : Int32))).2 k) ?_
    show own_FinW _ _ _ _ _ _ _ (T14.setTop (mkF m 81 #[.val (.int p1), .val (.int (1 : Int32)), .val (.ref ca1), .val (.int (0 : Int32)), .val (.ref sa1), .val (.int (0 : Int32)), .val (.int (0 : Int32))] []))
    refine own_stW (fun t k => XS.iconst X14.here hx rfl (hb hby at_81) k) ?_
    show own_FinW _ _ _ _ _ _ _ (T14.setTop (mkF m 82 #[.val (.int p1), .val (.int (1 : Int32)), .val (.ref ca1), .val (.int (0 : Int32)), .val (.ref sa1), .val (.int (0 : Int32)), .val (.int (0 : Int32))] [(.int (1 : Int32))]))
    refine own_stW (fun t k => XS.goto X14.here hx rfl (pc0 := 82) (pc' := 86) rfl (hb hby at_82) (by decide) (by decide) k) ?_
    show own_FinW _ _ _ _ _ _ _ (T14.setTop (mkF m 86 #[.val (.int p1), .val (.int (1 : Int32)), .val (.ref ca1), .val (.int (0 : Int32)), .val (.ref sa1), .val (.int (0 : Int32)), .val (.int (0 : Int32))] [(.int (1 : Int32))]))
    exact own_retNW X14 S12 (by rw [e14]; exact ks12) hx Bd.notSynchronized (t := .boolean) Bd.returns (by simp) (hb hby at_86) (by decide) (by decide) ⟨rfl, N14, trivial⟩
  · rw [hk]
    show own_FinW _ _ _ _ _ _ _ (s₁.setTop (mkF m 8 #[.val (.int p1), .val (.int (2 : Int32)), .unset, .unset, .unset, .unset, .unset] []))
    refine own_stW (fun t k => XS.iloadN X0.here hx rfl (hb hby at_8) rfl k) ?_
    show own_FinW _ _ _ _ _ _ _ (s₁.setTop (mkF m 9 #[.val (.int p1), .val (.int (2 : Int32)), .unset, .unset, .unset, .unset, .unset] [(.int (2 : Int32))]))
    obtain ⟨_, _, ⟨T15, L15, k15, n15⟩, -, X15, ⟨Lc15, hQ15, l15, y15, z15⟩, st15⟩ := Jvm.LawKit.callS X0 hx (y := (⟨"hedgerow/ComparisonComparesTextsPinLaw", "pick", "(I)Lhedgerow/Comparison;"⟩ : MethodName)) hown (mvT hZ (hw _ (List.mem_of_getElem? (i := 1) rfl))) (mvT hZ (hw _ (List.mem_of_getElem? (i := 2) rfl))) (mvT hZ (hw _ (List.mem_of_getElem? (i := 3) rfl))) (mvT hZ (hw _ (List.mem_of_getElem? (i := 4) rfl))) (by decide) (backOf (W := 0) (rm1 l Z a0 hw [] (2 : Int32) ca0 ca1 ca2 ca3 ca4 ca5 h0 n0 Z0 Sp0 Sp1 Sp2 Sp3 Sp4 Sp5) hZ (hw _ (List.mem_of_getElem? (i := 4) rfl)) (hw _ (List.mem_of_getElem? (i := 3) rfl)) (by decide) (by decide)) (g := (mkF m 9 #[.val (.int p1), .val (.int (2 : Int32)), .unset, .unset, .unset, .unset, .unset] [(.int (2 : Int32))])) rfl (by rw [hml]; rfl) (argsL := [(.int (2 : Int32))]) (rest := []) (lenOf pd_0_0 rfl) rfl (by show 2 * 0 + _ ≤ _; exact Nat.le_of_eq rfl) (hb hby at_9) (fun _ _ => ⟨rfl, e0, (by decide : 0 + 0 ≤ _), (by decide : 0 + 0 ≤ _)⟩)
    dsimp only [Pt.U, Pt.locs, Pt.cells, Pt.slots] at X15 l15 y15 z15 st15 hQ15
    subst l15 y15 z15
    obtain ⟨rfl, N15q, e15⟩ := hQ15
    have N15 := Fr.app N0 N15q
    refine own_stW st15 ?_
    show own_FinW _ _ _ _ _ _ _ (T15.setTop (mkF m 12 #[.val (.int p1), .val (.int (2 : Int32)), .unset, .unset, .unset, .unset, .unset] [(.ref (own_pick (2 : Int32) ca0 ca1 ca2 ca3 ca4 ca5))]))
    rw [show (own_pick (2 : Int32) ca0 ca1 ca2 ca3 ca4 ca5) = ca2 from rfl]
    show own_FinW _ _ _ _ _ _ _ (T15.setTop (mkF m 12 #[.val (.int p1), .val (.int (2 : Int32)), .unset, .unset, .unset, .unset, .unset] [(.ref ca2)]))
    refine own_stW (fun t k => XS.astoreN X15.here hx rfl (hb hby at_12) rfl rfl (l' := #[.val (.int p1), .val (.int (2 : Int32)), .val (.ref ca2), .unset, .unset, .unset, .unset]) rfl k) ?_
    show own_FinW _ _ _ _ _ _ _ (T15.setTop (mkF m 13 #[.val (.int p1), .val (.int (2 : Int32)), .val (.ref ca2), .unset, .unset, .unset, .unset] []))
    refine own_stW (fun t k => XS.iloadN X15.here hx rfl (hb hby at_13) rfl k) ?_
    show own_FinW _ _ _ _ _ _ _ (T15.setTop (mkF m 14 #[.val (.int p1), .val (.int (2 : Int32)), .val (.ref ca2), .unset, .unset, .unset, .unset] [(.int (2 : Int32))]))
    refine own_stW (fun t k => XS.iconst X15.here hx rfl (hb hby at_14) k) ?_
    show own_FinW _ _ _ _ _ _ _ (T15.setTop (mkF m 15 #[.val (.int p1), .val (.int (2 : Int32)), .val (.ref ca2), .unset, .unset, .unset, .unset] [(.int (4 : Int32)), (.int (2 : Int32))]))
    refine own_stW (fun t k => XS.icmpNo X15.here hx rfl (hb hby at_15) rfl (feq (by decide : ¬ ((2 : Int32) = (4 : Int32)))).1 k) ?_
    show own_FinW _ _ _ _ _ _ _ (T15.setTop (mkF m 18 #[.val (.int p1), .val (.int (2 : Int32)), .val (.ref ca2), .unset, .unset, .unset, .unset] []))
    refine own_stW (fun t k => XS.iloadN X15.here hx rfl (hb hby at_18) rfl k) ?_
    show own_FinW _ _ _ _ _ _ _ (T15.setTop (mkF m 19 #[.val (.int p1), .val (.int (2 : Int32)), .val (.ref ca2), .unset, .unset, .unset, .unset] [(.int (2 : Int32))]))
    refine own_stW (fun t k => XS.iconst X15.here hx rfl (hb hby at_19) k) ?_
    show own_FinW _ _ _ _ _ _ _ (T15.setTop (mkF m 20 #[.val (.int p1), .val (.int (2 : Int32)), .val (.ref ca2), .unset, .unset, .unset, .unset] [(.int (5 : Int32)), (.int (2 : Int32))]))
    refine own_stW (fun t k => XS.icmpYes X15.here hx rfl (pc0 := 20) (pc' := 27) rfl (hb hby at_20) rfl (feq (by decide : ¬ ((2 : Int32) = (5 : Int32)))).2 (by decide) (by decide) k) ?_
    show own_FinW _ _ _ _ _ _ _ (T15.setTop (mkF m 27 #[.val (.int p1), .val (.int (2 : Int32)), .val (.ref ca2), .unset, .unset, .unset, .unset] []))
    refine own_stW (fun t k => XS.iconst X15.here hx rfl (hb hby at_27) k) ?_
    show own_FinW _ _ _ _ _ _ _ (T15.setTop (mkF m 28 #[.val (.int p1), .val (.int (2 : Int32)), .val (.ref ca2), .unset, .unset, .unset, .unset] [(.int (0 : Int32))]))
    refine own_stW (fun t k => XS.istoreN X15.here hx rfl (hb hby at_28) rfl (l' := #[.val (.int p1), .val (.int (2 : Int32)), .val (.ref ca2), .val (.int (0 : Int32)), .unset, .unset, .unset]) rfl k) ?_
    show own_FinW _ _ _ _ _ _ _ (T15.setTop (mkF m 29 #[.val (.int p1), .val (.int (2 : Int32)), .val (.ref ca2), .val (.int (0 : Int32)), .unset, .unset, .unset] []))
    refine own_stW (fun t k => XS.aloadN X15.here hx rfl (hb hby at_29) rfl rfl k) ?_
    show own_FinW _ _ _ _ _ _ _ (T15.setTop (mkF m 30 #[.val (.int p1), .val (.int (2 : Int32)), .val (.ref ca2), .val (.int (0 : Int32)), .unset, .unset, .unset] [(.ref ca2)]))
    obtain ⟨cq16, kq16, qa16, qb16, qc16⟩ := isOf hZ e15 Ec2
    obtain ⟨_, _, ⟨T16, L16, k16, n16⟩, -, X16, ⟨Lc16, hQ16, l16, y16, z16⟩, st16⟩ := X15.virtualBack hx (y := (⟨"hedgerow/Comparison", "toString", "()Ljava/lang/String;"⟩ : MethodName)) (z := (⟨"hedgerow/Comparison", "toString", "()Ljava/lang/String;"⟩ : MethodName)) hown (mvT hZ (hw _ (List.mem_of_getElem? (i := 8) rfl))) (mvT hZ (hw _ (List.mem_of_getElem? (i := 9) rfl))) (notFace_of_selects (args := #[]) (mvT hZ (hw _ (List.mem_of_getElem? (i := 11) rfl)))) (mvT hZ (hw _ (List.mem_of_getElem? (i := 11) rfl))) (mvT hZ (hw _ (List.mem_of_getElem? (i := 10) rfl))) (by decide) (backOf (W := 0) (rm2 l Z a0 hw [] ca2 sa2 h0 n0 Z0 Fs2) hZ (hw _ (List.mem_of_getElem? (i := 12) rfl)) (hw _ (List.mem_of_getElem? (i := 6) rfl)) (by decide) (by decide)) qa16 qc16 (g := (mkF m 30 #[.val (.int p1), .val (.int (2 : Int32)), .val (.ref ca2), .val (.int (0 : Int32)), .unset, .unset, .unset] [(.ref ca2)])) rfl (by rw [hml]; rfl) (Steps.refl _) (argsL := []) (rest := []) (lenOf pd_0_1 rfl) rfl (by show 2 * 0 + _ ≤ _; exact Nat.le_of_eq rfl) (hb hby at_30) (fun _ _ => ⟨rfl, e15, (by decide : 0 + 0 ≤ _), (by decide : 0 + 0 ≤ _)⟩)
    dsimp only [Pt.U, Pt.locs, Pt.cells, Pt.slots] at X16 l16 y16 z16 st16 hQ16
    subst l16 y16 z16
    obtain ⟨rfl, N16q, e16⟩ := hQ16
    have N16 := Fr.app N15 N16q
    refine own_stW (fun t k => st16.trans k) ?_
    show own_FinW _ _ _ _ _ _ _ (T16.setTop (mkF m 33 #[.val (.int p1), .val (.int (2 : Int32)), .val (.ref ca2), .val (.int (0 : Int32)), .unset, .unset, .unset] [(.ref sa2)]))
    refine own_stW (fun t k => XS.astore X16.here hx rfl (hb hby at_33) rfl rfl (l' := #[.val (.int p1), .val (.int (2 : Int32)), .val (.ref ca2), .val (.int (0 : Int32)), .val (.ref sa2), .unset, .unset]) rfl k) ?_
    show own_FinW _ _ _ _ _ _ _ (T16.setTop (mkF m 35 #[.val (.int p1), .val (.int (2 : Int32)), .val (.ref ca2), .val (.int (0 : Int32)), .val (.ref sa2), .unset, .unset] []))
    refine own_stW (fun t k => XS.aload X16.here hx rfl (hb hby at_35) rfl rfl k) ?_
    show own_FinW _ _ _ _ _ _ _ (T16.setTop (mkF m 37 #[.val (.int p1), .val (.int (2 : Int32)), .val (.ref ca2), .val (.int (0 : Int32)), .val (.ref sa2), .unset, .unset] [(.ref sa2)]))
    obtain ⟨a17, T17, h17, k17, b17, kb17, X17, e17, E17, S17, ks17, hZ17, ho17, oE17, oC17, oV17, oA17, -, -, I17, st17⟩ := ldcSV (s := s) (vm0 := s.vm) (Ts := []) (text := "=") X16 hx hZ hown (hw _ (List.mem_of_getElem? (i := 15) rfl)) hwS e16 S0 (Nat.le_refl _) (by rw [hsz]; exact N16) hkeep I0 (by decide) (hh _ (List.mem_of_getElem? (i := 0) rfl)) hcw (vs := [(.int (61 : Int32))]) (z := (1 : Int32)) (own_text_37) (by decide) rfl (g := (mkF m 37 #[.val (.int p1), .val (.int (2 : Int32)), .val (.ref ca2), .val (.int (0 : Int32)), .val (.ref sa2), .unset, .unset] [(.ref sa2)])) rfl (hb hby at_37) (n := 4) (own_tlen_37) (by decide) (by decide) (by decide)
    have f17_0 := Sp0.ext E17
    have f17_1 := Sp1.ext E17
    have f17_2 := Sp2.ext E17
    have f17_3 := Sp3.ext E17
    have f17_4 := Sp4.ext E17
    have f17_5 := Sp5.ext E17
    have f17_6 := O2.ext E17
    have f17_7 := Ec2.ext E17
    have f17_8 := Fs2.ext E17
    have f17_9 := Es2.ext E17
    have f17_10 := Fc2.ext E17
    have f17_11 := Fv2.ext E17
    have f17_12 := Vb2.ext E17
    have Z17 : n0 ≤ h17.size := Nat.le_trans Z0 E17.1
    have hZ := hZ17
    have hown := ho17
    refine own_stW st17 ?_
    show own_FinW _ _ _ _ _ _ _ (T17.setTop (mkF m 39 #[.val (.int p1), .val (.int (2 : Int32)), .val (.ref ca2), .val (.int (0 : Int32)), .val (.ref sa2), .unset, .unset] [(.ref a17), (.ref sa2)]))
    obtain ⟨cq18, kq18, qa18, qb18, qc18⟩ := isOf hZ e17 f17_9
    obtain ⟨_, _, ⟨T18, L18, k18, n18⟩, -, X18, ⟨Lc18, hQ18, l18, y18, z18⟩, st18⟩ := X17.virtualBack hx (y := (⟨"java/lang/String", "equals", "(Ljava/lang/Object;)Z"⟩ : MethodName)) (z := (⟨"java/lang/String", "equals", "(Ljava/lang/Object;)Z"⟩ : MethodName)) hown (mvT hZ (hw _ (List.mem_of_getElem? (i := 23) rfl))) (mvT hZ (hw _ (List.mem_of_getElem? (i := 24) rfl))) (notFace_of_selects (args := #[]) (mvT hZ (hw _ (List.mem_of_getElem? (i := 26) rfl)))) (mvT hZ (hw _ (List.mem_of_getElem? (i := 26) rfl))) (mvT hZ (hw _ (List.mem_of_getElem? (i := 25) rfl))) (by decide) (backOf (W := 0) (rmEF l Z a0 hw [] sa2 a17 ba2 b17 ka2 kb17 G1 (1 : Int32) [(.int (62 : Int32))] [(.int (61 : Int32))] (62 : Int32) (61 : Int32) h17 n0 Z17 f17_9 oE17 f17_10 oC17 f17_11 oV17 f17_12 oA17 f17_6 P5 (own_neF f17_11 f17_12 oV17 oA17 (by decide) (own_vne (by decide))) (by decide) rfl rfl (by decide)) hZ (hw _ (List.mem_of_getElem? (i := 27) rfl)) (hw _ (List.mem_of_getElem? (i := 16) rfl)) (by decide) (by decide)) qa18 qc18 (g := (mkF m 39 #[.val (.int p1), .val (.int (2 : Int32)), .val (.ref ca2), .val (.int (0 : Int32)), .val (.ref sa2), .unset, .unset] [(.ref a17), (.ref sa2)])) rfl (by rw [hml]; rfl) (Steps.refl _) (argsL := [(.ref a17)]) (rest := []) (lenOf pd_0_2 rfl) rfl (by show 2 * 0 + _ ≤ _; exact Nat.le_of_eq rfl) (hb hby at_39) (fun _ _ => ⟨rfl, e17, (by decide : 2 + 0 ≤ _), (by decide : 8 + 0 ≤ _)⟩)
    dsimp only [Pt.U, Pt.locs, Pt.cells, Pt.slots] at X18 l18 y18 z18 st18 hQ18
    subst l18 y18 z18
    obtain ⟨rfl, N18q, e18⟩ := hQ18
    have N18 := Fr.app N16 N18q
    refine own_stW (fun t k => st18.trans k) ?_
    show own_FinW _ _ _ _ _ _ _ (T18.setTop (mkF m 42 #[.val (.int p1), .val (.int (2 : Int32)), .val (.ref ca2), .val (.int (0 : Int32)), .val (.ref sa2), .unset, .unset] [(.int (0 : Int32))]))
    refine own_stW (fun t k => XS.ifNo X18.here hx rfl (hb hby at_42) rfl ((if0 _ _).trans (teq (by decide : (0 : Int32) = (0 : Int32))).2) k) ?_
    show own_FinW _ _ _ _ _ _ _ (T18.setTop (mkF m 45 #[.val (.int p1), .val (.int (2 : Int32)), .val (.ref ca2), .val (.int (0 : Int32)), .val (.ref sa2), .unset, .unset] []))
    refine own_stW (fun t k => XS.aload X18.here hx rfl (hb hby at_45) rfl rfl k) ?_
    show own_FinW _ _ _ _ _ _ _ (T18.setTop (mkF m 47 #[.val (.int p1), .val (.int (2 : Int32)), .val (.ref ca2), .val (.int (0 : Int32)), .val (.ref sa2), .unset, .unset] [(.ref sa2)]))
    obtain ⟨a19, T19, h19, k19, b19, kb19, X19, e19, E19, S19, ks19, hZ19, ho19, oE19, oC19, oV19, oA19, -, -, I19, st19⟩ := ldcSV (s := s) (vm0 := T17.vm) (Ts := ["="]) (text := "!=") X18 hx hZ hown (hw _ (List.mem_of_getElem? (i := 37) rfl)) hwS e18 S17 ks17 (by rw [hsz]; exact N18) hkeep I17 (by decide) (hh _ (List.mem_of_getElem? (i := 1) rfl)) hcw (vs := [(.int (33 : Int32)), (.int (61 : Int32))]) (z := (2 : Int32)) (own_text_47) (by decide) rfl (g := (mkF m 47 #[.val (.int p1), .val (.int (2 : Int32)), .val (.ref ca2), .val (.int (0 : Int32)), .val (.ref sa2), .unset, .unset] [(.ref sa2)])) rfl (hb hby at_47) (n := 8) (own_tlen_47) (by decide) (by decide) (by decide)
    have f19_0 := f17_0.ext E19
    have f19_1 := f17_1.ext E19
    have f19_2 := f17_2.ext E19
    have f19_3 := f17_3.ext E19
    have f19_4 := f17_4.ext E19
    have f19_5 := f17_5.ext E19
    have f19_6 := f17_6.ext E19
    have f19_7 := f17_7.ext E19
    have f19_8 := f17_8.ext E19
    have f19_9 := f17_9.ext E19
    have f19_10 := f17_10.ext E19
    have f19_11 := f17_11.ext E19
    have f19_12 := f17_12.ext E19
    have f19_13 := oE17.ext E19
    have f19_14 := oC17.ext E19
    have f19_15 := oV17.ext E19
    have f19_16 := oA17.ext E19
    have Z19 : n0 ≤ h19.size := Nat.le_trans Z17 E19.1
    have hZ := hZ19
    have hown := ho19
    refine own_stW st19 ?_
    show own_FinW _ _ _ _ _ _ _ (T19.setTop (mkF m 49 #[.val (.int p1), .val (.int (2 : Int32)), .val (.ref ca2), .val (.int (0 : Int32)), .val (.ref sa2), .unset, .unset] [(.ref a19), (.ref sa2)]))
    obtain ⟨cq20, kq20, qa20, qb20, qc20⟩ := isOf hZ e19 f19_9
    obtain ⟨_, _, ⟨T20, L20, k20, n20⟩, -, X20, ⟨Lc20, hQ20, l20, y20, z20⟩, st20⟩ := X19.virtualBack hx (y := (⟨"java/lang/String", "equals", "(Ljava/lang/Object;)Z"⟩ : MethodName)) (z := (⟨"java/lang/String", "equals", "(Ljava/lang/Object;)Z"⟩ : MethodName)) hown (mvT hZ (hw _ (List.mem_of_getElem? (i := 23) rfl))) (mvT hZ (hw _ (List.mem_of_getElem? (i := 24) rfl))) (notFace_of_selects (args := #[]) (mvT hZ (hw _ (List.mem_of_getElem? (i := 26) rfl)))) (mvT hZ (hw _ (List.mem_of_getElem? (i := 26) rfl))) (mvT hZ (hw _ (List.mem_of_getElem? (i := 25) rfl))) (by decide) (backOf (W := 0) (rmED l Z a0 hw [] sa2 a19 ba2 b19 ka2 kb19 G1 (1 : Int32) (2 : Int32) [(.int (62 : Int32))] [(.int (33 : Int32)), (.int (61 : Int32))] h19 n0 Z19 f19_9 oE19 f19_10 oC19 f19_11 oV19 f19_12 oA19 f19_6 P5 (own_neD f19_11 f19_12 oV19 oA19 (by decide)) (by decide)) hZ (hw _ (List.mem_of_getElem? (i := 27) rfl)) (hw _ (List.mem_of_getElem? (i := 16) rfl)) (by decide) (by decide)) qa20 qc20 (g := (mkF m 49 #[.val (.int p1), .val (.int (2 : Int32)), .val (.ref ca2), .val (.int (0 : Int32)), .val (.ref sa2), .unset, .unset] [(.ref a19), (.ref sa2)])) rfl (by rw [hml]; rfl) (Steps.refl _) (argsL := [(.ref a19)]) (rest := []) (lenOf pd_0_2 rfl) rfl (by show 2 * 0 + _ ≤ _; exact Nat.le_of_eq rfl) (hb hby at_49) (fun _ _ => ⟨rfl, e19, (by decide : 4 + 0 ≤ _), (by decide : 20 + 0 ≤ _)⟩)
    dsimp only [Pt.U, Pt.locs, Pt.cells, Pt.slots] at X20 l20 y20 z20 st20 hQ20
    subst l20 y20 z20
    obtain ⟨rfl, N20q, e20⟩ := hQ20
    have N20 := Fr.app N18 N20q
    refine own_stW (fun t k => st20.trans k) ?_
    show own_FinW _ _ _ _ _ _ _ (T20.setTop (mkF m 52 #[.val (.int p1), .val (.int (2 : Int32)), .val (.ref ca2), .val (.int (0 : Int32)), .val (.ref sa2), .unset, .unset] [(.int (0 : Int32))]))
    refine own_stW (fun t k => XS.ifYes X20.here hx rfl (pc0 := 52) (pc' := 59) rfl (hb hby at_52) rfl ((if0 _ _).trans (teq (by decide : (0 : Int32) = (0 : Int32))).1) (by decide) (by decide) k) ?_
    show own_FinW _ _ _ _ _ _ _ (T20.setTop (mkF m 59 #[.val (.int p1), .val (.int (2 : Int32)), .val (.ref ca2), .val (.int (0 : Int32)), .val (.ref sa2), .unset, .unset] []))
    refine own_stW (fun t k => XS.iconst X20.here hx rfl (hb hby at_59) k) ?_
    show own_FinW _ _ _ _ _ _ _ (T20.setTop (mkF m 60 #[.val (.int p1), .val (.int (2 : Int32)), .val (.ref ca2), .val (.int (0 : Int32)), .val (.ref sa2), .unset, .unset] [(.int (0 : Int32))]))
    refine own_stW (fun t k => XS.istore X20.here hx rfl (hb hby at_60) rfl (l' := #[.val (.int p1), .val (.int (2 : Int32)), .val (.ref ca2), .val (.int (0 : Int32)), .val (.ref sa2), .val (.int (0 : Int32)), .unset]) rfl k) ?_
    show own_FinW _ _ _ _ _ _ _ (T20.setTop (mkF m 62 #[.val (.int p1), .val (.int (2 : Int32)), .val (.ref ca2), .val (.int (0 : Int32)), .val (.ref sa2), .val (.int (0 : Int32)), .unset] []))
    refine own_stW (fun t k => XS.aloadN X20.here hx rfl (hb hby at_62) rfl rfl k) ?_
    show own_FinW _ _ _ _ _ _ _ (T20.setTop (mkF m 63 #[.val (.int p1), .val (.int (2 : Int32)), .val (.ref ca2), .val (.int (0 : Int32)), .val (.ref sa2), .val (.int (0 : Int32)), .unset] [(.ref ca2)]))
    obtain ⟨cq21, kq21, qa21, qb21, qc21⟩ := isOf hZ e20 f19_7
    obtain ⟨_, _, ⟨T21, L21, k21, n21⟩, -, X21, ⟨Lc21, hQ21, l21, y21, z21⟩, st21⟩ := X20.virtualBack hx (y := (⟨"hedgerow/Comparison", "comparesTexts", "()Z"⟩ : MethodName)) (z := (⟨"hedgerow/Comparison", "comparesTexts", "()Z"⟩ : MethodName)) hown (mvT hZ (hw _ (List.mem_of_getElem? (i := 38) rfl))) (mvT hZ (hw _ (List.mem_of_getElem? (i := 39) rfl))) (notFace_of_selects (args := #[]) (mvT hZ (hw _ (List.mem_of_getElem? (i := 41) rfl)))) (mvT hZ (hw _ (List.mem_of_getElem? (i := 41) rfl))) (mvT hZ (hw _ (List.mem_of_getElem? (i := 40) rfl))) (by decide) (backOf (W := 0) (rm5 l Z a0 hw [] ca2 ca4 ca5 h19 n0 Z19 f19_4 f19_5) hZ (hw _ (List.mem_of_getElem? (i := 42) rfl)) (hw _ (List.mem_of_getElem? (i := 6) rfl)) (by decide) (by decide)) qa21 qc21 (g := (mkF m 63 #[.val (.int p1), .val (.int (2 : Int32)), .val (.ref ca2), .val (.int (0 : Int32)), .val (.ref sa2), .val (.int (0 : Int32)), .unset] [(.ref ca2)])) rfl (by rw [hml]; rfl) (Steps.refl _) (argsL := []) (rest := []) (lenOf pd_0_3 rfl) rfl (by show 2 * 0 + _ ≤ _; exact Nat.le_of_eq rfl) (hb hby at_63) (fun _ _ => ⟨rfl, e20, (by decide : 4 + 0 ≤ _), (by decide : 20 + 0 ≤ _)⟩)
    dsimp only [Pt.U, Pt.locs, Pt.cells, Pt.slots] at X21 l21 y21 z21 st21 hQ21
    subst l21 y21 z21
    obtain ⟨rfl, N21q, e21⟩ := hQ21
    have N21 := Fr.app N20 N21q
    refine own_stW (fun t k => st21.trans k) ?_
    show own_FinW _ _ _ _ _ _ _ (T21.setTop (mkF m 66 #[.val (.int p1), .val (.int (2 : Int32)), .val (.ref ca2), .val (.int (0 : Int32)), .val (.ref sa2), .val (.int (0 : Int32)), .unset] [(.int (own_ct ca2 ca4 ca5))]))
    rw [show (own_ct ca2 ca4 ca5) = (0 : Int32) by unfold own_ct; rw [if_neg ne2_4, if_neg ne2_5]]
    show own_FinW _ _ _ _ _ _ _ (T21.setTop (mkF m 66 #[.val (.int p1), .val (.int (2 : Int32)), .val (.ref ca2), .val (.int (0 : Int32)), .val (.ref sa2), .val (.int (0 : Int32)), .unset] [(.int (0 : Int32))]))
    refine own_stW (fun t k => XS.istore X21.here hx rfl (hb hby at_66) rfl (l' := #[.val (.int p1), .val (.int (2 : Int32)), .val (.ref ca2), .val (.int (0 : Int32)), .val (.ref sa2), .val (.int (0 : Int32)), .val (.int (0 : Int32))]) rfl k) ?_
    show own_FinW _ _ _ _ _ _ _ (T21.setTop (mkF m 68 #[.val (.int p1), .val (.int (2 : Int32)), .val (.ref ca2), .val (.int (0 : Int32)), .val (.ref sa2), .val (.int (0 : Int32)), .val (.int (0 : Int32))] []))
    refine own_stW (fun t k => XS.iload X21.here hx rfl (hb hby at_68) rfl k) ?_
    show own_FinW _ _ _ _ _ _ _ (T21.setTop (mkF m 70 #[.val (.int p1), .val (.int (2 : Int32)), .val (.ref ca2), .val (.int (0 : Int32)), .val (.ref sa2), .val (.int (0 : Int32)), .val (.int (0 : Int32))] [(.int (0 : Int32))]))
    refine own_stW (fun t k => XS.iloadN X21.here hx rfl (hb hby at_70) rfl k) ?_
    show own_FinW _ _ _ _ _ _ _ (T21.setTop (mkF m 71 #[.val (.int p1), .val (.int (2 : Int32)), .val (.ref ca2), .val (.int (0 : Int32)), .val (.ref sa2), .val (.int (0 : Int32)), .val (.int (0 : Int32))] [(.int (0 : Int32)), (.int (0 : Int32))]))
    refine own_stW (fun t k => XS.icmpNo X21.here hx rfl (hb hby at_71) rfl (teq (by decide : (0 : Int32) = (0 : Int32))).2 k) ?_
    show own_FinW _ _ _ _ _ _ _ (T21.setTop (mkF m 74 #[.val (.int p1), .val (.int (2 : Int32)), .val (.ref ca2), .val (.int (0 : Int32)), .val (.ref sa2), .val (.int (0 : Int32)), .val (.int (0 : Int32))] []))
    refine own_stW (fun t k => XS.iload X21.here hx rfl (hb hby at_74) rfl k) ?_
    show own_FinW _ _ _ _ _ _ _ (T21.setTop (mkF m 76 #[.val (.int p1), .val (.int (2 : Int32)), .val (.ref ca2), .val (.int (0 : Int32)), .val (.ref sa2), .val (.int (0 : Int32)), .val (.int (0 : Int32))] [(.int (0 : Int32))]))
    refine own_stW (fun t k => XS.iload X21.here hx rfl (hb hby at_76) rfl k) ?_
    show own_FinW _ _ _ _ _ _ _ (T21.setTop (mkF m 78 #[.val (.int p1), .val (.int (2 : Int32)), .val (.ref ca2), .val (.int (0 : Int32)), .val (.ref sa2), .val (.int (0 : Int32)), .val (.int (0 : Int32))] [(.int (0 : Int32)), (.int (0 : Int32))]))
    refine own_stW (fun t k => XS.icmpNo X21.here hx rfl (hb hby at_78) rfl (teq (by decide : (0 : Int32) = (0 : Int32))).2 k) ?_
    show own_FinW _ _ _ _ _ _ _ (T21.setTop (mkF m 81 #[.val (.int p1), .val (.int (2 : Int32)), .val (.ref ca2), .val (.int (0 : Int32)), .val (.ref sa2), .val (.int (0 : Int32)), .val (.int (0 : Int32))] []))
    refine own_stW (fun t k => XS.iconst X21.here hx rfl (hb hby at_81) k) ?_
    show own_FinW _ _ _ _ _ _ _ (T21.setTop (mkF m 82 #[.val (.int p1), .val (.int (2 : Int32)), .val (.ref ca2), .val (.int (0 : Int32)), .val (.ref sa2), .val (.int (0 : Int32)), .val (.int (0 : Int32))] [(.int (1 : Int32))]))
    refine own_stW (fun t k => XS.goto X21.here hx rfl (pc0 := 82) (pc' := 86) rfl (hb hby at_82) (by decide) (by decide) k) ?_
    show own_FinW _ _ _ _ _ _ _ (T21.setTop (mkF m 86 #[.val (.int p1), .val (.int (2 : Int32)), .val (.ref ca2), .val (.int (0 : Int32)), .val (.ref sa2), .val (.int (0 : Int32)), .val (.int (0 : Int32))] [(.int (1 : Int32))]))
    exact own_retNW X21 S19 (by rw [e21]; exact ks19) hx Bd.notSynchronized (t := .boolean) Bd.returns (by simp) (hb hby at_86) (by decide) (by decide) ⟨rfl, N21, trivial⟩
  · rw [hk]
    show own_FinW _ _ _ _ _ _ _ (s₁.setTop (mkF m 8 #[.val (.int p1), .val (.int (3 : Int32)), .unset, .unset, .unset, .unset, .unset] []))
    refine own_stW (fun t k => XS.iloadN X0.here hx rfl (hb hby at_8) rfl k) ?_
    show own_FinW _ _ _ _ _ _ _ (s₁.setTop (mkF m 9 #[.val (.int p1), .val (.int (3 : Int32)), .unset, .unset, .unset, .unset, .unset] [(.int (3 : Int32))]))
    obtain ⟨_, _, ⟨T22, L22, k22, n22⟩, -, X22, ⟨Lc22, hQ22, l22, y22, z22⟩, st22⟩ := Jvm.LawKit.callS X0 hx (y := (⟨"hedgerow/ComparisonComparesTextsPinLaw", "pick", "(I)Lhedgerow/Comparison;"⟩ : MethodName)) hown (mvT hZ (hw _ (List.mem_of_getElem? (i := 1) rfl))) (mvT hZ (hw _ (List.mem_of_getElem? (i := 2) rfl))) (mvT hZ (hw _ (List.mem_of_getElem? (i := 3) rfl))) (mvT hZ (hw _ (List.mem_of_getElem? (i := 4) rfl))) (by decide) (backOf (W := 0) (rm1 l Z a0 hw [] (3 : Int32) ca0 ca1 ca2 ca3 ca4 ca5 h0 n0 Z0 Sp0 Sp1 Sp2 Sp3 Sp4 Sp5) hZ (hw _ (List.mem_of_getElem? (i := 4) rfl)) (hw _ (List.mem_of_getElem? (i := 3) rfl)) (by decide) (by decide)) (g := (mkF m 9 #[.val (.int p1), .val (.int (3 : Int32)), .unset, .unset, .unset, .unset, .unset] [(.int (3 : Int32))])) rfl (by rw [hml]; rfl) (argsL := [(.int (3 : Int32))]) (rest := []) (lenOf pd_0_0 rfl) rfl (by show 2 * 0 + _ ≤ _; exact Nat.le_of_eq rfl) (hb hby at_9) (fun _ _ => ⟨rfl, e0, (by decide : 0 + 0 ≤ _), (by decide : 0 + 0 ≤ _)⟩)
    dsimp only [Pt.U, Pt.locs, Pt.cells, Pt.slots] at X22 l22 y22 z22 st22 hQ22
    subst l22 y22 z22
    obtain ⟨rfl, N22q, e22⟩ := hQ22
    have N22 := Fr.app N0 N22q
    refine own_stW st22 ?_
    show own_FinW _ _ _ _ _ _ _ (T22.setTop (mkF m 12 #[.val (.int p1), .val (.int (3 : Int32)), .unset, .unset, .unset, .unset, .unset] [(.ref (own_pick (3 : Int32) ca0 ca1 ca2 ca3 ca4 ca5))]))
    rw [show (own_pick (3 : Int32) ca0 ca1 ca2 ca3 ca4 ca5) = ca3 from rfl]
    show own_FinW _ _ _ _ _ _ _ (T22.setTop (mkF m 12 #[.val (.int p1), .val (.int (3 : Int32)), .unset, .unset, .unset, .unset, .unset] [(.ref ca3)]))
    refine own_stW (fun t k => XS.astoreN X22.here hx rfl (hb hby at_12) rfl rfl (l' := #[.val (.int p1), .val (.int (3 : Int32)), .val (.ref ca3), .unset, .unset, .unset, .unset]) rfl k) ?_
    show own_FinW _ _ _ _ _ _ _ (T22.setTop (mkF m 13 #[.val (.int p1), .val (.int (3 : Int32)), .val (.ref ca3), .unset, .unset, .unset, .unset] []))
    refine own_stW (fun t k => XS.iloadN X22.here hx rfl (hb hby at_13) rfl k) ?_
    show own_FinW _ _ _ _ _ _ _ (T22.setTop (mkF m 14 #[.val (.int p1), .val (.int (3 : Int32)), .val (.ref ca3), .unset, .unset, .unset, .unset] [(.int (3 : Int32))]))
    refine own_stW (fun t k => XS.iconst X22.here hx rfl (hb hby at_14) k) ?_
    show own_FinW _ _ _ _ _ _ _ (T22.setTop (mkF m 15 #[.val (.int p1), .val (.int (3 : Int32)), .val (.ref ca3), .unset, .unset, .unset, .unset] [(.int (4 : Int32)), (.int (3 : Int32))]))
    refine own_stW (fun t k => XS.icmpNo X22.here hx rfl (hb hby at_15) rfl (feq (by decide : ¬ ((3 : Int32) = (4 : Int32)))).1 k) ?_
    show own_FinW _ _ _ _ _ _ _ (T22.setTop (mkF m 18 #[.val (.int p1), .val (.int (3 : Int32)), .val (.ref ca3), .unset, .unset, .unset, .unset] []))
    refine own_stW (fun t k => XS.iloadN X22.here hx rfl (hb hby at_18) rfl k) ?_
    show own_FinW _ _ _ _ _ _ _ (T22.setTop (mkF m 19 #[.val (.int p1), .val (.int (3 : Int32)), .val (.ref ca3), .unset, .unset, .unset, .unset] [(.int (3 : Int32))]))
    refine own_stW (fun t k => XS.iconst X22.here hx rfl (hb hby at_19) k) ?_
    show own_FinW _ _ _ _ _ _ _ (T22.setTop (mkF m 20 #[.val (.int p1), .val (.int (3 : Int32)), .val (.ref ca3), .unset, .unset, .unset, .unset] [(.int (5 : Int32)), (.int (3 : Int32))]))
    refine own_stW (fun t k => XS.icmpYes X22.here hx rfl (pc0 := 20) (pc' := 27) rfl (hb hby at_20) rfl (feq (by decide : ¬ ((3 : Int32) = (5 : Int32)))).2 (by decide) (by decide) k) ?_
    show own_FinW _ _ _ _ _ _ _ (T22.setTop (mkF m 27 #[.val (.int p1), .val (.int (3 : Int32)), .val (.ref ca3), .unset, .unset, .unset, .unset] []))
    refine own_stW (fun t k => XS.iconst X22.here hx rfl (hb hby at_27) k) ?_
    show own_FinW _ _ _ _ _ _ _ (T22.setTop (mkF m 28 #[.val (.int p1), .val (.int (3 : Int32)), .val (.ref ca3), .unset, .unset, .unset, .unset] [(.int (0 : Int32))]))
    refine own_stW (fun t k => XS.istoreN X22.here hx rfl (hb hby at_28) rfl (l' := #[.val (.int p1), .val (.int (3 : Int32)), .val (.ref ca3), .val (.int (0 : Int32)), .unset, .unset, .unset]) rfl k) ?_
    show own_FinW _ _ _ _ _ _ _ (T22.setTop (mkF m 29 #[.val (.int p1), .val (.int (3 : Int32)), .val (.ref ca3), .val (.int (0 : Int32)), .unset, .unset, .unset] []))
    refine own_stW (fun t k => XS.aloadN X22.here hx rfl (hb hby at_29) rfl rfl k) ?_
    show own_FinW _ _ _ _ _ _ _ (T22.setTop (mkF m 30 #[.val (.int p1), .val (.int (3 : Int32)), .val (.ref ca3), .val (.int (0 : Int32)), .unset, .unset, .unset] [(.ref ca3)]))
    obtain ⟨cq23, kq23, qa23, qb23, qc23⟩ := isOf hZ e22 Ec3
    obtain ⟨_, _, ⟨T23, L23, k23, n23⟩, -, X23, ⟨Lc23, hQ23, l23, y23, z23⟩, st23⟩ := X22.virtualBack hx (y := (⟨"hedgerow/Comparison", "toString", "()Ljava/lang/String;"⟩ : MethodName)) (z := (⟨"hedgerow/Comparison", "toString", "()Ljava/lang/String;"⟩ : MethodName)) hown (mvT hZ (hw _ (List.mem_of_getElem? (i := 8) rfl))) (mvT hZ (hw _ (List.mem_of_getElem? (i := 9) rfl))) (notFace_of_selects (args := #[]) (mvT hZ (hw _ (List.mem_of_getElem? (i := 11) rfl)))) (mvT hZ (hw _ (List.mem_of_getElem? (i := 11) rfl))) (mvT hZ (hw _ (List.mem_of_getElem? (i := 10) rfl))) (by decide) (backOf (W := 0) (rm2 l Z a0 hw [] ca3 sa3 h0 n0 Z0 Fs3) hZ (hw _ (List.mem_of_getElem? (i := 12) rfl)) (hw _ (List.mem_of_getElem? (i := 6) rfl)) (by decide) (by decide)) qa23 qc23 (g := (mkF m 30 #[.val (.int p1), .val (.int (3 : Int32)), .val (.ref ca3), .val (.int (0 : Int32)), .unset, .unset, .unset] [(.ref ca3)])) rfl (by rw [hml]; rfl) (Steps.refl _) (argsL := []) (rest := []) (lenOf pd_0_1 rfl) rfl (by show 2 * 0 + _ ≤ _; exact Nat.le_of_eq rfl) (hb hby at_30) (fun _ _ => ⟨rfl, e22, (by decide : 0 + 0 ≤ _), (by decide : 0 + 0 ≤ _)⟩)
    dsimp only [Pt.U, Pt.locs, Pt.cells, Pt.slots] at X23 l23 y23 z23 st23 hQ23
    subst l23 y23 z23
    obtain ⟨rfl, N23q, e23⟩ := hQ23
    have N23 := Fr.app N22 N23q
    refine own_stW (fun t k => st23.trans k) ?_
    show own_FinW _ _ _ _ _ _ _ (T23.setTop (mkF m 33 #[.val (.int p1), .val (.int (3 : Int32)), .val (.ref ca3), .val (.int (0 : Int32)), .unset, .unset, .unset] [(.ref sa3)]))
    refine own_stW (fun t k => XS.astore X23.here hx rfl (hb hby at_33) rfl rfl (l' := #[.val (.int p1), .val (.int (3 : Int32)), .val (.ref ca3), .val (.int (0 : Int32)), .val (.ref sa3), .unset, .unset]) rfl k) ?_
    show own_FinW _ _ _ _ _ _ _ (T23.setTop (mkF m 35 #[.val (.int p1), .val (.int (3 : Int32)), .val (.ref ca3), .val (.int (0 : Int32)), .val (.ref sa3), .unset, .unset] []))
    refine own_stW (fun t k => XS.aload X23.here hx rfl (hb hby at_35) rfl rfl k) ?_
    show own_FinW _ _ _ _ _ _ _ (T23.setTop (mkF m 37 #[.val (.int p1), .val (.int (3 : Int32)), .val (.ref ca3), .val (.int (0 : Int32)), .val (.ref sa3), .unset, .unset] [(.ref sa3)]))
    obtain ⟨a24, T24, h24, k24, b24, kb24, X24, e24, E24, S24, ks24, hZ24, ho24, oE24, oC24, oV24, oA24, -, -, I24, st24⟩ := ldcSV (s := s) (vm0 := s.vm) (Ts := []) (text := "=") X23 hx hZ hown (hw _ (List.mem_of_getElem? (i := 15) rfl)) hwS e23 S0 (Nat.le_refl _) (by rw [hsz]; exact N23) hkeep I0 (by decide) (hh _ (List.mem_of_getElem? (i := 0) rfl)) hcw (vs := [(.int (61 : Int32))]) (z := (1 : Int32)) (own_text_37) (by decide) rfl (g := (mkF m 37 #[.val (.int p1), .val (.int (3 : Int32)), .val (.ref ca3), .val (.int (0 : Int32)), .val (.ref sa3), .unset, .unset] [(.ref sa3)])) rfl (hb hby at_37) (n := 4) (own_tlen_37) (by decide) (by decide) (by decide)
    have f24_0 := Sp0.ext E24
    have f24_1 := Sp1.ext E24
    have f24_2 := Sp2.ext E24
    have f24_3 := Sp3.ext E24
    have f24_4 := Sp4.ext E24
    have f24_5 := Sp5.ext E24
    have f24_6 := O2.ext E24
    have f24_7 := Ec3.ext E24
    have f24_8 := Fs3.ext E24
    have f24_9 := Es3.ext E24
    have f24_10 := Fc3.ext E24
    have f24_11 := Fv3.ext E24
    have f24_12 := Vb3.ext E24
    have Z24 : n0 ≤ h24.size := Nat.le_trans Z0 E24.1
    have hZ := hZ24
    have hown := ho24
    refine own_stW st24 ?_
    show own_FinW _ _ _ _ _ _ _ (T24.setTop (mkF m 39 #[.val (.int p1), .val (.int (3 : Int32)), .val (.ref ca3), .val (.int (0 : Int32)), .val (.ref sa3), .unset, .unset] [(.ref a24), (.ref sa3)]))
    obtain ⟨cq25, kq25, qa25, qb25, qc25⟩ := isOf hZ e24 f24_9
    obtain ⟨_, _, ⟨T25, L25, k25, n25⟩, -, X25, ⟨Lc25, hQ25, l25, y25, z25⟩, st25⟩ := X24.virtualBack hx (y := (⟨"java/lang/String", "equals", "(Ljava/lang/Object;)Z"⟩ : MethodName)) (z := (⟨"java/lang/String", "equals", "(Ljava/lang/Object;)Z"⟩ : MethodName)) hown (mvT hZ (hw _ (List.mem_of_getElem? (i := 23) rfl))) (mvT hZ (hw _ (List.mem_of_getElem? (i := 24) rfl))) (notFace_of_selects (args := #[]) (mvT hZ (hw _ (List.mem_of_getElem? (i := 26) rfl)))) (mvT hZ (hw _ (List.mem_of_getElem? (i := 26) rfl))) (mvT hZ (hw _ (List.mem_of_getElem? (i := 25) rfl))) (by decide) (backOf (W := 0) (rmED l Z a0 hw [] sa3 a24 ba3 b24 ka3 kb24 G1 (2 : Int32) (1 : Int32) [(.int (62 : Int32)), (.int (61 : Int32))] [(.int (61 : Int32))] h24 n0 Z24 f24_9 oE24 f24_10 oC24 f24_11 oV24 f24_12 oA24 f24_6 P5 (own_neD f24_11 f24_12 oV24 oA24 (by decide)) (by decide)) hZ (hw _ (List.mem_of_getElem? (i := 27) rfl)) (hw _ (List.mem_of_getElem? (i := 16) rfl)) (by decide) (by decide)) qa25 qc25 (g := (mkF m 39 #[.val (.int p1), .val (.int (3 : Int32)), .val (.ref ca3), .val (.int (0 : Int32)), .val (.ref sa3), .unset, .unset] [(.ref a24), (.ref sa3)])) rfl (by rw [hml]; rfl) (Steps.refl _) (argsL := [(.ref a24)]) (rest := []) (lenOf pd_0_2 rfl) rfl (by show 2 * 0 + _ ≤ _; exact Nat.le_of_eq rfl) (hb hby at_39) (fun _ _ => ⟨rfl, e24, (by decide : 2 + 0 ≤ _), (by decide : 8 + 0 ≤ _)⟩)
    dsimp only [Pt.U, Pt.locs, Pt.cells, Pt.slots] at X25 l25 y25 z25 st25 hQ25
    subst l25 y25 z25
    obtain ⟨rfl, N25q, e25⟩ := hQ25
    have N25 := Fr.app N23 N25q
    refine own_stW (fun t k => st25.trans k) ?_
    show own_FinW _ _ _ _ _ _ _ (T25.setTop (mkF m 42 #[.val (.int p1), .val (.int (3 : Int32)), .val (.ref ca3), .val (.int (0 : Int32)), .val (.ref sa3), .unset, .unset] [(.int (0 : Int32))]))
    refine own_stW (fun t k => XS.ifNo X25.here hx rfl (hb hby at_42) rfl ((if0 _ _).trans (teq (by decide : (0 : Int32) = (0 : Int32))).2) k) ?_
    show own_FinW _ _ _ _ _ _ _ (T25.setTop (mkF m 45 #[.val (.int p1), .val (.int (3 : Int32)), .val (.ref ca3), .val (.int (0 : Int32)), .val (.ref sa3), .unset, .unset] []))
    refine own_stW (fun t k => XS.aload X25.here hx rfl (hb hby at_45) rfl rfl k) ?_
    show own_FinW _ _ _ _ _ _ _ (T25.setTop (mkF m 47 #[.val (.int p1), .val (.int (3 : Int32)), .val (.ref ca3), .val (.int (0 : Int32)), .val (.ref sa3), .unset, .unset] [(.ref sa3)]))
    obtain ⟨a26, T26, h26, k26, b26, kb26, X26, e26, E26, S26, ks26, hZ26, ho26, oE26, oC26, oV26, oA26, -, -, I26, st26⟩ := ldcSV (s := s) (vm0 := T24.vm) (Ts := ["="]) (text := "!=") X25 hx hZ hown (hw _ (List.mem_of_getElem? (i := 37) rfl)) hwS e25 S24 ks24 (by rw [hsz]; exact N25) hkeep I24 (by decide) (hh _ (List.mem_of_getElem? (i := 1) rfl)) hcw (vs := [(.int (33 : Int32)), (.int (61 : Int32))]) (z := (2 : Int32)) (own_text_47) (by decide) rfl (g := (mkF m 47 #[.val (.int p1), .val (.int (3 : Int32)), .val (.ref ca3), .val (.int (0 : Int32)), .val (.ref sa3), .unset, .unset] [(.ref sa3)])) rfl (hb hby at_47) (n := 8) (own_tlen_47) (by decide) (by decide) (by decide)
    have f26_0 := f24_0.ext E26
    have f26_1 := f24_1.ext E26
    have f26_2 := f24_2.ext E26
    have f26_3 := f24_3.ext E26
    have f26_4 := f24_4.ext E26
    have f26_5 := f24_5.ext E26
    have f26_6 := f24_6.ext E26
    have f26_7 := f24_7.ext E26
    have f26_8 := f24_8.ext E26
    have f26_9 := f24_9.ext E26
    have f26_10 := f24_10.ext E26
    have f26_11 := f24_11.ext E26
    have f26_12 := f24_12.ext E26
    have f26_13 := oE24.ext E26
    have f26_14 := oC24.ext E26
    have f26_15 := oV24.ext E26
    have f26_16 := oA24.ext E26
    have Z26 : n0 ≤ h26.size := Nat.le_trans Z24 E26.1
    have hZ := hZ26
    have hown := ho26
    refine own_stW st26 ?_
    show own_FinW _ _ _ _ _ _ _ (T26.setTop (mkF m 49 #[.val (.int p1), .val (.int (3 : Int32)), .val (.ref ca3), .val (.int (0 : Int32)), .val (.ref sa3), .unset, .unset] [(.ref a26), (.ref sa3)]))
    obtain ⟨cq27, kq27, qa27, qb27, qc27⟩ := isOf hZ e26 f26_9
    obtain ⟨_, _, ⟨T27, L27, k27, n27⟩, -, X27, ⟨Lc27, hQ27, l27, y27, z27⟩, st27⟩ := X26.virtualBack hx (y := (⟨"java/lang/String", "equals", "(Ljava/lang/Object;)Z"⟩ : MethodName)) (z := (⟨"java/lang/String", "equals", "(Ljava/lang/Object;)Z"⟩ : MethodName)) hown (mvT hZ (hw _ (List.mem_of_getElem? (i := 23) rfl))) (mvT hZ (hw _ (List.mem_of_getElem? (i := 24) rfl))) (notFace_of_selects (args := #[]) (mvT hZ (hw _ (List.mem_of_getElem? (i := 26) rfl)))) (mvT hZ (hw _ (List.mem_of_getElem? (i := 26) rfl))) (mvT hZ (hw _ (List.mem_of_getElem? (i := 25) rfl))) (by decide) (backOf (W := 0) (rmEF l Z a0 hw [] sa3 a26 ba3 b26 ka3 kb26 G1 (2 : Int32) [(.int (62 : Int32)), (.int (61 : Int32))] [(.int (33 : Int32)), (.int (61 : Int32))] (62 : Int32) (33 : Int32) h26 n0 Z26 f26_9 oE26 f26_10 oC26 f26_11 oV26 f26_12 oA26 f26_6 P5 (own_neF f26_11 f26_12 oV26 oA26 (by decide) (own_vne (by decide))) (by decide) rfl rfl (by decide)) hZ (hw _ (List.mem_of_getElem? (i := 27) rfl)) (hw _ (List.mem_of_getElem? (i := 16) rfl)) (by decide) (by decide)) qa27 qc27 (g := (mkF m 49 #[.val (.int p1), .val (.int (3 : Int32)), .val (.ref ca3), .val (.int (0 : Int32)), .val (.ref sa3), .unset, .unset] [(.ref a26), (.ref sa3)])) rfl (by rw [hml]; rfl) (Steps.refl _) (argsL := [(.ref a26)]) (rest := []) (lenOf pd_0_2 rfl) rfl (by show 2 * 0 + _ ≤ _; exact Nat.le_of_eq rfl) (hb hby at_49) (fun _ _ => ⟨rfl, e26, (by decide : 4 + 0 ≤ _), (by decide : 20 + 0 ≤ _)⟩)
    dsimp only [Pt.U, Pt.locs, Pt.cells, Pt.slots] at X27 l27 y27 z27 st27 hQ27
    subst l27 y27 z27
    obtain ⟨rfl, N27q, e27⟩ := hQ27
    have N27 := Fr.app N25 N27q
    refine own_stW (fun t k => st27.trans k) ?_
    show own_FinW _ _ _ _ _ _ _ (T27.setTop (mkF m 52 #[.val (.int p1), .val (.int (3 : Int32)), .val (.ref ca3), .val (.int (0 : Int32)), .val (.ref sa3), .unset, .unset] [(.int (0 : Int32))]))
    refine own_stW (fun t k => XS.ifYes X27.here hx rfl (pc0 := 52) (pc' := 59) rfl (hb hby at_52) rfl ((if0 _ _).trans (teq (by decide : (0 : Int32) = (0 : Int32))).1) (by decide) (by decide) k) ?_
    show own_FinW _ _ _ _ _ _ _ (T27.setTop (mkF m 59 #[.val (.int p1), .val (.int (3 : Int32)), .val (.ref ca3), .val (.int (0 : Int32)), .val (.ref sa3), .unset, .unset] []))
    refine own_stW (fun t k => XS.iconst X27.here hx rfl (hb hby at_59) k) ?_
    show own_FinW _ _ _ _ _ _ _ (T27.setTop (mkF m 60 #[.val (.int p1), .val (.int (3 : Int32)), .val (.ref ca3), .val (.int (0 : Int32)), .val (.ref sa3), .unset, .unset] [(.int (0 : Int32))]))
    refine own_stW (fun t k => XS.istore X27.here hx rfl (hb hby at_60) rfl (l' := #[.val (.int p1), .val (.int (3 : Int32)), .val (.ref ca3), .val (.int (0 : Int32)), .val (.ref sa3), .val (.int (0 : Int32)), .unset]) rfl k) ?_
    show own_FinW _ _ _ _ _ _ _ (T27.setTop (mkF m 62 #[.val (.int p1), .val (.int (3 : Int32)), .val (.ref ca3), .val (.int (0 : Int32)), .val (.ref sa3), .val (.int (0 : Int32)), .unset] []))
    refine own_stW (fun t k => XS.aloadN X27.here hx rfl (hb hby at_62) rfl rfl k) ?_
    show own_FinW _ _ _ _ _ _ _ (T27.setTop (mkF m 63 #[.val (.int p1), .val (.int (3 : Int32)), .val (.ref ca3), .val (.int (0 : Int32)), .val (.ref sa3), .val (.int (0 : Int32)), .unset] [(.ref ca3)]))
    obtain ⟨cq28, kq28, qa28, qb28, qc28⟩ := isOf hZ e27 f26_7
    obtain ⟨_, _, ⟨T28, L28, k28, n28⟩, -, X28, ⟨Lc28, hQ28, l28, y28, z28⟩, st28⟩ := X27.virtualBack hx (y := (⟨"hedgerow/Comparison", "comparesTexts", "()Z"⟩ : MethodName)) (z := (⟨"hedgerow/Comparison", "comparesTexts", "()Z"⟩ : MethodName)) hown (mvT hZ (hw _ (List.mem_of_getElem? (i := 38) rfl))) (mvT hZ (hw _ (List.mem_of_getElem? (i := 39) rfl))) (notFace_of_selects (args := #[]) (mvT hZ (hw _ (List.mem_of_getElem? (i := 41) rfl)))) (mvT hZ (hw _ (List.mem_of_getElem? (i := 41) rfl))) (mvT hZ (hw _ (List.mem_of_getElem? (i := 40) rfl))) (by decide) (backOf (W := 0) (rm5 l Z a0 hw [] ca3 ca4 ca5 h26 n0 Z26 f26_4 f26_5) hZ (hw _ (List.mem_of_getElem? (i := 42) rfl)) (hw _ (List.mem_of_getElem? (i := 6) rfl)) (by decide) (by decide)) qa28 qc28 (g := (mkF m 63 #[.val (.int p1), .val (.int (3 : Int32)), .val (.ref ca3), .val (.int (0 : Int32)), .val (.ref sa3), .val (.int (0 : Int32)), .unset] [(.ref ca3)])) rfl (by rw [hml]; rfl) (Steps.refl _) (argsL := []) (rest := []) (lenOf pd_0_3 rfl) rfl (by show 2 * 0 + _ ≤ _; exact Nat.le_of_eq rfl) (hb hby at_63) (fun _ _ => ⟨rfl, e27, (by decide : 4 + 0 ≤ _), (by decide : 20 + 0 ≤ _)⟩)
    dsimp only [Pt.U, Pt.locs, Pt.cells, Pt.slots] at X28 l28 y28 z28 st28 hQ28
    subst l28 y28 z28
    obtain ⟨rfl, N28q, e28⟩ := hQ28
    have N28 := Fr.app N27 N28q
    refine own_stW (fun t k => st28.trans k) ?_
    show own_FinW _ _ _ _ _ _ _ (T28.setTop (mkF m 66 #[.val (.int p1), .val (.int (3 : Int32)), .val (.ref ca3), .val (.int (0 : Int32)), .val (.ref sa3), .val (.int (0 : Int32)), .unset] [(.int (own_ct ca3 ca4 ca5))]))
    rw [show (own_ct ca3 ca4 ca5) = (0 : Int32) by unfold own_ct; rw [if_neg ne3_4, if_neg ne3_5]]
    show own_FinW _ _ _ _ _ _ _ (T28.setTop (mkF m 66 #[.val (.int p1), .val (.int (3 : Int32)), .val (.ref ca3), .val (.int (0 : Int32)), .val (.ref sa3), .val (.int (0 : Int32)), .unset] [(.int (0 : Int32))]))
    refine own_stW (fun t k => XS.istore X28.here hx rfl (hb hby at_66) rfl (l' := #[.val (.int p1), .val (.int (3 : Int32)), .val (.ref ca3), .val (.int (0 : Int32)), .val (.ref sa3), .val (.int (0 : Int32)), .val (.int (0 : Int32))]) rfl k) ?_
    show own_FinW _ _ _ _ _ _ _ (T28.setTop (mkF m 68 #[.val (.int p1), .val (.int (3 : Int32)), .val (.ref ca3), .val (.int (0 : Int32)), .val (.ref sa3), .val (.int (0 : Int32)), .val (.int (0 : Int32))] []))
    refine own_stW (fun t k => XS.iload X28.here hx rfl (hb hby at_68) rfl k) ?_
    show own_FinW _ _ _ _ _ _ _ (T28.setTop (mkF m 70 #[.val (.int p1), .val (.int (3 : Int32)), .val (.ref ca3), .val (.int (0 : Int32)), .val (.ref sa3), .val (.int (0 : Int32)), .val (.int (0 : Int32))] [(.int (0 : Int32))]))
    refine own_stW (fun t k => XS.iloadN X28.here hx rfl (hb hby at_70) rfl k) ?_
    show own_FinW _ _ _ _ _ _ _ (T28.setTop (mkF m 71 #[.val (.int p1), .val (.int (3 : Int32)), .val (.ref ca3), .val (.int (0 : Int32)), .val (.ref sa3), .val (.int (0 : Int32)), .val (.int (0 : Int32))] [(.int (0 : Int32)), (.int (0 : Int32))]))
    refine own_stW (fun t k => XS.icmpNo X28.here hx rfl (hb hby at_71) rfl (teq (by decide : (0 : Int32) = (0 : Int32))).2 k) ?_
    show own_FinW _ _ _ _ _ _ _ (T28.setTop (mkF m 74 #[.val (.int p1), .val (.int (3 : Int32)), .val (.ref ca3), .val (.int (0 : Int32)), .val (.ref sa3), .val (.int (0 : Int32)), .val (.int (0 : Int32))] []))
    refine own_stW (fun t k => XS.iload X28.here hx rfl (hb hby at_74) rfl k) ?_
    show own_FinW _ _ _ _ _ _ _ (T28.setTop (mkF m 76 #[.val (.int p1), .val (.int (3 : Int32)), .val (.ref ca3), .val (.int (0 : Int32)), .val (.ref sa3), .val (.int (0 : Int32)), .val (.int (0 : Int32))] [(.int (0 : Int32))]))
    refine own_stW (fun t k => XS.iload X28.here hx rfl (hb hby at_76) rfl k) ?_
    show own_FinW _ _ _ _ _ _ _ (T28.setTop (mkF m 78 #[.val (.int p1), .val (.int (3 : Int32)), .val (.ref ca3), .val (.int (0 : Int32)), .val (.ref sa3), .val (.int (0 : Int32)), .val (.int (0 : Int32))] [(.int (0 : Int32)), (.int (0 : Int32))]))
    refine own_stW (fun t k => XS.icmpNo X28.here hx rfl (hb hby at_78) rfl (teq (by decide : (0 : Int32) = (0 : Int32))).2 k) ?_
    show own_FinW _ _ _ _ _ _ _ (T28.setTop (mkF m 81 #[.val (.int p1), .val (.int (3 : Int32)), .val (.ref ca3), .val (.int (0 : Int32)), .val (.ref sa3), .val (.int (0 : Int32)), .val (.int (0 : Int32))] []))
    refine own_stW (fun t k => XS.iconst X28.here hx rfl (hb hby at_81) k) ?_
    show own_FinW _ _ _ _ _ _ _ (T28.setTop (mkF m 82 #[.val (.int p1), .val (.int (3 : Int32)), .val (.ref ca3), .val (.int (0 : Int32)), .val (.ref sa3), .val (.int (0 : Int32)), .val (.int (0 : Int32))] [(.int (1 : Int32))]))
    refine own_stW (fun t k => XS.goto X28.here hx rfl (pc0 := 82) (pc' := 86) rfl (hb hby at_82) (by decide) (by decide) k) ?_
    show own_FinW _ _ _ _ _ _ _ (T28.setTop (mkF m 86 #[.val (.int p1), .val (.int (3 : Int32)), .val (.ref ca3), .val (.int (0 : Int32)), .val (.ref sa3), .val (.int (0 : Int32)), .val (.int (0 : Int32))] [(.int (1 : Int32))]))
    exact own_retNW X28 S26 (by rw [e28]; exact ks26) hx Bd.notSynchronized (t := .boolean) Bd.returns (by simp) (hb hby at_86) (by decide) (by decide) ⟨rfl, N28, trivial⟩
  · rw [hk]
    show own_FinW _ _ _ _ _ _ _ (s₁.setTop (mkF m 8 #[.val (.int p1), .val (.int (4 : Int32)), .unset, .unset, .unset, .unset, .unset] []))
    refine own_stW (fun t k => XS.iloadN X0.here hx rfl (hb hby at_8) rfl k) ?_
    show own_FinW _ _ _ _ _ _ _ (s₁.setTop (mkF m 9 #[.val (.int p1), .val (.int (4 : Int32)), .unset, .unset, .unset, .unset, .unset] [(.int (4 : Int32))]))
    obtain ⟨_, _, ⟨T29, L29, k29, n29⟩, -, X29, ⟨Lc29, hQ29, l29, y29, z29⟩, st29⟩ := Jvm.LawKit.callS X0 hx (y := (⟨"hedgerow/ComparisonComparesTextsPinLaw", "pick", "(I)Lhedgerow/Comparison;"⟩ : MethodName)) hown (mvT hZ (hw _ (List.mem_of_getElem? (i := 1) rfl))) (mvT hZ (hw _ (List.mem_of_getElem? (i := 2) rfl))) (mvT hZ (hw _ (List.mem_of_getElem? (i := 3) rfl))) (mvT hZ (hw _ (List.mem_of_getElem? (i := 4) rfl))) (by decide) (backOf (W := 0) (rm1 l Z a0 hw [] (4 : Int32) ca0 ca1 ca2 ca3 ca4 ca5 h0 n0 Z0 Sp0 Sp1 Sp2 Sp3 Sp4 Sp5) hZ (hw _ (List.mem_of_getElem? (i := 4) rfl)) (hw _ (List.mem_of_getElem? (i := 3) rfl)) (by decide) (by decide)) (g := (mkF m 9 #[.val (.int p1), .val (.int (4 : Int32)), .unset, .unset, .unset, .unset, .unset] [(.int (4 : Int32))])) rfl (by rw [hml]; rfl) (argsL := [(.int (4 : Int32))]) (rest := []) (lenOf pd_0_0 rfl) rfl (by show 2 * 0 + _ ≤ _; exact Nat.le_of_eq rfl) (hb hby at_9) (fun _ _ => ⟨rfl, e0, (by decide : 0 + 0 ≤ _), (by decide : 0 + 0 ≤ _)⟩)
    dsimp only [Pt.U, Pt.locs, Pt.cells, Pt.slots] at X29 l29 y29 z29 st29 hQ29
    subst l29 y29 z29
    obtain ⟨rfl, N29q, e29⟩ := hQ29
    have N29 := Fr.app N0 N29q
    refine own_stW st29 ?_
    show own_FinW _ _ _ _ _ _ _ (T29.setTop (mkF m 12 #[.val (.int p1), .val (.int (4 : Int32)), .unset, .unset, .unset, .unset, .unset] [(.ref (own_pick (4 : Int32) ca0 ca1 ca2 ca3 ca4 ca5))]))
    rw [show (own_pick (4 : Int32) ca0 ca1 ca2 ca3 ca4 ca5) = ca4 from rfl]
    show own_FinW _ _ _ _ _ _ _ (T29.setTop (mkF m 12 #[.val (.int p1), .val (.int (4 : Int32)), .unset, .unset, .unset, .unset, .unset] [(.ref ca4)]))
    refine own_stW (fun t k => XS.astoreN X29.here hx rfl (hb hby at_12) rfl rfl (l' := #[.val (.int p1), .val (.int (4 : Int32)), .val (.ref ca4), .unset, .unset, .unset, .unset]) rfl k) ?_
    show own_FinW _ _ _ _ _ _ _ (T29.setTop (mkF m 13 #[.val (.int p1), .val (.int (4 : Int32)), .val (.ref ca4), .unset, .unset, .unset, .unset] []))
    refine own_stW (fun t k => XS.iloadN X29.here hx rfl (hb hby at_13) rfl k) ?_
    show own_FinW _ _ _ _ _ _ _ (T29.setTop (mkF m 14 #[.val (.int p1), .val (.int (4 : Int32)), .val (.ref ca4), .unset, .unset, .unset, .unset] [(.int (4 : Int32))]))
    refine own_stW (fun t k => XS.iconst X29.here hx rfl (hb hby at_14) k) ?_
    show own_FinW _ _ _ _ _ _ _ (T29.setTop (mkF m 15 #[.val (.int p1), .val (.int (4 : Int32)), .val (.ref ca4), .unset, .unset, .unset, .unset] [(.int (4 : Int32)), (.int (4 : Int32))]))
    refine own_stW (fun t k => XS.icmpYes X29.here hx rfl (pc0 := 15) (pc' := 23) rfl (hb hby at_15) rfl (teq (by decide : (4 : Int32) = (4 : Int32))).1 (by decide) (by decide) k) ?_
    show own_FinW _ _ _ _ _ _ _ (T29.setTop (mkF m 23 #[.val (.int p1), .val (.int (4 : Int32)), .val (.ref ca4), .unset, .unset, .unset, .unset] []))
    refine own_stW (fun t k => XS.iconst X29.here hx rfl (hb hby at_23) k) ?_
    show own_FinW _ _ _ _ _ _ _ (T29.setTop (mkF m 24 #[.val (.int p1), .val (.int (4 : Int32)), .val (.ref ca4), .unset, .unset, .unset, .unset] [(.int (1 : Int32))]))
    refine own_stW (fun t k => XS.goto X29.here hx rfl (pc0 := 24) (pc' := 28) rfl (hb hby at_24) (by decide) (by decide) k) ?_
    show own_FinW _ _ _ _ _ _ _ (T29.setTop (mkF m 28 #[.val (.int p1), .val (.int (4 : Int32)), .val (.ref ca4), .unset, .unset, .unset, .unset] [(.int (1 : Int32))]))
    refine own_stW (fun t k => XS.istoreN X29.here hx rfl (hb hby at_28) rfl (l' := #[.val (.int p1), .val (.int (4 : Int32)), .val (.ref ca4), .val (.int (1 : Int32)), .unset, .unset, .unset]) rfl k) ?_
    show own_FinW _ _ _ _ _ _ _ (T29.setTop (mkF m 29 #[.val (.int p1), .val (.int (4 : Int32)), .val (.ref ca4), .val (.int (1 : Int32)), .unset, .unset, .unset] []))
    refine own_stW (fun t k => XS.aloadN X29.here hx rfl (hb hby at_29) rfl rfl k) ?_
    show own_FinW _ _ _ _ _ _ _ (T29.setTop (mkF m 30 #[.val (.int p1), .val (.int (4 : Int32)), .val (.ref ca4), .val (.int (1 : Int32)), .unset, .unset, .unset] [(.ref ca4)]))
    obtain ⟨cq30, kq30, qa30, qb30, qc30⟩ := isOf hZ e29 Ec4
    obtain ⟨_, _, ⟨T30, L30, k30, n30⟩, -, X30, ⟨Lc30, hQ30, l30, y30, z30⟩, st30⟩ := X29.virtualBack hx (y := (⟨"hedgerow/Comparison", "toString", "()Ljava/lang/String;"⟩ : MethodName)) (z := (⟨"hedgerow/Comparison", "toString", "()Ljava/lang/String;"⟩ : MethodName)) hown (mvT hZ (hw _ (List.mem_of_getElem? (i := 8) rfl))) (mvT hZ (hw _ (List.mem_of_getElem? (i := 9) rfl))) (notFace_of_selects (args := #[]) (mvT hZ (hw _ (List.mem_of_getElem? (i := 11) rfl)))) (mvT hZ (hw _ (List.mem_of_getElem? (i := 11) rfl))) (mvT hZ (hw _ (List.mem_of_getElem? (i := 10) rfl))) (by decide) (backOf (W := 0) (rm2 l Z a0 hw [] ca4 sa4 h0 n0 Z0 Fs4) hZ (hw _ (List.mem_of_getElem? (i := 12) rfl)) (hw _ (List.mem_of_getElem? (i := 6) rfl)) (by decide) (by decide)) qa30 qc30 (g := (mkF m 30 #[.val (.int p1), .val (.int (4 : Int32)), .val (.ref ca4), .val (.int (1 : Int32)), .unset, .unset, .unset] [(.ref ca4)])) rfl (by rw [hml]; rfl) (Steps.refl _) (argsL := []) (rest := []) (lenOf pd_0_1 rfl) rfl (by show 2 * 0 + _ ≤ _; exact Nat.le_of_eq rfl) (hb hby at_30) (fun _ _ => ⟨rfl, e29, (by decide : 0 + 0 ≤ _), (by decide : 0 + 0 ≤ _)⟩)
    dsimp only [Pt.U, Pt.locs, Pt.cells, Pt.slots] at X30 l30 y30 z30 st30 hQ30
    subst l30 y30 z30
    obtain ⟨rfl, N30q, e30⟩ := hQ30
    have N30 := Fr.app N29 N30q
    refine own_stW (fun t k => st30.trans k) ?_
    show own_FinW _ _ _ _ _ _ _ (T30.setTop (mkF m 33 #[.val (.int p1), .val (.int (4 : Int32)), .val (.ref ca4), .val (.int (1 : Int32)), .unset, .unset, .unset] [(.ref sa4)]))
    refine own_stW (fun t k => XS.astore X30.here hx rfl (hb hby at_33) rfl rfl (l' := #[.val (.int p1), .val (.int (4 : Int32)), .val (.ref ca4), .val (.int (1 : Int32)), .val (.ref sa4), .unset, .unset]) rfl k) ?_
    show own_FinW _ _ _ _ _ _ _ (T30.setTop (mkF m 35 #[.val (.int p1), .val (.int (4 : Int32)), .val (.ref ca4), .val (.int (1 : Int32)), .val (.ref sa4), .unset, .unset] []))
    refine own_stW (fun t k => XS.aload X30.here hx rfl (hb hby at_35) rfl rfl k) ?_
    show own_FinW _ _ _ _ _ _ _ (T30.setTop (mkF m 37 #[.val (.int p1), .val (.int (4 : Int32)), .val (.ref ca4), .val (.int (1 : Int32)), .val (.ref sa4), .unset, .unset] [(.ref sa4)]))
    obtain ⟨a31, T31, h31, k31, b31, kb31, X31, e31, E31, S31, ks31, hZ31, ho31, oE31, oC31, oV31, oA31, -, -, I31, st31⟩ := ldcSV (s := s) (vm0 := s.vm) (Ts := []) (text := "=") X30 hx hZ hown (hw _ (List.mem_of_getElem? (i := 15) rfl)) hwS e30 S0 (Nat.le_refl _) (by rw [hsz]; exact N30) hkeep I0 (by decide) (hh _ (List.mem_of_getElem? (i := 0) rfl)) hcw (vs := [(.int (61 : Int32))]) (z := (1 : Int32)) (own_text_37) (by decide) rfl (g := (mkF m 37 #[.val (.int p1), .val (.int (4 : Int32)), .val (.ref ca4), .val (.int (1 : Int32)), .val (.ref sa4), .unset, .unset] [(.ref sa4)])) rfl (hb hby at_37) (n := 4) (own_tlen_37) (by decide) (by decide) (by decide)
    have f31_0 := Sp0.ext E31
    have f31_1 := Sp1.ext E31
    have f31_2 := Sp2.ext E31
    have f31_3 := Sp3.ext E31
    have f31_4 := Sp4.ext E31
    have f31_5 := Sp5.ext E31
    have f31_6 := O2.ext E31
    have f31_7 := Ec4.ext E31
    have f31_8 := Fs4.ext E31
    have f31_9 := Es4.ext E31
    have f31_10 := Fc4.ext E31
    have f31_11 := Fv4.ext E31
    have f31_12 := Vb4.ext E31
    have Z31 : n0 ≤ h31.size := Nat.le_trans Z0 E31.1
    have hZ := hZ31
    have hown := ho31
    refine own_stW st31 ?_
    show own_FinW _ _ _ _ _ _ _ (T31.setTop (mkF m 39 #[.val (.int p1), .val (.int (4 : Int32)), .val (.ref ca4), .val (.int (1 : Int32)), .val (.ref sa4), .unset, .unset] [(.ref a31), (.ref sa4)]))
    obtain ⟨cq32, kq32, qa32, qb32, qc32⟩ := isOf hZ e31 f31_9
    obtain ⟨_, _, ⟨T32, L32, k32, n32⟩, -, X32, ⟨Lc32, hQ32, l32, y32, z32⟩, st32⟩ := X31.virtualBack hx (y := (⟨"java/lang/String", "equals", "(Ljava/lang/Object;)Z"⟩ : MethodName)) (z := (⟨"java/lang/String", "equals", "(Ljava/lang/Object;)Z"⟩ : MethodName)) hown (mvT hZ (hw _ (List.mem_of_getElem? (i := 23) rfl))) (mvT hZ (hw _ (List.mem_of_getElem? (i := 24) rfl))) (notFace_of_selects (args := #[]) (mvT hZ (hw _ (List.mem_of_getElem? (i := 26) rfl)))) (mvT hZ (hw _ (List.mem_of_getElem? (i := 26) rfl))) (mvT hZ (hw _ (List.mem_of_getElem? (i := 25) rfl))) (by decide) (backOf (W := 0) (rmE1 l Z a0 hw [] sa4 a31 ba4 b31 ka4 kb31 G1 (61 : Int32) h31 n0 Z31 f31_9 oE31 f31_10 oC31 f31_11 oV31 f31_12 oA31 f31_6 P5) hZ (hw _ (List.mem_of_getElem? (i := 27) rfl)) (hw _ (List.mem_of_getElem? (i := 16) rfl)) (by decide) (by decide)) qa32 qc32 (g := (mkF m 39 #[.val (.int p1), .val (.int (4 : Int32)), .val (.ref ca4), .val (.int (1 : Int32)), .val (.ref sa4), .unset, .unset] [(.ref a31), (.ref sa4)])) rfl (by rw [hml]; rfl) (Steps.refl _) (argsL := [(.ref a31)]) (rest := []) (lenOf pd_0_2 rfl) rfl (by show 2 * 0 + _ ≤ _; exact Nat.le_of_eq rfl) (hb hby at_39) (fun _ _ => ⟨rfl, e31, (by decide : 2 + 0 ≤ _), (by decide : 8 + 0 ≤ _)⟩)
    dsimp only [Pt.U, Pt.locs, Pt.cells, Pt.slots] at X32 l32 y32 z32 st32 hQ32
    subst l32 y32 z32
    obtain ⟨rfl, N32q, e32⟩ := hQ32
    have N32 := Fr.app N30 N32q
    refine own_stW (fun t k => st32.trans k) ?_
    show own_FinW _ _ _ _ _ _ _ (T32.setTop (mkF m 42 #[.val (.int p1), .val (.int (4 : Int32)), .val (.ref ca4), .val (.int (1 : Int32)), .val (.ref sa4), .unset, .unset] [(.int (1 : Int32))]))
    refine own_stW (fun t k => XS.ifYes X32.here hx rfl (pc0 := 42) (pc' := 55) rfl (hb hby at_42) rfl ((if0 _ _).trans (feq (by decide : ¬ ((1 : Int32) = (0 : Int32)))).2) (by decide) (by decide) k) ?_
    show own_FinW _ _ _ _ _ _ _ (T32.setTop (mkF m 55 #[.val (.int p1), .val (.int (4 : Int32)), .val (.ref ca4), .val (.int (1 : Int32)), .val (.ref sa4), .unset, .unset] []))
    refine own_stW (fun t k => XS.iconst X32.here hx rfl (hb hby at_55) k) ?_
    show own_FinW _ _ _ _ _ _ _ (T32.setTop (mkF m 56 #[.val (.int p1), .val (.int (4 : Int32)), .val (.ref ca4), .val (.int (1 : Int32)), .val (.ref sa4), .unset, .unset] [(.int (1 : Int32))]))
    refine own_stW (fun t k => XS.goto X32.here hx rfl (pc0 := 56) (pc' := 60) rfl (hb hby at_56) (by decide) (by decide) k) ?_
    show own_FinW _ _ _ _ _ _ _ (T32.setTop (mkF m 60 #[.val (.int p1), .val (.int (4 : Int32)), .val (.ref ca4), .val (.int (1 : Int32)), .val (.ref sa4), .unset, .unset] [(.int (1 : Int32))]))
    refine own_stW (fun t k => XS.istore X32.here hx rfl (hb hby at_60) rfl (l' := #[.val (.int p1), .val (.int (4 : Int32)), .val (.ref ca4), .val (.int (1 : Int32)), .val (.ref sa4), .val (.int (1 : Int32)), .unset]) rfl k) ?_
    show own_FinW _ _ _ _ _ _ _ (T32.setTop (mkF m 62 #[.val (.int p1), .val (.int (4 : Int32)), .val (.ref ca4), .val (.int (1 : Int32)), .val (.ref sa4), .val (.int (1 : Int32)), .unset] []))
    refine own_stW (fun t k => XS.aloadN X32.here hx rfl (hb hby at_62) rfl rfl k) ?_
    show own_FinW _ _ _ _ _ _ _ (T32.setTop (mkF m 63 #[.val (.int p1), .val (.int (4 : Int32)), .val (.ref ca4), .val (.int (1 : Int32)), .val (.ref sa4), .val (.int (1 : Int32)), .unset] [(.ref ca4)]))
    obtain ⟨cq33, kq33, qa33, qb33, qc33⟩ := isOf hZ e32 f31_7
    obtain ⟨_, _, ⟨T33, L33, k33, n33⟩, -, X33, ⟨Lc33, hQ33, l33, y33, z33⟩, st33⟩ := X32.virtualBack hx (y := (⟨"hedgerow/Comparison", "comparesTexts", "()Z"⟩ : MethodName)) (z := (⟨"hedgerow/Comparison", "comparesTexts", "()Z"⟩ : MethodName)) hown (mvT hZ (hw _ (List.mem_of_getElem? (i := 38) rfl))) (mvT hZ (hw _ (List.mem_of_getElem? (i := 39) rfl))) (notFace_of_selects (args := #[]) (mvT hZ (hw _ (List.mem_of_getElem? (i := 41) rfl)))) (mvT hZ (hw _ (List.mem_of_getElem? (i := 41) rfl))) (mvT hZ (hw _ (List.mem_of_getElem? (i := 40) rfl))) (by decide) (backOf (W := 0) (rm5 l Z a0 hw [] ca4 ca4 ca5 h31 n0 Z31 f31_4 f31_5) hZ (hw _ (List.mem_of_getElem? (i := 42) rfl)) (hw _ (List.mem_of_getElem? (i := 6) rfl)) (by decide) (by decide)) qa33 qc33 (g := (mkF m 63 #[.val (.int p1), .val (.int (4 : Int32)), .val (.ref ca4), .val (.int (1 : Int32)), .val (.ref sa4), .val (.int (1 : Int32)), .unset] [(.ref ca4)])) rfl (by rw [hml]; rfl) (Steps.refl _) (argsL := []) (rest := []) (lenOf pd_0_3 rfl) rfl (by show 2 * 0 + _ ≤ _; exact Nat.le_of_eq rfl) (hb hby at_63) (fun _ _ => ⟨rfl, e32, (by decide : 2 + 0 ≤ _), (by decide : 8 + 0 ≤ _)⟩)
    dsimp only [Pt.U, Pt.locs, Pt.cells, Pt.slots] at X33 l33 y33 z33 st33 hQ33
    subst l33 y33 z33
    obtain ⟨rfl, N33q, e33⟩ := hQ33
    have N33 := Fr.app N32 N33q
    refine own_stW (fun t k => st33.trans k) ?_
    show own_FinW _ _ _ _ _ _ _ (T33.setTop (mkF m 66 #[.val (.int p1), .val (.int (4 : Int32)), .val (.ref ca4), .val (.int (1 : Int32)), .val (.ref sa4), .val (.int (1 : Int32)), .unset] [(.int (own_ct ca4 ca4 ca5))]))
    rw [show (own_ct ca4 ca4 ca5) = (1 : Int32) by unfold own_ct; rw [if_pos rfl]]
    show own_FinW _ _ _ _ _ _ _ (T33.setTop (mkF m 66 #[.val (.int p1), .val (.int (4 : Int32)), .val (.ref ca4), .val (.int (1 : Int32)), .val (.ref sa4), .val (.int (1 : Int32)), .unset] [(.int (1 : Int32))]))
    refine own_stW (fun t k => XS.istore X33.here hx rfl (hb hby at_66) rfl (l' := #[.val (.int p1), .val (.int (4 : Int32)), .val (.ref ca4), .val (.int (1 : Int32)), .val (.ref sa4), .val (.int (1 : Int32)), .val (.int (1 : Int32))]) rfl k) ?_
    show own_FinW _ _ _ _ _ _ _ (T33.setTop (mkF m 68 #[.val (.int p1), .val (.int (4 : Int32)), .val (.ref ca4), .val (.int (1 : Int32)), .val (.ref sa4), .val (.int (1 : Int32)), .val (.int (1 : Int32))] []))
    refine own_stW (fun t k => XS.iload X33.here hx rfl (hb hby at_68) rfl k) ?_
    show own_FinW _ _ _ _ _ _ _ (T33.setTop (mkF m 70 #[.val (.int p1), .val (.int (4 : Int32)), .val (.ref ca4), .val (.int (1 : Int32)), .val (.ref sa4), .val (.int (1 : Int32)), .val (.int (1 : Int32))] [(.int (1 : Int32))]))
    refine own_stW (fun t k => XS.iloadN X33.here hx rfl (hb hby at_70) rfl k) ?_
    show own_FinW _ _ _ _ _ _ _ (T33.setTop (mkF m 71 #[.val (.int p1), .val (.int (4 : Int32)), .val (.ref ca4), .val (.int (1 : Int32)), .val (.ref sa4), .val (.int (1 : Int32)), .val (.int (1 : Int32))] [(.int (1 : Int32)), (.int (1 : Int32))]))
    refine own_stW (fun t k => XS.icmpNo X33.here hx rfl (hb hby at_71) rfl (teq (by decide : (1 : Int32) = (1 : Int32))).2 k) ?_
    show own_FinW _ _ _ _ _ _ _ (T33.setTop (mkF m 74 #[.val (.int p1), .val (.int (4 : Int32)), .val (.ref ca4), .val (.int (1 : Int32)), .val (.ref sa4), .val (.int (1 : Int32)), .val (.int (1 : Int32))] []))
    refine own_stW (fun t k => XS.iload X33.here hx rfl (hb hby at_74) rfl k) ?_
    show own_FinW _ _ _ _ _ _ _ (T33.setTop (mkF m 76 #[.val (.int p1), .val (.int (4 : Int32)), .val (.ref ca4), .val (.int (1 : Int32)), .val (.ref sa4), .val (.int (1 : Int32)), .val (.int (1 : Int32))] [(.int (1 : Int32))]))
    refine own_stW (fun t k => XS.iload X33.here hx rfl (hb hby at_76) rfl k) ?_
    show own_FinW _ _ _ _ _ _ _ (T33.setTop (mkF m 78 #[.val (.int p1), .val (.int (4 : Int32)), .val (.ref ca4), .val (.int (1 : Int32)), .val (.ref sa4), .val (.int (1 : Int32)), .val (.int (1 : Int32))] [(.int (1 : Int32)), (.int (1 : Int32))]))
    refine own_stW (fun t k => XS.icmpNo X33.here hx rfl (hb hby at_78) rfl (teq (by decide : (1 : Int32) = (1 : Int32))).2 k) ?_
    show own_FinW _ _ _ _ _ _ _ (T33.setTop (mkF m 81 #[.val (.int p1), .val (.int (4 : Int32)), .val (.ref ca4), .val (.int (1 : Int32)), .val (.ref sa4), .val (.int (1 : Int32)), .val (.int (1 : Int32))] []))
    refine own_stW (fun t k => XS.iconst X33.here hx rfl (hb hby at_81) k) ?_
    show own_FinW _ _ _ _ _ _ _ (T33.setTop (mkF m 82 #[.val (.int p1), .val (.int (4 : Int32)), .val (.ref ca4), .val (.int (1 : Int32)), .val (.ref sa4), .val (.int (1 : Int32)), .val (.int (1 : Int32))] [(.int (1 : Int32))]))
    refine own_stW (fun t k => XS.goto X33.here hx rfl (pc0 := 82) (pc' := 86) rfl (hb hby at_82) (by decide) (by decide) k) ?_
    show own_FinW _ _ _ _ _ _ _ (T33.setTop (mkF m 86 #[.val (.int p1), .val (.int (4 : Int32)), .val (.ref ca4), .val (.int (1 : Int32)), .val (.ref sa4), .val (.int (1 : Int32)), .val (.int (1 : Int32))] [(.int (1 : Int32))]))
    exact own_retNW X33 S31 (by rw [e33]; exact ks31) hx Bd.notSynchronized (t := .boolean) Bd.returns (by simp) (hb hby at_86) (by decide) (by decide) ⟨rfl, N33, trivial⟩
  · rw [hk]
    show own_FinW _ _ _ _ _ _ _ (s₁.setTop (mkF m 8 #[.val (.int p1), .val (.int (5 : Int32)), .unset, .unset, .unset, .unset, .unset] []))
    refine own_stW (fun t k => XS.iloadN X0.here hx rfl (hb hby at_8) rfl k) ?_
    show own_FinW _ _ _ _ _ _ _ (s₁.setTop (mkF m 9 #[.val (.int p1), .val (.int (5 : Int32)), .unset, .unset, .unset, .unset, .unset] [(.int (5 : Int32))]))
    obtain ⟨_, _, ⟨T34, L34, k34, n34⟩, -, X34, ⟨Lc34, hQ34, l34, y34, z34⟩, st34⟩ := Jvm.LawKit.callS X0 hx (y := (⟨"hedgerow/ComparisonComparesTextsPinLaw", "pick", "(I)Lhedgerow/Comparison;"⟩ : MethodName)) hown (mvT hZ (hw _ (List.mem_of_getElem? (i := 1) rfl))) (mvT hZ (hw _ (List.mem_of_getElem? (i := 2) rfl))) (mvT hZ (hw _ (List.mem_of_getElem? (i := 3) rfl))) (mvT hZ (hw _ (List.mem_of_getElem? (i := 4) rfl))) (by decide) (backOf (W := 0) (rm1 l Z a0 hw [] (5 : Int32) ca0 ca1 ca2 ca3 ca4 ca5 h0 n0 Z0 Sp0 Sp1 Sp2 Sp3 Sp4 Sp5) hZ (hw _ (List.mem_of_getElem? (i := 4) rfl)) (hw _ (List.mem_of_getElem? (i := 3) rfl)) (by decide) (by decide)) (g := (mkF m 9 #[.val (.int p1), .val (.int (5 : Int32)), .unset, .unset, .unset, .unset, .unset] [(.int (5 : Int32))])) rfl (by rw [hml]; rfl) (argsL := [(.int (5 : Int32))]) (rest := []) (lenOf pd_0_0 rfl) rfl (by show 2 * 0 + _ ≤ _; exact Nat.le_of_eq rfl) (hb hby at_9) (fun _ _ => ⟨rfl, e0, (by decide : 0 + 0 ≤ _), (by decide : 0 + 0 ≤ _)⟩)
    dsimp only [Pt.U, Pt.locs, Pt.cells, Pt.slots] at X34 l34 y34 z34 st34 hQ34
    subst l34 y34 z34
    obtain ⟨rfl, N34q, e34⟩ := hQ34
    have N34 := Fr.app N0 N34q
    refine own_stW st34 ?_
    show own_FinW _ _ _ _ _ _ _ (T34.setTop (mkF m 12 #[.val (.int p1), .val (.int (5 : Int32)), .unset, .unset, .unset, .unset, .unset] [(.ref (own_pick (5 : Int32) ca0 ca1 ca2 ca3 ca4 ca5))]))
    rw [show (own_pick (5 : Int32) ca0 ca1 ca2 ca3 ca4 ca5) = ca5 from rfl]
    show own_FinW _ _ _ _ _ _ _ (T34.setTop (mkF m 12 #[.val (.int p1), .val (.int (5 : Int32)), .unset, .unset, .unset, .unset, .unset] [(.ref ca5)]))
    refine own_stW (fun t k => XS.astoreN X34.here hx rfl (hb hby at_12) rfl rfl (l' := #[.val (.int p1), .val (.int (5 : Int32)), .val (.ref ca5), .unset, .unset, .unset, .unset]) rfl k) ?_
    show own_FinW _ _ _ _ _ _ _ (T34.setTop (mkF m 13 #[.val (.int p1), .val (.int (5 : Int32)), .val (.ref ca5), .unset, .unset, .unset, .unset] []))
    refine own_stW (fun t k => XS.iloadN X34.here hx rfl (hb hby at_13) rfl k) ?_
    show own_FinW _ _ _ _ _ _ _ (T34.setTop (mkF m 14 #[.val (.int p1), .val (.int (5 : Int32)), .val (.ref ca5), .unset, .unset, .unset, .unset] [(.int (5 : Int32))]))
    refine own_stW (fun t k => XS.iconst X34.here hx rfl (hb hby at_14) k) ?_
    show own_FinW _ _ _ _ _ _ _ (T34.setTop (mkF m 15 #[.val (.int p1), .val (.int (5 : Int32)), .val (.ref ca5), .unset, .unset, .unset, .unset] [(.int (4 : Int32)), (.int (5 : Int32))]))
    refine own_stW (fun t k => XS.icmpNo X34.here hx rfl (hb hby at_15) rfl (feq (by decide : ¬ ((5 : Int32) = (4 : Int32)))).1 k) ?_
    show own_FinW _ _ _ _ _ _ _ (T34.setTop (mkF m 18 #[.val (.int p1), .val (.int (5 : Int32)), .val (.ref ca5), .unset, .unset, .unset, .unset] []))
    refine own_stW (fun t k => XS.iloadN X34.here hx rfl (hb hby at_18) rfl k) ?_
    show own_FinW _ _ _ _ _ _ _ (T34.setTop (mkF m 19 #[.val (.int p1), .val (.int (5 : Int32)), .val (.ref ca5), .unset, .unset, .unset, .unset] [(.int (5 : Int32))]))
    refine own_stW (fun t k => XS.iconst X34.here hx rfl (hb hby at_19) k) ?_
    show own_FinW _ _ _ _ _ _ _ (T34.setTop (mkF m 20 #[.val (.int p1), .val (.int (5 : Int32)), .val (.ref ca5), .unset, .unset, .unset, .unset] [(.int (5 : Int32)), (.int (5 : Int32))]))
    refine own_stW (fun t k => XS.icmpNo X34.here hx rfl (hb hby at_20) rfl (teq (by decide : (5 : Int32) = (5 : Int32))).2 k) ?_
    show own_FinW _ _ _ _ _ _ _ (T34.setTop (mkF m 23 #[.val (.int p1), .val (.int (5 : Int32)), .val (.ref ca5), .unset, .unset, .unset, .unset] []))
    refine own_stW (fun t k => XS.iconst X34.here hx rfl (hb hby at_23) k) ?_
    show own_FinW _ _ _ _ _ _ _ (T34.setTop (mkF m 24 #[.val (.int p1), .val (.int (5 : Int32)), .val (.ref ca5), .unset, .unset, .unset, .unset] [(.int (1 : Int32))]))
    refine own_stW (fun t k => XS.goto X34.here hx rfl (pc0 := 24) (pc' := 28) rfl (hb hby at_24) (by decide) (by decide) k) ?_
    show own_FinW _ _ _ _ _ _ _ (T34.setTop (mkF m 28 #[.val (.int p1), .val (.int (5 : Int32)), .val (.ref ca5), .unset, .unset, .unset, .unset] [(.int (1 : Int32))]))
    refine own_stW (fun t k => XS.istoreN X34.here hx rfl (hb hby at_28) rfl (l' := #[.val (.int p1), .val (.int (5 : Int32)), .val (.ref ca5), .val (.int (1 : Int32)), .unset, .unset, .unset]) rfl k) ?_
    show own_FinW _ _ _ _ _ _ _ (T34.setTop (mkF m 29 #[.val (.int p1), .val (.int (5 : Int32)), .val (.ref ca5), .val (.int (1 : Int32)), .unset, .unset, .unset] []))
    refine own_stW (fun t k => XS.aloadN X34.here hx rfl (hb hby at_29) rfl rfl k) ?_
    show own_FinW _ _ _ _ _ _ _ (T34.setTop (mkF m 30 #[.val (.int p1), .val (.int (5 : Int32)), .val (.ref ca5), .val (.int (1 : Int32)), .unset, .unset, .unset] [(.ref ca5)]))
    obtain ⟨cq35, kq35, qa35, qb35, qc35⟩ := isOf hZ e34 Ec5
    obtain ⟨_, _, ⟨T35, L35, k35, n35⟩, -, X35, ⟨Lc35, hQ35, l35, y35, z35⟩, st35⟩ := X34.virtualBack hx (y := (⟨"hedgerow/Comparison", "toString", "()Ljava/lang/String;"⟩ : MethodName)) (z := (⟨"hedgerow/Comparison", "toString", "()Ljava/lang/String;"⟩ : MethodName)) hown (mvT hZ (hw _ (List.mem_of_getElem? (i := 8) rfl))) (mvT hZ (hw _ (List.mem_of_getElem? (i := 9) rfl))) (notFace_of_selects (args := #[]) (mvT hZ (hw _ (List.mem_of_getElem? (i := 11) rfl)))) (mvT hZ (hw _ (List.mem_of_getElem? (i := 11) rfl))) (mvT hZ (hw _ (List.mem_of_getElem? (i := 10) rfl))) (by decide) (backOf (W := 0) (rm2 l Z a0 hw [] ca5 sa5 h0 n0 Z0 Fs5) hZ (hw _ (List.mem_of_getElem? (i := 12) rfl)) (hw _ (List.mem_of_getElem? (i := 6) rfl)) (by decide) (by decide)) qa35 qc35 (g := (mkF m 30 #[.val (.int p1), .val (.int (5 : Int32)), .val (.ref ca5), .val (.int (1 : Int32)), .unset, .unset, .unset] [(.ref ca5)])) rfl (by rw [hml]; rfl) (Steps.refl _) (argsL := []) (rest := []) (lenOf pd_0_1 rfl) rfl (by show 2 * 0 + _ ≤ _; exact Nat.le_of_eq rfl) (hb hby at_30) (fun _ _ => ⟨rfl, e34, (by decide : 0 + 0 ≤ _), (by decide : 0 + 0 ≤ _)⟩)
    dsimp only [Pt.U, Pt.locs, Pt.cells, Pt.slots] at X35 l35 y35 z35 st35 hQ35
    subst l35 y35 z35
    obtain ⟨rfl, N35q, e35⟩ := hQ35
    have N35 := Fr.app N34 N35q
    refine own_stW (fun t k => st35.trans k) ?_
    show own_FinW _ _ _ _ _ _ _ (T35.setTop (mkF m 33 #[.val (.int p1), .val (.int (5 : Int32)), .val (.ref ca5), .val (.int (1 : Int32)), .unset, .unset, .unset] [(.ref sa5)]))
    refine own_stW (fun t k => XS.astore X35.here hx rfl (hb hby at_33) rfl rfl (l' := #[.val (.int p1), .val (.int (5 : Int32)), .val (.ref ca5), .val (.int (1 : Int32)), .val (.ref sa5), .unset, .unset]) rfl k) ?_
    show own_FinW _ _ _ _ _ _ _ (T35.setTop (mkF m 35 #[.val (.int p1), .val (.int (5 : Int32)), .val (.ref ca5), .val (.int (1 : Int32)), .val (.ref sa5), .unset, .unset] []))
    refine own_stW (fun t k => XS.aload X35.here hx rfl (hb hby at_35) rfl rfl k) ?_
    show own_FinW _ _ _ _ _ _ _ (T35.setTop (mkF m 37 #[.val (.int p1), .val (.int (5 : Int32)), .val (.ref ca5), .val (.int (1 : Int32)), .val (.ref sa5), .unset, .unset] [(.ref sa5)]))
    obtain ⟨a36, T36, h36, k36, b36, kb36, X36, e36, E36, S36, ks36, hZ36, ho36, oE36, oC36, oV36, oA36, -, -, I36, st36⟩ := ldcSV (s := s) (vm0 := s.vm) (Ts := []) (text := "=") X35 hx hZ hown (hw _ (List.mem_of_getElem? (i := 15) rfl)) hwS e35 S0 (Nat.le_refl _) (by rw [hsz]; exact N35) hkeep I0 (by decide) (hh _ (List.mem_of_getElem? (i := 0) rfl)) hcw (vs := [(.int (61 : Int32))]) (z := (1 : Int32)) (own_text_37) (by decide) rfl (g := (mkF m 37 #[.val (.int p1), .val (.int (5 : Int32)), .val (.ref ca5), .val (.int (1 : Int32)), .val (.ref sa5), .unset, .unset] [(.ref sa5)])) rfl (hb hby at_37) (n := 4) (own_tlen_37) (by decide) (by decide) (by decide)
    have f36_0 := Sp0.ext E36
    have f36_1 := Sp1.ext E36
    have f36_2 := Sp2.ext E36
    have f36_3 := Sp3.ext E36
    have f36_4 := Sp4.ext E36
    have f36_5 := Sp5.ext E36
    have f36_6 := O2.ext E36
    have f36_7 := Ec5.ext E36
    have f36_8 := Fs5.ext E36
    have f36_9 := Es5.ext E36
    have f36_10 := Fc5.ext E36
    have f36_11 := Fv5.ext E36
    have f36_12 := Vb5.ext E36
    have Z36 : n0 ≤ h36.size := Nat.le_trans Z0 E36.1
    have hZ := hZ36
    have hown := ho36
    refine own_stW st36 ?_
    show own_FinW _ _ _ _ _ _ _ (T36.setTop (mkF m 39 #[.val (.int p1), .val (.int (5 : Int32)), .val (.ref ca5), .val (.int (1 : Int32)), .val (.ref sa5), .unset, .unset] [(.ref a36), (.ref sa5)]))
    obtain ⟨cq37, kq37, qa37, qb37, qc37⟩ := isOf hZ e36 f36_9
    obtain ⟨_, _, ⟨T37, L37, k37, n37⟩, -, X37, ⟨Lc37, hQ37, l37, y37, z37⟩, st37⟩ := X36.virtualBack hx (y := (⟨"java/lang/String", "equals", "(Ljava/lang/Object;)Z"⟩ : MethodName)) (z := (⟨"java/lang/String", "equals", "(Ljava/lang/Object;)Z"⟩ : MethodName)) hown (mvT hZ (hw _ (List.mem_of_getElem? (i := 23) rfl))) (mvT hZ (hw _ (List.mem_of_getElem? (i := 24) rfl))) (notFace_of_selects (args := #[]) (mvT hZ (hw _ (List.mem_of_getElem? (i := 26) rfl)))) (mvT hZ (hw _ (List.mem_of_getElem? (i := 26) rfl))) (mvT hZ (hw _ (List.mem_of_getElem? (i := 25) rfl))) (by decide) (backOf (W := 0) (rmED l Z a0 hw [] sa5 a36 ba5 b36 ka5 kb36 G1 (2 : Int32) (1 : Int32) [(.int (33 : Int32)), (.int (61 : Int32))] [(.int (61 : Int32))] h36 n0 Z36 f36_9 oE36 f36_10 oC36 f36_11 oV36 f36_12 oA36 f36_6 P5 (own_neD f36_11 f36_12 oV36 oA36 (by decide)) (by decide)) hZ (hw _ (List.mem_of_getElem? (i := 27) rfl)) (hw _ (List.mem_of_getElem? (i := 16) rfl)) (by decide) (by decide)) qa37 qc37 (g := (mkF m 39 #[.val (.int p1), .val (.int (5 : Int32)), .val (.ref ca5), .val (.int (1 : Int32)), .val (.ref sa5), .unset, .unset] [(.ref a36), (.ref sa5)])) rfl (by rw [hml]; rfl) (Steps.refl _) (argsL := [(.ref a36)]) (rest := []) (lenOf pd_0_2 rfl) rfl (by show 2 * 0 + _ ≤ _; exact Nat.le_of_eq rfl) (hb hby at_39) (fun _ _ => ⟨rfl, e36, (by decide : 2 + 0 ≤ _), (by decide : 8 + 0 ≤ _)⟩)
    dsimp only [Pt.U, Pt.locs, Pt.cells, Pt.slots] at X37 l37 y37 z37 st37 hQ37
    subst l37 y37 z37
    obtain ⟨rfl, N37q, e37⟩ := hQ37
    have N37 := Fr.app N35 N37q
    refine own_stW (fun t k => st37.trans k) ?_
    show own_FinW _ _ _ _ _ _ _ (T37.setTop (mkF m 42 #[.val (.int p1), .val (.int (5 : Int32)), .val (.ref ca5), .val (.int (1 : Int32)), .val (.ref sa5), .unset, .unset] [(.int (0 : Int32))]))
    refine own_stW (fun t k => XS.ifNo X37.here hx rfl (hb hby at_42) rfl ((if0 _ _).trans (teq (by decide : (0 : Int32) = (0 : Int32))).2) k) ?_
    show own_FinW _ _ _ _ _ _ _ (T37.setTop (mkF m 45 #[.val (.int p1), .val (.int (5 : Int32)), .val (.ref ca5), .val (.int (1 : Int32)), .val (.ref sa5), .unset, .unset] []))
    refine own_stW (fun t k => XS.aload X37.here hx rfl (hb hby at_45) rfl rfl k) ?_
    show own_FinW _ _ _ _ _ _ _ (T37.setTop (mkF m 47 #[.val (.int p1), .val (.int (5 : Int32)), .val (.ref ca5), .val (.int (1 : Int32)), .val (.ref sa5), .unset, .unset] [(.ref sa5)]))
    obtain ⟨a38, T38, h38, k38, b38, kb38, X38, e38, E38, S38, ks38, hZ38, ho38, oE38, oC38, oV38, oA38, -, -, I38, st38⟩ := ldcSV (s := s) (vm0 := T36.vm) (Ts := ["="]) (text := "!=") X37 hx hZ hown (hw _ (List.mem_of_getElem? (i := 37) rfl)) hwS e37 S36 ks36 (by rw [hsz]; exact N37) hkeep I36 (by decide) (hh _ (List.mem_of_getElem? (i := 1) rfl)) hcw (vs := [(.int (33 : Int32)), (.int (61 : Int32))]) (z := (2 : Int32)) (own_text_47) (by decide) rfl (g := (mkF m 47 #[.val (.int p1), .val (.int (5 : Int32)), .val (.ref ca5), .val (.int (1 : Int32)), .val (.ref sa5), .unset, .unset] [(.ref sa5)])) rfl (hb hby at_47) (n := 8) (own_tlen_47) (by decide) (by decide) (by decide)
    have f38_0 := f36_0.ext E38
    have f38_1 := f36_1.ext E38
    have f38_2 := f36_2.ext E38
    have f38_3 := f36_3.ext E38
    have f38_4 := f36_4.ext E38
    have f38_5 := f36_5.ext E38
    have f38_6 := f36_6.ext E38
    have f38_7 := f36_7.ext E38
    have f38_8 := f36_8.ext E38
    have f38_9 := f36_9.ext E38
    have f38_10 := f36_10.ext E38
    have f38_11 := f36_11.ext E38
    have f38_12 := f36_12.ext E38
    have f38_13 := oE36.ext E38
    have f38_14 := oC36.ext E38
    have f38_15 := oV36.ext E38
    have f38_16 := oA36.ext E38
    have Z38 : n0 ≤ h38.size := Nat.le_trans Z36 E38.1
    have hZ := hZ38
    have hown := ho38
    refine own_stW st38 ?_
    show own_FinW _ _ _ _ _ _ _ (T38.setTop (mkF m 49 #[.val (.int p1), .val (.int (5 : Int32)), .val (.ref ca5), .val (.int (1 : Int32)), .val (.ref sa5), .unset, .unset] [(.ref a38), (.ref sa5)]))
    obtain ⟨cq39, kq39, qa39, qb39, qc39⟩ := isOf hZ e38 f38_9
    obtain ⟨_, _, ⟨T39, L39, k39, n39⟩, -, X39, ⟨Lc39, hQ39, l39, y39, z39⟩, st39⟩ := X38.virtualBack hx (y := (⟨"java/lang/String", "equals", "(Ljava/lang/Object;)Z"⟩ : MethodName)) (z := (⟨"java/lang/String", "equals", "(Ljava/lang/Object;)Z"⟩ : MethodName)) hown (mvT hZ (hw _ (List.mem_of_getElem? (i := 23) rfl))) (mvT hZ (hw _ (List.mem_of_getElem? (i := 24) rfl))) (notFace_of_selects (args := #[]) (mvT hZ (hw _ (List.mem_of_getElem? (i := 26) rfl)))) (mvT hZ (hw _ (List.mem_of_getElem? (i := 26) rfl))) (mvT hZ (hw _ (List.mem_of_getElem? (i := 25) rfl))) (by decide) (backOf (W := 0) (rmE2 l Z a0 hw [] sa5 a38 ba5 b38 ka5 kb38 G1 (33 : Int32) (61 : Int32) h38 n0 Z38 f38_9 oE38 f38_10 oC38 f38_11 oV38 f38_12 oA38 f38_6 P5) hZ (hw _ (List.mem_of_getElem? (i := 27) rfl)) (hw _ (List.mem_of_getElem? (i := 16) rfl)) (by decide) (by decide)) qa39 qc39 (g := (mkF m 49 #[.val (.int p1), .val (.int (5 : Int32)), .val (.ref ca5), .val (.int (1 : Int32)), .val (.ref sa5), .unset, .unset] [(.ref a38), (.ref sa5)])) rfl (by rw [hml]; rfl) (Steps.refl _) (argsL := [(.ref a38)]) (rest := []) (lenOf pd_0_2 rfl) rfl (by show 2 * 0 + _ ≤ _; exact Nat.le_of_eq rfl) (hb hby at_49) (fun _ _ => ⟨rfl, e38, (by decide : 4 + 0 ≤ _), (by decide : 20 + 0 ≤ _)⟩)
    dsimp only [Pt.U, Pt.locs, Pt.cells, Pt.slots] at X39 l39 y39 z39 st39 hQ39
    subst l39 y39 z39
    obtain ⟨rfl, N39q, e39⟩ := hQ39
    have N39 := Fr.app N37 N39q
    refine own_stW (fun t k => st39.trans k) ?_
    show own_FinW _ _ _ _ _ _ _ (T39.setTop (mkF m 52 #[.val (.int p1), .val (.int (5 : Int32)), .val (.ref ca5), .val (.int (1 : Int32)), .val (.ref sa5), .unset, .unset] [(.int (1 : Int32))]))
    refine own_stW (fun t k => XS.ifNo X39.here hx rfl (hb hby at_52) rfl ((if0 _ _).trans (feq (by decide : ¬ ((1 : Int32) = (0 : Int32)))).1) k) ?_
    show own_FinW _ _ _ _ _ _ _ (T39.setTop (mkF m 55 #[.val (.int p1), .val (.int (5 : Int32)), .val (.ref ca5), .val (.int (1 : Int32)), .val (.ref sa5), .unset, .unset] []))
    refine own_stW (fun t k => XS.iconst X39.here hx rfl (hb hby at_55) k) ?_
    show own_FinW _ _ _ _ _ _ _ (T39.setTop (mkF m 56 #[.val (.int p1), .val (.int (5 : Int32)), .val (.ref ca5), .val (.int (1 : Int32)), .val (.ref sa5), .unset, .unset] [(.int (1 : Int32))]))
    refine own_stW (fun t k => XS.goto X39.here hx rfl (pc0 := 56) (pc' := 60) rfl (hb hby at_56) (by decide) (by decide) k) ?_
    show own_FinW _ _ _ _ _ _ _ (T39.setTop (mkF m 60 #[.val (.int p1), .val (.int (5 : Int32)), .val (.ref ca5), .val (.int (1 : Int32)), .val (.ref sa5), .unset, .unset] [(.int (1 : Int32))]))
    refine own_stW (fun t k => XS.istore X39.here hx rfl (hb hby at_60) rfl (l' := #[.val (.int p1), .val (.int (5 : Int32)), .val (.ref ca5), .val (.int (1 : Int32)), .val (.ref sa5), .val (.int (1 : Int32)), .unset]) rfl k) ?_
    show own_FinW _ _ _ _ _ _ _ (T39.setTop (mkF m 62 #[.val (.int p1), .val (.int (5 : Int32)), .val (.ref ca5), .val (.int (1 : Int32)), .val (.ref sa5), .val (.int (1 : Int32)), .unset] []))
    refine own_stW (fun t k => XS.aloadN X39.here hx rfl (hb hby at_62) rfl rfl k) ?_
    show own_FinW _ _ _ _ _ _ _ (T39.setTop (mkF m 63 #[.val (.int p1), .val (.int (5 : Int32)), .val (.ref ca5), .val (.int (1 : Int32)), .val (.ref sa5), .val (.int (1 : Int32)), .unset] [(.ref ca5)]))
    obtain ⟨cq40, kq40, qa40, qb40, qc40⟩ := isOf hZ e39 f38_7
    obtain ⟨_, _, ⟨T40, L40, k40, n40⟩, -, X40, ⟨Lc40, hQ40, l40, y40, z40⟩, st40⟩ := X39.virtualBack hx (y := (⟨"hedgerow/Comparison", "comparesTexts", "()Z"⟩ : MethodName)) (z := (⟨"hedgerow/Comparison", "comparesTexts", "()Z"⟩ : MethodName)) hown (mvT hZ (hw _ (List.mem_of_getElem? (i := 38) rfl))) (mvT hZ (hw _ (List.mem_of_getElem? (i := 39) rfl))) (notFace_of_selects (args := #[]) (mvT hZ (hw _ (List.mem_of_getElem? (i := 41) rfl)))) (mvT hZ (hw _ (List.mem_of_getElem? (i := 41) rfl))) (mvT hZ (hw _ (List.mem_of_getElem? (i := 40) rfl))) (by decide) (backOf (W := 0) (rm5 l Z a0 hw [] ca5 ca4 ca5 h38 n0 Z38 f38_4 f38_5) hZ (hw _ (List.mem_of_getElem? (i := 42) rfl)) (hw _ (List.mem_of_getElem? (i := 6) rfl)) (by decide) (by decide)) qa40 qc40 (g := (mkF m 63 #[.val (.int p1), .val (.int (5 : Int32)), .val (.ref ca5), .val (.int (1 : Int32)), .val (.ref sa5), .val (.int (1 : Int32)), .unset] [(.ref ca5)])) rfl (by rw [hml]; rfl) (Steps.refl _) (argsL := []) (rest := []) (lenOf pd_0_3 rfl) rfl (by show 2 * 0 + _ ≤ _; exact Nat.le_of_eq rfl) (hb hby at_63) (fun _ _ => ⟨rfl, e39, (by decide : 4 + 0 ≤ _), (by decide : 20 + 0 ≤ _)⟩)
    dsimp only [Pt.U, Pt.locs, Pt.cells, Pt.slots] at X40 l40 y40 z40 st40 hQ40
    subst l40 y40 z40
    obtain ⟨rfl, N40q, e40⟩ := hQ40
    have N40 := Fr.app N39 N40q
    refine own_stW (fun t k => st40.trans k) ?_
    show own_FinW _ _ _ _ _ _ _ (T40.setTop (mkF m 66 #[.val (.int p1), .val (.int (5 : Int32)), .val (.ref ca5), .val (.int (1 : Int32)), .val (.ref sa5), .val (.int (1 : Int32)), .unset] [(.int (own_ct ca5 ca4 ca5))]))
    rw [show (own_ct ca5 ca4 ca5) = (1 : Int32) by unfold own_ct; rw [if_neg ne5_4, if_pos rfl]]
    show own_FinW _ _ _ _ _ _ _ (T40.setTop (mkF m 66 #[.val (.int p1), .val (.int (5 : Int32)), .val (.ref ca5), .val (.int (1 : Int32)), .val (.ref sa5), .val (.int (1 : Int32)), .unset] [(.int (1 : Int32))]))
    refine own_stW (fun t k => XS.istore X40.here hx rfl (hb hby at_66) rfl (l' := #[.val (.int p1), .val (.int (5 : Int32)), .val (.ref ca5), .val (.int (1 : Int32)), .val (.ref sa5), .val (.int (1 : Int32)), .val (.int (1 : Int32))]) rfl k) ?_
    show own_FinW _ _ _ _ _ _ _ (T40.setTop (mkF m 68 #[.val (.int p1), .val (.int (5 : Int32)), .val (.ref ca5), .val (.int (1 : Int32)), .val (.ref sa5), .val (.int (1 : Int32)), .val (.int (1 : Int32))] []))
    refine own_stW (fun t k => XS.iload X40.here hx rfl (hb hby at_68) rfl k) ?_
    show own_FinW _ _ _ _ _ _ _ (T40.setTop (mkF m 70 #[.val (.int p1), .val (.int (5 : Int32)), .val (.ref ca5), .val (.int (1 : Int32)), .val (.ref sa5), .val (.int (1 : Int32)), .val (.int (1 : Int32))] [(.int (1 : Int32))]))
    refine own_stW (fun t k => XS.iloadN X40.here hx rfl (hb hby at_70) rfl k) ?_
    show own_FinW _ _ _ _ _ _ _ (T40.setTop (mkF m 71 #[.val (.int p1), .val (.int (5 : Int32)), .val (.ref ca5), .val (.int (1 : Int32)), .val (.ref sa5), .val (.int (1 : Int32)), .val (.int (1 : Int32))] [(.int (1 : Int32)), (.int (1 : Int32))]))
    refine own_stW (fun t k => XS.icmpNo X40.here hx rfl (hb hby at_71) rfl (teq (by decide : (1 : Int32) = (1 : Int32))).2 k) ?_
    show own_FinW _ _ _ _ _ _ _ (T40.setTop (mkF m 74 #[.val (.int p1), .val (.int (5 : Int32)), .val (.ref ca5), .val (.int (1 : Int32)), .val (.ref sa5), .val (.int (1 : Int32)), .val (.int (1 : Int32))] []))
    refine own_stW (fun t k => XS.iload X40.here hx rfl (hb hby at_74) rfl k) ?_
    show own_FinW _ _ _ _ _ _ _ (T40.setTop (mkF m 76 #[.val (.int p1), .val (.int (5 : Int32)), .val (.ref ca5), .val (.int (1 : Int32)), .val (.ref sa5), .val (.int (1 : Int32)), .val (.int (1 : Int32))] [(.int (1 : Int32))]))
    refine own_stW (fun t k => XS.iload X40.here hx rfl (hb hby at_76) rfl k) ?_
    show own_FinW _ _ _ _ _ _ _ (T40.setTop (mkF m 78 #[.val (.int p1), .val (.int (5 : Int32)), .val (.ref ca5), .val (.int (1 : Int32)), .val (.ref sa5), .val (.int (1 : Int32)), .val (.int (1 : Int32))] [(.int (1 : Int32)), (.int (1 : Int32))]))
    refine own_stW (fun t k => XS.icmpNo X40.here hx rfl (hb hby at_78) rfl (teq (by decide : (1 : Int32) = (1 : Int32))).2 k) ?_
    show own_FinW _ _ _ _ _ _ _ (T40.setTop (mkF m 81 #[.val (.int p1), .val (.int (5 : Int32)), .val (.ref ca5), .val (.int (1 : Int32)), .val (.ref sa5), .val (.int (1 : Int32)), .val (.int (1 : Int32))] []))
    refine own_stW (fun t k => XS.iconst X40.here hx rfl (hb hby at_81) k) ?_
    show own_FinW _ _ _ _ _ _ _ (T40.setTop (mkF m 82 #[.val (.int p1), .val (.int (5 : Int32)), .val (.ref ca5), .val (.int (1 : Int32)), .val (.ref sa5), .val (.int (1 : Int32)), .val (.int (1 : Int32))] [(.int (1 : Int32))]))
    refine own_stW (fun t k => XS.goto X40.here hx rfl (pc0 := 82) (pc' := 86) rfl (hb hby at_82) (by decide) (by decide) k) ?_
    show own_FinW _ _ _ _ _ _ _ (T40.setTop (mkF m 86 #[.val (.int p1), .val (.int (5 : Int32)), .val (.ref ca5), .val (.int (1 : Int32)), .val (.ref sa5), .val (.int (1 : Int32)), .val (.int (1 : Int32))] [(.int (1 : Int32))]))
    exact own_retNW X40 S38 (by rw [e40]; exact ks38) hx Bd.notSynchronized (t := .boolean) Bd.returns (by simp) (hb hby at_86) (by decide) (by decide) ⟨rfl, N40, trivial⟩
set_option maxRecDepth 65536 in
set_option maxHeartbeats 40000000 in
theorem comes_1 {Post : Tables → Env → Array Value → State → Outcome → State → Prop} (hpost : ∀ tb e args s v u, (limb_1_1.after args s (.returned v) u = true ∧ limb_1_2.after args s (.returned v) u = true ∧ True) → FramedW s (.returned v) u (Jvm.fieldLocs frame_1_writes args s ++ Jvm.arrayLocs frame_1_arrays args s ++ Jvm.staticLocs frame_1_statics s) 8 2112 → Post tb e args s (.returned v) u) :
    ArmFor flags0 classFile x code maxLocals ret World_1 tables_1 room_1 Calls_1 rest_1 Pre_1 Post := by
  intro l hfl _ _ p e ha hc hk s m args below hf hA hF happ hP
  obtain ⟨hcalls, hrest, hpre⟩ := hP
  obtain ⟨-, -, -, hnamed, -, -, -, hat⟩ := (Spec.applies_iff hf).mp happ
  obtain ⟨hg, hn⟩ := and_e (Cond.before_iff.mp (show (Jvm.Cond.and given_1 narrow_1).before args s = true from hpre))
  obtain ⟨g3, g4⟩ := and_e hg
  obtain ⟨w0, rfl⟩ : ∃ w0 : Value, args = #[w0] := by
    have hs : args.size = 1 := by simpa [Cond.value, given_1] using g3
    obtain ⟨L⟩ := args
    match L, hs with
    | [w0], _ => exact ⟨w0, rfl⟩
  have hw := fun d (hd : d ∈ tables_1) => atoms_spec (ws := Jvm.Cond.code x code maxLocals ret :: tables_1) hat d (List.mem_cons_of_mem _ hd)
  obtain ⟨i0, ei0⟩ := is_v g4
  obtain rfl : w0 = (.int i0) := Option.some.inj ei0
  obtain ⟨hsets, hown0⟩ := atoms_of _ (rest_1_c_eq ▸ (show rest_1_c.before _ s = true from hrest))
  obtain ⟨m1, hn1⟩ := and_e hn
  obtain ⟨m2, hn2⟩ := and_e hn1
  obtain ⟨m3, hn3⟩ := and_e hn2
  obtain ⟨m4, hn4⟩ := and_e hn3
  obtain ⟨m5, hn5⟩ := and_e hn4
  obtain ⟨m6, hn6⟩ := and_e hn5
  obtain ⟨m7, hn7⟩ := and_e hn6
  obtain ⟨m8, hn8⟩ := and_e hn7
  obtain ⟨m9, hn9⟩ := and_e hn8
  obtain ⟨m10, hn10⟩ := and_e hn9
  obtain ⟨m11, hn11⟩ := and_e hn10
  obtain ⟨m12, hn12⟩ := and_e hn11
  obtain ⟨m13, hn13⟩ := and_e hn12
  obtain ⟨m14, hn14⟩ := and_e hn13
  obtain ⟨m15, hn15⟩ := and_e hn14
  obtain ⟨m16, hn16⟩ := and_e hn15
  obtain ⟨m17, hn17⟩ := and_e hn16
  obtain ⟨m18, hn18⟩ := and_e hn17
  obtain ⟨m19, hn19⟩ := and_e hn18
  obtain ⟨m20, hn20⟩ := and_e hn19
  obtain ⟨m21, hn21⟩ := and_e hn20
  obtain ⟨m22, hn22⟩ := and_e hn21
  obtain ⟨m23, hn23⟩ := and_e hn22
  obtain ⟨m24, hn24⟩ := and_e hn23
  obtain ⟨m25, hn25⟩ := and_e hn24
  obtain ⟨m26, hn26⟩ := and_e hn25
  obtain ⟨m27, hn27⟩ := and_e hn26
  obtain ⟨m28, hn28⟩ := and_e hn27
  obtain ⟨m29, hn29⟩ := and_e hn28
  obtain ⟨m30, hn30⟩ := and_e hn29
  obtain ⟨m31, hn31⟩ := and_e hn30
  obtain ⟨m32, hn32⟩ := and_e hn31
  obtain ⟨m33, hn33⟩ := and_e hn32
  obtain ⟨m34, hn34⟩ := and_e hn33
  obtain ⟨m35, hn35⟩ := and_e hn34
  obtain ⟨m36, hn36⟩ := and_e hn35
  obtain ⟨m37, hn37⟩ := and_e hn36
  obtain ⟨m38, hn38⟩ := and_e hn37
  obtain ⟨m39, hn39⟩ := and_e hn38
  obtain ⟨m40, hn40⟩ := and_e hn39
  obtain ⟨m41, hn41⟩ := and_e hn40
  obtain ⟨m42, hn42⟩ := and_e hn41
  obtain ⟨m43, hn43⟩ := and_e hn42
  obtain ⟨m44, hn44⟩ := and_e hn43
  have hfit : Fit s := fun {y c} hc i hi => by
    obtain ⟨ha, rfl⟩ := Array.getElem?_eq_some_iff.mp hc
    have q := List.all_eq_true.mp ((Array.all_eq_true_iff_forall_mem.mp hF) _ (Array.getElem_mem ha)) i (List.mem_range.mpr hi)
    simpa [Array.getElem?_eq_getElem hi] using q
  obtain ⟨ca0, ev0⟩ := exa_v m1
  have Sp0 : Sta s s.heap "hedgerow/Comparison" "LESS" "Lhedgerow/Comparison;" (.ref ca0) := Sta.start ev0 (Or.inr ⟨(hw _ (List.mem_of_getElem? (i := 6) rfl)), (hw _ (List.mem_of_getElem? (i := 7) rfl))⟩)
  have Ec0 : Exa s s.heap ca0 "hedgerow/Comparison" := Exa.start ev0 m1
  obtain ⟨sa0, es0⟩ := exa_v m2
  have Fs0 : Fld s s.heap ca0 "hedgerow/Comparison" "symbol" "Ljava/lang/String;" (.ref sa0) := Fld.start (by rw [← fld_at ev0]; exact es0)
  have Fo0 : Fld s s.heap ca0 "java/lang/Enum" "ordinal" "I" (.int (0 : Int32)) := Fld.start (by rw [← fld_at ev0]; exact Cond.eq_int (Cond.before_iff.mpr m8) rfl)
  obtain ⟨ba0, cl0, Es0, Fc0, Fv0, Ar0, lt0, ln0, eb0, at0⟩ := own_strA es0 m2 m3 m4 m5
  have Vb0 : Arv s s.heap ba0 cl0.cls .byte (1 : Int32) [(.int (60 : Int32))] (.int (0 : Int32)) := Arv.start hfit Ar0 lt0 ln0 (by decide) rfl ⟨own_elem eb0 at0 (by decide) m6, trivial⟩
  obtain ⟨ca1, ev1⟩ := exa_v m26
  have Sp1 : Sta s s.heap "hedgerow/Comparison" "LESS_OR_EQUAL" "Lhedgerow/Comparison;" (.ref ca1) := Sta.start ev1 (Or.inr ⟨(hw _ (List.mem_of_getElem? (i := 6) rfl)), (hw _ (List.mem_of_getElem? (i := 52) rfl))⟩)
  have Ec1 : Exa s s.heap ca1 "hedgerow/Comparison" := Exa.start ev1 m26
  obtain ⟨sa1, es1⟩ := exa_v m27
  have Fs1 : Fld s s.heap ca1 "hedgerow/Comparison" "symbol" "Ljava/lang/String;" (.ref sa1) := Fld.start (by rw [← fld_at ev1]; exact es1)
  have Fo1 : Fld s s.heap ca1 "java/lang/Enum" "ordinal" "I" (.int (1 : Int32)) := Fld.start (by rw [← fld_at ev1]; exact Cond.eq_int (Cond.before_iff.mpr m32) rfl)
  obtain ⟨ba1, cl1, Es1, Fc1, Fv1, Ar1, lt1, ln1, eb1, at1⟩ := own_strA es1 m27 m28 m29 m30
  have Vb1 : Arv s s.heap ba1 cl1.cls .byte (2 : Int32) [(.int (60 : Int32)), (.int (61 : Int32))] (.int (0 : Int32)) := Arv.start hfit Ar1 lt1 ln1 (by decide) rfl ⟨own_elem eb1 at1 (by decide) m31, own_elem eb1 at1 (by decide) hn44, trivial⟩
  obtain ⟨ca2, ev2⟩ := exa_v m19
  have Sp2 : Sta s s.heap "hedgerow/Comparison" "GREATER" "Lhedgerow/Comparison;" (.ref ca2) := Sta.start ev2 (Or.inr ⟨(hw _ (List.mem_of_getElem? (i := 6) rfl)), (hw _ (List.mem_of_getElem? (i := 50) rfl))⟩)
  have Ec2 : Exa s s.heap ca2 "hedgerow/Comparison" := Exa.start ev2 m19
  obtain ⟨sa2, es2⟩ := exa_v m20
  have Fs2 : Fld s s.heap ca2 "hedgerow/Comparison" "symbol" "Ljava/lang/String;" (.ref sa2) := Fld.start (by rw [← fld_at ev2]; exact es2)
  have Fo2 : Fld s s.heap ca2 "java/lang/Enum" "ordinal" "I" (.int (2 : Int32)) := Fld.start (by rw [← fld_at ev2]; exact Cond.eq_int (Cond.before_iff.mpr m25) rfl)
  obtain ⟨ba2, cl2, Es2, Fc2, Fv2, Ar2, lt2, ln2, eb2, at2⟩ := own_strA es2 m20 m21 m22 m23
  have Vb2 : Arv s s.heap ba2 cl2.cls .byte (1 : Int32) [(.int (62 : Int32))] (.int (0 : Int32)) := Arv.start hfit Ar2 lt2 ln2 (by decide) rfl ⟨own_elem eb2 at2 (by decide) m24, trivial⟩
  obtain ⟨ca3, ev3⟩ := exa_v m12
  have Sp3 : Sta s s.heap "hedgerow/Comparison" "GREATER_OR_EQUAL" "Lhedgerow/Comparison;" (.ref ca3) := Sta.start ev3 (Or.inr ⟨(hw _ (List.mem_of_getElem? (i := 6) rfl)), (hw _ (List.mem_of_getElem? (i := 48) rfl))⟩)
  have Ec3 : Exa s s.heap ca3 "hedgerow/Comparison" := Exa.start ev3 m12
  obtain ⟨sa3, es3⟩ := exa_v m13
  have Fs3 : Fld s s.heap ca3 "hedgerow/Comparison" "symbol" "Ljava/lang/String;" (.ref sa3) := Fld.start (by rw [← fld_at ev3]; exact es3)
  have Fo3 : Fld s s.heap ca3 "java/lang/Enum" "ordinal" "I" (.int (3 : Int32)) := Fld.start (by rw [← fld_at ev3]; exact Cond.eq_int (Cond.before_iff.mpr m18) rfl)
  obtain ⟨ba3, cl3, Es3, Fc3, Fv3, Ar3, lt3, ln3, eb3, at3⟩ := own_strA es3 m13 m14 m15 m16
  have Vb3 : Arv s s.heap ba3 cl3.cls .byte (2 : Int32) [(.int (62 : Int32)), (.int (61 : Int32))] (.int (0 : Int32)) := Arv.start hfit Ar3 lt3 ln3 (by decide) rfl ⟨own_elem eb3 at3 (by decide) m17, own_elem eb3 at3 (by decide) m44, trivial⟩
  obtain ⟨ca4, ev4⟩ := exa_v m7
  have Sp4 : Sta s s.heap "hedgerow/Comparison" "EQUAL" "Lhedgerow/Comparison;" (.ref ca4) := Sta.start ev4 (Or.inr ⟨(hw _ (List.mem_of_getElem? (i := 6) rfl)), (hw _ (List.mem_of_getElem? (i := 44) rfl))⟩)
  have Ec4 : Exa s s.heap ca4 "hedgerow/Comparison" := Exa.start ev4 m7
  obtain ⟨sa4, es4⟩ := exa_v m39
  have Fs4 : Fld s s.heap ca4 "hedgerow/Comparison" "symbol" "Ljava/lang/String;" (.ref sa4) := Fld.start (by rw [← fld_at ev4]; exact es4)
  have Fo4 : Fld s s.heap ca4 "java/lang/Enum" "ordinal" "I" (.int (4 : Int32)) := Fld.start (by rw [← fld_at ev4]; exact Cond.eq_int (Cond.before_iff.mpr m9) rfl)
  obtain ⟨ba4, cl4, Es4, Fc4, Fv4, Ar4, lt4, ln4, eb4, at4⟩ := own_strA es4 m39 m40 m41 m42
  have Vb4 : Arv s s.heap ba4 cl4.cls .byte (1 : Int32) [(.int (61 : Int32))] (.int (0 : Int32)) := Arv.start hfit Ar4 lt4 ln4 (by decide) rfl ⟨own_elem eb4 at4 (by decide) m43, trivial⟩
  obtain ⟨ca5, ev5⟩ := exa_v m10
  have Sp5 : Sta s s.heap "hedgerow/Comparison" "NOT_EQUAL" "Lhedgerow/Comparison;" (.ref ca5) := Sta.start ev5 (Or.inr ⟨(hw _ (List.mem_of_getElem? (i := 6) rfl)), (hw _ (List.mem_of_getElem? (i := 46) rfl))⟩)
  have Ec5 : Exa s s.heap ca5 "hedgerow/Comparison" := Exa.start ev5 m10
  obtain ⟨sa5, es5⟩ := exa_v m33
  have Fs5 : Fld s s.heap ca5 "hedgerow/Comparison" "symbol" "Ljava/lang/String;" (.ref sa5) := Fld.start (by rw [← fld_at ev5]; exact es5)
  have Fo5 : Fld s s.heap ca5 "java/lang/Enum" "ordinal" "I" (.int (5 : Int32)) := Fld.start (by rw [← fld_at ev5]; exact Cond.eq_int (Cond.before_iff.mpr m11) rfl)
  obtain ⟨ba5, cl5, Es5, Fc5, Fv5, Ar5, lt5, ln5, eb5, at5⟩ := own_strA es5 m33 m34 m35 m36
  have Vb5 : Arv s s.heap ba5 cl5.cls .byte (2 : Int32) [(.int (33 : Int32)), (.int (61 : Int32))] (.int (0 : Int32)) := Arv.start hfit Ar5 lt5 ln5 (by decide) rfl ⟨own_elem eb5 at5 (by decide) m37, own_elem eb5 at5 (by decide) m38, trivial⟩
  have ne0_4 : ¬ (ca0 = ca4) := Fld.ne Fo0 Fo4 (own_vne (by decide))
  have ne0_5 : ¬ (ca0 = ca5) := Fld.ne Fo0 Fo5 (own_vne (by decide))
  have ne1_4 : ¬ (ca1 = ca4) := Fld.ne Fo1 Fo4 (own_vne (by decide))
  have ne1_5 : ¬ (ca1 = ca5) := Fld.ne Fo1 Fo5 (own_vne (by decide))
  have ne2_4 : ¬ (ca2 = ca4) := Fld.ne Fo2 Fo4 (own_vne (by decide))
  have ne2_5 : ¬ (ca2 = ca5) := Fld.ne Fo2 Fo5 (own_vne (by decide))
  have ne3_4 : ¬ (ca3 = ca4) := Fld.ne Fo3 Fo4 (own_vne (by decide))
  have ne3_5 : ¬ (ca3 = ca5) := Fld.ne Fo3 Fo5 (own_vne (by decide))
  have ne5_4 : ¬ (ca5 = ca4) := Fld.ne Fo5 Fo4 (own_vne (by decide))
  have n3 := not_v (Cond.before_iff.mp (hsets _ (List.mem_of_getElem? (i := 2) rfl)))
  obtain ⟨g1, eg1⟩ := is_v (Cond.before_iff.mp (hsets _ (List.mem_of_getElem? (i := 1) rfl)))
  have S8 : Sta s s.heap "java/lang/String" "COMPACT_STRINGS" "Z" (.int g1) := Sta.start eg1 (Or.inl (hsets _ (List.mem_of_getElem? (i := 0) rfl)))
  have c13 : ¬ (g1 = (0 : Int32)) := gotF (Cond.eq_ints eg1 (Term.int_eval (0))) n3
  obtain ⟨n, o, h1, h2, h3, v, L, rfl, ⟨hv, N, -⟩, hq⟩ := rm0 l s _ hw tables_1 i0 g1 ca0 ca1 ca2 ca3 ca4 ca5 sa0 sa1 sa2 sa3 sa4 sa5 ba0 ba1 ba2 ba3 ba4 ba5 cl0.cls cl1.cls cl2.cls cl3.cls cl4.cls cl5.cls s.heap s.heap.size (Nat.le_refl _) rfl rfl hcalls.1 (hsets _ (List.mem_of_getElem? (i := 2) rfl)) c13 Sp0 Sp1 Sp2 Sp3 Sp4 Sp5 S8 Ec0 Fs0 Es0 Fc0 Fv0 Vb0 Ec1 Fs1 Es1 Fc1 Fv1 Vb1 Ec2 Fs2 Es2 Fc2 Fv2 Vb2 Ec3 Fs3 Es3 Fc3 Fv3 Vb3 Ec4 Fs4 Es4 Fc4 Fv4 Vb4 Ec5 Fs5 Es5 Fc5 Fv5 Vb5 ne0_4 ne0_5 ne1_4 ne1_5 ne2_4 ne2_5 ne3_4 ne3_5 ne5_4 p e ha hc hk s m _ below hf ((Spec.applies_iff_loose hf).mp happ).1 ⟨rfl, rfl⟩ trivial
  subst hv
  refine ⟨n, _, h1, h2, h3, hpost _ _ _ _ _ _ ⟨Cond.after_iff.mpr rfl, Cond.after_iff.mpr (eq_i res_at (Term.int_eval (1)) rfl), trivial⟩ ⟨hq.1, hq.2.1, hq.2.2.1, (hq.2.2.2.sift fun y hy => Or.inr (N y hy)).mono (by decide) (by decide)⟩⟩
theorem main_1_1 : Claimed_1_1 := comes_1 fun _ _ _ _ _ _ h hF => ⟨h.1, hF⟩
theorem main_1_2 : Claimed_1_2 := comes_1 fun _ _ _ _ _ _ h hF => ⟨h.2.1, hF⟩
end Jvm.Pilot.@@N@@
namespace Jvm.Pilot.@@N@@
open Jvm Jvm.ClassFile Sem Op Lib Jvm.Free Jvm.Stand Jvm.Pilot.@@N@@.Jvm.D
/-! MADE BY PROGRAM (witnessworld.py) out of the Statement's table words and the real class files: 18 classes; the members and pool entries that the words name. The judged class is class 1, her method 1. -/
namespace start1
open Jvm.ClassFile
def u (s : String) : CpInfo := .utf8 (stringToUtf16 s)
/-- a pool by its gaps: so many unusable entries, then the entry; so many at the end -/
def gap : Nat → List CpInfo → List CpInfo
  | 0, r => r
  | n + 1, r => .unusable :: gap n r
def poolList (es : List (Nat × CpInfo)) (last : Nat) : List CpInfo := es.foldr (fun e r => gap e.1 (e.2 :: r)) (gap last [])
def pool (es : List (Nat × CpInfo)) (last : Nat) : Array CpInfo := ⟨poolList es last⟩
def fileOf (pool : Array CpInfo) (this : Nat) (attrs : Array Attribute := #[]) (ms : Array MethodInfo := #[]) (fl : Nat := 33) (sup : Nat := 0) (ifs : Array Nat := #[]) (fds : Array FieldInfo := #[]) : ClassFile where
  minorVersion := 0
  majorVersion := 65
  constantPool := pool
  accessFlags := fl
  thisClass := this
  superClass := sup
  interfaces := ifs
  fields := fds
  methods := ms
  attributes := attrs
def plain (name : String) (sup : Option ClassId) : Class where
  name := name
  kind := .ordinary
  loader := none
  accessFlags := 33
  super := sup
  interfaces := #[]
  cf := none
  fields := #[]
  methods := #[]
  instanceTypes := #[]
  staticTypes := #[]
  resolved := #[]
  callSites := []
  init := .initialized
  statics := none
  mirror := none

def pool0 : Array CpInfo := pool [(5, u "<init>"), (0, u "()V"), (1, .class_ 10), (1, u "java/lang/Object")] 113

def k0m0 : Method := { name := "<init>", desc := "()V", sig := { parameters := [], returnType := none }, accessFlags := 1, code := none }
/-- java/lang/Object -/
def k0 : Class := { plain "java/lang/Object" none with
  accessFlags := 33
  interfaces := #[]
  cf := some (fileOf pool0 8 #[] #[{ accessFlags := 1, nameIndex := 5, descriptorIndex := 6, attributes := #[] }] 33 0 #[] #[])
  fields := #[]
  methods := #[k0m0]
  instanceTypes := #[]
  staticTypes := #[]
  resolved := Array.replicate 124 none
  statics := none }

def pool1 : Array CpInfo := pool [(2, .class_ 4), (1, u "java/lang/Object"), (0, u "<init>"), (0, u "()V"), (0, .integer 2147483647), (0, .methodref 9 10), (0, .class_ 11), (0, .nameAndType 12 13), (0, u "hedgerow/ComparisonComparesTextsPinLaw"), (0, u "pick"), (0, u "(I)Lhedgerow/Comparison;"), (0, .methodref 15 16), (0, .class_ 17), (0, .nameAndType 18 19), (0, u "hedgerow/Comparison"), (0, u "toString"), (0, u "()Ljava/lang/String;"), (0, .string 21), (0, u "="), (0, .methodref 23 24), (0, .class_ 25), (0, .nameAndType 26 27), (0, u "java/lang/String"), (0, u "equals"), (0, u "(Ljava/lang/Object;)Z"), (0, .string 29), (0, u "!="), (0, .methodref 15 31), (0, .nameAndType 32 33), (0, u "comparesTexts"), (0, u "()Z"), (0, .fieldref 15 35), (0, .nameAndType 36 37), (0, u "LESS"), (0, u "Lhedgerow/Comparison;"), (0, .fieldref 15 39), (0, .nameAndType 40 37), (0, u "LESS_OR_EQUAL"), (0, .fieldref 15 42), (0, .nameAndType 43 37), (0, u "GREATER"), (0, .fieldref 15 45), (0, .nameAndType 46 37), (0, u "GREATER_OR_EQUAL"), (0, .fieldref 15 48), (0, .nameAndType 49 37), (0, u "EQUAL"), (0, .fieldref 15 51), (0, .nameAndType 52 37), (0, u "NOT_EQUAL"), (2, u "law"), (0, u "(I)Z")] 3

def k1m0 : Method := { name := "<init>", desc := "()V", sig := { parameters := [], returnType := none }, accessFlags := 1, code := none }
def k1c1 : Code := { maxStack := 2, maxLocals := 7, code := code, exceptionTable := #[], attributes := #[] }
def k1m1 : Method := { name := "law", desc := "(I)Z", sig := { parameters := [.int], returnType := some .boolean }, accessFlags := 9, code := some k1c1 }
def k1c2 : Code := { maxStack := 2, maxLocals := 1, code := method_3_code, exceptionTable := #[], attributes := #[] }
def k1m2 : Method := { name := "pick", desc := "(I)Lhedgerow/Comparison;", sig := { parameters := [.int], returnType := some (.object "hedgerow/Comparison") }, accessFlags := 10, code := some k1c2 }
/-- hedgerow/ComparisonComparesTextsPinLaw -/
def k1 : Class := { plain "hedgerow/ComparisonComparesTextsPinLaw" (some 0) with
  accessFlags := 49
  interfaces := #[]
  cf := some (fileOf pool1 9 #[] #[{ accessFlags := 1, nameIndex := 5, descriptorIndex := 6, attributes := #[] }, { accessFlags := 9, nameIndex := 55, descriptorIndex := 56, attributes := #[] }, { accessFlags := 10, nameIndex := 12, descriptorIndex := 13, attributes := #[] }] 49 2 #[] #[])
  fields := #[]
  methods := #[k1m0, k1m1, k1m2]
  instanceTypes := #[]
  staticTypes := #[]
  resolved := Array.replicate 60 none
  statics := none }

def pool2 : Array CpInfo := pool [(1, .class_ 2), (0, u "java/lang/constant/Constable"), (0, .class_ 4), (0, u "java/lang/Object")] 6

/-- java/lang/constant/Constable -/
def k2 : Class := { plain "java/lang/constant/Constable" (some 0) with
  accessFlags := 1537
  interfaces := #[]
  cf := some (fileOf pool2 1 #[] #[] 1537 3 #[] #[])
  fields := #[]
  methods := #[]
  instanceTypes := #[]
  staticTypes := #[]
  resolved := Array.replicate 11 none
  statics := none }

def pool3 : Array CpInfo := pool [(1, .class_ 2), (0, u "java/lang/Comparable"), (0, .class_ 4), (0, u "java/lang/Object")] 7

/-- java/lang/Comparable -/
def k3 : Class := { plain "java/lang/Comparable" (some 0) with
  accessFlags := 1537
  interfaces := #[]
  cf := some (fileOf pool3 1 #[] #[] 1537 3 #[] #[])
  fields := #[]
  methods := #[]
  instanceTypes := #[]
  staticTypes := #[]
  resolved := Array.replicate 12 none
  statics := none }

def pool4 : Array CpInfo := pool [(1, .class_ 2), (0, u "java/io/Serializable"), (0, .class_ 4), (0, u "java/lang/Object")] 2

/-- java/io/Serializable -/
def k4 : Class := { plain "java/io/Serializable" (some 0) with
  accessFlags := 1537
  interfaces := #[]
  cf := some (fileOf pool4 1 #[] #[] 1537 3 #[] #[])
  fields := #[]
  methods := #[]
  instanceTypes := #[]
  staticTypes := #[]
  resolved := Array.replicate 7 none
  statics := none }

def pool5 : Array CpInfo := pool [(2, .class_ 4), (1, u "java/lang/Enum"), (0, u "name"), (0, u "Ljava/lang/String;"), (2, u "ordinal"), (0, u "I"), (1, .class_ 14), (1, u "java/lang/Object"), (4, u "hash"), (86, .class_ 108), (1, u "java/lang/Enum$EnumDesc"), (2, .class_ 112), (0, u "java/lang/constant/Constable"), (0, .class_ 114), (0, u "java/lang/Comparable"), (0, .class_ 116), (0, u "java/io/Serializable")] 87

/-- java/lang/Enum -/
def k5 : Class := { plain "java/lang/Enum" (some 0) with
  accessFlags := 1057
  interfaces := #[2, 3, 4]
  cf := some (fileOf pool5 2 #[.nestMembers #[106]] #[] 1057 12 #[111, 113, 115] #[{ accessFlags := 18, nameIndex := 5, descriptorIndex := 6, attributes := #[] }, { accessFlags := 18, nameIndex := 9, descriptorIndex := 10, attributes := #[] }, { accessFlags := 2, nameIndex := 19, descriptorIndex := 10, attributes := #[] }])
  fields := #[{ name := "name", type := (.object "java/lang/String"), accessFlags := 18, slot := 0, constantValue := 0 }, { name := "ordinal", type := .int, accessFlags := 18, slot := 1, constantValue := 0 }, { name := "hash", type := .int, accessFlags := 2, slot := 2, constantValue := 0 }]
  methods := #[]
  instanceTypes := #[(.object "java/lang/String"), .int, .int]
  staticTypes := #[]
  resolved := Array.replicate 204 none
  statics := none }

def pool6 : Array CpInfo := pool [(1, .class_ 2), (0, u "hedgerow/Comparison"), (2, u "LESS"), (0, u "Lhedgerow/Comparison;"), (2, u "LESS_OR_EQUAL"), (2, u "GREATER"), (2, u "GREATER_OR_EQUAL"), (0, .fieldref 1 17), (0, .nameAndType 18 6), (0, u "EQUAL"), (0, .fieldref 1 20), (0, .nameAndType 21 6), (0, u "NOT_EQUAL"), (2, u "$VALUES"), (0, u "[Lhedgerow/Comparison;"), (6, .class_ 34), (1, u "java/lang/Enum"), (6, .fieldref 1 42), (0, .nameAndType 43 44), (0, u "symbol"), (0, u "Ljava/lang/String;"), (2, u "orders"), (0, u "I"), (48, u "comparesTexts"), (0, u "()Z"), (0, u "toString"), (0, u "()Ljava/lang/String;")] 7

def k6c0 : Code := { maxStack := 2, maxLocals := 1, code := prog_15_method_5_code, exceptionTable := #[], attributes := #[] }
def k6m0 : Method := { name := "comparesTexts", desc := "()Z", sig := { parameters := [], returnType := some .boolean }, accessFlags := 0, code := some k6c0 }
def k6c1 : Code := { maxStack := 1, maxLocals := 1, code := prog_15_method_6_code, exceptionTable := #[], attributes := #[] }
def k6m1 : Method := { name := "toString", desc := "()Ljava/lang/String;", sig := { parameters := [], returnType := some (.object "java/lang/String") }, accessFlags := 1, code := some k6c1 }
/-- hedgerow/Comparison -/
def k6 : Class := { plain "hedgerow/Comparison" (some 5) with
  accessFlags := 16432
  interfaces := #[]
  cf := some (fileOf pool6 1 #[] #[{ accessFlags := 0, nameIndex := 97, descriptorIndex := 98, attributes := #[] }, { accessFlags := 1, nameIndex := 99, descriptorIndex := 100, attributes := #[] }] 16432 32 #[] #[{ accessFlags := 16409, nameIndex := 5, descriptorIndex := 6, attributes := #[] }, { accessFlags := 16409, nameIndex := 9, descriptorIndex := 6, attributes := #[] }, { accessFlags := 16409, nameIndex := 12, descriptorIndex := 6, attributes := #[] }, { accessFlags := 16409, nameIndex := 15, descriptorIndex := 6, attributes := #[] }, { accessFlags := 16409, nameIndex := 18, descriptorIndex := 6, attributes := #[] }, { accessFlags := 16409, nameIndex := 21, descriptorIndex := 6, attributes := #[] }, { accessFlags := 18, nameIndex := 43, descriptorIndex := 44, attributes := #[] }, { accessFlags := 18, nameIndex := 47, descriptorIndex := 48, attributes := #[] }, { accessFlags := 4122, nameIndex := 24, descriptorIndex := 25, attributes := #[] }])
  fields := #[{ name := "LESS", type := (.object "hedgerow/Comparison"), accessFlags := 16409, slot := 0, constantValue := 0 }, { name := "LESS_OR_EQUAL", type := (.object "hedgerow/Comparison"), accessFlags := 16409, slot := 1, constantValue := 0 }, { name := "GREATER", type := (.object "hedgerow/Comparison"), accessFlags := 16409, slot := 2, constantValue := 0 }, { name := "GREATER_OR_EQUAL", type := (.object "hedgerow/Comparison"), accessFlags := 16409, slot := 3, constantValue := 0 }, { name := "EQUAL", type := (.object "hedgerow/Comparison"), accessFlags := 16409, slot := 4, constantValue := 0 }, { name := "NOT_EQUAL", type := (.object "hedgerow/Comparison"), accessFlags := 16409, slot := 5, constantValue := 0 }, { name := "symbol", type := (.object "java/lang/String"), accessFlags := 18, slot := 3, constantValue := 0 }, { name := "orders", type := .int, accessFlags := 18, slot := 4, constantValue := 0 }, { name := "$VALUES", type := (.array (.object "hedgerow/Comparison")), accessFlags := 4122, slot := 6, constantValue := 0 }]
  methods := #[k6m0, k6m1]
  instanceTypes := #[(.object "java/lang/String"), .int, .int, (.object "java/lang/String"), .int]
  staticTypes := #[(.object "hedgerow/Comparison"), (.object "hedgerow/Comparison"), (.object "hedgerow/Comparison"), (.object "hedgerow/Comparison"), (.object "hedgerow/Comparison"), (.object "hedgerow/Comparison"), (.array (.object "hedgerow/Comparison"))]
  resolved := Array.replicate 108 none
  statics := some 0 }

def pool7 : Array CpInfo := pool [(2, .class_ 4), (1, u "java/lang/CharSequence"), (42, .class_ 48), (0, u "java/lang/CharSequence$1CodePointIterator"), (10, .class_ 60), (0, u "java/lang/CharSequence$1CharIterator"), (5, .class_ 67), (0, u "java/lang/Object")] 63

/-- java/lang/CharSequence -/
def k7 : Class := { plain "java/lang/CharSequence" (some 0) with
  accessFlags := 1537
  interfaces := #[]
  cf := some (fileOf pool7 2 #[.nestMembers #[47, 59]] #[] 1537 66 #[] #[])
  fields := #[]
  methods := #[]
  instanceTypes := #[]
  staticTypes := #[]
  resolved := Array.replicate 131 none
  statics := none }

def pool8 : Array CpInfo := pool [(1, .class_ 2), (0, u "java/lang/constant/ConstantDesc"), (0, .class_ 4), (0, u "java/lang/Object")] 32

/-- java/lang/constant/ConstantDesc -/
def k8 : Class := { plain "java/lang/constant/ConstantDesc" (some 0) with
  accessFlags := 1537
  interfaces := #[]
  cf := some (fileOf pool8 1 #[] #[] 1537 3 #[] #[])
  fields := #[]
  methods := #[]
  instanceTypes := #[]
  staticTypes := #[]
  resolved := Array.replicate 37 none
  statics := none }

def pool9 : Array CpInfo := pool [(2, .class_ 4), (1, u "java/lang/Object"), (0, u "<init>"), (0, u "()V"), (2, .fieldref 10 11), (0, .class_ 12), (0, .nameAndType 13 14), (0, u "java/lang/String"), (0, u "value"), (0, u "[B"), (0, .fieldref 10 16), (0, .nameAndType 17 18), (0, u "coder"), (0, u "B"), (2, u "hash"), (0, u "I"), (2, u "hashIsZero"), (0, u "Z"), (11, .fieldref 10 39), (0, .nameAndType 40 26), (0, u "COMPACT_STRINGS"), (66, .class_ 109), (1, u "java/lang/StringLatin1"), (431, .methodref 107 542), (0, .nameAndType 543 544), (0, u "equals"), (0, u "([B[B)Z"), (28, u "(Ljava/lang/Object;)Z"), (1, .class_ 576), (0, u "java/lang/CharSequence"), (22, u "CASE_INSENSITIVE_ORDER"), (0, u "Ljava/util/Comparator;"), (500, u "serialPersistentFields"), (0, u "[Ljava/io/ObjectStreamField;"), (0, .class_ 1104), (0, u "java/lang/String$CaseInsensitiveComparator"), (1, .class_ 1107), (0, u "java/io/Serializable"), (0, .class_ 1109), (0, u "java/lang/Comparable"), (0, .class_ 1111), (0, u "java/lang/constant/Constable"), (0, .class_ 1113), (0, u "java/lang/constant/ConstantDesc"), (2, u "serialVersionUID"), (0, u "J"), (3, u "REPL"), (0, u "C"), (2, u "LATIN1"), (1, u "UTF16")] 323

def k9m0 : Method := { name := "<init>", desc := "()V", sig := { parameters := [], returnType := none }, accessFlags := 1, code := none }
def k9c1 : Code := { maxStack := 2, maxLocals := 3, code := jdk_42_method_66_code, exceptionTable := #[], attributes := #[] }
def k9m1 : Method := { name := "equals", desc := "(Ljava/lang/Object;)Z", sig := { parameters := [(.object "java/lang/Object")], returnType := some .boolean }, accessFlags := 1, code := some k9c1 }
/-- java/lang/String -/
def k9 : Class := { plain "java/lang/String" (some 0) with
  accessFlags := 49
  interfaces := #[4, 3, 7, 2, 8]
  cf := some (fileOf pool9 10 #[.nestMembers #[1103]] #[{ accessFlags := 1, nameIndex := 5, descriptorIndex := 6, attributes := #[] }, { accessFlags := 1, nameIndex := 543, descriptorIndex := 573, attributes := #[] }] 49 2 #[1106, 1108, 575, 1110, 1112] #[{ accessFlags := 18, nameIndex := 13, descriptorIndex := 14, attributes := #[] }, { accessFlags := 18, nameIndex := 17, descriptorIndex := 18, attributes := #[] }, { accessFlags := 2, nameIndex := 21, descriptorIndex := 22, attributes := #[] }, { accessFlags := 2, nameIndex := 25, descriptorIndex := 26, attributes := #[] }, { accessFlags := 26, nameIndex := 1116, descriptorIndex := 1117, attributes := #[] }, { accessFlags := 24, nameIndex := 40, descriptorIndex := 26, attributes := #[] }, { accessFlags := 26, nameIndex := 1101, descriptorIndex := 1102, attributes := #[] }, { accessFlags := 26, nameIndex := 1121, descriptorIndex := 1122, attributes := #[] }, { accessFlags := 25, nameIndex := 599, descriptorIndex := 600, attributes := #[] }, { accessFlags := 24, nameIndex := 1125, descriptorIndex := 18, attributes := #[] }, { accessFlags := 24, nameIndex := 1127, descriptorIndex := 18, attributes := #[] }])
  fields := #[{ name := "value", type := (.array .byte), accessFlags := 18, slot := 0, constantValue := 0 }, { name := "coder", type := .byte, accessFlags := 18, slot := 1, constantValue := 0 }, { name := "hash", type := .int, accessFlags := 2, slot := 2, constantValue := 0 }, { name := "hashIsZero", type := .boolean, accessFlags := 2, slot := 3, constantValue := 0 }, { name := "serialVersionUID", type := .long, accessFlags := 26, slot := 0, constantValue := 0 }, { name := "COMPACT_STRINGS", type := .boolean, accessFlags := 24, slot := 1, constantValue := 0 }, { name := "serialPersistentFields", type := (.array (.object "java/io/ObjectStreamField")), accessFlags := 26, slot := 2, constantValue := 0 }, { name := "REPL", type := .char, accessFlags := 26, slot := 3, constantValue := 0 }, { name := "CASE_INSENSITIVE_ORDER", type := (.object "java/util/Comparator"), accessFlags := 25, slot := 4, constantValue := 0 }, { name := "LATIN1", type := .byte, accessFlags := 24, slot := 5, constantValue := 0 }, { name := "UTF16", type := .byte, accessFlags := 24, slot := 6, constantValue := 0 }]
  methods := #[k9m0, k9m1]
  instanceTypes := #[(.array .byte), .byte, .int, .boolean]
  staticTypes := #[.long, .boolean, (.array (.object "java/io/ObjectStreamField")), .char, (.object "java/util/Comparator"), .byte, .byte]
  resolved := Array.replicate 1451 none
  statics := some 1 }

def pool10 : Array CpInfo := pool [(4, .class_ 6), (1, u "java/lang/Object"), (0, u "<init>"), (0, u "()V"), (5, .class_ 16), (1, u "java/lang/StringLatin1"), (104, u "$assertionsDisabled"), (0, u "Z"), (98, .class_ 223), (1, u "java/lang/StringLatin1$LinesSpliterator"), (57, u "equals"), (0, u "([B[B)Z"), (107, .class_ 391), (0, u "java/lang/StringLatin1$CharsSpliterator")] 3

def k10m0 : Method := { name := "<init>", desc := "()V", sig := { parameters := [], returnType := none }, accessFlags := 0, code := none }
def k10c1 : Code := { maxStack := 3, maxLocals := 3, code := jdk_43_method_13_code, exceptionTable := #[], attributes := #[] }
def k10m1 : Method := { name := "equals", desc := "([B[B)Z", sig := { parameters := [(.array .byte), (.array .byte)], returnType := some .boolean }, accessFlags := 9, code := some k10c1 }
/-- java/lang/StringLatin1 -/
def k10 : Class := { plain "java/lang/StringLatin1" (some 0) with
  accessFlags := 48
  interfaces := #[]
  cf := some (fileOf pool10 14 #[.nestMembers #[390, 221]] #[{ accessFlags := 0, nameIndex := 7, descriptorIndex := 8, attributes := #[] }, { accessFlags := 9, nameIndex := 281, descriptorIndex := 282, attributes := #[] }] 48 4 #[] #[{ accessFlags := 4120, nameIndex := 121, descriptorIndex := 122, attributes := #[] }])
  fields := #[{ name := "$assertionsDisabled", type := .boolean, accessFlags := 4120, slot := 0, constantValue := 0 }]
  methods := #[k10m0, k10m1]
  instanceTypes := #[]
  staticTypes := #[.boolean]
  resolved := Array.replicate 395 none
  statics := none }

def pool11 : Array CpInfo := pool [(2, .class_ 4), (1, u "java/lang/Object"), (0, u "<init>"), (0, u "()V"), (17, .class_ 26), (1, u "jdk/internal/util/Preconditions"), (28, .class_ 56), (0, u "jdk/internal/util/Preconditions$4"), (57, .class_ 115), (0, u "jdk/internal/util/Preconditions$1"), (7, u "SIOOBE_FORMATTER"), (0, u "Ljava/util/function/BiFunction;"), (0, .class_ 126), (0, u "jdk/internal/util/Preconditions$2"), (3, u "AIOOBE_FORMATTER"), (0, .class_ 132), (0, u "jdk/internal/util/Preconditions$3"), (3, u "IOOBE_FORMATTER")] 57

def k11m0 : Method := { name := "<init>", desc := "()V", sig := { parameters := [], returnType := none }, accessFlags := 1, code := none }
/-- jdk/internal/util/Preconditions -/
def k11 : Class := { plain "jdk/internal/util/Preconditions" (some 0) with
  accessFlags := 33
  interfaces := #[]
  cf := some (fileOf pool11 24 #[.nestMembers #[55, 131, 125, 114]] #[{ accessFlags := 1, nameIndex := 5, descriptorIndex := 6, attributes := #[] }] 33 2 #[] #[{ accessFlags := 25, nameIndex := 123, descriptorIndex := 124, attributes := #[] }, { accessFlags := 25, nameIndex := 130, descriptorIndex := 124, attributes := #[] }, { accessFlags := 25, nameIndex := 136, descriptorIndex := 124, attributes := #[] }])
  fields := #[{ name := "SIOOBE_FORMATTER", type := (.object "java/util/function/BiFunction"), accessFlags := 25, slot := 0, constantValue := 0 }, { name := "AIOOBE_FORMATTER", type := (.object "java/util/function/BiFunction"), accessFlags := 25, slot := 1, constantValue := 0 }, { name := "IOOBE_FORMATTER", type := (.object "java/util/function/BiFunction"), accessFlags := 25, slot := 2, constantValue := 0 }]
  methods := #[k11m0]
  instanceTypes := #[]
  staticTypes := #[(.object "java/util/function/BiFunction"), (.object "java/util/function/BiFunction"), (.object "java/util/function/BiFunction")]
  resolved := Array.replicate 194 none
  statics := some 2 }

def pool12 : Array CpInfo := pool [(9, u "<init>"), (6, .class_ 18), (1, u "java/lang/Object"), (0, u "()V"), (1, .class_ 23), (1, u "jdk/internal/util/ArraysSupport"), (0, u "LOG2_ARRAY_LONG_INDEX_SCALE"), (0, u "I"), (2, u "U"), (0, u "Ljdk/internal/misc/Unsafe;"), (8, u "BIG_ENDIAN"), (0, u "Z"), (8, u "LOG2_BYTE_BIT_SIZE"), (4, u "LOG2_ARRAY_INT_INDEX_SCALE"), (54, u "JLA"), (0, u "Ljdk/internal/access/JavaLangAccess;"), (11, u "LOG2_ARRAY_BOOLEAN_INDEX_SCALE"), (9, u "LOG2_ARRAY_BYTE_INDEX_SCALE"), (5, u "LOG2_ARRAY_CHAR_INDEX_SCALE"), (5, u "LOG2_ARRAY_SHORT_INDEX_SCALE"), (18, u "LOG2_ARRAY_FLOAT_INDEX_SCALE"), (24, u "LOG2_ARRAY_DOUBLE_INDEX_SCALE"), (89, u "T_BOOLEAN"), (2, u "T_CHAR"), (1, u "T_FLOAT"), (1, u "T_DOUBLE"), (1, u "T_BYTE"), (1, u "T_SHORT"), (1, u "T_INT"), (1, u "T_LONG"), (1, u "SOFT_MAX_ARRAY_LENGTH")] 83

def k12m0 : Method := { name := "<init>", desc := "()V", sig := { parameters := [], returnType := none }, accessFlags := 2, code := none }
/-- jdk/internal/util/ArraysSupport -/
def k12 : Class := { plain "jdk/internal/util/ArraysSupport" (some 0) with
  accessFlags := 33
  interfaces := #[]
  cf := some (fileOf pool12 21 #[] #[{ accessFlags := 2, nameIndex := 9, descriptorIndex := 19, attributes := #[] }] 33 16 #[] #[{ accessFlags := 24, nameIndex := 28, descriptorIndex := 29, attributes := #[] }, { accessFlags := 26, nameIndex := 38, descriptorIndex := 39, attributes := #[] }, { accessFlags := 25, nameIndex := 121, descriptorIndex := 25, attributes := #[] }, { accessFlags := 25, nameIndex := 131, descriptorIndex := 25, attributes := #[] }, { accessFlags := 25, nameIndex := 137, descriptorIndex := 25, attributes := #[] }, { accessFlags := 25, nameIndex := 143, descriptorIndex := 25, attributes := #[] }, { accessFlags := 25, nameIndex := 53, descriptorIndex := 25, attributes := #[] }, { accessFlags := 25, nameIndex := 24, descriptorIndex := 25, attributes := #[] }, { accessFlags := 25, nameIndex := 162, descriptorIndex := 25, attributes := #[] }, { accessFlags := 25, nameIndex := 187, descriptorIndex := 25, attributes := #[] }, { accessFlags := 26, nameIndex := 48, descriptorIndex := 25, attributes := #[] }, { accessFlags := 25, nameIndex := 277, descriptorIndex := 25, attributes := #[] }, { accessFlags := 25, nameIndex := 280, descriptorIndex := 25, attributes := #[] }, { accessFlags := 25, nameIndex := 282, descriptorIndex := 25, attributes := #[] }, { accessFlags := 25, nameIndex := 284, descriptorIndex := 25, attributes := #[] }, { accessFlags := 25, nameIndex := 286, descriptorIndex := 25, attributes := #[] }, { accessFlags := 25, nameIndex := 288, descriptorIndex := 25, attributes := #[] }, { accessFlags := 25, nameIndex := 290, descriptorIndex := 25, attributes := #[] }, { accessFlags := 25, nameIndex := 292, descriptorIndex := 25, attributes := #[] }, { accessFlags := 26, nameIndex := 108, descriptorIndex := 109, attributes := #[] }, { accessFlags := 25, nameIndex := 294, descriptorIndex := 25, attributes := #[] }])
  fields := #[{ name := "U", type := (.object "jdk/internal/misc/Unsafe"), accessFlags := 24, slot := 0, constantValue := 0 }, { name := "BIG_ENDIAN", type := .boolean, accessFlags := 26, slot := 1, constantValue := 0 }, { name := "LOG2_ARRAY_BOOLEAN_INDEX_SCALE", type := .int, accessFlags := 25, slot := 2, constantValue := 0 }, { name := "LOG2_ARRAY_BYTE_INDEX_SCALE", type := .int, accessFlags := 25, slot := 3, constantValue := 0 }, { name := "LOG2_ARRAY_CHAR_INDEX_SCALE", type := .int, accessFlags := 25, slot := 4, constantValue := 0 }, { name := "LOG2_ARRAY_SHORT_INDEX_SCALE", type := .int, accessFlags := 25, slot := 5, constantValue := 0 }, { name := "LOG2_ARRAY_INT_INDEX_SCALE", type := .int, accessFlags := 25, slot := 6, constantValue := 0 }, { name := "LOG2_ARRAY_LONG_INDEX_SCALE", type := .int, accessFlags := 25, slot := 7, constantValue := 0 }, { name := "LOG2_ARRAY_FLOAT_INDEX_SCALE", type := .int, accessFlags := 25, slot := 8, constantValue := 0 }, { name := "LOG2_ARRAY_DOUBLE_INDEX_SCALE", type := .int, accessFlags := 25, slot := 9, constantValue := 0 }, { name := "LOG2_BYTE_BIT_SIZE", type := .int, accessFlags := 26, slot := 10, constantValue := 0 }, { name := "T_BOOLEAN", type := .int, accessFlags := 25, slot := 11, constantValue := 0 }, { name := "T_CHAR", type := .int, accessFlags := 25, slot := 12, constantValue := 0 }, { name := "T_FLOAT", type := .int, accessFlags := 25, slot := 13, constantValue := 0 }, { name := "T_DOUBLE", type := .int, accessFlags := 25, slot := 14, constantValue := 0 }, { name := "T_BYTE", type := .int, accessFlags := 25, slot := 15, constantValue := 0 }, { name := "T_SHORT", type := .int, accessFlags := 25, slot := 16, constantValue := 0 }, { name := "T_INT", type := .int, accessFlags := 25, slot := 17, constantValue := 0 }, { name := "T_LONG", type := .int, accessFlags := 25, slot := 18, constantValue := 0 }, { name := "JLA", type := (.object "jdk/internal/access/JavaLangAccess"), accessFlags := 26, slot := 19, constantValue := 0 }, { name := "SOFT_MAX_ARRAY_LENGTH", type := .int, accessFlags := 25, slot := 20, constantValue := 0 }]
  methods := #[k12m0]
  instanceTypes := #[]
  staticTypes := #[(.object "jdk/internal/misc/Unsafe"), .boolean, .int, .int, .int, .int, .int, .int, .int, .int, .int, .int, .int, .int, .int, .int, .int, .int, .int, (.object "jdk/internal/access/JavaLangAccess"), .int]
  resolved := Array.replicate 378 none
  statics := none }

def pool13 : Array CpInfo := pool [(1, u "java/lang/Cloneable"), (0, .class_ 1), (0, u "java/lang/Object"), (0, .class_ 3)] 3

/-- java/lang/Cloneable -/
def k13 : Class := { plain "java/lang/Cloneable" (some 0) with
  accessFlags := 1537
  interfaces := #[]
  cf := some (fileOf pool13 2 #[] #[] 1537 4 #[] #[])
  fields := #[]
  methods := #[]
  instanceTypes := #[]
  staticTypes := #[]
  resolved := Array.replicate 8 none
  statics := none }

/-- the primitive byte -/
def k14 : Class := { plain "byte" none with kind := .primitive 'B', accessFlags := 0x411 }
/-- [B -/
def k15 : Class := { plain "[B" (some 0) with kind := .array 14 .byte, interfaces := #[13, 4], accessFlags := 1041 }

/-- the primitive int -/
def k16 : Class := { plain "int" none with kind := .primitive 'I', accessFlags := 0x411 }
/-- [I -/
def k17 : Class := { plain "[I" (some 0) with kind := .array 16 .int, interfaces := #[13, 4], accessFlags := 1041 }

def heap : Heap := #[{ cls := 6, slots := #[.ref 5, .ref 8, .ref 11, .ref 14, .ref 17, .ref 20, .null], vm := .statics 6 },
  { cls := 9, slots := #[.long 0, .int 1, .null, .int 0, .null, .int 0, .int 0], vm := .statics 9 },
  { cls := 11, slots := #[.null, .null, .null], vm := .statics 11 },
  { cls := 15, slots := #[.int 60], vm := .none },
  { cls := 9, slots := #[.ref 3, .int 0, .int 0, .int 0], vm := .none },
  { cls := 6, slots := #[.null, .int 0, .int 0, .ref 4, .int 1], vm := .none },
  { cls := 15, slots := #[.int 60, .int 61], vm := .none },
  { cls := 9, slots := #[.ref 6, .int 0, .int 0, .int 0], vm := .none },
  { cls := 6, slots := #[.null, .int 1, .int 0, .ref 7, .int 1], vm := .none },
  { cls := 15, slots := #[.int 62], vm := .none },
  { cls := 9, slots := #[.ref 9, .int 0, .int 0, .int 0], vm := .none },
  { cls := 6, slots := #[.null, .int 2, .int 0, .ref 10, .int 1], vm := .none },
  { cls := 15, slots := #[.int 62, .int 61], vm := .none },
  { cls := 9, slots := #[.ref 12, .int 0, .int 0, .int 0], vm := .none },
  { cls := 6, slots := #[.null, .int 3, .int 0, .ref 13, .int 1], vm := .none },
  { cls := 15, slots := #[.int 61], vm := .none },
  { cls := 9, slots := #[.ref 15, .int 0, .int 0, .int 0], vm := .none },
  { cls := 6, slots := #[.null, .int 4, .int 0, .ref 16, .int 1], vm := .none },
  { cls := 15, slots := #[.int 33, .int 61], vm := .none },
  { cls := 9, slots := #[.ref 18, .int 0, .int 0, .int 0], vm := .none },
  { cls := 6, slots := #[.null, .int 5, .int 0, .ref 19, .int 1], vm := .none }]
def classes : Array Class := #[k0, k1, k2, k3, k4, k5, k6, k7, k8, k9, k10, k11, k12, k13, k14, k15, k16, k17]
def interned : List (Array UInt16 × Addr) := []
def slotsUsed : Nat := 80
def theMethod : MethodId := ⟨1, 1⟩
def args0 : Array Value := #[.int 5]
def aboutOver (below : List Frame) : State where
  vm := { classes := classes, interned := interned.toArray }
  heap := heap
  slotsUsed := slotsUsed
  threads := #[{ frames := .invoking theMethod args0 :: below }]
def below0 : List Frame := [.native { method := ⟨0, 0⟩, args := #[] }]
def about1 : State := aboutOver below0
def p0 : Program := .bare "" "" ""
def e0 : Env := launch0.env 0 0 0
theorem w_frames : about1.frames = Frame.invoking theMethod args0 :: below0 := rfl
set_option maxRecDepth 65536 in
theorem w_args : argsFit about1.vm theMethod args0 = true := by decide +kernel
set_option maxRecDepth 65536 in
theorem w_heap : heapFits about1 = true := by decide +kernel
set_option maxRecDepth 65536 in
theorem w_runnable : about1.curStatus? = some .runnable := by decide +kernel
set_option maxRecDepth 65536 in
theorem w_alone : about1.alone = true := by decide +kernel
set_option maxRecDepth 65536 in
theorem w_named : about1.methodNamed? x = some theMethod := by decide +kernel
set_option maxRecDepth 65536 in
theorem w_hears : about1.hears theMethod below0 = true := by decide +kernel
set_option maxRecDepth 65536 in
theorem w_ripe : about1.ripe theMethod args0 below0 = true := by decide +kernel
theorem w_running : about1.status = .running := rfl
set_option maxRecDepth 65536 in
theorem w_room : about1.hasRoom e0.platform room_1 = true :=
  launch0.hasRoom_least _ room_1 (by decide +kernel) (by decide +kernel) (by decide +kernel) (by decide +kernel) (by decide +kernel) (by decide +kernel)
theorem allAtoms_all (ts : List Jvm.Cond) (a : Array Jvm.Value) (st : Jvm.State) : (allAtoms ts).before a st = ts.all (fun c => c.before a st) := by
  induction ts with
  | nil => rfl
  | cons c t ih =>
    show (Jvm.Cond.and c (allAtoms t)).before a st = _
    rw [Jvm.Cond.before_and, ih, List.all_cons]
def words1 : List Jvm.Cond := Jvm.Cond.code x code maxLocals ret :: tables_1
/-- a 'code' word, met by the world's own term for the bytes: nothing is compared byte by byte -/
theorem code_word {y : MethodName} {bytes : ByteArray} {mx : Nat} {rt : Option FieldType} {a : Array Value} {s : State} {m : MethodId} {meth : Method} {c : Code} (h1 : s.methodNamed? y = some m) (h2 : s.vm.method? m = some meth) (h3 : meth.code = some c) (h4 : c.code = bytes)
    (h5 : (c.maxLocals == mx && c.exceptionTable.isEmpty && decide (c.maxStack ≤ mostOperands) && decide (meth.sig.returnType = rt) && !meth.locks && decide (parseMethodDescriptor y.desc = some meth.sig)) = true) : (Jvm.Cond.code y bytes mx rt).before a s = true := by
  simp only [Bool.and_eq_true, beq_iff_eq, Bool.not_eq_true', decide_eq_true_eq] at h5
  obtain ⟨⟨⟨⟨⟨g1, g2⟩, g3⟩, g4⟩, g5⟩, g6⟩ := h5
  simp [Cond.before, Cond.holds, Cond.value, h1, h2, h3, h4, g1, g2, g3, g4, g5, g6]
def isCode : Jvm.Cond → Bool
  | .code _ _ _ _ => true
  | _ => false
theorem all_split {L : List Jvm.Cond} {P : Jvm.Cond → Bool} (h1 : L.all (fun c => isCode c || P c) = true) (h2 : ∀ c ∈ L.filter isCode, P c = true) : L.all P = true := by
  refine List.all_eq_true.mpr fun c hc => ?_
  have h := List.all_eq_true.mp h1 c hc
  rcases Bool.eq_false_or_eq_true (isCode c) with hi | hi
  · exact h2 c (List.mem_filter.mpr ⟨hc, hi⟩)
  · simpa [hi] using h
set_option maxRecDepth 65536 in
theorem w_c0 : (Jvm.Cond.code x code maxLocals ret).before args0 about1 = true := code_word (m := ⟨1, 1⟩) (meth := k1m1) (c := k1c1) (by decide +kernel) rfl rfl rfl (by decide +kernel)
set_option maxRecDepth 65536 in
theorem w_c1 : (Jvm.Cond.code ({ cls := "hedgerow/ComparisonComparesTextsPinLaw", name := "pick", desc := "(I)Lhedgerow/Comparison;" } : Jvm.MethodName) method_3_code (1 : Nat) (Option.some (Jvm.ClassFile.FieldType.object "hedgerow/Comparison"))).before args0 about1 = true := code_word (m := ⟨1, 2⟩) (meth := k1m2) (c := k1c2) (by decide +kernel) rfl rfl rfl (by decide +kernel)
set_option maxRecDepth 65536 in
theorem w_c2 : (Jvm.Cond.code ({ cls := "hedgerow/Comparison", name := "toString", desc := "()Ljava/lang/String;" } : Jvm.MethodName) prog_15_method_6_code (1 : Nat) (Option.some (Jvm.ClassFile.FieldType.object "java/lang/String"))).before args0 about1 = true := code_word (m := ⟨6, 1⟩) (meth := k6m1) (c := k6c1) (by decide +kernel) rfl rfl rfl (by decide +kernel)
set_option maxRecDepth 65536 in
theorem w_c3 : (Jvm.Cond.code ({ cls := "java/lang/String", name := "equals", desc := "(Ljava/lang/Object;)Z" } : Jvm.MethodName) jdk_42_method_66_code (3 : Nat) (Option.some Jvm.ClassFile.FieldType.boolean)).before args0 about1 = true := code_word (m := ⟨9, 1⟩) (meth := k9m1) (c := k9c1) (by decide +kernel) rfl rfl rfl (by decide +kernel)
set_option maxRecDepth 65536 in
theorem w_c4 : (Jvm.Cond.code ({ cls := "java/lang/StringLatin1", name := "equals", desc := "([B[B)Z" } : Jvm.MethodName) jdk_43_method_13_code (3 : Nat) (Option.some Jvm.ClassFile.FieldType.boolean)).before args0 about1 = true := code_word (m := ⟨10, 1⟩) (meth := k10m1) (c := k10c1) (by decide +kernel) rfl rfl rfl (by decide +kernel)
set_option maxRecDepth 65536 in
theorem w_c5 : (Jvm.Cond.code ({ cls := "hedgerow/Comparison", name := "comparesTexts", desc := "()Z" } : Jvm.MethodName) prog_15_method_5_code (1 : Nat) (Option.some Jvm.ClassFile.FieldType.boolean)).before args0 about1 = true := code_word (m := ⟨6, 0⟩) (meth := k6m0) (c := k6c0) (by decide +kernel) rfl rfl rfl (by decide +kernel)
def codes1 : List Jvm.Cond := [Jvm.Cond.code x code maxLocals ret, Jvm.Cond.code ({ cls := "hedgerow/ComparisonComparesTextsPinLaw", name := "pick", desc := "(I)Lhedgerow/Comparison;" } : Jvm.MethodName) method_3_code (1 : Nat) (Option.some (Jvm.ClassFile.FieldType.object "hedgerow/Comparison")), Jvm.Cond.code ({ cls := "hedgerow/Comparison", name := "toString", desc := "()Ljava/lang/String;" } : Jvm.MethodName) prog_15_method_6_code (1 : Nat) (Option.some (Jvm.ClassFile.FieldType.object "java/lang/String")), Jvm.Cond.code ({ cls := "java/lang/String", name := "equals", desc := "(Ljava/lang/Object;)Z" } : Jvm.MethodName) jdk_42_method_66_code (3 : Nat) (Option.some Jvm.ClassFile.FieldType.boolean), Jvm.Cond.code ({ cls := "java/lang/StringLatin1", name := "equals", desc := "([B[B)Z" } : Jvm.MethodName) jdk_43_method_13_code (3 : Nat) (Option.some Jvm.ClassFile.FieldType.boolean), Jvm.Cond.code ({ cls := "hedgerow/Comparison", name := "comparesTexts", desc := "()Z" } : Jvm.MethodName) prog_15_method_5_code (1 : Nat) (Option.some Jvm.ClassFile.FieldType.boolean)]
set_option maxRecDepth 65536 in
theorem codes_eq : words1.filter isCode = codes1 := rfl
theorem w_codes : ∀ c ∈ words1.filter isCode, c.before args0 about1 = true := by
  rw [codes_eq]
  intro c hc
  simp only [codes1, List.mem_cons, List.not_mem_nil, or_false] at hc
  rcases hc with rfl | rfl | rfl | rfl | rfl | rfl
  · exact w_c0
  · exact w_c1
  · exact w_c2
  · exact w_c3
  · exact w_c4
  · exact w_c5
set_option maxRecDepth 65536 in
theorem w_t1 : (words1.take 24).all (fun c => isCode c || c.before args0 about1) = true := by decide +kernel
set_option maxRecDepth 65536 in
theorem w_t2 : ((words1.drop 24).take 24).all (fun c => isCode c || c.before args0 about1) = true := by decide +kernel
set_option maxRecDepth 65536 in
theorem w_t3 : ((words1.drop 24).drop 24).all (fun c => isCode c || c.before args0 about1) = true := by decide +kernel
theorem w_tables : (allAtoms (Jvm.Cond.code x code maxLocals ret :: tables_1)).before args0 about1 = true := by
  rw [allAtoms_all]
  show words1.all (fun c => c.before args0 about1) = true
  refine all_split ?_ w_codes
  rw [← List.take_append_drop 24 words1, List.all_append, w_t1, ← List.take_append_drop 24 (words1.drop 24), List.all_append, w_t2, w_t3]
  rfl
set_option maxRecDepth 65536 in
theorem w_rest : rest_1_c.before args0 about1 = true := by decide +kernel
set_option maxRecDepth 65536 in
theorem w_case : (Jvm.Cond.and given_1 narrow_1).before args0 about1 = true := by decide +kernel
set_option maxRecDepth 65536 in
theorem w_consts : constsHeld consts_1 about1 := Jvm.Lit.constsHeldB_iff.mp (by decide +kernel)
theorem w_applies : (headSpec (Jvm.Cond.code x code maxLocals ret :: tables_1) room_1).applies x e0.platform about1 = true :=
  (Spec.applies_iff w_frames).mpr ⟨w_running, w_runnable, w_alone, w_named, w_hears, w_ripe, w_room, w_tables⟩
theorem atStart : AtStart classFile x code maxLocals ret World_1 tables_1 room_1 Calls_1 rest_1 Pre_1 launch0 p0 e0 about1 theMethod args0 below0 :=
  ⟨lists_1, trivial, launch0.admits_env _ _ _, launch0.least_env, fairChoices_fair.cas, fairChoices_fair.clock, w_frames, w_args, w_heap, w_applies, ⟨w_consts, trivial⟩, w_rest, w_case⟩
end start1
theorem witness_1 : WitnessClaimed_1 := ⟨start1.p0, start1.e0, start1.about1, start1.theMethod, start1.args0, start1.below0, start1.atStart⟩
end Jvm.Pilot.@@N@@
