import JvmDerived
import JvmDerived.Pilot.@@N@@Statement
import JvmDerived.Pilot.@@N@@Code
set_option linter.unusedVariables false
set_option linter.unusedSimpArgs false
namespace Jvm.RoadKit
open Sem ClassFile Op Lib Jvm.Stand Jvm.Free Jvm.LawKit
section New
variable {p : Program} {l : Launch} {e : Env} {R : Room} {s : State} {m : MethodId} {args : Array Value} {below : List Frame} {meth : Method} {c : Code} {T : State} {locs : List Loc} {cells slots : Nat}
theorem retI (X : Stand p l e R s m args below meth c T locs cells slots) (hx : p.tables.exec = Jvm.exec) {pc : Nat} {Ls : Array Slot} {z : Int32} {rest : List Value} (hret : meth.sig.returnType = some .int) (hd : decode c.code pc = .ok (.ireturn, 1)) {fs : List Frame}
    (hl : ∀ (f : JFrame) (acts : List Action), f.method = m → f.locked = none → f.entered = [] → (doReturn e (T.setTop f) acts (some (.int z))).1 = T.setFrames fs) : Steps p.tables e below (T.setTop (mkF m pc Ls (.int z :: rest))) (T.setFrames fs) := by
  have hm' : T.vm.method? m = some meth := X.method'
  have hn : narrow .int (.int z) = .int z := rfl
  show Steps p.tables e below (T.setTop { method := m, pc := pc, locals := Ls, stack := _ :: rest, locked := none }) _
  jvm_step X.here [X.here.top, hx, hd, hm', hret, hn]
  first | (intro acts; rw [hl _ acts rfl rfl rfl]) | rw [hl _ _ rfl rfl rfl]
  exact Steps.refl _
theorem retAddr (X : Stand p l e R s m args below meth c T locs cells slots) (hx : p.tables.exec = Jvm.exec) {pc : Nat} {Ls : Array Slot} {z : Addr} {rest : List Value} {t : FieldType} (hret : meth.sig.returnType = some t) (ht : t.isReference = true) (hd : decode c.code pc = .ok (.areturn, 1)) {fs : List Frame}
    (hl : ∀ (f : JFrame) (acts : List Action), f.method = m → f.locked = none → f.entered = [] → (doReturn e (T.setTop f) acts (some (.ref z))).1 = T.setFrames fs) : Steps p.tables e below (T.setTop (mkF m pc Ls (.ref z :: rest))) (T.setFrames fs) := by
  have hm' : T.vm.method? m = some meth := X.method'
  show Steps p.tables e below (T.setTop { method := m, pc := pc, locals := Ls, stack := _ :: rest, locked := none }) _
  jvm_step X.here [X.here.top, hx, hd, hm', hret, ht, Value.isRef]
  first | (intro acts; rw [hl _ acts rfl rfl rfl]) | rw [hl _ _ rfl rfl rfl]
  exact Steps.refl _
end New
end Jvm.RoadKit
namespace Jvm.Pilot.@@N@@
open Jvm Jvm.ClassFile Sem Op Lib Jvm.Free Jvm.Stand Jvm.LawKit Jvm.RoadKit Bundle Jvm.Pilot.@@N@@.Jvm.D
/-- from A the run ends, returning, as Q says of the value, the heap and the places written -/
def own_Fin (tb : Tables) (e : Env) (below : List Frame) (s : State) (C S : Nat) (Q : Option Value → Heap → List Loc → Prop) (A : State) : Prop :=
  ∃ s₂ o, Steps tb e below A s₂ ∧ s₂.status = .running ∧ Ended s₂ below o ∧ ∃ v L, o = .returned v ∧ Q v s₂.heap L ∧ FrameEnd s o s₂ L C S
theorem own_st {tb : Tables} {e : Env} {below : List Frame} {s : State} {C S : Nat} {Q : Option Value → Heap → List Loc → Prop} {A B : State} (h : ∀ t, Steps tb e below B t → Steps tb e below A t) (k : own_Fin tb e below s C S Q B) : own_Fin tb e below s C S Q A := by
  obtain ⟨s₂, o, h1, h2⟩ := k
  exact ⟨s₂, o, h _ h1, h2⟩
section Ret
variable {p : Program} {l : Launch} {e : Env} {R : Room} {s : State} {m : MethodId} {args : Array Value} {below : List Frame} {meth : Method} {c : Code} {T : State} {locs : List Loc} {cells slots : Nat} {Q : Option Value → Heap → List Loc → Prop} {C S : Nat}
theorem own_retN (X : Stand p l e R s m args below meth c T locs cells slots) (hx : p.tables.exec = Jvm.exec) (hk : meth.locks = false) {t : FieldType} (hret : meth.sig.returnType = some t) (ht : t = .boolean ∨ t = .byte ∨ t = .char ∨ t = .short) {pc : Nat} {Ls : Array Slot} {z : Int32} {rest : List Value} (hd : decode c.code pc = .ok (.ireturn, 1)) (hC : cells ≤ C) (hS : slots ≤ S) (hq : Q (some (.int (nar t z))) T.heap locs) : own_Fin p.tables e below s C S Q (T.setTop (mkF m pc Ls (.int z :: rest))) := by
  obtain ⟨fs, hr, hrun, hended, hW, hsame⟩ := X.leave (v := some (.int (nar t z))) (fun h => by rw [hret] at h; cases h)
  exact ⟨_, _, retN X hx hret ht hd hr, hrun, hended, _, _, rfl, hq, ⟨_, rfl⟩, hW, hsame.mono hC hS⟩
theorem own_retI (X : Stand p l e R s m args below meth c T locs cells slots) (hx : p.tables.exec = Jvm.exec) (hk : meth.locks = false) (hret : meth.sig.returnType = some .int) {pc : Nat} {Ls : Array Slot} {z : Int32} {rest : List Value} (hd : decode c.code pc = .ok (.ireturn, 1)) (hC : cells ≤ C) (hS : slots ≤ S) (hq : Q (some (.int z)) T.heap locs) : own_Fin p.tables e below s C S Q (T.setTop (mkF m pc Ls (.int z :: rest))) := by
  obtain ⟨fs, hr, hrun, hended, hW, hsame⟩ := X.leave (v := some (.int z)) (fun h => by rw [hret] at h; cases h)
  exact ⟨_, _, retI X hx hret hd hr, hrun, hended, _, _, rfl, hq, ⟨_, rfl⟩, hW, hsame.mono hC hS⟩
theorem own_retA (X : Stand p l e R s m args below meth c T locs cells slots) (hx : p.tables.exec = Jvm.exec) (hk : meth.locks = false) {t : FieldType} (hret : meth.sig.returnType = some t) (ht : t.isReference = true) {pc : Nat} {Ls : Array Slot} {z : Addr} {rest : List Value} (hd : decode c.code pc = .ok (.areturn, 1)) (hC : cells ≤ C) (hS : slots ≤ S) (hq : Q (some (.ref z)) T.heap locs) : own_Fin p.tables e below s C S Q (T.setTop (mkF m pc Ls (.ref z :: rest))) := by
  obtain ⟨fs, hr, hrun, hended, hW, hsame⟩ := X.leave (v := some (.ref z)) (fun h => by rw [hret] at h; cases h)
  exact ⟨_, _, retAddr X hx hret ht hd hr, hrun, hended, _, _, rfl, hq, ⟨_, rfl⟩, hW, hsame.mono hC hS⟩
theorem own_retJ (X : Stand p l e R s m args below meth c T locs cells slots) (hx : p.tables.exec = Jvm.exec) (hk : meth.locks = false) (hret : meth.sig.returnType = some .long) {pc : Nat} {Ls : Array Slot} {z : Int64} (hd : decode c.code pc = .ok (.lreturn, 1)) (hC : cells ≤ C) (hS : slots ≤ S) (hq : Q (some (.long z)) T.heap locs) : own_Fin p.tables e below s C S Q (T.setTop (mkF m pc Ls [.long z])) := by
  obtain ⟨fs, hr, hrun, hended, hW, hsame⟩ := X.leave (v := some (.long z)) (fun h => by rw [hret] at h; cases h)
  exact ⟨_, _, X.lreturnOut hx hret hd hr, hrun, hended, _, _, rfl, hq, ⟨_, rfl⟩, hW, hsame.mono hC hS⟩
theorem own_retV (X : Stand p l e R s m args below meth c T locs cells slots) (hx : p.tables.exec = Jvm.exec) (hk : meth.locks = false) (hret : meth.sig.returnType = none) {pc : Nat} {Ls : Array Slot} (hd : decode c.code pc = .ok (.return_, 1)) (hC : cells ≤ C) (hS : slots ≤ S) (hq : Q none T.heap locs) : own_Fin p.tables e below s C S Q (T.setTop (mkF m pc Ls [])) := by
  obtain ⟨fs, hr, hrun, hended, hW, hsame⟩ := X.leave (v := none) (fun _ => rfl)
  exact ⟨_, _, X.returnOut hx hret hd hr, hrun, hended, _, _, rfl, hq, ⟨_, rfl⟩, hW, hsame.mono hC hS⟩
end Ret
theorem own_ltT {a b : Int64} (h : a < b) : ifCond.holds .lt (lcmpW a b) = true ∧ ifCond.holds .ge (lcmpW a b) = false := by
  have q := (lw_lt a b).mpr h
  exact ⟨(if0 _ _).trans (tlt q).1, (if0 _ _).trans (tlt q).2.1⟩
theorem own_ltF {a b : Int64} (h : ¬ a < b) : ifCond.holds .lt (lcmpW a b) = false ∧ ifCond.holds .ge (lcmpW a b) = true := by
  have q := mt (lw_lt a b).mp h
  exact ⟨(if0 _ _).trans (flt q).1, (if0 _ _).trans (flt q).2.1⟩
theorem own_gtT {a b : Int64} (h : b < a) : ifCond.holds .gt (lcmpW a b) = true ∧ ifCond.holds .le (lcmpW a b) = false := by
  have q := (lw_gt a b).mpr h
  exact ⟨(if0 _ _).trans (tlt q).2.2.1, (if0 _ _).trans (tlt q).2.2.2⟩
theorem own_gtF {a b : Int64} (h : ¬ b < a) : ifCond.holds .gt (lcmpW a b) = false ∧ ifCond.holds .le (lcmpW a b) = true := by
  have q := mt (lw_gt a b).mp h
  exact ⟨(if0 _ _).trans (flt q).2.2.1, (if0 _ _).trans (flt q).2.2.2⟩
theorem own_eqT {a b : Int64} (h : a = b) : ifCond.holds .eq (lcmpW a b) = true ∧ ifCond.holds .ne (lcmpW a b) = false := by
  have q := (lw_eq a b).mpr h
  exact ⟨(if0 _ _).trans (teq q).1, (if0 _ _).trans (teq q).2⟩
theorem own_eqF {a b : Int64} (h : ¬ a = b) : ifCond.holds .eq (lcmpW a b) = false ∧ ifCond.holds .ne (lcmpW a b) = true := by
  have q := mt (lw_eq a b).mp h
  exact ⟨(if0 _ _).trans (feq q).1, (if0 _ _).trans (feq q).2⟩
theorem d1_0 : decode prog_38_method_22_code 0 = .ok (.iload_n 0, 1) := by decide +kernel
theorem d1_1 : decode prog_38_method_22_code 1 = .ok (.bipush 9, 2) := by decide +kernel
theorem d1_3 : decode prog_38_method_22_code 3 = .ok (.if_icmp .eq 27, 3) := by decide +kernel
theorem d1_6 : decode prog_38_method_22_code 6 = .ok (.iload_n 0, 1) := by decide +kernel
theorem d1_7 : decode prog_38_method_22_code 7 = .ok (.bipush 10, 2) := by decide +kernel
theorem d1_9 : decode prog_38_method_22_code 9 = .ok (.if_icmp .eq 21, 3) := by decide +kernel
theorem d1_12 : decode prog_38_method_22_code 12 = .ok (.iload_n 0, 1) := by decide +kernel
theorem d1_13 : decode prog_38_method_22_code 13 = .ok (.bipush 12, 2) := by decide +kernel
theorem d1_15 : decode prog_38_method_22_code 15 = .ok (.if_icmp .eq 15, 3) := by decide +kernel
theorem d1_18 : decode prog_38_method_22_code 18 = .ok (.iload_n 0, 1) := by decide +kernel
theorem d1_19 : decode prog_38_method_22_code 19 = .ok (.bipush 13, 2) := by decide +kernel
theorem d1_21 : decode prog_38_method_22_code 21 = .ok (.if_icmp .eq 9, 3) := by decide +kernel
theorem d1_24 : decode prog_38_method_22_code 24 = .ok (.iload_n 0, 1) := by decide +kernel
theorem d1_25 : decode prog_38_method_22_code 25 = .ok (.bipush 32, 2) := by decide +kernel
theorem d1_27 : decode prog_38_method_22_code 27 = .ok (.if_icmp .ne 7, 3) := by decide +kernel
theorem d1_30 : decode prog_38_method_22_code 30 = .ok (.iconst 1, 1) := by decide +kernel
theorem d1_31 : decode prog_38_method_22_code 31 = .ok (.goto 4, 3) := by decide +kernel
theorem d1_34 : decode prog_38_method_22_code 34 = .ok (.iconst 0, 1) := by decide +kernel
theorem d1_35 : decode prog_38_method_22_code 35 = .ok (.ireturn, 1) := by decide +kernel
theorem pn_1 : plainFor (⟨"org/forwardtrace/reading/HtmlScanner", "isSpace", "(I)Z"⟩ : MethodName) = true := plainFor_of_name (x := (⟨"org/forwardtrace/reading/HtmlScanner", "isSpace", "(I)Z"⟩ : MethodName)) (by first | (simp [plainName, overriddenIn]; done) | decide +kernel)
theorem ef_1 (m : MethodId) (p1 : Int32) : entryFrame m #[(.int p1)] 1 = mkF m 0 #[.val (.int p1)] [] := by first | (simp [entryFrame, mkF, argsToLocals, Value.category]; done) | rfl
def own_F1 (p1 : Int32) : Int32 := (if p1 = (9 : Int32) then (1 : Int32) else (if p1 = (10 : Int32) then (1 : Int32) else (if p1 = (12 : Int32) then (1 : Int32) else (if p1 = (13 : Int32) then (1 : Int32) else (if p1 = (32 : Int32) then (1 : Int32) else (0 : Int32))))))
def own_Q1 (p1 : Int32) (h0 : Heap) (n0 : Nat) (v : Option Value) (h : Heap) (L : List Loc) : Prop := v = some (.int (own_F1 p1)) ∧ Fr n0 L ∧ h = h0
set_option maxRecDepth 65536 in
set_option maxHeartbeats 40000000 in
theorem rm1 (l : Launch) (Z : State) (a0 : Array Value) (hw : ∀ d ∈ tables_1, d.before a0 Z = true) (ws : List Jvm.Cond) (p1 : Int32) (h0 : Heap) (n0 : Nat) (Z0 : n0 ≤ h0.size) :
    MetFree l (⟨"org/forwardtrace/reading/HtmlScanner", "isSpace", "(I)Z"⟩ : MethodName) (head1 (Jvm.Cond.code (⟨"org/forwardtrace/reading/HtmlScanner", "isSpace", "(I)Z"⟩ : MethodName) prog_38_method_22_code 1 (some .boolean) :: ws) ({ frames := 0, cells := 0, slots := 0, locals := 0 } : Room)) (fun a U => a = #[(.int p1)] ∧ Z.Warmed39 U.vm ∧ U.heap = h0) (fun _ _ _ _ _ => True) (fun _ U o U' => ∃ v L, o = .returned v ∧ own_Q1 p1 h0 n0 v U'.heap L ∧ FrameEnd U o U' L ({ frames := 0, cells := 0, slots := 0, locals := 0 } : Room).cells ({ frames := 0, cells := 0, slots := 0, locals := 0 } : Room).slots) := by
  refine MetFree.of_bodySF pn_1 hisR ?_
  intro p e s m args below meth c s₁ Bd hml0 hP hK
  obtain ⟨rfl, hZ, hh⟩ := hP
  have hx := Bd.exec
  have hby := Bd.bytes
  have hml : c.maxLocals = 1 := hml0
  have hown : s.vm.findClass "org/forwardtrace/reading/HtmlScanner" = some m.cls := findClass_of_methodNamed Bd.named
  have X0 : Stand p l e ({ frames := 0, cells := 0, slots := 0, locals := 0 } : Room) s m #[(.int p1)] below meth c s₁ [] 0 0 := Stand.of_body Bd
  have e0 : s₁.heap = h0 := by rw [← hh, Bd.state]; rfl
  have N0 := Fr.nil n0
  show own_Fin p.tables e below s (({ frames := 0, cells := 0, slots := 0, locals := 0 } : Room).cells) (({ frames := 0, cells := 0, slots := 0, locals := 0 } : Room).slots) (own_Q1 p1 h0 n0) (s₁.setTop (entryFrame m #[(.int p1)] 1))
  rw [ef_1 m p1]
  show own_Fin _ _ _ _ _ _ _ (s₁.setTop (mkF m 0 #[.val (.int p1)] []))
  refine own_st (fun t k => XS.iloadN X0.here hx rfl (hb hby d1_0) rfl k) ?_
  show own_Fin _ _ _ _ _ _ _ (s₁.setTop (mkF m 1 #[.val (.int p1)] [(.int p1)]))
  refine own_st (fun t k => XS.bipush X0.here hx rfl (hb hby d1_1) k) ?_
  show own_Fin _ _ _ _ _ _ _ (s₁.setTop (mkF m 3 #[.val (.int p1)] [(.int (9 : Int32)), (.int p1)]))
  by_cases hc3_1 : p1 = (9 : Int32)
  · refine own_st (fun t k => XS.icmpYes X0.here hx rfl (pc0 := 3) (pc' := 30) rfl (hb hby d1_3) rfl (teq hc3_1).1 (by decide) (by decide) k) ?_
    show own_Fin _ _ _ _ _ _ _ (s₁.setTop (mkF m 30 #[.val (.int p1)] []))
    refine own_st (fun t k => XS.iconst X0.here hx rfl (hb hby d1_30) k) ?_
    show own_Fin _ _ _ _ _ _ _ (s₁.setTop (mkF m 31 #[.val (.int p1)] [(.int (1 : Int32))]))
    refine own_st (fun t k => XS.goto X0.here hx rfl (pc0 := 31) (pc' := 35) rfl (hb hby d1_31) (by decide) (by decide) k) ?_
    show own_Fin _ _ _ _ _ _ _ (s₁.setTop (mkF m 35 #[.val (.int p1)] [(.int (1 : Int32))]))
    have hv : own_F1 p1 = (1 : Int32) := by unfold own_F1; rw [if_pos hc3_1]
    exact own_retN X0 hx Bd.notSynchronized (t := .boolean) Bd.returns (by simp) (hb hby d1_35) (by decide) (by decide) ⟨congrArg (fun z => some (Value.int z)) hv.symm, N0, e0⟩
  · refine own_st (fun t k => XS.icmpNo X0.here hx rfl (hb hby d1_3) rfl (feq hc3_1).1 k) ?_
    show own_Fin _ _ _ _ _ _ _ (s₁.setTop (mkF m 6 #[.val (.int p1)] []))
    refine own_st (fun t k => XS.iloadN X0.here hx rfl (hb hby d1_6) rfl k) ?_
    show own_Fin _ _ _ _ _ _ _ (s₁.setTop (mkF m 7 #[.val (.int p1)] [(.int p1)]))
    refine own_st (fun t k => XS.bipush X0.here hx rfl (hb hby d1_7) k) ?_
    show own_Fin _ _ _ _ _ _ _ (s₁.setTop (mkF m 9 #[.val (.int p1)] [(.int (10 : Int32)), (.int p1)]))
    by_cases hc9_2 : p1 = (10 : Int32)
    · refine own_st (fun t k => XS.icmpYes X0.here hx rfl (pc0 := 9) (pc' := 30) rfl (hb hby d1_9) rfl (teq hc9_2).1 (by decide) (by decide) k) ?_
      show own_Fin _ _ _ _ _ _ _ (s₁.setTop (mkF m 30 #[.val (.int p1)] []))
      refine own_st (fun t k => XS.iconst X0.here hx rfl (hb hby d1_30) k) ?_
      show own_Fin _ _ _ _ _ _ _ (s₁.setTop (mkF m 31 #[.val (.int p1)] [(.int (1 : Int32))]))
      refine own_st (fun t k => XS.goto X0.here hx rfl (pc0 := 31) (pc' := 35) rfl (hb hby d1_31) (by decide) (by decide) k) ?_
      show own_Fin _ _ _ _ _ _ _ (s₁.setTop (mkF m 35 #[.val (.int p1)] [(.int (1 : Int32))]))
      have hv : own_F1 p1 = (1 : Int32) := by unfold own_F1; rw [if_neg hc3_1, if_pos hc9_2]
      exact own_retN X0 hx Bd.notSynchronized (t := .boolean) Bd.returns (by simp) (hb hby d1_35) (by decide) (by decide) ⟨congrArg (fun z => some (Value.int z)) hv.symm, N0, e0⟩
    · refine own_st (fun t k => XS.icmpNo X0.here hx rfl (hb hby d1_9) rfl (feq hc9_2).1 k) ?_
      show own_Fin _ _ _ _ _ _ _ (s₁.setTop (mkF m 12 #[.val (.int p1)] []))
      refine own_st (fun t k => XS.iloadN X0.here hx rfl (hb hby d1_12) rfl k) ?_
      show own_Fin _ _ _ _ _ _ _ (s₁.setTop (mkF m 13 #[.val (.int p1)] [(.int p1)]))
      refine own_st (fun t k => XS.bipush X0.here hx rfl (hb hby d1_13) k) ?_
      show own_Fin _ _ _ _ _ _ _ (s₁.setTop (mkF m 15 #[.val (.int p1)] [(.int (12 : Int32)), (.int p1)]))
      by_cases hc15_3 : p1 = (12 : Int32)
      · refine own_st (fun t k => XS.icmpYes X0.here hx rfl (pc0 := 15) (pc' := 30) rfl (hb hby d1_15) rfl (teq hc15_3).1 (by decide) (by decide) k) ?_
        show own_Fin _ _ _ _ _ _ _ (s₁.setTop (mkF m 30 #[.val (.int p1)] []))
        refine own_st (fun t k => XS.iconst X0.here hx rfl (hb hby d1_30) k) ?_
        show own_Fin _ _ _ _ _ _ _ (s₁.setTop (mkF m 31 #[.val (.int p1)] [(.int (1 : Int32))]))
        refine own_st (fun t k => XS.goto X0.here hx rfl (pc0 := 31) (pc' := 35) rfl (hb hby d1_31) (by decide) (by decide) k) ?_
        show own_Fin _ _ _ _ _ _ _ (s₁.setTop (mkF m 35 #[.val (.int p1)] [(.int (1 : Int32))]))
        have hv : own_F1 p1 = (1 : Int32) := by unfold own_F1; rw [if_neg hc3_1, if_neg hc9_2, if_pos hc15_3]
        exact own_retN X0 hx Bd.notSynchronized (t := .boolean) Bd.returns (by simp) (hb hby d1_35) (by decide) (by decide) ⟨congrArg (fun z => some (Value.int z)) hv.symm, N0, e0⟩
      · refine own_st (fun t k => XS.icmpNo X0.here hx rfl (hb hby d1_15) rfl (feq hc15_3).1 k) ?_
        show own_Fin _ _ _ _ _ _ _ (s₁.setTop (mkF m 18 #[.val (.int p1)] []))
        refine own_st (fun t k => XS.iloadN X0.here hx rfl (hb hby d1_18) rfl k) ?_
        show own_Fin _ _ _ _ _ _ _ (s₁.setTop (mkF m 19 #[.val (.int p1)] [(.int p1)]))
        refine own_st (fun t k => XS.bipush X0.here hx rfl (hb hby d1_19) k) ?_
        show own_Fin _ _ _ _ _ _ _ (s₁.setTop (mkF m 21 #[.val (.int p1)] [(.int (13 : Int32)), (.int p1)]))
        by_cases hc21_4 : p1 = (13 : Int32)
        · refine own_st (fun t k => XS.icmpYes X0.here hx rfl (pc0 := 21) (pc' := 30) rfl (hb hby d1_21) rfl (teq hc21_4).1 (by decide) (by decide) k) ?_
          show own_Fin _ _ _ _ _ _ _ (s₁.setTop (mkF m 30 #[.val (.int p1)] []))
          refine own_st (fun t k => XS.iconst X0.here hx rfl (hb hby d1_30) k) ?_
          show own_Fin _ _ _ _ _ _ _ (s₁.setTop (mkF m 31 #[.val (.int p1)] [(.int (1 : Int32))]))
          refine own_st (fun t k => XS.goto X0.here hx rfl (pc0 := 31) (pc' := 35) rfl (hb hby d1_31) (by decide) (by decide) k) ?_
          show own_Fin _ _ _ _ _ _ _ (s₁.setTop (mkF m 35 #[.val (.int p1)] [(.int (1 : Int32))]))
          have hv : own_F1 p1 = (1 : Int32) := by unfold own_F1; rw [if_neg hc3_1, if_neg hc9_2, if_neg hc15_3, if_pos hc21_4]
          exact own_retN X0 hx Bd.notSynchronized (t := .boolean) Bd.returns (by simp) (hb hby d1_35) (by decide) (by decide) ⟨congrArg (fun z => some (Value.int z)) hv.symm, N0, e0⟩
        · refine own_st (fun t k => XS.icmpNo X0.here hx rfl (hb hby d1_21) rfl (feq hc21_4).1 k) ?_
          show own_Fin _ _ _ _ _ _ _ (s₁.setTop (mkF m 24 #[.val (.int p1)] []))
          refine own_st (fun t k => XS.iloadN X0.here hx rfl (hb hby d1_24) rfl k) ?_
          show own_Fin _ _ _ _ _ _ _ (s₁.setTop (mkF m 25 #[.val (.int p1)] [(.int p1)]))
          refine own_st (fun t k => XS.bipush X0.here hx rfl (hb hby d1_25) k) ?_
          show own_Fin _ _ _ _ _ _ _ (s₁.setTop (mkF m 27 #[.val (.int p1)] [(.int (32 : Int32)), (.int p1)]))
          by_cases hc27_5 : p1 = (32 : Int32)
          · refine own_st (fun t k => XS.icmpNo X0.here hx rfl (hb hby d1_27) rfl (teq hc27_5).2 k) ?_
            show own_Fin _ _ _ _ _ _ _ (s₁.setTop (mkF m 30 #[.val (.int p1)] []))
            refine own_st (fun t k => XS.iconst X0.here hx rfl (hb hby d1_30) k) ?_
            show own_Fin _ _ _ _ _ _ _ (s₁.setTop (mkF m 31 #[.val (.int p1)] [(.int (1 : Int32))]))
            refine own_st (fun t k => XS.goto X0.here hx rfl (pc0 := 31) (pc' := 35) rfl (hb hby d1_31) (by decide) (by decide) k) ?_
            show own_Fin _ _ _ _ _ _ _ (s₁.setTop (mkF m 35 #[.val (.int p1)] [(.int (1 : Int32))]))
            have hv : own_F1 p1 = (1 : Int32) := by unfold own_F1; rw [if_neg hc3_1, if_neg hc9_2, if_neg hc15_3, if_neg hc21_4, if_pos hc27_5]
            exact own_retN X0 hx Bd.notSynchronized (t := .boolean) Bd.returns (by simp) (hb hby d1_35) (by decide) (by decide) ⟨congrArg (fun z => some (Value.int z)) hv.symm, N0, e0⟩
          · refine own_st (fun t k => XS.icmpYes X0.here hx rfl (pc0 := 27) (pc' := 34) rfl (hb hby d1_27) rfl (feq hc27_5).2 (by decide) (by decide) k) ?_
            show own_Fin _ _ _ _ _ _ _ (s₁.setTop (mkF m 34 #[.val (.int p1)] []))
            refine own_st (fun t k => XS.iconst X0.here hx rfl (hb hby d1_34) k) ?_
            show own_Fin _ _ _ _ _ _ _ (s₁.setTop (mkF m 35 #[.val (.int p1)] [(.int (0 : Int32))]))
            have hv : own_F1 p1 = (0 : Int32) := by unfold own_F1; rw [if_neg hc3_1, if_neg hc9_2, if_neg hc15_3, if_neg hc21_4, if_neg hc27_5]
            exact own_retN X0 hx Bd.notSynchronized (t := .boolean) Bd.returns (by simp) (hb hby d1_35) (by decide) (by decide) ⟨congrArg (fun z => some (Value.int z)) hv.symm, N0, e0⟩
theorem pn_0 : plainFor x = true := plainFor_of_name (x := x) (by first | (simp [plainName, overriddenIn]; done) | decide +kernel)
theorem pd_0_0 : parseMethodDescriptor "(I)Z" = some ⟨[.int], some .boolean⟩ := by decide +kernel
theorem ef_0 (m : MethodId) (p1 : Int32) (p2 : Int32) : entryFrame m #[(.int p1), (.int p2)] maxLocals = mkF m 0 #[.val (.int p1), .val (.int p2), .unset, .unset] [] := by first | (simp [entryFrame, mkF, argsToLocals, Value.category, maxLocals]; done) | rfl
def own_F0 (p1 : Int32) (p2 : Int32) : Int32 := (if (p2 &&& (1 : Int32)) = (0 : Int32) then (if p1 < (9 : Int32) then (if p1 = (32 : Int32) then (if (own_F1 p1) = (1 : Int32) then (1 : Int32) else (0 : Int32)) else (if (own_F1 p1) = (0 : Int32) then (1 : Int32) else (0 : Int32))) else (if (13 : Int32) < p1 then (if p1 = (32 : Int32) then (if (own_F1 p1) = (1 : Int32) then (1 : Int32) else (0 : Int32)) else (if (own_F1 p1) = (0 : Int32) then (1 : Int32) else (0 : Int32))) else (if p1 = (11 : Int32) then (if p1 = (32 : Int32) then (if (own_F1 p1) = (1 : Int32) then (1 : Int32) else (0 : Int32)) else (if (own_F1 p1) = (0 : Int32) then (1 : Int32) else (0 : Int32))) else (if (own_F1 p1) = (1 : Int32) then (1 : Int32) else (0 : Int32))))) else (if ((p1 &&& (63 : Int32)) - (8 : Int32)) < (9 : Int32) then (if ((p1 &&& (63 : Int32)) - (8 : Int32)) = (32 : Int32) then (if (own_F1 ((p1 &&& (63 : Int32)) - (8 : Int32))) = (1 : Int32) then (1 : Int32) else (0 : Int32)) else (if (own_F1 ((p1 &&& (63 : Int32)) - (8 : Int32))) = (0 : Int32) then (1 : Int32) else (0 : Int32))) else (if (13 : Int32) < ((p1 &&& (63 : Int32)) - (8 : Int32)) then (if ((p1 &&& (63 : Int32)) - (8 : Int32)) = (32 : Int32) then (if (own_F1 ((p1 &&& (63 : Int32)) - (8 : Int32))) = (1 : Int32) then (1 : Int32) else (0 : Int32)) else (if (own_F1 ((p1 &&& (63 : Int32)) - (8 : Int32))) = (0 : Int32) then (1 : Int32) else (0 : Int32))) else (if ((p1 &&& (63 : Int32)) - (8 : Int32)) = (11 : Int32) then (if ((p1 &&& (63 : Int32)) - (8 : Int32)) = (32 : Int32) then (if (own_F1 ((p1 &&& (63 : Int32)) - (8 : Int32))) = (1 : Int32) then (1 : Int32) else (0 : Int32)) else (if (own_F1 ((p1 &&& (63 : Int32)) - (8 : Int32))) = (0 : Int32) then (1 : Int32) else (0 : Int32))) else (if (own_F1 ((p1 &&& (63 : Int32)) - (8 : Int32))) = (1 : Int32) then (1 : Int32) else (0 : Int32))))))
def own_Q0 (p1 : Int32) (p2 : Int32) (h0 : Heap) (n0 : Nat) (v : Option Value) (h : Heap) (L : List Loc) : Prop := v = some (.int (own_F0 p1 p2)) ∧ Fr n0 L ∧ h = h0
set_option maxRecDepth 65536 in
set_option maxHeartbeats 40000000 in
theorem rm0 (l : Launch) (Z : State) (a0 : Array Value) (hw : ∀ d ∈ tables_1, d.before a0 Z = true) (ws : List Jvm.Cond) (p1 : Int32) (p2 : Int32) (h0 : Heap) (n0 : Nat) (Z0 : n0 ≤ h0.size) :
    MetFree l x (head1 (Jvm.Cond.code x code maxLocals ret :: ws) room_1) (fun a U => a = #[(.int p1), (.int p2)] ∧ Z.Warmed39 U.vm ∧ U.heap = h0) (fun _ _ _ _ _ => True) (fun _ U o U' => ∃ v L, o = .returned v ∧ own_Q0 p1 p2 h0 n0 v U'.heap L ∧ FrameEnd U o U' L 0 0) := by
  refine MetFree.of_bodySF pn_0 hisR ?_
  intro p e s m args below meth c s₁ Bd hml0 hP hK
  obtain ⟨rfl, hZ, hh⟩ := hP
  have hx := Bd.exec
  have hby := Bd.bytes
  have hml : c.maxLocals = 4 := hml0
  have hown : s.vm.findClass "org/forwardtrace/reading/HtmlScannerIsSpacePinLaw" = some m.cls := findClass_of_methodNamed Bd.named
  have X0 : Stand p l e room_1 s m #[(.int p1), (.int p2)] below meth c s₁ [] 0 0 := Stand.of_body Bd
  have e0 : s₁.heap = h0 := by rw [← hh, Bd.state]; rfl
  have N0 := Fr.nil n0
  show own_Fin p.tables e below s (0) (0) (own_Q0 p1 p2 h0 n0) (s₁.setTop (entryFrame m #[(.int p1), (.int p2)] maxLocals))
  rw [ef_0 m p1 p2]
  show own_Fin _ _ _ _ _ _ _ (s₁.setTop (mkF m 0 #[.val (.int p1), .val (.int p2), .unset, .unset] []))
  refine own_st (fun t k => XS.iloadN X0.here hx rfl (hb hby at_0) rfl k) ?_
  show own_Fin _ _ _ _ _ _ _ (s₁.setTop (mkF m 1 #[.val (.int p1), .val (.int p2), .unset, .unset] [(.int p2)]))
  refine own_st (fun t k => XS.iconst X0.here hx rfl (hb hby at_1) k) ?_
  show own_Fin _ _ _ _ _ _ _ (s₁.setTop (mkF m 2 #[.val (.int p1), .val (.int p2), .unset, .unset] [(.int (1 : Int32)), (.int p2)]))
  refine own_st (fun t k => XS.iand X0.here hx rfl (hb hby at_2) rfl k) ?_
  show own_Fin _ _ _ _ _ _ _ (s₁.setTop (mkF m 3 #[.val (.int p1), .val (.int p2), .unset, .unset] [(.int (p2 &&& (1 : Int32)))]))
  by_cases hc3_1 : (p2 &&& (1 : Int32)) = (0 : Int32)
  · refine own_st (fun t k => XS.ifNo X0.here hx rfl (hb hby at_3) rfl ((if0 _ _).trans (teq hc3_1).2) k) ?_
    show own_Fin _ _ _ _ _ _ _ (s₁.setTop (mkF m 6 #[.val (.int p1), .val (.int p2), .unset, .unset] []))
    refine own_st (fun t k => XS.iloadN X0.here hx rfl (hb hby at_6) rfl k) ?_
    show own_Fin _ _ _ _ _ _ _ (s₁.setTop (mkF m 7 #[.val (.int p1), .val (.int p2), .unset, .unset] [(.int p1)]))
    refine own_st (fun t k => XS.goto X0.here hx rfl (pc0 := 7) (pc' := 17) rfl (hb hby at_7) (by decide) (by decide) k) ?_
    show own_Fin _ _ _ _ _ _ _ (s₁.setTop (mkF m 17 #[.val (.int p1), .val (.int p2), .unset, .unset] [(.int p1)]))
    refine own_st (fun t k => XS.istoreN X0.here hx rfl (hb hby at_17) rfl (l' := #[.val (.int p1), .val (.int p2), .val (.int p1), .unset]) rfl k) ?_
    show own_Fin _ _ _ _ _ _ _ (s₁.setTop (mkF m 18 #[.val (.int p1), .val (.int p2), .val (.int p1), .unset] []))
    refine own_st (fun t k => XS.iloadN X0.here hx rfl (hb hby at_18) rfl k) ?_
    show own_Fin _ _ _ _ _ _ _ (s₁.setTop (mkF m 19 #[.val (.int p1), .val (.int p2), .val (.int p1), .unset] [(.int p1)]))
    refine own_st (fun t k => XS.bipush X0.here hx rfl (hb hby at_19) k) ?_
    show own_Fin _ _ _ _ _ _ _ (s₁.setTop (mkF m 21 #[.val (.int p1), .val (.int p2), .val (.int p1), .unset] [(.int (9 : Int32)), (.int p1)]))
    by_cases hc21_2 : p1 < (9 : Int32)
    · refine own_st (fun t k => XS.icmpYes X0.here hx rfl (pc0 := 21) (pc' := 36) rfl (hb hby at_21) rfl (tlt hc21_2).1 (by decide) (by decide) k) ?_
      show own_Fin _ _ _ _ _ _ _ (s₁.setTop (mkF m 36 #[.val (.int p1), .val (.int p2), .val (.int p1), .unset] []))
      refine own_st (fun t k => XS.iloadN X0.here hx rfl (hb hby at_36) rfl k) ?_
      show own_Fin _ _ _ _ _ _ _ (s₁.setTop (mkF m 37 #[.val (.int p1), .val (.int p2), .val (.int p1), .unset] [(.int p1)]))
      refine own_st (fun t k => XS.bipush X0.here hx rfl (hb hby at_37) k) ?_
      show own_Fin _ _ _ _ _ _ _ (s₁.setTop (mkF m 39 #[.val (.int p1), .val (.int p2), .val (.int p1), .unset] [(.int (32 : Int32)), (.int p1)]))
      by_cases hc39_3 : p1 = (32 : Int32)
      · refine own_st (fun t k => XS.icmpNo X0.here hx rfl (hb hby at_39) rfl (teq hc39_3).2 k) ?_
        show own_Fin _ _ _ _ _ _ _ (s₁.setTop (mkF m 42 #[.val (.int p1), .val (.int p2), .val (.int p1), .unset] []))
        refine own_st (fun t k => XS.iconst X0.here hx rfl (hb hby at_42) k) ?_
        show own_Fin _ _ _ _ _ _ _ (s₁.setTop (mkF m 43 #[.val (.int p1), .val (.int p2), .val (.int p1), .unset] [(.int (1 : Int32))]))
        refine own_st (fun t k => XS.goto X0.here hx rfl (pc0 := 43) (pc' := 47) rfl (hb hby at_43) (by decide) (by decide) k) ?_
        show own_Fin _ _ _ _ _ _ _ (s₁.setTop (mkF m 47 #[.val (.int p1), .val (.int p2), .val (.int p1), .unset] [(.int (1 : Int32))]))
        refine own_st (fun t k => XS.istoreN X0.here hx rfl (hb hby at_47) rfl (l' := #[.val (.int p1), .val (.int p2), .val (.int p1), .val (.int (1 : Int32))]) rfl k) ?_
        show own_Fin _ _ _ _ _ _ _ (s₁.setTop (mkF m 48 #[.val (.int p1), .val (.int p2), .val (.int p1), .val (.int (1 : Int32))] []))
        refine own_st (fun t k => XS.iloadN X0.here hx rfl (hb hby at_48) rfl k) ?_
        show own_Fin _ _ _ _ _ _ _ (s₁.setTop (mkF m 49 #[.val (.int p1), .val (.int p2), .val (.int p1), .val (.int (1 : Int32))] [(.int p1)]))
        obtain ⟨_, _, ⟨T4, L4, k4, n4⟩, -, X4, ⟨Lc4, hQ4, l4, y4, z4⟩, st4⟩ := Jvm.LawKit.callS X0 hx (y := (⟨"org/forwardtrace/reading/HtmlScanner", "isSpace", "(I)Z"⟩ : MethodName)) hown (mvT hZ (hw _ (List.mem_of_getElem? (i := 0) rfl))) (mvT hZ (hw _ (List.mem_of_getElem? (i := 1) rfl))) (mvT hZ (hw _ (List.mem_of_getElem? (i := 2) rfl))) (mvT hZ (hw _ (List.mem_of_getElem? (i := 3) rfl))) (by decide) (backOf (W := 0) (rm1 l Z a0 hw [] p1 h0 n0 Z0) hZ (hw _ (List.mem_of_getElem? (i := 3) rfl)) (hw _ (List.mem_of_getElem? (i := 2) rfl)) (by decide) (by decide)) (g := (mkF m 49 #[.val (.int p1), .val (.int p2), .val (.int p1), .val (.int (1 : Int32))] [(.int p1)])) rfl (by rw [hml]; rfl) (argsL := [(.int p1)]) (rest := []) (lenOf pd_0_0 rfl) rfl (by show 2 * 0 + _ ≤ _; exact Nat.le_of_eq rfl) (hb hby at_49) (fun _ _ => ⟨rfl, e0, (by decide : 0 + 0 ≤ _), (by decide : 0 + 0 ≤ _)⟩)
        dsimp only [Pt.U, Pt.locs, Pt.cells, Pt.slots] at X4 l4 y4 z4 st4 hQ4
        subst l4 y4 z4
        obtain ⟨rfl, N4q, e4⟩ := hQ4
        have N4 := Fr.app N0 N4q
        refine own_st st4 ?_
        show own_Fin _ _ _ _ _ _ _ (T4.setTop (mkF m 52 #[.val (.int p1), .val (.int p2), .val (.int p1), .val (.int (1 : Int32))] [(.int (own_F1 p1))]))
        refine own_st (fun t k => XS.iloadN X4.here hx rfl (hb hby at_52) rfl k) ?_
        show own_Fin _ _ _ _ _ _ _ (T4.setTop (mkF m 53 #[.val (.int p1), .val (.int p2), .val (.int p1), .val (.int (1 : Int32))] [(.int (1 : Int32)), (.int (own_F1 p1))]))
        by_cases hc53_5 : (own_F1 p1) = (1 : Int32)
        · refine own_st (fun t k => XS.icmpNo X4.here hx rfl (hb hby at_53) rfl (teq hc53_5).2 k) ?_
          show own_Fin _ _ _ _ _ _ _ (T4.setTop (mkF m 56 #[.val (.int p1), .val (.int p2), .val (.int p1), .val (.int (1 : Int32))] []))
          refine own_st (fun t k => XS.iconst X4.here hx rfl (hb hby at_56) k) ?_
          show own_Fin _ _ _ _ _ _ _ (T4.setTop (mkF m 57 #[.val (.int p1), .val (.int p2), .val (.int p1), .val (.int (1 : Int32))] [(.int (1 : Int32))]))
          refine own_st (fun t k => XS.goto X4.here hx rfl (pc0 := 57) (pc' := 61) rfl (hb hby at_57) (by decide) (by decide) k) ?_
          show own_Fin _ _ _ _ _ _ _ (T4.setTop (mkF m 61 #[.val (.int p1), .val (.int p2), .val (.int p1), .val (.int (1 : Int32))] [(.int (1 : Int32))]))
          have hv : own_F0 p1 p2 = (1 : Int32) := by unfold own_F0; rw [if_pos hc3_1, if_pos hc21_2, if_pos hc39_3, if_pos hc53_5]
          exact own_retN X4 hx Bd.notSynchronized (t := .boolean) Bd.returns (by simp) (hb hby at_61) (by decide) (by decide) ⟨congrArg (fun z => some (Value.int z)) hv.symm, N4, e4⟩
        · refine own_st (fun t k => XS.icmpYes X4.here hx rfl (pc0 := 53) (pc' := 60) rfl (hb hby at_53) rfl (feq hc53_5).2 (by decide) (by decide) k) ?_
          show own_Fin _ _ _ _ _ _ _ (T4.setTop (mkF m 60 #[.val (.int p1), .val (.int p2), .val (.int p1), .val (.int (1 : Int32))] []))
          refine own_st (fun t k => XS.iconst X4.here hx rfl (hb hby at_60) k) ?_
          show own_Fin _ _ _ _ _ _ _ (T4.setTop (mkF m 61 #[.val (.int p1), .val (.int p2), .val (.int p1), .val (.int (1 : Int32))] [(.int (0 : Int32))]))
          have hv : own_F0 p1 p2 = (0 : Int32) := by unfold own_F0; rw [if_pos hc3_1, if_pos hc21_2, if_pos hc39_3, if_neg hc53_5]
          exact own_retN X4 hx Bd.notSynchronized (t := .boolean) Bd.returns (by simp) (hb hby at_61) (by decide) (by decide) ⟨congrArg (fun z => some (Value.int z)) hv.symm, N4, e4⟩
      · refine own_st (fun t k => XS.icmpYes X0.here hx rfl (pc0 := 39) (pc' := 46) rfl (hb hby at_39) rfl (feq hc39_3).2 (by decide) (by decide) k) ?_
        show own_Fin _ _ _ _ _ _ _ (s₁.setTop (mkF m 46 #[.val (.int p1), .val (.int p2), .val (.int p1), .unset] []))
        refine own_st (fun t k => XS.iconst X0.here hx rfl (hb hby at_46) k) ?_
        show own_Fin _ _ _ _ _ _ _ (s₁.setTop (mkF m 47 #[.val (.int p1), .val (.int p2), .val (.int p1), .unset] [(.int (0 : Int32))]))
        refine own_st (fun t k => XS.istoreN X0.here hx rfl (hb hby at_47) rfl (l' := #[.val (.int p1), .val (.int p2), .val (.int p1), .val (.int (0 : Int32))]) rfl k) ?_
        show own_Fin _ _ _ _ _ _ _ (s₁.setTop (mkF m 48 #[.val (.int p1), .val (.int p2), .val (.int p1), .val (.int (0 : Int32))] []))
        refine own_st (fun t k => XS.iloadN X0.here hx rfl (hb hby at_48) rfl k) ?_
        show own_Fin _ _ _ _ _ _ _ (s₁.setTop (mkF m 49 #[.val (.int p1), .val (.int p2), .val (.int p1), .val (.int (0 : Int32))] [(.int p1)]))
        obtain ⟨_, _, ⟨T6, L6, k6, n6⟩, -, X6, ⟨Lc6, hQ6, l6, y6, z6⟩, st6⟩ := Jvm.LawKit.callS X0 hx (y := (⟨"org/forwardtrace/reading/HtmlScanner", "isSpace", "(I)Z"⟩ : MethodName)) hown (mvT hZ (hw _ (List.mem_of_getElem? (i := 0) rfl))) (mvT hZ (hw _ (List.mem_of_getElem? (i := 1) rfl))) (mvT hZ (hw _ (List.mem_of_getElem? (i := 2) rfl))) (mvT hZ (hw _ (List.mem_of_getElem? (i := 3) rfl))) (by decide) (backOf (W := 0) (rm1 l Z a0 hw [] p1 h0 n0 Z0) hZ (hw _ (List.mem_of_getElem? (i := 3) rfl)) (hw _ (List.mem_of_getElem? (i := 2) rfl)) (by decide) (by decide)) (g := (mkF m 49 #[.val (.int p1), .val (.int p2), .val (.int p1), .val (.int (0 : Int32))] [(.int p1)])) rfl (by rw [hml]; rfl) (argsL := [(.int p1)]) (rest := []) (lenOf pd_0_0 rfl) rfl (by show 2 * 0 + _ ≤ _; exact Nat.le_of_eq rfl) (hb hby at_49) (fun _ _ => ⟨rfl, e0, (by decide : 0 + 0 ≤ _), (by decide : 0 + 0 ≤ _)⟩)
        dsimp only [Pt.U, Pt.locs, Pt.cells, Pt.slots] at X6 l6 y6 z6 st6 hQ6
        subst l6 y6 z6
        obtain ⟨rfl, N6q, e6⟩ := hQ6
        have N6 := Fr.app N0 N6q
        refine own_st st6 ?_
        show own_Fin _ _ _ _ _ _ _ (T6.setTop (mkF m 52 #[.val (.int p1), .val (.int p2), .val (.int p1), .val (.int (0 : Int32))] [(.int (own_F1 p1))]))
        refine own_st (fun t k => XS.iloadN X6.here hx rfl (hb hby at_52) rfl k) ?_
        show own_Fin _ _ _ _ _ _ _ (T6.setTop (mkF m 53 #[.val (.int p1), .val (.int p2), .val (.int p1), .val (.int (0 : Int32))] [(.int (0 : Int32)), (.int (own_F1 p1))]))
        by_cases hc53_7 : (own_F1 p1) = (0 : Int32)
        · refine own_st (fun t k => XS.icmpNo X6.here hx rfl (hb hby at_53) rfl (teq hc53_7).2 k) ?_
          show own_Fin _ _ _ _ _ _ _ (T6.setTop (mkF m 56 #[.val (.int p1), .val (.int p2), .val (.int p1), .val (.int (0 : Int32))] []))
          refine own_st (fun t k => XS.iconst X6.here hx rfl (hb hby at_56) k) ?_
          show own_Fin _ _ _ _ _ _ _ (T6.setTop (mkF m 57 #[.val (.int p1), .val (.int p2), .val (.int p1), .val (.int (0 : Int32))] [(.int (1 : Int32))]))
          refine own_st (fun t k => XS.goto X6.here hx rfl (pc0 := 57) (pc' := 61) rfl (hb hby at_57) (by decide) (by decide) k) ?_
          show own_Fin _ _ _ _ _ _ _ (T6.setTop (mkF m 61 #[.val (.int p1), .val (.int p2), .val (.int p1), .val (.int (0 : Int32))] [(.int (1 : Int32))]))
          have hv : own_F0 p1 p2 = (1 : Int32) := by unfold own_F0; rw [if_pos hc3_1, if_pos hc21_2, if_neg hc39_3, if_pos hc53_7]
          exact own_retN X6 hx Bd.notSynchronized (t := .boolean) Bd.returns (by simp) (hb hby at_61) (by decide) (by decide) ⟨congrArg (fun z => some (Value.int z)) hv.symm, N6, e6⟩
        · refine own_st (fun t k => XS.icmpYes X6.here hx rfl (pc0 := 53) (pc' := 60) rfl (hb hby at_53) rfl (feq hc53_7).2 (by decide) (by decide) k) ?_
          show own_Fin _ _ _ _ _ _ _ (T6.setTop (mkF m 60 #[.val (.int p1), .val (.int p2), .val (.int p1), .val (.int (0 : Int32))] []))
          refine own_st (fun t k => XS.iconst X6.here hx rfl (hb hby at_60) k) ?_
          show own_Fin _ _ _ _ _ _ _ (T6.setTop (mkF m 61 #[.val (.int p1), .val (.int p2), .val (.int p1), .val (.int (0 : Int32))] [(.int (0 : Int32))]))
          have hv : own_F0 p1 p2 = (0 : Int32) := by unfold own_F0; rw [if_pos hc3_1, if_pos hc21_2, if_neg hc39_3, if_neg hc53_7]
          exact own_retN X6 hx Bd.notSynchronized (t := .boolean) Bd.returns (by simp) (hb hby at_61) (by decide) (by decide) ⟨congrArg (fun z => some (Value.int z)) hv.symm, N6, e6⟩
    · refine own_st (fun t k => XS.icmpNo X0.here hx rfl (hb hby at_21) rfl (flt hc21_2).1 k) ?_
      show own_Fin _ _ _ _ _ _ _ (s₁.setTop (mkF m 24 #[.val (.int p1), .val (.int p2), .val (.int p1), .unset] []))
      refine own_st (fun t k => XS.iloadN X0.here hx rfl (hb hby at_24) rfl k) ?_
      show own_Fin _ _ _ _ _ _ _ (s₁.setTop (mkF m 25 #[.val (.int p1), .val (.int p2), .val (.int p1), .unset] [(.int p1)]))
      refine own_st (fun t k => XS.bipush X0.here hx rfl (hb hby at_25) k) ?_
      show own_Fin _ _ _ _ _ _ _ (s₁.setTop (mkF m 27 #[.val (.int p1), .val (.int p2), .val (.int p1), .unset] [(.int (13 : Int32)), (.int p1)]))
      by_cases hc27_8 : (13 : Int32) < p1
      · refine own_st (fun t k => XS.icmpYes X0.here hx rfl (pc0 := 27) (pc' := 36) rfl (hb hby at_27) rfl (tlt hc27_8).2.2.1 (by decide) (by decide) k) ?_
        show own_Fin _ _ _ _ _ _ _ (s₁.setTop (mkF m 36 #[.val (.int p1), .val (.int p2), .val (.int p1), .unset] []))
        refine own_st (fun t k => XS.iloadN X0.here hx rfl (hb hby at_36) rfl k) ?_
        show own_Fin _ _ _ _ _ _ _ (s₁.setTop (mkF m 37 #[.val (.int p1), .val (.int p2), .val (.int p1), .unset] [(.int p1)]))
        refine own_st (fun t k => XS.bipush X0.here hx rfl (hb hby at_37) k) ?_
        show own_Fin _ _ _ _ _ _ _ (s₁.setTop (mkF m 39 #[.val (.int p1), .val (.int p2), .val (.int p1), .unset] [(.int (32 : Int32)), (.int p1)]))
        by_cases hc39_9 : p1 = (32 : Int32)
        · refine own_st (fun t k => XS.icmpNo X0.here hx rfl (hb hby at_39) rfl (teq hc39_9).2 k) ?_
          show own_Fin _ _ _ _ _ _ _ (s₁.setTop (mkF m 42 #[.val (.int p1), .val (.int p2), .val (.int p1), .unset] []))
          refine own_st (fun t k => XS.iconst X0.here hx rfl (hb hby at_42) k) ?_
          show own_Fin _ _ _ _ _ _ _ (s₁.setTop (mkF m 43 #[.val (.int p1), .val (.int p2), .val (.int p1), .unset] [(.int (1 : Int32))]))
          refine own_st (fun t k => XS.goto X0.here hx rfl (pc0 := 43) (pc' := 47) rfl (hb hby at_43) (by decide) (by decide) k) ?_
          show own_Fin _ _ _ _ _ _ _ (s₁.setTop (mkF m 47 #[.val (.int p1), .val (.int p2), .val (.int p1), .unset] [(.int (1 : Int32))]))
          refine own_st (fun t k => XS.istoreN X0.here hx rfl (hb hby at_47) rfl (l' := #[.val (.int p1), .val (.int p2), .val (.int p1), .val (.int (1 : Int32))]) rfl k) ?_
          show own_Fin _ _ _ _ _ _ _ (s₁.setTop (mkF m 48 #[.val (.int p1), .val (.int p2), .val (.int p1), .val (.int (1 : Int32))] []))
          refine own_st (fun t k => XS.iloadN X0.here hx rfl (hb hby at_48) rfl k) ?_
          show own_Fin _ _ _ _ _ _ _ (s₁.setTop (mkF m 49 #[.val (.int p1), .val (.int p2), .val (.int p1), .val (.int (1 : Int32))] [(.int p1)]))
          obtain ⟨_, _, ⟨T10, L10, k10, n10⟩, -, X10, ⟨Lc10, hQ10, l10, y10, z10⟩, st10⟩ := Jvm.LawKit.callS X0 hx (y := (⟨"org/forwardtrace/reading/HtmlScanner", "isSpace", "(I)Z"⟩ : MethodName)) hown (mvT hZ (hw _ (List.mem_of_getElem? (i := 0) rfl))) (mvT hZ (hw _ (List.mem_of_getElem? (i := 1) rfl))) (mvT hZ (hw _ (List.mem_of_getElem? (i := 2) rfl))) (mvT hZ (hw _ (List.mem_of_getElem? (i := 3) rfl))) (by decide) (backOf (W := 0) (rm1 l Z a0 hw [] p1 h0 n0 Z0) hZ (hw _ (List.mem_of_getElem? (i := 3) rfl)) (hw _ (List.mem_of_getElem? (i := 2) rfl)) (by decide) (by decide)) (g := (mkF m 49 #[.val (.int p1), .val (.int p2), .val (.int p1), .val (.int (1 : Int32))] [(.int p1)])) rfl (by rw [hml]; rfl) (argsL := [(.int p1)]) (rest := []) (lenOf pd_0_0 rfl) rfl (by show 2 * 0 + _ ≤ _; exact Nat.le_of_eq rfl) (hb hby at_49) (fun _ _ => ⟨rfl, e0, (by decide : 0 + 0 ≤ _), (by decide : 0 + 0 ≤ _)⟩)
          dsimp only [Pt.U, Pt.locs, Pt.cells, Pt.slots] at X10 l10 y10 z10 st10 hQ10
          subst l10 y10 z10
          obtain ⟨rfl, N10q, e10⟩ := hQ10
          have N10 := Fr.app N0 N10q
          refine own_st st10 ?_
          show own_Fin _ _ _ _ _ _ _ (T10.setTop (mkF m 52 #[.val (.int p1), .val (.int p2), .val (.int p1), .val (.int (1 : Int32))] [(.int (own_F1 p1))]))
          refine own_st (fun t k => XS.iloadN X10.here hx rfl (hb hby at_52) rfl k) ?_
          show own_Fin _ _ _ _ _ _ _ (T10.setTop (mkF m 53 #[.val (.int p1), .val (.int p2), .val (.int p1), .val (.int (1 : Int32))] [(.int (1 : Int32)), (.int (own_F1 p1))]))
          by_cases hc53_11 : (own_F1 p1) = (1 : Int32)
          · refine own_st (fun t k => XS.icmpNo X10.here hx rfl (hb hby at_53) rfl (teq hc53_11).2 k) ?_
            show own_Fin _ _ _ _ _ _ _ (T10.setTop (mkF m 56 #[.val (.int p1), .val (.int p2), .val (.int p1), .val (.int (1 : Int32))] []))
            refine own_st (fun t k => XS.iconst X10.here hx rfl (hb hby at_56) k) ?_
            show own_Fin _ _ _ _ _ _ _ (T10.setTop (mkF m 57 #[.val (.int p1), .val (.int p2), .val (.int p1), .val (.int (1 : Int32))] [(.int (1 : Int32))]))
            refine own_st (fun t k => XS.goto X10.here hx rfl (pc0 := 57) (pc' := 61) rfl (hb hby at_57) (by decide) (by decide) k) ?_
            show own_Fin _ _ _ _ _ _ _ (T10.setTop (mkF m 61 #[.val (.int p1), .val (.int p2), .val (.int p1), .val (.int (1 : Int32))] [(.int (1 : Int32))]))
            have hv : own_F0 p1 p2 = (1 : Int32) := by unfold own_F0; rw [if_pos hc3_1, if_neg hc21_2, if_pos hc27_8, if_pos hc39_9, if_pos hc53_11]
            exact own_retN X10 hx Bd.notSynchronized (t := .boolean) Bd.returns (by simp) (hb hby at_61) (by decide) (by decide) ⟨congrArg (fun z => some (Value.int z)) hv.symm, N10, e10⟩
          · refine own_st (fun t k => XS.icmpYes X10.here hx rfl (pc0 := 53) (pc' := 60) rfl (hb hby at_53) rfl (feq hc53_11).2 (by decide) (by decide) k) ?_
            show own_Fin _ _ _ _ _ _ _ (T10.setTop (mkF m 60 #[.val (.int p1), .val (.int p2), .val (.int p1), .val (.int (1 : Int32))] []))
            refine own_st (fun t k => XS.iconst X10.here hx rfl (hb hby at_60) k) ?_
            show own_Fin _ _ _ _ _ _ _ (T10.setTop (mkF m 61 #[.val (.int p1), .val (.int p2), .val (.int p1), .val (.int (1 : Int32))] [(.int (0 : Int32))]))
            have hv : own_F0 p1 p2 = (0 : Int32) := by unfold own_F0; rw [if_pos hc3_1, if_neg hc21_2, if_pos hc27_8, if_pos hc39_9, if_neg hc53_11]
            exact own_retN X10 hx Bd.notSynchronized (t := .boolean) Bd.returns (by simp) (hb hby at_61) (by decide) (by decide) ⟨congrArg (fun z => some (Value.int z)) hv.symm, N10, e10⟩
        · refine own_st (fun t k => XS.icmpYes X0.here hx rfl (pc0 := 39) (pc' := 46) rfl (hb hby at_39) rfl (feq hc39_9).2 (by decide) (by decide) k) ?_
          show own_Fin _ _ _ _ _ _ _ (s₁.setTop (mkF m 46 #[.val (.int p1), .val (.int p2), .val (.int p1), .unset] []))
          refine own_st (fun t k => XS.iconst X0.here hx rfl (hb hby at_46) k) ?_
          show own_Fin _ _ _ _ _ _ _ (s₁.setTop (mkF m 47 #[.val (.int p1), .val (.int p2), .val (.int p1), .unset] [(.int (0 : Int32))]))
          refine own_st (fun t k => XS.istoreN X0.here hx rfl (hb hby at_47) rfl (l' := #[.val (.int p1), .val (.int p2), .val (.int p1), .val (.int (0 : Int32))]) rfl k) ?_
          show own_Fin _ _ _ _ _ _ _ (s₁.setTop (mkF m 48 #[.val (.int p1), .val (.int p2), .val (.int p1), .val (.int (0 : Int32))] []))
          refine own_st (fun t k => XS.iloadN X0.here hx rfl (hb hby at_48) rfl k) ?_
          show own_Fin _ _ _ _ _ _ _ (s₁.setTop (mkF m 49 #[.val (.int p1), .val (.int p2), .val (.int p1), .val (.int (0 : Int32))] [(.int p1)]))
          obtain ⟨_, _, ⟨T12, L12, k12, n12⟩, -, X12, ⟨Lc12, hQ12, l12, y12, z12⟩, st12⟩ := Jvm.LawKit.callS X0 hx (y := (⟨"org/forwardtrace/reading/HtmlScanner", "isSpace", "(I)Z"⟩ : MethodName)) hown (mvT hZ (hw _ (List.mem_of_getElem? (i := 0) rfl))) (mvT hZ (hw _ (List.mem_of_getElem? (i := 1) rfl))) (mvT hZ (hw _ (List.mem_of_getElem? (i := 2) rfl))) (mvT hZ (hw _ (List.mem_of_getElem? (i := 3) rfl))) (by decide) (backOf (W := 0) (rm1 l Z a0 hw [] p1 h0 n0 Z0) hZ (hw _ (List.mem_of_getElem? (i := 3) rfl)) (hw _ (List.mem_of_getElem? (i := 2) rfl)) (by decide) (by decide)) (g := (mkF m 49 #[.val (.int p1), .val (.int p2), .val (.int p1), .val (.int (0 : Int32))] [(.int p1)])) rfl (by rw [hml]; rfl) (argsL := [(.int p1)]) (rest := []) (lenOf pd_0_0 rfl) rfl (by show 2 * 0 + _ ≤ _; exact Nat.le_of_eq rfl) (hb hby at_49) (fun _ _ => ⟨rfl, e0, (by decide : 0 + 0 ≤ _), (by decide : 0 + 0 ≤ _)⟩)
          dsimp only [Pt.U, Pt.locs, Pt.cells, Pt.slots] at X12 l12 y12 z12 st12 hQ12
          subst l12 y12 z12
          obtain ⟨rfl, N12q, e12⟩ := hQ12
          have N12 := Fr.app N0 N12q
          refine own_st st12 ?_
          show own_Fin _ _ _ _ _ _ _ (T12.setTop (mkF m 52 #[.val (.int p1), .val (.int p2), .val (.int p1), .val (.int (0 : Int32))] [(.int (own_F1 p1))]))
          refine own_st (fun t k => XS.iloadN X12.here hx rfl (hb hby at_52) rfl k) ?_
          show own_Fin _ _ _ _ _ _ _ (T12.setTop (mkF m 53 #[.val (.int p1), .val (.int p2), .val (.int p1), .val (.int (0 : Int32))] [(.int (0 : Int32)), (.int (own_F1 p1))]))
          by_cases hc53_13 : (own_F1 p1) = (0 : Int32)
          · refine own_st (fun t k => XS.icmpNo X12.here hx rfl (hb hby at_53) rfl (teq hc53_13).2 k) ?_
            show own_Fin _ _ _ _ _ _ _ (T12.setTop (mkF m 56 #[.val (.int p1), .val (.int p2), .val (.int p1), .val (.int (0 : Int32))] []))
            refine own_st (fun t k => XS.iconst X12.here hx rfl (hb hby at_56) k) ?_
            show own_Fin _ _ _ _ _ _ _ (T12.setTop (mkF m 57 #[.val (.int p1), .val (.int p2), .val (.int p1), .val (.int (0 : Int32))] [(.int (1 : Int32))]))
            refine own_st (fun t k => XS.goto X12.here hx rfl (pc0 := 57) (pc' := 61) rfl (hb hby at_57) (by decide) (by decide) k) ?_
            show own_Fin _ _ _ _ _ _ _ (T12.setTop (mkF m 61 #[.val (.int p1), .val (.int p2), .val (.int p1), .val (.int (0 : Int32))] [(.int (1 : Int32))]))
            have hv : own_F0 p1 p2 = (1 : Int32) := by unfold own_F0; rw [if_pos hc3_1, if_neg hc21_2, if_pos hc27_8, if_neg hc39_9, if_pos hc53_13]
            exact own_retN X12 hx Bd.notSynchronized (t := .boolean) Bd.returns (by simp) (hb hby at_61) (by decide) (by decide) ⟨congrArg (fun z => some (Value.int z)) hv.symm, N12, e12⟩
          · refine own_st (fun t k => XS.icmpYes X12.here hx rfl (pc0 := 53) (pc' := 60) rfl (hb hby at_53) rfl (feq hc53_13).2 (by decide) (by decide) k) ?_
            show own_Fin _ _ _ _ _ _ _ (T12.setTop (mkF m 60 #[.val (.int p1), .val (.int p2), .val (.int p1), .val (.int (0 : Int32))] []))
            refine own_st (fun t k => XS.iconst X12.here hx rfl (hb hby at_60) k) ?_
            show own_Fin _ _ _ _ _ _ _ (T12.setTop (mkF m 61 #[.val (.int p1), .val (.int p2), .val (.int p1), .val (.int (0 : Int32))] [(.int (0 : Int32))]))
            have hv : own_F0 p1 p2 = (0 : Int32) := by unfold own_F0; rw [if_pos hc3_1, if_neg hc21_2, if_pos hc27_8, if_neg hc39_9, if_neg hc53_13]
            exact own_retN X12 hx Bd.notSynchronized (t := .boolean) Bd.returns (by simp) (hb hby at_61) (by decide) (by decide) ⟨congrArg (fun z => some (Value.int z)) hv.symm, N12, e12⟩
      · refine own_st (fun t k => XS.icmpNo X0.here hx rfl (hb hby at_27) rfl (flt hc27_8).2.2.1 k) ?_
        show own_Fin _ _ _ _ _ _ _ (s₁.setTop (mkF m 30 #[.val (.int p1), .val (.int p2), .val (.int p1), .unset] []))
        refine own_st (fun t k => XS.iloadN X0.here hx rfl (hb hby at_30) rfl k) ?_
        show own_Fin _ _ _ _ _ _ _ (s₁.setTop (mkF m 31 #[.val (.int p1), .val (.int p2), .val (.int p1), .unset] [(.int p1)]))
        refine own_st (fun t k => XS.bipush X0.here hx rfl (hb hby at_31) k) ?_
        show own_Fin _ _ _ _ _ _ _ (s₁.setTop (mkF m 33 #[.val (.int p1), .val (.int p2), .val (.int p1), .unset] [(.int (11 : Int32)), (.int p1)]))
        by_cases hc33_14 : p1 = (11 : Int32)
        · refine own_st (fun t k => XS.icmpNo X0.here hx rfl (hb hby at_33) rfl (teq hc33_14).2 k) ?_
          show own_Fin _ _ _ _ _ _ _ (s₁.setTop (mkF m 36 #[.val (.int p1), .val (.int p2), .val (.int p1), .unset] []))
          refine own_st (fun t k => XS.iloadN X0.here hx rfl (hb hby at_36) rfl k) ?_
          show own_Fin _ _ _ _ _ _ _ (s₁.setTop (mkF m 37 #[.val (.int p1), .val (.int p2), .val (.int p1), .unset] [(.int p1)]))
          refine own_st (fun t k => XS.bipush X0.here hx rfl (hb hby at_37) k) ?_
          show own_Fin _ _ _ _ _ _ _ (s₁.setTop (mkF m 39 #[.val (.int p1), .val (.int p2), .val (.int p1), .unset] [(.int (32 : Int32)), (.int p1)]))
          by_cases hc39_15 : p1 = (32 : Int32)
          · refine own_st (fun t k => XS.icmpNo X0.here hx rfl (hb hby at_39) rfl (teq hc39_15).2 k) ?_
            show own_Fin _ _ _ _ _ _ _ (s₁.setTop (mkF m 42 #[.val (.int p1), .val (.int p2), .val (.int p1), .unset] []))
            refine own_st (fun t k => XS.iconst X0.here hx rfl (hb hby at_42) k) ?_
            show own_Fin _ _ _ _ _ _ _ (s₁.setTop (mkF m 43 #[.val (.int p1), .val (.int p2), .val (.int p1), .unset] [(.int (1 : Int32))]))
            refine own_st (fun t k => XS.goto X0.here hx rfl (pc0 := 43) (pc' := 47) rfl (hb hby at_43) (by decide) (by decide) k) ?_
            show own_Fin _ _ _ _ _ _ _ (s₁.setTop (mkF m 47 #[.val (.int p1), .val (.int p2), .val (.int p1), .unset] [(.int (1 : Int32))]))
            refine own_st (fun t k => XS.istoreN X0.here hx rfl (hb hby at_47) rfl (l' := #[.val (.int p1), .val (.int p2), .val (.int p1), .val (.int (1 : Int32))]) rfl k) ?_
            show own_Fin _ _ _ _ _ _ _ (s₁.setTop (mkF m 48 #[.val (.int p1), .val (.int p2), .val (.int p1), .val (.int (1 : Int32))] []))
            refine own_st (fun t k => XS.iloadN X0.here hx rfl (hb hby at_48) rfl k) ?_
            show own_Fin _ _ _ _ _ _ _ (s₁.setTop (mkF m 49 #[.val (.int p1), .val (.int p2), .val (.int p1), .val (.int (1 : Int32))] [(.int p1)]))
            obtain ⟨_, _, ⟨T16, L16, k16, n16⟩, -, X16, ⟨Lc16, hQ16, l16, y16, z16⟩, st16⟩ := Jvm.LawKit.callS X0 hx (y := (⟨"org/forwardtrace/reading/HtmlScanner", "isSpace", "(I)Z"⟩ : MethodName)) hown (mvT hZ (hw _ (List.mem_of_getElem? (i := 0) rfl))) (mvT hZ (hw _ (List.mem_of_getElem? (i := 1) rfl))) (mvT hZ (hw _ (List.mem_of_getElem? (i := 2) rfl))) (mvT hZ (hw _ (List.mem_of_getElem? (i := 3) rfl))) (by decide) (backOf (W := 0) (rm1 l Z a0 hw [] p1 h0 n0 Z0) hZ (hw _ (List.mem_of_getElem? (i := 3) rfl)) (hw _ (List.mem_of_getElem? (i := 2) rfl)) (by decide) (by decide)) (g := (mkF m 49 #[.val (.int p1), .val (.int p2), .val (.int p1), .val (.int (1 : Int32))] [(.int p1)])) rfl (by rw [hml]; rfl) (argsL := [(.int p1)]) (rest := []) (lenOf pd_0_0 rfl) rfl (by show 2 * 0 + _ ≤ _; exact Nat.le_of_eq rfl) (hb hby at_49) (fun _ _ => ⟨rfl, e0, (by decide : 0 + 0 ≤ _), (by decide : 0 + 0 ≤ _)⟩)
            dsimp only [Pt.U, Pt.locs, Pt.cells, Pt.slots] at X16 l16 y16 z16 st16 hQ16
            subst l16 y16 z16
            obtain ⟨rfl, N16q, e16⟩ := hQ16
            have N16 := Fr.app N0 N16q
            refine own_st st16 ?_
            show own_Fin _ _ _ _ _ _ _ (T16.setTop (mkF m 52 #[.val (.int p1), .val (.int p2), .val (.int p1), .val (.int (1 : Int32))] [(.int (own_F1 p1))]))
            refine own_st (fun t k => XS.iloadN X16.here hx rfl (hb hby at_52) rfl k) ?_
            show own_Fin _ _ _ _ _ _ _ (T16.setTop (mkF m 53 #[.val (.int p1), .val (.int p2), .val (.int p1), .val (.int (1 : Int32))] [(.int (1 : Int32)), (.int (own_F1 p1))]))
            by_cases hc53_17 : (own_F1 p1) = (1 : Int32)
            · refine own_st (fun t k => XS.icmpNo X16.here hx rfl (hb hby at_53) rfl (teq hc53_17).2 k) ?_
              show own_Fin _ _ _ _ _ _ _ (T16.setTop (mkF m 56 #[.val (.int p1), .val (.int p2), .val (.int p1), .val (.int (1 : Int32))] []))
              refine own_st (fun t k => XS.iconst X16.here hx rfl (hb hby at_56) k) ?_
              show own_Fin _ _ _ _ _ _ _ (T16.setTop (mkF m 57 #[.val (.int p1), .val (.int p2), .val (.int p1), .val (.int (1 : Int32))] [(.int (1 : Int32))]))
              refine own_st (fun t k => XS.goto X16.here hx rfl (pc0 := 57) (pc' := 61) rfl (hb hby at_57) (by decide) (by decide) k) ?_
              show own_Fin _ _ _ _ _ _ _ (T16.setTop (mkF m 61 #[.val (.int p1), .val (.int p2), .val (.int p1), .val (.int (1 : Int32))] [(.int (1 : Int32))]))
              have hv : own_F0 p1 p2 = (1 : Int32) := by unfold own_F0; rw [if_pos hc3_1, if_neg hc21_2, if_neg hc27_8, if_pos hc33_14, if_pos hc39_15, if_pos hc53_17]
              exact own_retN X16 hx Bd.notSynchronized (t := .boolean) Bd.returns (by simp) (hb hby at_61) (by decide) (by decide) ⟨congrArg (fun z => some (Value.int z)) hv.symm, N16, e16⟩
            · refine own_st (fun t k => XS.icmpYes X16.here hx rfl (pc0 := 53) (pc' := 60) rfl (hb hby at_53) rfl (feq hc53_17).2 (by decide) (by decide) k) ?_
              show own_Fin _ _ _ _ _ _ _ (T16.setTop (mkF m 60 #[.val (.int p1), .val (.int p2), .val (.int p1), .val (.int (1 : Int32))] []))
              refine own_st (fun t k => XS.iconst X16.here hx rfl (hb hby at_60) k) ?_
              show own_Fin _ _ _ _ _ _ _ (T16.setTop (mkF m 61 #[.val (.int p1), .val (.int p2), .val (.int p1), .val (.int (1 : Int32))] [(.int (0 : Int32))]))
              have hv : own_F0 p1 p2 = (0 : Int32) := by unfold own_F0; rw [if_pos hc3_1, if_neg hc21_2, if_neg hc27_8, if_pos hc33_14, if_pos hc39_15, if_neg hc53_17]
              exact own_retN X16 hx Bd.notSynchronized (t := .boolean) Bd.returns (by simp) (hb hby at_61) (by decide) (by decide) ⟨congrArg (fun z => some (Value.int z)) hv.symm, N16, e16⟩
          · refine own_st (fun t k => XS.icmpYes X0.here hx rfl (pc0 := 39) (pc' := 46) rfl (hb hby at_39) rfl (feq hc39_15).2 (by decide) (by decide) k) ?_
            show own_Fin _ _ _ _ _ _ _ (s₁.setTop (mkF m 46 #[.val (.int p1), .val (.int p2), .val (.int p1), .unset] []))
            refine own_st (fun t k => XS.iconst X0.here hx rfl (hb hby at_46) k) ?_
            show own_Fin _ _ _ _ _ _ _ (s₁.setTop (mkF m 47 #[.val (.int p1), .val (.int p2), .val (.int p1), .unset] [(.int (0 : Int32))]))
            refine own_st (fun t k => XS.istoreN X0.here hx rfl (hb hby at_47) rfl (l' := #[.val (.int p1), .val (.int p2), .val (.int p1), .val (.int (0 : Int32))]) rfl k) ?_
            show own_Fin _ _ _ _ _ _ _ (s₁.setTop (mkF m 48 #[.val (.int p1), .val (.int p2), .val (.int p1), .val (.int (0 : Int32))] []))
            refine own_st (fun t k => XS.iloadN X0.here hx rfl (hb hby at_48) rfl k) ?_
            show own_Fin _ _ _ _ _ _ _ (s₁.setTop (mkF m 49 #[.val (.int p1), .val (.int p2), .val (.int p1), .val (.int (0 : Int32))] [(.int p1)]))
            obtain ⟨_, _, ⟨T18, L18, k18, n18⟩, -, X18, ⟨Lc18, hQ18, l18, y18, z18⟩, st18⟩ := Jvm.LawKit.callS X0 hx (y := (⟨"org/forwardtrace/reading/HtmlScanner", "isSpace", "(I)Z"⟩ : MethodName)) hown (mvT hZ (hw _ (List.mem_of_getElem? (i := 0) rfl))) (mvT hZ (hw _ (List.mem_of_getElem? (i := 1) rfl))) (mvT hZ (hw _ (List.mem_of_getElem? (i := 2) rfl))) (mvT hZ (hw _ (List.mem_of_getElem? (i := 3) rfl))) (by decide) (backOf (W := 0) (rm1 l Z a0 hw [] p1 h0 n0 Z0) hZ (hw _ (List.mem_of_getElem? (i := 3) rfl)) (hw _ (List.mem_of_getElem? (i := 2) rfl)) (by decide) (by decide)) (g := (mkF m 49 #[.val (.int p1), .val (.int p2), .val (.int p1), .val (.int (0 : Int32))] [(.int p1)])) rfl (by rw [hml]; rfl) (argsL := [(.int p1)]) (rest := []) (lenOf pd_0_0 rfl) rfl (by show 2 * 0 + _ ≤ _; exact Nat.le_of_eq rfl) (hb hby at_49) (fun _ _ => ⟨rfl, e0, (by decide : 0 + 0 ≤ _), (by decide : 0 + 0 ≤ _)⟩)
            dsimp only [Pt.U, Pt.locs, Pt.cells, Pt.slots] at X18 l18 y18 z18 st18 hQ18
            subst l18 y18 z18
            obtain ⟨rfl, N18q, e18⟩ := hQ18
            have N18 := Fr.app N0 N18q
            refine own_st st18 ?_
            show own_Fin _ _ _ _ _ _ _ (T18.setTop (mkF m 52 #[.val (.int p1), .val (.int p2), .val (.int p1), .val (.int (0 : Int32))] [(.int (own_F1 p1))]))
            refine own_st (fun t k => XS.iloadN X18.here hx rfl (hb hby at_52) rfl k) ?_
            show own_Fin _ _ _ _ _ _ _ (T18.setTop (mkF m 53 #[.val (.int p1), .val (.int p2), .val (.int p1), .val (.int (0 : Int32))] [(.int (0 : Int32)), (.int (own_F1 p1))]))
            by_cases hc53_19 : (own_F1 p1) = (0 : Int32)
            · refine own_st (fun t k => XS.icmpNo X18.here hx rfl (hb hby at_53) rfl (teq hc53_19).2 k) ?_
              show own_Fin _ _ _ _ _ _ _ (T18.setTop (mkF m 56 #[.val (.int p1), .val (.int p2), .val (.int p1), .val (.int (0 : Int32))] []))
              refine own_st (fun t k => XS.iconst X18.here hx rfl (hb hby at_56) k) ?_
              show own_Fin _ _ _ _ _ _ _ (T18.setTop (mkF m 57 #[.val (.int p1), .val (.int p2), .val (.int p1), .val (.int (0 : Int32))] [(.int (1 : Int32))]))
              refine own_st (fun t k => XS.goto X18.here hx rfl (pc0 := 57) (pc' := 61) rfl (hb hby at_57) (by decide) (by decide) k) ?_
              show own_Fin _ _ _ _ _ _ _ (T18.setTop (mkF m 61 #[.val (.int p1), .val (.int p2), .val (.int p1), .val (.int (0 : Int32))] [(.int (1 : Int32))]))
              have hv : own_F0 p1 p2 = (1 : Int32) := by unfold own_F0; rw [if_pos hc3_1, if_neg hc21_2, if_neg hc27_8, if_pos hc33_14, if_neg hc39_15, if_pos hc53_19]
              exact own_retN X18 hx Bd.notSynchronized (t := .boolean) Bd.returns (by simp) (hb hby at_61) (by decide) (by decide) ⟨congrArg (fun z => some (Value.int z)) hv.symm, N18, e18⟩
            · refine own_st (fun t k => XS.icmpYes X18.here hx rfl (pc0 := 53) (pc' := 60) rfl (hb hby at_53) rfl (feq hc53_19).2 (by decide) (by decide) k) ?_
              show own_Fin _ _ _ _ _ _ _ (T18.setTop (mkF m 60 #[.val (.int p1), .val (.int p2), .val (.int p1), .val (.int (0 : Int32))] []))
              refine own_st (fun t k => XS.iconst X18.here hx rfl (hb hby at_60) k) ?_
              show own_Fin _ _ _ _ _ _ _ (T18.setTop (mkF m 61 #[.val (.int p1), .val (.int p2), .val (.int p1), .val (.int (0 : Int32))] [(.int (0 : Int32))]))
              have hv : own_F0 p1 p2 = (0 : Int32) := by unfold own_F0; rw [if_pos hc3_1, if_neg hc21_2, if_neg hc27_8, if_pos hc33_14, if_neg hc39_15, if_neg hc53_19]
              exact own_retN X18 hx Bd.notSynchronized (t := .boolean) Bd.returns (by simp) (hb hby at_61) (by decide) (by decide) ⟨congrArg (fun z => some (Value.int z)) hv.symm, N18, e18⟩
        · refine own_st (fun t k => XS.icmpYes X0.here hx rfl (pc0 := 33) (pc' := 42) rfl (hb hby at_33) rfl (feq hc33_14).2 (by decide) (by decide) k) ?_
          show own_Fin _ _ _ _ _ _ _ (s₁.setTop (mkF m 42 #[.val (.int p1), .val (.int p2), .val (.int p1), .unset] []))
          refine own_st (fun t k => XS.iconst X0.here hx rfl (hb hby at_42) k) ?_
          show own_Fin _ _ _ _ _ _ _ (s₁.setTop (mkF m 43 #[.val (.int p1), .val (.int p2), .val (.int p1), .unset] [(.int (1 : Int32))]))
          refine own_st (fun t k => XS.goto X0.here hx rfl (pc0 := 43) (pc' := 47) rfl (hb hby at_43) (by decide) (by decide) k) ?_
          show own_Fin _ _ _ _ _ _ _ (s₁.setTop (mkF m 47 #[.val (.int p1), .val (.int p2), .val (.int p1), .unset] [(.int (1 : Int32))]))
          refine own_st (fun t k => XS.istoreN X0.here hx rfl (hb hby at_47) rfl (l' := #[.val (.int p1), .val (.int p2), .val (.int p1), .val (.int (1 : Int32))]) rfl k) ?_
          show own_Fin _ _ _ _ _ _ _ (s₁.setTop (mkF m 48 #[.val (.int p1), .val (.int p2), .val (.int p1), .val (.int (1 : Int32))] []))
          refine own_st (fun t k => XS.iloadN X0.here hx rfl (hb hby at_48) rfl k) ?_
          show own_Fin _ _ _ _ _ _ _ (s₁.setTop (mkF m 49 #[.val (.int p1), .val (.int p2), .val (.int p1), .val (.int (1 : Int32))] [(.int p1)]))
          obtain ⟨_, _, ⟨T20, L20, k20, n20⟩, -, X20, ⟨Lc20, hQ20, l20, y20, z20⟩, st20⟩ := Jvm.LawKit.callS X0 hx (y := (⟨"org/forwardtrace/reading/HtmlScanner", "isSpace", "(I)Z"⟩ : MethodName)) hown (mvT hZ (hw _ (List.mem_of_getElem? (i := 0) rfl))) (mvT hZ (hw _ (List.mem_of_getElem? (i := 1) rfl))) (mvT hZ (hw _ (List.mem_of_getElem? (i := 2) rfl))) (mvT hZ (hw _ (List.mem_of_getElem? (i := 3) rfl))) (by decide) (backOf (W := 0) (rm1 l Z a0 hw [] p1 h0 n0 Z0) hZ (hw _ (List.mem_of_getElem? (i := 3) rfl)) (hw _ (List.mem_of_getElem? (i := 2) rfl)) (by decide) (by decide)) (g := (mkF m 49 #[.val (.int p1), .val (.int p2), .val (.int p1), .val (.int (1 : Int32))] [(.int p1)])) rfl (by rw [hml]; rfl) (argsL := [(.int p1)]) (rest := []) (lenOf pd_0_0 rfl) rfl (by show 2 * 0 + _ ≤ _; exact Nat.le_of_eq rfl) (hb hby at_49) (fun _ _ => ⟨rfl, e0, (by decide : 0 + 0 ≤ _), (by decide : 0 + 0 ≤ _)⟩)
          dsimp only [Pt.U, Pt.locs, Pt.cells, Pt.slots] at X20 l20 y20 z20 st20 hQ20
          subst l20 y20 z20
          obtain ⟨rfl, N20q, e20⟩ := hQ20
          have N20 := Fr.app N0 N20q
          refine own_st st20 ?_
          show own_Fin _ _ _ _ _ _ _ (T20.setTop (mkF m 52 #[.val (.int p1), .val (.int p2), .val (.int p1), .val (.int (1 : Int32))] [(.int (own_F1 p1))]))
          refine own_st (fun t k => XS.iloadN X20.here hx rfl (hb hby at_52) rfl k) ?_
          show own_Fin _ _ _ _ _ _ _ (T20.setTop (mkF m 53 #[.val (.int p1), .val (.int p2), .val (.int p1), .val (.int (1 : Int32))] [(.int (1 : Int32)), (.int (own_F1 p1))]))
          by_cases hc53_21 : (own_F1 p1) = (1 : Int32)
          · refine own_st (fun t k => XS.icmpNo X20.here hx rfl (hb hby at_53) rfl (teq hc53_21).2 k) ?_
            show own_Fin _ _ _ _ _ _ _ (T20.setTop (mkF m 56 #[.val (.int p1), .val (.int p2), .val (.int p1), .val (.int (1 : Int32))] []))
            refine own_st (fun t k => XS.iconst X20.here hx rfl (hb hby at_56) k) ?_
            show own_Fin _ _ _ _ _ _ _ (T20.setTop (mkF m 57 #[.val (.int p1), .val (.int p2), .val (.int p1), .val (.int (1 : Int32))] [(.int (1 : Int32))]))
            refine own_st (fun t k => XS.goto X20.here hx rfl (pc0 := 57) (pc' := 61) rfl (hb hby at_57) (by decide) (by decide) k) ?_
            show own_Fin _ _ _ _ _ _ _ (T20.setTop (mkF m 61 #[.val (.int p1), .val (.int p2), .val (.int p1), .val (.int (1 : Int32))] [(.int (1 : Int32))]))
            have hv : own_F0 p1 p2 = (1 : Int32) := by unfold own_F0; rw [if_pos hc3_1, if_neg hc21_2, if_neg hc27_8, if_neg hc33_14, if_pos hc53_21]
            exact own_retN X20 hx Bd.notSynchronized (t := .boolean) Bd.returns (by simp) (hb hby at_61) (by decide) (by decide) ⟨congrArg (fun z => some (Value.int z)) hv.symm, N20, e20⟩
          · refine own_st (fun t k => XS.icmpYes X20.here hx rfl (pc0 := 53) (pc' := 60) rfl (hb hby at_53) rfl (feq hc53_21).2 (by decide) (by decide) k) ?_
            show own_Fin _ _ _ _ _ _ _ (T20.setTop (mkF m 60 #[.val (.int p1), .val (.int p2), .val (.int p1), .val (.int (1 : Int32))] []))
            refine own_st (fun t k => XS.iconst X20.here hx rfl (hb hby at_60) k) ?_
            show own_Fin _ _ _ _ _ _ _ (T20.setTop (mkF m 61 #[.val (.int p1), .val (.int p2), .val (.int p1), .val (.int (1 : Int32))] [(.int (0 : Int32))]))
            have hv : own_F0 p1 p2 = (0 : Int32) := by unfold own_F0; rw [if_pos hc3_1, if_neg hc21_2, if_neg hc27_8, if_neg hc33_14, if_neg hc53_21]
            exact own_retN X20 hx Bd.notSynchronized (t := .boolean) Bd.returns (by simp) (hb hby at_61) (by decide) (by decide) ⟨congrArg (fun z => some (Value.int z)) hv.symm, N20, e20⟩
  · refine own_st (fun t k => XS.ifYes X0.here hx rfl (pc0 := 3) (pc' := 10) rfl (hb hby at_3) rfl ((if0 _ _).trans (feq hc3_1).2) (by decide) (by decide) k) ?_
    show own_Fin _ _ _ _ _ _ _ (s₁.setTop (mkF m 10 #[.val (.int p1), .val (.int p2), .unset, .unset] []))
    refine own_st (fun t k => XS.iloadN X0.here hx rfl (hb hby at_10) rfl k) ?_
    show own_Fin _ _ _ _ _ _ _ (s₁.setTop (mkF m 11 #[.val (.int p1), .val (.int p2), .unset, .unset] [(.int p1)]))
    refine own_st (fun t k => XS.bipush X0.here hx rfl (hb hby at_11) k) ?_
    show own_Fin _ _ _ _ _ _ _ (s₁.setTop (mkF m 13 #[.val (.int p1), .val (.int p2), .unset, .unset] [(.int (63 : Int32)), (.int p1)]))
    refine own_st (fun t k => XS.iand X0.here hx rfl (hb hby at_13) rfl k) ?_
    show own_Fin _ _ _ _ _ _ _ (s₁.setTop (mkF m 14 #[.val (.int p1), .val (.int p2), .unset, .unset] [(.int (p1 &&& (63 : Int32)))]))
    refine own_st (fun t k => XS.bipush X0.here hx rfl (hb hby at_14) k) ?_
    show own_Fin _ _ _ _ _ _ _ (s₁.setTop (mkF m 16 #[.val (.int p1), .val (.int p2), .unset, .unset] [(.int (8 : Int32)), (.int (p1 &&& (63 : Int32)))]))
    refine own_st (fun t k => XS.isub X0.here hx rfl (hb hby at_16) rfl k) ?_
    show own_Fin _ _ _ _ _ _ _ (s₁.setTop (mkF m 17 #[.val (.int p1), .val (.int p2), .unset, .unset] [(.int ((p1 &&& (63 : Int32)) - (8 : Int32)))]))
    refine own_st (fun t k => XS.istoreN X0.here hx rfl (hb hby at_17) rfl (l' := #[.val (.int p1), .val (.int p2), .val (.int ((p1 &&& (63 : Int32)) - (8 : Int32))), .unset]) rfl k) ?_
    show own_Fin _ _ _ _ _ _ _ (s₁.setTop (mkF m 18 #[.val (.int p1), .val (.int p2), .val (.int ((p1 &&& (63 : Int32)) - (8 : Int32))), .unset] []))
    refine own_st (fun t k => XS.iloadN X0.here hx rfl (hb hby at_18) rfl k) ?_
    show own_Fin _ _ _ _ _ _ _ (s₁.setTop (mkF m 19 #[.val (.int p1), .val (.int p2), .val (.int ((p1 &&& (63 : Int32)) - (8 : Int32))), .unset] [(.int ((p1 &&& (63 : Int32)) - (8 : Int32)))]))
    refine own_st (fun t k => XS.bipush X0.here hx rfl (hb hby at_19) k) ?_
    show own_Fin _ _ _ _ _ _ _ (s₁.setTop (mkF m 21 #[.val (.int p1), .val (.int p2), .val (.int ((p1 &&& (63 : Int32)) - (8 : Int32))), .unset] [(.int (9 : Int32)), (.int ((p1 &&& (63 : Int32)) - (8 : Int32)))]))
    by_cases hc21_22 : ((p1 &&& (63 : Int32)) - (8 : Int32)) < (9 : Int32)
    · refine own_st (fun t k => XS.icmpYes X0.here hx rfl (pc0 := 21) (pc' := 36) rfl (hb hby at_21) rfl (tlt hc21_22).1 (by decide) (by decide) k) ?_
      show own_Fin _ _ _ _ _ _ _ (s₁.setTop (mkF m 36 #[.val (.int p1), .val (.int p2), .val (.int ((p1 &&& (63 : Int32)) - (8 : Int32))), .unset] []))
      refine own_st (fun t k => XS.iloadN X0.here hx rfl (hb hby at_36) rfl k) ?_
      show own_Fin _ _ _ _ _ _ _ (s₁.setTop (mkF m 37 #[.val (.int p1), .val (.int p2), .val (.int ((p1 &&& (63 : Int32)) - (8 : Int32))), .unset] [(.int ((p1 &&& (63 : Int32)) - (8 : Int32)))]))
      refine own_st (fun t k => XS.bipush X0.here hx rfl (hb hby at_37) k) ?_
      show own_Fin _ _ _ _ _ _ _ (s₁.setTop (mkF m 39 #[.val (.int p1), .val (.int p2), .val (.int ((p1 &&& (63 : Int32)) - (8 : Int32))), .unset] [(.int (32 : Int32)), (.int ((p1 &&& (63 : Int32)) - (8 : Int32)))]))
      by_cases hc39_23 : ((p1 &&& (63 : Int32)) - (8 : Int32)) = (32 : Int32)
      · refine own_st (fun t k => XS.icmpNo X0.here hx rfl (hb hby at_39) rfl (teq hc39_23).2 k) ?_
        show own_Fin _ _ _ _ _ _ _ (s₁.setTop (mkF m 42 #[.val (.int p1), .val (.int p2), .val (.int ((p1 &&& (63 : Int32)) - (8 : Int32))), .unset] []))
        refine own_st (fun t k => XS.iconst X0.here hx rfl (hb hby at_42) k) ?_
        show own_Fin _ _ _ _ _ _ _ (s₁.setTop (mkF m 43 #[.val (.int p1), .val (.int p2), .val (.int ((p1 &&& (63 : Int32)) - (8 : Int32))), .unset] [(.int (1 : Int32))]))
        refine own_st (fun t k => XS.goto X0.here hx rfl (pc0 := 43) (pc' := 47) rfl (hb hby at_43) (by decide) (by decide) k) ?_
        show own_Fin _ _ _ _ _ _ _ (s₁.setTop (mkF m 47 #[.val (.int p1), .val (.int p2), .val (.int ((p1 &&& (63 : Int32)) - (8 : Int32))), .unset] [(.int (1 : Int32))]))
        refine own_st (fun t k => XS.istoreN X0.here hx rfl (hb hby at_47) rfl (l' := #[.val (.int p1), .val (.int p2), .val (.int ((p1 &&& (63 : Int32)) - (8 : Int32))), .val (.int (1 : Int32))]) rfl k) ?_
        show own_Fin _ _ _ _ _ _ _ (s₁.setTop (mkF m 48 #[.val (.int p1), .val (.int p2), .val (.int ((p1 &&& (63 : Int32)) - (8 : Int32))), .val (.int (1 : Int32))] []))
        refine own_st (fun t k => XS.iloadN X0.here hx rfl (hb hby at_48) rfl k) ?_
        show own_Fin _ _ _ _ _ _ _ (s₁.setTop (mkF m 49 #[.val (.int p1), .val (.int p2), .val (.int ((p1 &&& (63 : Int32)) - (8 : Int32))), .val (.int (1 : Int32))] [(.int ((p1 &&& (63 : Int32)) - (8 : Int32)))]))
        obtain ⟨_, _, ⟨T24, L24, k24, n24⟩, -, X24, ⟨Lc24, hQ24, l24, y24, z24⟩, st24⟩ := Jvm.LawKit.callS X0 hx (y := (⟨"org/forwardtrace/reading/HtmlScanner", "isSpace", "(I)Z"⟩ : MethodName)) hown (mvT hZ (hw _ (List.mem_of_getElem? (i := 0) rfl))) (mvT hZ (hw _ (List.mem_of_getElem? (i := 1) rfl))) (mvT hZ (hw _ (List.mem_of_getElem? (i := 2) rfl))) (mvT hZ (hw _ (List.mem_of_getElem? (i := 3) rfl))) (by decide) (backOf (W := 0) (rm1 l Z a0 hw [] ((p1 &&& (63 : Int32)) - (8 : Int32)) h0 n0 Z0) hZ (hw _ (List.mem_of_getElem? (i := 3) rfl)) (hw _ (List.mem_of_getElem? (i := 2) rfl)) (by decide) (by decide)) (g := (mkF m 49 #[.val (.int p1), .val (.int p2), .val (.int ((p1 &&& (63 : Int32)) - (8 : Int32))), .val (.int (1 : Int32))] [(.int ((p1 &&& (63 : Int32)) - (8 : Int32)))])) rfl (by rw [hml]; rfl) (argsL := [(.int ((p1 &&& (63 : Int32)) - (8 : Int32)))]) (rest := []) (lenOf pd_0_0 rfl) rfl (by show 2 * 0 + _ ≤ _; exact Nat.le_of_eq rfl) (hb hby at_49) (fun _ _ => ⟨rfl, e0, (by decide : 0 + 0 ≤ _), (by decide : 0 + 0 ≤ _)⟩)
        dsimp only [Pt.U, Pt.locs, Pt.cells, Pt.slots] at X24 l24 y24 z24 st24 hQ24
        subst l24 y24 z24
        obtain ⟨rfl, N24q, e24⟩ := hQ24
        have N24 := Fr.app N0 N24q
        refine own_st st24 ?_
        show own_Fin _ _ _ _ _ _ _ (T24.setTop (mkF m 52 #[.val (.int p1), .val (.int p2), .val (.int ((p1 &&& (63 : Int32)) - (8 : Int32))), .val (.int (1 : Int32))] [(.int (own_F1 ((p1 &&& (63 : Int32)) - (8 : Int32))))]))
        refine own_st (fun t k => XS.iloadN X24.here hx rfl (hb hby at_52) rfl k) ?_
        show own_Fin _ _ _ _ _ _ _ (T24.setTop (mkF m 53 #[.val (.int p1), .val (.int p2), .val (.int ((p1 &&& (63 : Int32)) - (8 : Int32))), .val (.int (1 : Int32))] [(.int (1 : Int32)), (.int (own_F1 ((p1 &&& (63 : Int32)) - (8 : Int32))))]))
        by_cases hc53_25 : (own_F1 ((p1 &&& (63 : Int32)) - (8 : Int32))) = (1 : Int32)
        · refine own_st (fun t k => XS.icmpNo X24.here hx rfl (hb hby at_53) rfl (teq hc53_25).2 k) ?_
          show own_Fin _ _ _ _ _ _ _ (T24.setTop (mkF m 56 #[.val (.int p1), .val (.int p2), .val (.int ((p1 &&& (63 : Int32)) - (8 : Int32))), .val (.int (1 : Int32))] []))
          refine own_st (fun t k => XS.iconst X24.here hx rfl (hb hby at_56) k) ?_
          show own_Fin _ _ _ _ _ _ _ (T24.setTop (mkF m 57 #[.val (.int p1), .val (.int p2), .val (.int ((p1 &&& (63 : Int32)) - (8 : Int32))), .val (.int (1 : Int32))] [(.int (1 : Int32))]))
          refine own_st (fun t k => XS.goto X24.here hx rfl (pc0 := 57) (pc' := 61) rfl (hb hby at_57) (by decide) (by decide) k) ?_
          show own_Fin _ _ _ _ _ _ _ (T24.setTop (mkF m 61 #[.val (.int p1), .val (.int p2), .val (.int ((p1 &&& (63 : Int32)) - (8 : Int32))), .val (.int (1 : Int32))] [(.int (1 : Int32))]))
          have hv : own_F0 p1 p2 = (1 : Int32) := by unfold own_F0; rw [if_neg hc3_1, if_pos hc21_22, if_pos hc39_23, if_pos hc53_25]
          exact own_retN X24 hx Bd.notSynchronized (t := .boolean) Bd.returns (by simp) (hb hby at_61) (by decide) (by decide) ⟨congrArg (fun z => some (Value.int z)) hv.symm, N24, e24⟩
        · refine own_st (fun t k => XS.icmpYes X24.here hx rfl (pc0 := 53) (pc' := 60) rfl (hb hby at_53) rfl (feq hc53_25).2 (by decide) (by decide) k) ?_
          show own_Fin _ _ _ _ _ _ _ (T24.setTop (mkF m 60 #[.val (.int p1), .val (.int p2), .val (.int ((p1 &&& (63 : Int32)) - (8 : Int32))), .val (.int (1 : Int32))] []))
          refine own_st (fun t k => XS.iconst X24.here hx rfl (hb hby at_60) k) ?_
          show own_Fin _ _ _ _ _ _ _ (T24.setTop (mkF m 61 #[.val (.int p1), .val (.int p2), .val (.int ((p1 &&& (63 : Int32)) - (8 : Int32))), .val (.int (1 : Int32))] [(.int (0 : Int32))]))
          have hv : own_F0 p1 p2 = (0 : Int32) := by unfold own_F0; rw [if_neg hc3_1, if_pos hc21_22, if_pos hc39_23, if_neg hc53_25]
          exact own_retN X24 hx Bd.notSynchronized (t := .boolean) Bd.returns (by simp) (hb hby at_61) (by decide) (by decide) ⟨congrArg (fun z => some (Value.int z)) hv.symm, N24, e24⟩
      · refine own_st (fun t k => XS.icmpYes X0.here hx rfl (pc0 := 39) (pc' := 46) rfl (hb hby at_39) rfl (feq hc39_23).2 (by decide) (by decide) k) ?_
        show own_Fin _ _ _ _ _ _ _ (s₁.setTop (mkF m 46 #[.val (.int p1), .val (.int p2), .val (.int ((p1 &&& (63 : Int32)) - (8 : Int32))), .unset] []))
        refine own_st (fun t k => XS.iconst X0.here hx rfl (hb hby at_46) k) ?_
        show own_Fin _ _ _ _ _ _ _ (s₁.setTop (mkF m 47 #[.val (.int p1), .val (.int p2), .val (.int ((p1 &&& (63 : Int32)) - (8 : Int32))), .unset] [(.int (0 : Int32))]))
        refine own_st (fun t k => XS.istoreN X0.here hx rfl (hb hby at_47) rfl (l' := #[.val (.int p1), .val (.int p2), .val (.int ((p1 &&& (63 : Int32)) - (8 : Int32))), .val (.int (0 : Int32))]) rfl k) ?_
        show own_Fin _ _ _ _ _ _ _ (s₁.setTop (mkF m 48 #[.val (.int p1), .val (.int p2), .val (.int ((p1 &&& (63 : Int32)) - (8 : Int32))), .val (.int (0 : Int32))] []))
        refine own_st (fun t k => XS.iloadN X0.here hx rfl (hb hby at_48) rfl k) ?_
        show own_Fin _ _ _ _ _ _ _ (s₁.setTop (mkF m 49 #[.val (.int p1), .val (.int p2), .val (.int ((p1 &&& (63 : Int32)) - (8 : Int32))), .val (.int (0 : Int32))] [(.int ((p1 &&& (63 : Int32)) - (8 : Int32)))]))
        obtain ⟨_, _, ⟨T26, L26, k26, n26⟩, -, X26, ⟨Lc26, hQ26, l26, y26, z26⟩, st26⟩ := Jvm.LawKit.callS X0 hx (y := (⟨"org/forwardtrace/reading/HtmlScanner", "isSpace", "(I)Z"⟩ : MethodName)) hown (mvT hZ (hw _ (List.mem_of_getElem? (i := 0) rfl))) (mvT hZ (hw _ (List.mem_of_getElem? (i := 1) rfl))) (mvT hZ (hw _ (List.mem_of_getElem? (i := 2) rfl))) (mvT hZ (hw _ (List.mem_of_getElem? (i := 3) rfl))) (by decide) (backOf (W := 0) (rm1 l Z a0 hw [] ((p1 &&& (63 : Int32)) - (8 : Int32)) h0 n0 Z0) hZ (hw _ (List.mem_of_getElem? (i := 3) rfl)) (hw _ (List.mem_of_getElem? (i := 2) rfl)) (by decide) (by decide)) (g := (mkF m 49 #[.val (.int p1), .val (.int p2), .val (.int ((p1 &&& (63 : Int32)) - (8 : Int32))), .val (.int (0 : Int32))] [(.int ((p1 &&& (63 : Int32)) - (8 : Int32)))])) rfl (by rw [hml]; rfl) (argsL := [(.int ((p1 &&& (63 : Int32)) - (8 : Int32)))]) (rest := []) (lenOf pd_0_0 rfl) rfl (by show 2 * 0 + _ ≤ _; exact Nat.le_of_eq rfl) (hb hby at_49) (fun _ _ => ⟨rfl, e0, (by decide : 0 + 0 ≤ _), (by decide : 0 + 0 ≤ _)⟩)
        dsimp only [Pt.U, Pt.locs, Pt.cells, Pt.slots] at X26 l26 y26 z26 st26 hQ26
        subst l26 y26 z26
        obtain ⟨rfl, N26q, e26⟩ := hQ26
        have N26 := Fr.app N0 N26q
        refine own_st st26 ?_
        show own_Fin _ _ _ _ _ _ _ (T26.setTop (mkF m 52 #[.val (.int p1), .val (.int p2), .val (.int ((p1 &&& (63 : Int32)) - (8 : Int32))), .val (.int (0 : Int32))] [(.int (own_F1 ((p1 &&& (63 : Int32)) - (8 : Int32))))]))
        refine own_st (fun t k => XS.iloadN X26.here hx rfl (hb hby at_52) rfl k) ?_
        show own_Fin _ _ _ _ _ _ _ (T26.setTop (mkF m 53 #[.val (.int p1), .val (.int p2), .val (.int ((p1 &&& (63 : Int32)) - (8 : Int32))), .val (.int (0 : Int32))] [(.int (0 : Int32)), (.int (own_F1 ((p1 &&& (63 : Int32)) - (8 : Int32))))]))
        by_cases hc53_27 : (own_F1 ((p1 &&& (63 : Int32)) - (8 : Int32))) = (0 : Int32)
        · refine own_st (fun t k => XS.icmpNo X26.here hx rfl (hb hby at_53) rfl (teq hc53_27).2 k) ?_
          show own_Fin _ _ _ _ _ _ _ (T26.setTop (mkF m 56 #[.val (.int p1), .val (.int p2), .val (.int ((p1 &&& (63 : Int32)) - (8 : Int32))), .val (.int (0 : Int32))] []))
          refine own_st (fun t k => XS.iconst X26.here hx rfl (hb hby at_56) k) ?_
          show own_Fin _ _ _ _ _ _ _ (T26.setTop (mkF m 57 #[.val (.int p1), .val (.int p2), .val (.int ((p1 &&& (63 : Int32)) - (8 : Int32))), .val (.int (0 : Int32))] [(.int (1 : Int32))]))
          refine own_st (fun t k => XS.goto X26.here hx rfl (pc0 := 57) (pc' := 61) rfl (hb hby at_57) (by decide) (by decide) k) ?_
          show own_Fin _ _ _ _ _ _ _ (T26.setTop (mkF m 61 #[.val (.int p1), .val (.int p2), .val (.int ((p1 &&& (63 : Int32)) - (8 : Int32))), .val (.int (0 : Int32))] [(.int (1 : Int32))]))
          have hv : own_F0 p1 p2 = (1 : Int32) := by unfold own_F0; rw [if_neg hc3_1, if_pos hc21_22, if_neg hc39_23, if_pos hc53_27]
          exact own_retN X26 hx Bd.notSynchronized (t := .boolean) Bd.returns (by simp) (hb hby at_61) (by decide) (by decide) ⟨congrArg (fun z => some (Value.int z)) hv.symm, N26, e26⟩
        · refine own_st (fun t k => XS.icmpYes X26.here hx rfl (pc0 := 53) (pc' := 60) rfl (hb hby at_53) rfl (feq hc53_27).2 (by decide) (by decide) k) ?_
          show own_Fin _ _ _ _ _ _ _ (T26.setTop (mkF m 60 #[.val (.int p1), .val (.int p2), .val (.int ((p1 &&& (63 : Int32)) - (8 : Int32))), .val (.int (0 : Int32))] []))
          refine own_st (fun t k => XS.iconst X26.here hx rfl (hb hby at_60) k) ?_
          show own_Fin _ _ _ _ _ _ _ (T26.setTop (mkF m 61 #[.val (.int p1), .val (.int p2), .val (.int ((p1 &&& (63 : Int32)) - (8 : Int32))), .val (.int (0 : Int32))] [(.int (0 : Int32))]))
          have hv : own_F0 p1 p2 = (0 : Int32) := by unfold own_F0; rw [if_neg hc3_1, if_pos hc21_22, if_neg hc39_23, if_neg hc53_27]
          exact own_retN X26 hx Bd.notSynchronized (t := .boolean) Bd.returns (by simp) (hb hby at_61) (by decide) (by decide) ⟨congrArg (fun z => some (Value.int z)) hv.symm, N26, e26⟩
    · refine own_st (fun t k => XS.icmpNo X0.here hx rfl (hb hby at_21) rfl (flt hc21_22).1 k) ?_
      show own_Fin _ _ _ _ _ _ _ (s₁.setTop (mkF m 24 #[.val (.int p1), .val (.int p2), .val (.int ((p1 &&& (63 : Int32)) - (8 : Int32))), .unset] []))
      refine own_st (fun t k => XS.iloadN X0.here hx rfl (hb hby at_24) rfl k) ?_
      show own_Fin _ _ _ _ _ _ _ (s₁.setTop (mkF m 25 #[.val (.int p1), .val (.int p2), .val (.int ((p1 &&& (63 : Int32)) - (8 : Int32))), .unset] [(.int ((p1 &&& (63 : Int32)) - (8 : Int32)))]))
      refine own_st (fun t k => XS.bipush X0.here hx rfl (hb hby at_25) k) ?_
      show own_Fin _ _ _ _ _ _ _ (s₁.setTop (mkF m 27 #[.val (.int p1), .val (.int p2), .val (.int ((p1 &&& (63 : Int32)) - (8 : Int32))), .unset] [(.int (13 : Int32)), (.int ((p1 &&& (63 : Int32)) - (8 : Int32)))]))
      by_cases hc27_28 : (13 : Int32) < ((p1 &&& (63 : Int32)) - (8 : Int32))
      · refine own_st (fun t k => XS.icmpYes X0.here hx rfl (pc0 := 27) (pc' := 36) rfl (hb hby at_27) rfl (tlt hc27_28).2.2.1 (by decide) (by decide) k) ?_
        show own_Fin _ _ _ _ _ _ _ (s₁.setTop (mkF m 36 #[.val (.int p1), .val (.int p2), .val (.int ((p1 &&& (63 : Int32)) - (8 : Int32))), .unset] []))
        refine own_st (fun t k => XS.iloadN X0.here hx rfl (hb hby at_36) rfl k) ?_
        show own_Fin _ _ _ _ _ _ _ (s₁.setTop (mkF m 37 #[.val (.int p1), .val (.int p2), .val (.int ((p1 &&& (63 : Int32)) - (8 : Int32))), .unset] [(.int ((p1 &&& (63 : Int32)) - (8 : Int32)))]))
        refine own_st (fun t k => XS.bipush X0.here hx rfl (hb hby at_37) k) ?_
        show own_Fin _ _ _ _ _ _ _ (s₁.setTop (mkF m 39 #[.val (.int p1), .val (.int p2), .val (.int ((p1 &&& (63 : Int32)) - (8 : Int32))), .unset] [(.int (32 : Int32)), (.int ((p1 &&& (63 : Int32)) - (8 : Int32)))]))
        by_cases hc39_29 : ((p1 &&& (63 : Int32)) - (8 : Int32)) = (32 : Int32)
        · refine own_st (fun t k => XS.icmpNo X0.here hx rfl (hb hby at_39) rfl (teq hc39_29).2 k) ?_
          show own_Fin _ _ _ _ _ _ _ (s₁.setTop (mkF m 42 #[.val (.int p1), .val (.int p2), .val (.int ((p1 &&& (63 : Int32)) - (8 : Int32))), .unset] []))
          refine own_st (fun t k => XS.iconst X0.here hx rfl (hb hby at_42) k) ?_
          show own_Fin _ _ _ _ _ _ _ (s₁.setTop (mkF m 43 #[.val (.int p1), .val (.int p2), .val (.int ((p1 &&& (63 : Int32)) - (8 : Int32))), .unset] [(.int (1 : Int32))]))
          refine own_st (fun t k => XS.goto X0.here hx rfl (pc0 := 43) (pc' := 47) rfl (hb hby at_43) (by decide) (by decide) k) ?_
          show own_Fin _ _ _ _ _ _ _ (s₁.setTop (mkF m 47 #[.val (.int p1), .val (.int p2), .val (.int ((p1 &&& (63 : Int32)) - (8 : Int32))), .unset] [(.int (1 : Int32))]))
          refine own_st (fun t k => XS.istoreN X0.here hx rfl (hb hby at_47) rfl (l' := #[.val (.int p1), .val (.int p2), .val (.int ((p1 &&& (63 : Int32)) - (8 : Int32))), .val (.int (1 : Int32))]) rfl k) ?_
          show own_Fin _ _ _ _ _ _ _ (s₁.setTop (mkF m 48 #[.val (.int p1), .val (.int p2), .val (.int ((p1 &&& (63 : Int32)) - (8 : Int32))), .val (.int (1 : Int32))] []))
          refine own_st (fun t k => XS.iloadN X0.here hx rfl (hb hby at_48) rfl k) ?_
          show own_Fin _ _ _ _ _ _ _ (s₁.setTop (mkF m 49 #[.val (.int p1), .val (.int p2), .val (.int ((p1 &&& (63 : Int32)) - (8 : Int32))), .val (.int (1 : Int32))] [(.int ((p1 &&& (63 : Int32)) - (8 : Int32)))]))
          obtain ⟨_, _, ⟨T30, L30, k30, n30⟩, -, X30, ⟨Lc30, hQ30, l30, y30, z30⟩, st30⟩ := Jvm.LawKit.callS X0 hx (y := (⟨"org/forwardtrace/reading/HtmlScanner", "isSpace", "(I)Z"⟩ : MethodName)) hown (mvT hZ (hw _ (List.mem_of_getElem? (i := 0) rfl))) (mvT hZ (hw _ (List.mem_of_getElem? (i := 1) rfl))) (mvT hZ (hw _ (List.mem_of_getElem? (i := 2) rfl))) (mvT hZ (hw _ (List.mem_of_getElem? (i := 3) rfl))) (by decide) (backOf (W := 0) (rm1 l Z a0 hw [] ((p1 &&& (63 : Int32)) - (8 : Int32)) h0 n0 Z0) hZ (hw _ (List.mem_of_getElem? (i := 3) rfl)) (hw _ (List.mem_of_getElem? (i := 2) rfl)) (by decide) (by decide)) (g := (mkF m 49 #[.val (.int p1), .val (.int p2), .val (.int ((p1 &&& (63 : Int32)) - (8 : Int32))), .val (.int (1 : Int32))] [(.int ((p1 &&& (63 : Int32)) - (8 : Int32)))])) rfl (by rw [hml]; rfl) (argsL := [(.int ((p1 &&& (63 : Int32)) - (8 : Int32)))]) (rest := []) (lenOf pd_0_0 rfl) rfl (by show 2 * 0 + _ ≤ _; exact Nat.le_of_eq rfl) (hb hby at_49) (fun _ _ => ⟨rfl, e0, (by decide : 0 + 0 ≤ _), (by decide : 0 + 0 ≤ _)⟩)
          dsimp only [Pt.U, Pt.locs, Pt.cells, Pt.slots] at X30 l30 y30 z30 st30 hQ30
          subst l30 y30 z30
          obtain ⟨rfl, N30q, e30⟩ := hQ30
          have N30 := Fr.app N0 N30q
          refine own_st st30 ?_
          show own_Fin _ _ _ _ _ _ _ (T30.setTop (mkF m 52 #[.val (.int p1), .val (.int p2), .val (.int ((p1 &&& (63 : Int32)) - (8 : Int32))), .val (.int (1 : Int32))] [(.int (own_F1 ((p1 &&& (63 : Int32)) - (8 : Int32))))]))
          refine own_st (fun t k => XS.iloadN X30.here hx rfl (hb hby at_52) rfl k) ?_
          show own_Fin _ _ _ _ _ _ _ (T30.setTop (mkF m 53 #[.val (.int p1), .val (.int p2), .val (.int ((p1 &&& (63 : Int32)) - (8 : Int32))), .val (.int (1 : Int32))] [(.int (1 : Int32)), (.int (own_F1 ((p1 &&& (63 : Int32)) - (8 : Int32))))]))
          by_cases hc53_31 : (own_F1 ((p1 &&& (63 : Int32)) - (8 : Int32))) = (1 : Int32)
          · refine own_st (fun t k => XS.icmpNo X30.here hx rfl (hb hby at_53) rfl (teq hc53_31).2 k) ?_
            show own_Fin _ _ _ _ _ _ _ (T30.setTop (mkF m 56 #[.val (.int p1), .val (.int p2), .val (.int ((p1 &&& (63 : Int32)) - (8 : Int32))), .val (.int (1 : Int32))] []))
            refine own_st (fun t k => XS.iconst X30.here hx rfl (hb hby at_56) k) ?_
            show own_Fin _ _ _ _ _ _ _ (T30.setTop (mkF m 57 #[.val (.int p1), .val (.int p2), .val (.int ((p1 &&& (63 : Int32)) - (8 : Int32))), .val (.int (1 : Int32))] [(.int (1 : Int32))]))
            refine own_st (fun t k => XS.goto X30.here hx rfl (pc0 := 57) (pc' := 61) rfl (hb hby at_57) (by decide) (by decide) k) ?_
            show own_Fin _ _ _ _ _ _ _ (T30.setTop (mkF m 61 #[.val (.int p1), .val (.int p2), .val (.int ((p1 &&& (63 : Int32)) - (8 : Int32))), .val (.int (1 : Int32))] [(.int (1 : Int32))]))
            have hv : own_F0 p1 p2 = (1 : Int32) := by unfold own_F0; rw [if_neg hc3_1, if_neg hc21_22, if_pos hc27_28, if_pos hc39_29, if_pos hc53_31]
            exact own_retN X30 hx Bd.notSynchronized (t := .boolean) Bd.returns (by simp) (hb hby at_61) (by decide) (by decide) ⟨congrArg (fun z => some (Value.int z)) hv.symm, N30, e30⟩
          · refine own_st (fun t k => XS.icmpYes X30.here hx rfl (pc0 := 53) (pc' := 60) rfl (hb hby at_53) rfl (feq hc53_31).2 (by decide) (by decide) k) ?_
            show own_Fin _ _ _ _ _ _ _ (T30.setTop (mkF m 60 #[.val (.int p1), .val (.int p2), .val (.int ((p1 &&& (63 : Int32)) - (8 : Int32))), .val (.int (1 : Int32))] []))
            refine own_st (fun t k => XS.iconst X30.here hx rfl (hb hby at_60) k) ?_
            show own_Fin _ _ _ _ _ _ _ (T30.setTop (mkF m 61 #[.val (.int p1), .val (.int p2), .val (.int ((p1 &&& (63 : Int32)) - (8 : Int32))), .val (.int (1 : Int32))] [(.int (0 : Int32))]))
            have hv : own_F0 p1 p2 = (0 : Int32) := by unfold own_F0; rw [if_neg hc3_1, if_neg hc21_22, if_pos hc27_28, if_pos hc39_29, if_neg hc53_31]
            exact own_retN X30 hx Bd.notSynchronized (t := .boolean) Bd.returns (by simp) (hb hby at_61) (by decide) (by decide) ⟨congrArg (fun z => some (Value.int z)) hv.symm, N30, e30⟩
        · refine own_st (fun t k => XS.icmpYes X0.here hx rfl (pc0 := 39) (pc' := 46) rfl (hb hby at_39) rfl (feq hc39_29).2 (by decide) (by decide) k) ?_
          show own_Fin _ _ _ _ _ _ _ (s₁.setTop (mkF m 46 #[.val (.int p1), .val (.int p2), .val (.int ((p1 &&& (63 : Int32)) - (8 : Int32))), .unset] []))
          refine own_st (fun t k => XS.iconst X0.here hx rfl (hb hby at_46) k) ?_
          show own_Fin _ _ _ _ _ _ _ (s₁.setTop (mkF m 47 #[.val (.int p1), .val (.int p2), .val (.int ((p1 &&& (63 : Int32)) - (8 : Int32))), .unset] [(.int (0 : Int32))]))
          refine own_st (fun t k => XS.istoreN X0.here hx rfl (hb hby at_47) rfl (l' := #[.val (.int p1), .val (.int p2), .val (.int ((p1 &&& (63 : Int32)) - (8 : Int32))), .val (.int (0 : Int32))]) rfl k) ?_
          show own_Fin _ _ _ _ _ _ _ (s₁.setTop (mkF m 48 #[.val (.int p1), .val (.int p2), .val (.int ((p1 &&& (63 : Int32)) - (8 : Int32))), .val (.int (0 : Int32))] []))
          refine own_st (fun t k => XS.iloadN X0.here hx rfl (hb hby at_48) rfl k) ?_
          show own_Fin _ _ _ _ _ _ _ (s₁.setTop (mkF m 49 #[.val (.int p1), .val (.int p2), .val (.int ((p1 &&& (63 : Int32)) - (8 : Int32))), .val (.int (0 : Int32))] [(.int ((p1 &&& (63 : Int32)) - (8 : Int32)))]))
          obtain ⟨_, _, ⟨T32, L32, k32, n32⟩, -, X32, ⟨Lc32, hQ32, l32, y32, z32⟩, st32⟩ := Jvm.LawKit.callS X0 hx (y := (⟨"org/forwardtrace/reading/HtmlScanner", "isSpace", "(I)Z"⟩ : MethodName)) hown (mvT hZ (hw _ (List.mem_of_getElem? (i := 0) rfl))) (mvT hZ (hw _ (List.mem_of_getElem? (i := 1) rfl))) (mvT hZ (hw _ (List.mem_of_getElem? (i := 2) rfl))) (mvT hZ (hw _ (List.mem_of_getElem? (i := 3) rfl))) (by decide) (backOf (W := 0) (rm1 l Z a0 hw [] ((p1 &&& (63 : Int32)) - (8 : Int32)) h0 n0 Z0) hZ (hw _ (List.mem_of_getElem? (i := 3) rfl)) (hw _ (List.mem_of_getElem? (i := 2) rfl)) (by decide) (by decide)) (g := (mkF m 49 #[.val (.int p1), .val (.int p2), .val (.int ((p1 &&& (63 : Int32)) - (8 : Int32))), .val (.int (0 : Int32))] [(.int ((p1 &&& (63 : Int32)) - (8 : Int32)))])) rfl (by rw [hml]; rfl) (argsL := [(.int ((p1 &&& (63 : Int32)) - (8 : Int32)))]) (rest := []) (lenOf pd_0_0 rfl) rfl (by show 2 * 0 + _ ≤ _; exact Nat.le_of_eq rfl) (hb hby at_49) (fun _ _ => ⟨rfl, e0, (by decide : 0 + 0 ≤ _), (by decide : 0 + 0 ≤ _)⟩)
          dsimp only [Pt.U, Pt.locs, Pt.cells, Pt.slots] at X32 l32 y32 z32 st32 hQ32
          subst l32 y32 z32
          obtain ⟨rfl, N32q, e32⟩ := hQ32
          have N32 := Fr.app N0 N32q
          refine own_st st32 ?_
          show own_Fin _ _ _ _ _ _ _ (T32.setTop (mkF m 52 #[.val (.int p1), .val (.int p2), .val (.int ((p1 &&& (63 : Int32)) - (8 : Int32))), .val (.int (0 : Int32))] [(.int (own_F1 ((p1 &&& (63 : Int32)) - (8 : Int32))))]))
          refine own_st (fun t k => XS.iloadN X32.here hx rfl (hb hby at_52) rfl k) ?_
          show own_Fin _ _ _ _ _ _ _ (T32.setTop (mkF m 53 #[.val (.int p1), .val (.int p2), .val (.int ((p1 &&& (63 : Int32)) - (8 : Int32))), .val (.int (0 : Int32))] [(.int (0 : Int32)), (.int (own_F1 ((p1 &&& (63 : Int32)) - (8 : Int32))))]))
          by_cases hc53_33 : (own_F1 ((p1 &&& (63 : Int32)) - (8 : Int32))) = (0 : Int32)
          · refine own_st (fun t k => XS.icmpNo X32.here hx rfl (hb hby at_53) rfl (teq hc53_33).2 k) ?_
            show own_Fin _ _ _ _ _ _ _ (T32.setTop (mkF m 56 #[.val (.int p1), .val (.int p2), .val (.int ((p1 &&& (63 : Int32)) - (8 : Int32))), .val (.int (0 : Int32))] []))
            refine own_st (fun t k => XS.iconst X32.here hx rfl (hb hby at_56) k) ?_
            show own_Fin _ _ _ _ _ _ _ (T32.setTop (mkF m 57 #[.val (.int p1), .val (.int p2), .val (.int ((p1 &&& (63 : Int32)) - (8 : Int32))), .val (.int (0 : Int32))] [(.int (1 : Int32))]))
            refine own_st (fun t k => XS.goto X32.here hx rfl (pc0 := 57) (pc' := 61) rfl (hb hby at_57) (by decide) (by decide) k) ?_
            show own_Fin _ _ _ _ _ _ _ (T32.setTop (mkF m 61 #[.val (.int p1), .val (.int p2), .val (.int ((p1 &&& (63 : Int32)) - (8 : Int32))), .val (.int (0 : Int32))] [(.int (1 : Int32))]))
            have hv : own_F0 p1 p2 = (1 : Int32) := by unfold own_F0; rw [if_neg hc3_1, if_neg hc21_22, if_pos hc27_28, if_neg hc39_29, if_pos hc53_33]
            exact own_retN X32 hx Bd.notSynchronized (t := .boolean) Bd.returns (by simp) (hb hby at_61) (by decide) (by decide) ⟨congrArg (fun z => some (Value.int z)) hv.symm, N32, e32⟩
          · refine own_st (fun t k => XS.icmpYes X32.here hx rfl (pc0 := 53) (pc' := 60) rfl (hb hby at_53) rfl (feq hc53_33).2 (by decide) (by decide) k) ?_
            show own_Fin _ _ _ _ _ _ _ (T32.setTop (mkF m 60 #[.val (.int p1), .val (.int p2), .val (.int ((p1 &&& (63 : Int32)) - (8 : Int32))), .val (.int (0 : Int32))] []))
            refine own_st (fun t k => XS.iconst X32.here hx rfl (hb hby at_60) k) ?_
            show own_Fin _ _ _ _ _ _ _ (T32.setTop (mkF m 61 #[.val (.int p1), .val (.int p2), .val (.int ((p1 &&& (63 : Int32)) - (8 : Int32))), .val (.int (0 : Int32))] [(.int (0 : Int32))]))
            have hv : own_F0 p1 p2 = (0 : Int32) := by unfold own_F0; rw [if_neg hc3_1, if_neg hc21_22, if_pos hc27_28, if_neg hc39_29, if_neg hc53_33]
            exact own_retN X32 hx Bd.notSynchronized (t := .boolean) Bd.returns (by simp) (hb hby at_61) (by decide) (by decide) ⟨congrArg (fun z => some (Value.int z)) hv.symm, N32, e32⟩
      · refine own_st (fun t k => XS.icmpNo X0.here hx rfl (hb hby at_27) rfl (flt hc27_28).2.2.1 k) ?_
        show own_Fin _ _ _ _ _ _ _ (s₁.setTop (mkF m 30 #[.val (.int p1), .val (.int p2), .val (.int ((p1 &&& (63 : Int32)) - (8 : Int32))), .unset] []))
        refine own_st (fun t k => XS.iloadN X0.here hx rfl (hb hby at_30) rfl k) ?_
        show own_Fin _ _ _ _ _ _ _ (s₁.setTop (mkF m 31 #[.val (.int p1), .val (.int p2), .val (.int ((p1 &&& (63 : Int32)) - (8 : Int32))), .unset] [(.int ((p1 &&& (63 : Int32)) - (8 : Int32)))]))
        refine own_st (fun t k => XS.bipush X0.here hx rfl (hb hby at_31) k) ?_
        show own_Fin _ _ _ _ _ _ _ (s₁.setTop (mkF m 33 #[.val (.int p1), .val (.int p2), .val (.int ((p1 &&& (63 : Int32)) - (8 : Int32))), .unset] [(.int (11 : Int32)), (.int ((p1 &&& (63 : Int32)) - (8 : Int32)))]))
        by_cases hc33_34 : ((p1 &&& (63 : Int32)) - (8 : Int32)) = (11 : Int32)
        · refine own_st (fun t k => XS.icmpNo X0.here hx rfl (hb hby at_33) rfl (teq hc33_34).2 k) ?_
          show own_Fin _ _ _ _ _ _ _ (s₁.setTop (mkF m 36 #[.val (.int p1), .val (.int p2), .val (.int ((p1 &&& (63 : Int32)) - (8 : Int32))), .unset] []))
          refine own_st (fun t k => XS.iloadN X0.here hx rfl (hb hby at_36) rfl k) ?_
          show own_Fin _ _ _ _ _ _ _ (s₁.setTop (mkF m 37 #[.val (.int p1), .val (.int p2), .val (.int ((p1 &&& (63 : Int32)) - (8 : Int32))), .unset] [(.int ((p1 &&& (63 : Int32)) - (8 : Int32)))]))
          refine own_st (fun t k => XS.bipush X0.here hx rfl (hb hby at_37) k) ?_
          show own_Fin _ _ _ _ _ _ _ (s₁.setTop (mkF m 39 #[.val (.int p1), .val (.int p2), .val (.int ((p1 &&& (63 : Int32)) - (8 : Int32))), .unset] [(.int (32 : Int32)), (.int ((p1 &&& (63 : Int32)) - (8 : Int32)))]))
          by_cases hc39_35 : ((p1 &&& (63 : Int32)) - (8 : Int32)) = (32 : Int32)
          · refine own_st (fun t k => XS.icmpNo X0.here hx rfl (hb hby at_39) rfl (teq hc39_35).2 k) ?_
            show own_Fin _ _ _ _ _ _ _ (s₁.setTop (mkF m 42 #[.val (.int p1), .val (.int p2), .val (.int ((p1 &&& (63 : Int32)) - (8 : Int32))), .unset] []))
            refine own_st (fun t k => XS.iconst X0.here hx rfl (hb hby at_42) k) ?_
            show own_Fin _ _ _ _ _ _ _ (s₁.setTop (mkF m 43 #[.val (.int p1), .val (.int p2), .val (.int ((p1 &&& (63 : Int32)) - (8 : Int32))), .unset] [(.int (1 : Int32))]))
            refine own_st (fun t k => XS.goto X0.here hx rfl (pc0 := 43) (pc' := 47) rfl (hb hby at_43) (by decide) (by decide) k) ?_
            show own_Fin _ _ _ _ _ _ _ (s₁.setTop (mkF m 47 #[.val (.int p1), .val (.int p2), .val (.int ((p1 &&& (63 : Int32)) - (8 : Int32))), .unset] [(.int (1 : Int32))]))
            refine own_st (fun t k => XS.istoreN X0.here hx rfl (hb hby at_47) rfl (l' := #[.val (.int p1), .val (.int p2), .val (.int ((p1 &&& (63 : Int32)) - (8 : Int32))), .val (.int (1 : Int32))]) rfl k) ?_
            show own_Fin _ _ _ _ _ _ _ (s₁.setTop (mkF m 48 #[.val (.int p1), .val (.int p2), .val (.int ((p1 &&& (63 : Int32)) - (8 : Int32))), .val (.int (1 : Int32))] []))
            refine own_st (fun t k => XS.iloadN X0.here hx rfl (hb hby at_48) rfl k) ?_
            show own_Fin _ _ _ _ _ _ _ (s₁.setTop (mkF m 49 #[.val (.int p1), .val (.int p2), .val (.int ((p1 &&& (63 : Int32)) - (8 : Int32))), .val (.int (1 : Int32))] [(.int ((p1 &&& (63 : Int32)) - (8 : Int32)))]))
            obtain ⟨_, _, ⟨T36, L36, k36, n36⟩, -, X36, ⟨Lc36, hQ36, l36, y36, z36⟩, st36⟩ := Jvm.LawKit.callS X0 hx (y := (⟨"org/forwardtrace/reading/HtmlScanner", "isSpace", "(I)Z"⟩ : MethodName)) hown (mvT hZ (hw _ (List.mem_of_getElem? (i := 0) rfl))) (mvT hZ (hw _ (List.mem_of_getElem? (i := 1) rfl))) (mvT hZ (hw _ (List.mem_of_getElem? (i := 2) rfl))) (mvT hZ (hw _ (List.mem_of_getElem? (i := 3) rfl))) (by decide) (backOf (W := 0) (rm1 l Z a0 hw [] ((p1 &&& (63 : Int32)) - (8 : Int32)) h0 n0 Z0) hZ (hw _ (List.mem_of_getElem? (i := 3) rfl)) (hw _ (List.mem_of_getElem? (i := 2) rfl)) (by decide) (by decide)) (g := (mkF m 49 #[.val (.int p1), .val (.int p2), .val (.int ((p1 &&& (63 : Int32)) - (8 : Int32))), .val (.int (1 : Int32))] [(.int ((p1 &&& (63 : Int32)) - (8 : Int32)))])) rfl (by rw [hml]; rfl) (argsL := [(.int ((p1 &&& (63 : Int32)) - (8 : Int32)))]) (rest := []) (lenOf pd_0_0 rfl) rfl (by show 2 * 0 + _ ≤ _; exact Nat.le_of_eq rfl) (hb hby at_49) (fun _ _ => ⟨rfl, e0, (by decide : 0 + 0 ≤ _), (by decide : 0 + 0 ≤ _)⟩)
            dsimp only [Pt.U, Pt.locs, Pt.cells, Pt.slots] at X36 l36 y36 z36 st36 hQ36
            subst l36 y36 z36
            obtain ⟨rfl, N36q, e36⟩ := hQ36
            have N36 := Fr.app N0 N36q
            refine own_st st36 ?_
            show own_Fin _ _ _ _ _ _ _ (T36.setTop (mkF m 52 #[.val (.int p1), .val (.int p2), .val (.int ((p1 &&& (63 : Int32)) - (8 : Int32))), .val (.int (1 : Int32))] [(.int (own_F1 ((p1 &&& (63 : Int32)) - (8 : Int32))))]))
            refine own_st (fun t k => XS.iloadN X36.here hx rfl (hb hby at_52) rfl k) ?_
            show own_Fin _ _ _ _ _ _ _ (T36.setTop (mkF m 53 #[.val (.int p1), .val (.int p2), .val (.int ((p1 &&& (63 : Int32)) - (8 : Int32))), .val (.int (1 : Int32))] [(.int (1 : Int32)), (.int (own_F1 ((p1 &&& (63 : Int32)) - (8 : Int32))))]))
            by_cases hc53_37 : (own_F1 ((p1 &&& (63 : Int32)) - (8 : Int32))) = (1 : Int32)
            · refine own_st (fun t k => XS.icmpNo X36.here hx rfl (hb hby at_53) rfl (teq hc53_37).2 k) ?_
              show own_Fin _ _ _ _ _ _ _ (T36.setTop (mkF m 56 #[.val (.int p1), .val (.int p2), .val (.int ((p1 &&& (63 : Int32)) - (8 : Int32))), .val (.int (1 : Int32))] []))
              refine own_st (fun t k => XS.iconst X36.here hx rfl (hb hby at_56) k) ?_
              show own_Fin _ _ _ _ _ _ _ (T36.setTop (mkF m 57 #[.val (.int p1), .val (.int p2), .val (.int ((p1 &&& (63 : Int32)) - (8 : Int32))), .val (.int (1 : Int32))] [(.int (1 : Int32))]))
              refine own_st (fun t k => XS.goto X36.here hx rfl (pc0 := 57) (pc' := 61) rfl (hb hby at_57) (by decide) (by decide) k) ?_
              show own_Fin _ _ _ _ _ _ _ (T36.setTop (mkF m 61 #[.val (.int p1), .val (.int p2), .val (.int ((p1 &&& (63 : Int32)) - (8 : Int32))), .val (.int (1 : Int32))] [(.int (1 : Int32))]))
              have hv : own_F0 p1 p2 = (1 : Int32) := by unfold own_F0; rw [if_neg hc3_1, if_neg hc21_22, if_neg hc27_28, if_pos hc33_34, if_pos hc39_35, if_pos hc53_37]
              exact own_retN X36 hx Bd.notSynchronized (t := .boolean) Bd.returns (by simp) (hb hby at_61) (by decide) (by decide) ⟨congrArg (fun z => some (Value.int z)) hv.symm, N36, e36⟩
            · refine own_st (fun t k => XS.icmpYes X36.here hx rfl (pc0 := 53) (pc' := 60) rfl (hb hby at_53) rfl (feq hc53_37).2 (by decide) (by decide) k) ?_
              show own_Fin _ _ _ _ _ _ _ (T36.setTop (mkF m 60 #[.val (.int p1), .val (.int p2), .val (.int ((p1 &&& (63 : Int32)) - (8 : Int32))), .val (.int (1 : Int32))] []))
              refine own_st (fun t k => XS.iconst X36.here hx rfl (hb hby at_60) k) ?_
              show own_Fin _ _ _ _ _ _ _ (T36.setTop (mkF m 61 #[.val (.int p1), .val (.int p2), .val (.int ((p1 &&& (63 : Int32)) - (8 : Int32))), .val (.int (1 : Int32))] [(.int (0 : Int32))]))
              have hv : own_F0 p1 p2 = (0 : Int32) := by unfold own_F0; rw [if_neg hc3_1, if_neg hc21_22, if_neg hc27_28, if_pos hc33_34, if_pos hc39_35, if_neg hc53_37]
              exact own_retN X36 hx Bd.notSynchronized (t := .boolean) Bd.returns (by simp) (hb hby at_61) (by decide) (by decide) ⟨congrArg (fun z => some (Value.int z)) hv.symm, N36, e36⟩
          · refine own_st (fun t k => XS.icmpYes X0.here hx rfl (pc0 := 39) (pc' := 46) rfl (hb hby at_39) rfl (feq hc39_35).2 (by decide) (by decide) k) ?_
            show own_Fin _ _ _ _ _ _ _ (s₁.setTop (mkF m 46 #[.val (.int p1), .val (.int p2), .val (.int ((p1 &&& (63 : Int32)) - (8 : Int32))), .unset] []))
            refine own_st (fun t k => XS.iconst X0.here hx rfl (hb hby at_46) k) ?_
            show own_Fin _ _ _ _ _ _ _ (s₁.setTop (mkF m 47 #[.val (.int p1), .val (.int p2), .val (.int ((p1 &&& (63 : Int32)) - (8 : Int32))), .unset] [(.int (0 : Int32))]))
            refine own_st (fun t k => XS.istoreN X0.here hx rfl (hb hby at_47) rfl (l' := #[.val (.int p1), .val (.int p2), .val (.int ((p1 &&& (63 : Int32)) - (8 : Int32))), .val (.int (0 : Int32))]) rfl k) ?_
            show own_Fin _ _ _ _ _ _ _ (s₁.setTop (mkF m 48 #[.val (.int p1), .val (.int p2), .val (.int ((p1 &&& (63 : Int32)) - (8 : Int32))), .val (.int (0 : Int32))] []))
            refine own_st (fun t k => XS.iloadN X0.here hx rfl (hb hby at_48) rfl k) ?_
            show own_Fin _ _ _ _ _ _ _ (s₁.setTop (mkF m 49 #[.val (.int p1), .val (.int p2), .val (.int ((p1 &&& (63 : Int32)) - (8 : Int32))), .val (.int (0 : Int32))] [(.int ((p1 &&& (63 : Int32)) - (8 : Int32)))]))
            obtain ⟨_, _, ⟨T38, L38, k38, n38⟩, -, X38, ⟨Lc38, hQ38, l38, y38, z38⟩, st38⟩ := Jvm.LawKit.callS X0 hx (y := (⟨"org/forwardtrace/reading/HtmlScanner", "isSpace", "(I)Z"⟩ : MethodName)) hown (mvT hZ (hw _ (List.mem_of_getElem? (i := 0) rfl))) (mvT hZ (hw _ (List.mem_of_getElem? (i := 1) rfl))) (mvT hZ (hw _ (List.mem_of_getElem? (i := 2) rfl))) (mvT hZ (hw _ (List.mem_of_getElem? (i := 3) rfl))) (by decide) (backOf (W := 0) (rm1 l Z a0 hw [] ((p1 &&& (63 : Int32)) - (8 : Int32)) h0 n0 Z0) hZ (hw _ (List.mem_of_getElem? (i := 3) rfl)) (hw _ (List.mem_of_getElem? (i := 2) rfl)) (by decide) (by decide)) (g := (mkF m 49 #[.val (.int p1), .val (.int p2), .val (.int ((p1 &&& (63 : Int32)) - (8 : Int32))), .val (.int (0 : Int32))] [(.int ((p1 &&& (63 : Int32)) - (8 : Int32)))])) rfl (by rw [hml]; rfl) (argsL := [(.int ((p1 &&& (63 : Int32)) - (8 : Int32)))]) (rest := []) (lenOf pd_0_0 rfl) rfl (by show 2 * 0 + _ ≤ _; exact Nat.le_of_eq rfl) (hb hby at_49) (fun _ _ => ⟨rfl, e0, (by decide : 0 + 0 ≤ _), (by decide : 0 + 0 ≤ _)⟩)
            dsimp only [Pt.U, Pt.locs, Pt.cells, Pt.slots] at X38 l38 y38 z38 st38 hQ38
            subst l38 y38 z38
            obtain ⟨rfl, N38q, e38⟩ := hQ38
            have N38 := Fr.app N0 N38q
            refine own_st st38 ?_
            show own_Fin _ _ _ _ _ _ _ (T38.setTop (mkF m 52 #[.val (.int p1), .val (.int p2), .val (.int ((p1 &&& (63 : Int32)) - (8 : Int32))), .val (.int (0 : Int32))] [(.int (own_F1 ((p1 &&& (63 : Int32)) - (8 : Int32))))]))
            refine own_st (fun t k => XS.iloadN X38.here hx rfl (hb hby at_52) rfl k) ?_
            show own_Fin _ _ _ _ _ _ _ (T38.setTop (mkF m 53 #[.val (.int p1), .val (.int p2), .val (.int ((p1 &&& (63 : Int32)) - (8 : Int32))), .val (.int (0 : Int32))] [(.int (0 : Int32)), (.int (own_F1 ((p1 &&& (63 : Int32)) - (8 : Int32))))]))
            by_cases hc53_39 : (own_F1 ((p1 &&& (63 : Int32)) - (8 : Int32))) = (0 : Int32)
            · refine own_st (fun t k => XS.icmpNo X38.here hx rfl (hb hby at_53) rfl (teq hc53_39).2 k) ?_
              show own_Fin _ _ _ _ _ _ _ (T38.setTop (mkF m 56 #[.val (.int p1), .val (.int p2), .val (.int ((p1 &&& (63 : Int32)) - (8 : Int32))), .val (.int (0 : Int32))] []))
              refine own_st (fun t k => XS.iconst X38.here hx rfl (hb hby at_56) k) ?_
              show own_Fin _ _ _ _ _ _ _ (T38.setTop (mkF m 57 #[.val (.int p1), .val (.int p2), .val (.int ((p1 &&& (63 : Int32)) - (8 : Int32))), .val (.int (0 : Int32))] [(.int (1 : Int32))]))
              refine own_st (fun t k => XS.goto X38.here hx rfl (pc0 := 57) (pc' := 61) rfl (hb hby at_57) (by decide) (by decide) k) ?_
              show own_Fin _ _ _ _ _ _ _ (T38.setTop (mkF m 61 #[.val (.int p1), .val (.int p2), .val (.int ((p1 &&& (63 : Int32)) - (8 : Int32))), .val (.int (0 : Int32))] [(.int (1 : Int32))]))
              have hv : own_F0 p1 p2 = (1 : Int32) := by unfold own_F0; rw [if_neg hc3_1, if_neg hc21_22, if_neg hc27_28, if_pos hc33_34, if_neg hc39_35, if_pos hc53_39]
              exact own_retN X38 hx Bd.notSynchronized (t := .boolean) Bd.returns (by simp) (hb hby at_61) (by decide) (by decide) ⟨congrArg (fun z => some (Value.int z)) hv.symm, N38, e38⟩
            · refine own_st (fun t k => XS.icmpYes X38.here hx rfl (pc0 := 53) (pc' := 60) rfl (hb hby at_53) rfl (feq hc53_39).2 (by decide) (by decide) k) ?_
              show own_Fin _ _ _ _ _ _ _ (T38.setTop (mkF m 60 #[.val (.int p1), .val (.int p2), .val (.int ((p1 &&& (63 : Int32)) - (8 : Int32))), .val (.int (0 : Int32))] []))
              refine own_st (fun t k => XS.iconst X38.here hx rfl (hb hby at_60) k) ?_
              show own_Fin _ _ _ _ _ _ _ (T38.setTop (mkF m 61 #[.val (.int p1), .val (.int p2), .val (.int ((p1 &&& (63 : Int32)) - (8 : Int32))), .val (.int (0 : Int32))] [(.int (0 : Int32))]))
              have hv : own_F0 p1 p2 = (0 : Int32) := by unfold own_F0; rw [if_neg hc3_1, if_neg hc21_22, if_neg hc27_28, if_pos hc33_34, if_neg hc39_35, if_neg hc53_39]
              exact own_retN X38 hx Bd.notSynchronized (t := .boolean) Bd.returns (by simp) (hb hby at_61) (by decide) (by decide) ⟨congrArg (fun z => some (Value.int z)) hv.symm, N38, e38⟩
        · refine own_st (fun t k => XS.icmpYes X0.here hx rfl (pc0 := 33) (pc' := 42) rfl (hb hby at_33) rfl (feq hc33_34).2 (by decide) (by decide) k) ?_
          show own_Fin _ _ _ _ _ _ _ (s₁.setTop (mkF m 42 #[.val (.int p1), .val (.int p2), .val (.int ((p1 &&& (63 : Int32)) - (8 : Int32))), .unset] []))
          refine own_st (fun t k => XS.iconst X0.here hx rfl (hb hby at_42) k) ?_
          show own_Fin _ _ _ _ _ _ _ (s₁.setTop (mkF m 43 #[.val (.int p1), .val (.int p2), .val (.int ((p1 &&& (63 : Int32)) - (8 : Int32))), .unset] [(.int (1 : Int32))]))
          refine own_st (fun t k => XS.goto X0.here hx rfl (pc0 := 43) (pc' := 47) rfl (hb hby at_43) (by decide) (by decide) k) ?_
          show own_Fin _ _ _ _ _ _ _ (s₁.setTop (mkF m 47 #[.val (.int p1), .val (.int p2), .val (.int ((p1 &&& (63 : Int32)) - (8 : Int32))), .unset] [(.int (1 : Int32))]))
          refine own_st (fun t k => XS.istoreN X0.here hx rfl (hb hby at_47) rfl (l' := #[.val (.int p1), .val (.int p2), .val (.int ((p1 &&& (63 : Int32)) - (8 : Int32))), .val (.int (1 : Int32))]) rfl k) ?_
          show own_Fin _ _ _ _ _ _ _ (s₁.setTop (mkF m 48 #[.val (.int p1), .val (.int p2), .val (.int ((p1 &&& (63 : Int32)) - (8 : Int32))), .val (.int (1 : Int32))] []))
          refine own_st (fun t k => XS.iloadN X0.here hx rfl (hb hby at_48) rfl k) ?_
          show own_Fin _ _ _ _ _ _ _ (s₁.setTop (mkF m 49 #[.val (.int p1), .val (.int p2), .val (.int ((p1 &&& (63 : Int32)) - (8 : Int32))), .val (.int (1 : Int32))] [(.int ((p1 &&& (63 : Int32)) - (8 : Int32)))]))
          obtain ⟨_, _, ⟨T40, L40, k40, n40⟩, -, X40, ⟨Lc40, hQ40, l40, y40, z40⟩, st40⟩ := Jvm.LawKit.callS X0 hx (y := (⟨"org/forwardtrace/reading/HtmlScanner", "isSpace", "(I)Z"⟩ : MethodName)) hown (mvT hZ (hw _ (List.mem_of_getElem? (i := 0) rfl))) (mvT hZ (hw _ (List.mem_of_getElem? (i := 1) rfl))) (mvT hZ (hw _ (List.mem_of_getElem? (i := 2) rfl))) (mvT hZ (hw _ (List.mem_of_getElem? (i := 3) rfl))) (by decide) (backOf (W := 0) (rm1 l Z a0 hw [] ((p1 &&& (63 : Int32)) - (8 : Int32)) h0 n0 Z0) hZ (hw _ (List.mem_of_getElem? (i := 3) rfl)) (hw _ (List.mem_of_getElem? (i := 2) rfl)) (by decide) (by decide)) (g := (mkF m 49 #[.val (.int p1), .val (.int p2), .val (.int ((p1 &&& (63 : Int32)) - (8 : Int32))), .val (.int (1 : Int32))] [(.int ((p1 &&& (63 : Int32)) - (8 : Int32)))])) rfl (by rw [hml]; rfl) (argsL := [(.int ((p1 &&& (63 : Int32)) - (8 : Int32)))]) (rest := []) (lenOf pd_0_0 rfl) rfl (by show 2 * 0 + _ ≤ _; exact Nat.le_of_eq rfl) (hb hby at_49) (fun _ _ => ⟨rfl, e0, (by decide : 0 + 0 ≤ _), (by decide : 0 + 0 ≤ _)⟩)
          dsimp only [Pt.U, Pt.locs, Pt.cells, Pt.slots] at X40 l40 y40 z40 st40 hQ40
          subst l40 y40 z40
          obtain ⟨rfl, N40q, e40⟩ := hQ40
          have N40 := Fr.app N0 N40q
          refine own_st st40 ?_
          show own_Fin _ _ _ _ _ _ _ (T40.setTop (mkF m 52 #[.val (.int p1), .val (.int p2), .val (.int ((p1 &&& (63 : Int32)) - (8 : Int32))), .val (.int (1 : Int32))] [(.int (own_F1 ((p1 &&& (63 : Int32)) - (8 : Int32))))]))
          refine own_st (fun t k => XS.iloadN X40.here hx rfl (hb hby at_52) rfl k) ?_
          show own_Fin _ _ _ _ _ _ _ (T40.setTop (mkF m 53 #[.val (.int p1), .val (.int p2), .val (.int ((p1 &&& (63 : Int32)) - (8 : Int32))), .val (.int (1 : Int32))] [(.int (1 : Int32)), (.int (own_F1 ((p1 &&& (63 : Int32)) - (8 : Int32))))]))
          by_cases hc53_41 : (own_F1 ((p1 &&& (63 : Int32)) - (8 : Int32))) = (1 : Int32)
          · refine own_st (fun t k => XS.icmpNo X40.here hx rfl (hb hby at_53) rfl (teq hc53_41).2 k) ?_
            show own_Fin _ _ _ _ _ _ _ (T40.setTop (mkF m 56 #[.val (.int p1), .val (.int p2), .val (.int ((p1 &&& (63 : Int32)) - (8 : Int32))), .val (.int (1 : Int32))] []))
            refine own_st (fun t k => XS.iconst X40.here hx rfl (hb hby at_56) k) ?_
            show own_Fin _ _ _ _ _ _ _ (T40.setTop (mkF m 57 #[.val (.int p1), .val (.int p2), .val (.int ((p1 &&& (63 : Int32)) - (8 : Int32))), .val (.int (1 : Int32))] [(.int (1 : Int32))]))
            refine own_st (fun t k => XS.goto X40.here hx rfl (pc0 := 57) (pc' := 61) rfl (hb hby at_57) (by decide) (by decide) k) ?_
            show own_Fin _ _ _ _ _ _ _ (T40.setTop (mkF m 61 #[.val (.int p1), .val (.int p2), .val (.int ((p1 &&& (63 : Int32)) - (8 : Int32))), .val (.int (1 : Int32))] [(.int (1 : Int32))]))
            have hv : own_F0 p1 p2 = (1 : Int32) := by unfold own_F0; rw [if_neg hc3_1, if_neg hc21_22, if_neg hc27_28, if_neg hc33_34, if_pos hc53_41]
            exact own_retN X40 hx Bd.notSynchronized (t := .boolean) Bd.returns (by simp) (hb hby at_61) (by decide) (by decide) ⟨congrArg (fun z => some (Value.int z)) hv.symm, N40, e40⟩
          · refine own_st (fun t k => XS.icmpYes X40.here hx rfl (pc0 := 53) (pc' := 60) rfl (hb hby at_53) rfl (feq hc53_41).2 (by decide) (by decide) k) ?_
            show own_Fin _ _ _ _ _ _ _ (T40.setTop (mkF m 60 #[.val (.int p1), .val (.int p2), .val (.int ((p1 &&& (63 : Int32)) - (8 : Int32))), .val (.int (1 : Int32))] []))
            refine own_st (fun t k => XS.iconst X40.here hx rfl (hb hby at_60) k) ?_
            show own_Fin _ _ _ _ _ _ _ (T40.setTop (mkF m 61 #[.val (.int p1), .val (.int p2), .val (.int ((p1 &&& (63 : Int32)) - (8 : Int32))), .val (.int (1 : Int32))] [(.int (0 : Int32))]))
            have hv : own_F0 p1 p2 = (0 : Int32) := by unfold own_F0; rw [if_neg hc3_1, if_neg hc21_22, if_neg hc27_28, if_neg hc33_34, if_neg hc53_41]
            exact own_retN X40 hx Bd.notSynchronized (t := .boolean) Bd.returns (by simp) (hb hby at_61) (by decide) (by decide) ⟨congrArg (fun z => some (Value.int z)) hv.symm, N40, e40⟩
theorem own_f1 (v : Int32) : (own_F1 v = 1 ∧ (v.toInt = 9 ∨ v.toInt = 10 ∨ v.toInt = 12 ∨ v.toInt = 13 ∨ v.toInt = 32)) ∨ (own_F1 v = 0 ∧ ¬ (v.toInt = 9 ∨ v.toInt = 10 ∨ v.toInt = 12 ∨ v.toInt = 13 ∨ v.toInt = 32)) := by
  have l9 : (9 : Int32).toInt = 9 := by decide
  have l10 : (10 : Int32).toInt = 10 := by decide
  have l12 : (12 : Int32).toInt = 12 := by decide
  have l13 : (13 : Int32).toInt = 13 := by decide
  have l32 : (32 : Int32).toInt = 32 := by decide
  unfold own_F1
  simp only [← Int32.toInt_inj (x := v), l9, l10, l12, l13, l32]
  by_cases h9 : v.toInt = 9
  · simp [h9]
  · by_cases h10 : v.toInt = 10
    · simp [h10]
    · by_cases h12 : v.toInt = 12
      · simp [h12]
      · by_cases h13 : v.toInt = 13
        · simp [h13]
        · by_cases h32 : v.toInt = 32
          · simp [h32]
          · simp [h9, h10, h12, h13, h32]
theorem own_all (v : Int32) : (if v < (9 : Int32) then (if v = (32 : Int32) then (if (own_F1 v) = (1 : Int32) then (1 : Int32) else (0 : Int32)) else (if (own_F1 v) = (0 : Int32) then (1 : Int32) else (0 : Int32))) else (if (13 : Int32) < v then (if v = (32 : Int32) then (if (own_F1 v) = (1 : Int32) then (1 : Int32) else (0 : Int32)) else (if (own_F1 v) = (0 : Int32) then (1 : Int32) else (0 : Int32))) else (if v = (11 : Int32) then (if v = (32 : Int32) then (if (own_F1 v) = (1 : Int32) then (1 : Int32) else (0 : Int32)) else (if (own_F1 v) = (0 : Int32) then (1 : Int32) else (0 : Int32))) else (if (own_F1 v) = (1 : Int32) then (1 : Int32) else (0 : Int32))))) = 1 := by
  have l9 : (9 : Int32).toInt = 9 := by decide
  have l11 : (11 : Int32).toInt = 11 := by decide
  have l13 : (13 : Int32).toInt = 13 := by decide
  have l32 : (32 : Int32).toInt = 32 := by decide
  have h01 : ¬ (0 : Int32) = 1 := by decide
  have h10 : ¬ (1 : Int32) = 0 := by decide
  simp only [Int32.lt_iff_toInt_lt, ← Int32.toInt_inj (x := v), l9, l11, l13, l32]
  rcases own_f1 v with ⟨e, h⟩ | ⟨e, h⟩
  · simp only [e, if_true, if_neg h10]
    repeat' split
    all_goals first | rfl | (exfalso; omega)
  · simp only [e, if_true, if_neg h01]
    repeat' split
    all_goals first | rfl | (exfalso; omega)
theorem own_plain (p0 p1 : Int32) : own_F0 p0 p1 = 1 := by
  unfold own_F0
  split
  · exact own_all p0
  · exact own_all _
set_option maxRecDepth 65536 in
set_option maxHeartbeats 40000000 in
theorem comes_1 {Post : Tables → Env → Array Value → State → Outcome → State → Prop} (hpost : ∀ tb e args s v u, (limb_1_1.after args s (.returned v) u = true ∧ limb_1_2.after args s (.returned v) u = true ∧ True) → FrameEnd s (.returned v) u (Jvm.fieldLocs frame_1_writes args s ++ Jvm.arrayLocs frame_1_arrays args s ++ Jvm.staticLocs frame_1_statics s) 0 0 → Post tb e args s (.returned v) u) :
    ArmFor flags0 classFile x code maxLocals ret World_1 tables_1 room_1 Calls_1 rest_1 Pre_1 Post := by
  intro l hfl _ _ p e ha hc hk s m args below hf hA hF happ hP
  obtain ⟨hcalls, hrest, hpre⟩ := hP
  obtain ⟨-, -, -, hnamed, -, -, -, hat⟩ := (Spec.applies_iff hf).mp happ
  obtain ⟨hg, hn⟩ := and_e (Cond.before_iff.mp (show (Jvm.Cond.and given_1 narrow_1).before args s = true from hpre))
  obtain ⟨g3, g4⟩ := and_e hg
  obtain ⟨g5, g6⟩ := and_e g4
  obtain ⟨w0, w1, rfl⟩ : ∃ w0 w1 : Value, args = #[w0, w1] := by
    have hs : args.size = 2 := by simpa [Cond.value, given_1] using g3
    obtain ⟨L⟩ := args
    match L, hs with
    | [w0, w1], _ => exact ⟨w0, w1, rfl⟩
  have hw := fun d (hd : d ∈ tables_1) => atoms_spec (ws := Jvm.Cond.code x code maxLocals ret :: tables_1) hat d (List.mem_cons_of_mem _ hd)
  obtain ⟨i0, ei0⟩ := is_v g5
  obtain rfl : w0 = (.int i0) := Option.some.inj ei0
  obtain ⟨i1, ei1⟩ := is_v g6
  obtain rfl : w1 = (.int i1) := Option.some.inj ei1
  obtain ⟨n, o, h1, h2, h3, v, L, rfl, ⟨hv, N, -⟩, hq⟩ := rm0 l s _ hw tables_1 i0 i1 s.heap s.heap.size (Nat.le_refl _) p e ha hc hk s m _ below hf ((Spec.applies_iff_loose hf).mp happ).1 ⟨rfl, State.Warmed39.refl s, rfl⟩ trivial
  rw [own_plain i0 i1] at hv
  subst hv
  refine ⟨n, _, h1, h2, h3, hpost _ _ _ _ _ _ ⟨Cond.after_iff.mpr rfl, Cond.after_iff.mpr (eq_i res_at (Term.int_eval (1)) rfl), trivial⟩ ⟨hq.1, hq.2.1, (hq.2.2.sift fun y hy => Or.inr (N y hy)).mono (by decide) (by decide)⟩⟩
theorem main_1_1 : Claimed_1_1 := comes_1 fun _ _ _ _ _ _ h hF => ⟨h.1, hF⟩
theorem main_1_2 : Claimed_1_2 := comes_1 fun _ _ _ _ _ _ h hF => ⟨h.2.1, hF⟩
end Jvm.Pilot.@@N@@
namespace Jvm.Pilot.@@N@@
open Jvm Jvm.ClassFile Sem Op Lib Jvm.Free Jvm.Stand Jvm.Pilot.@@N@@.Jvm.D
/-! MADE BY PROGRAM (witnessworld.py) out of the Statement's table words and the real class files: 9 classes; the members and pool entries that the words name. The judged class is class 1, her method 1. -/
namespace start1
open Jvm.ClassFile
def u (s : String) : CpInfo := .utf8 (stringToUtf16 s)
/-- a pool by its gaps: so many unusable entries, then the entry; so many at the end -/
def gap : Nat → List CpInfo → List CpInfo
  | 0, r => r
  | n + 1, r => .unusable :: gap n r
def poolList (es : List (Nat × CpInfo)) (last : Nat) : List CpInfo := es.foldr (fun e r => gap e.1 (e.2 :: r)) (gap last [])
def pool (es : List (Nat × CpInfo)) (last : Nat) : Array CpInfo := ⟨poolList es last⟩
def fileOf (pool : Array CpInfo) (this : Nat) (attrs : Array Attribute := #[]) (ms : Array MethodInfo := #[]) (fl : Nat := 33) (sup : Nat := 0) (ifs : Array Nat := #[]) (fds : Array FieldInfo := #[]) : ClassFile where
  minorVersion := 0
  majorVersion := 65
  constantPool := pool
  accessFlags := fl
  thisClass := this
  superClass := sup
  interfaces := ifs
  fields := fds
  methods := ms
  attributes := attrs
def plain (name : String) (sup : Option ClassId) : Class where
  name := name
  kind := .ordinary
  loader := none
  accessFlags := 33
  super := sup
  interfaces := #[]
  cf := none
  fields := #[]
  methods := #[]
  instanceTypes := #[]
  staticTypes := #[]
  resolved := #[]
  callSites := []
  init := .initialized
  statics := none
  mirror := none

def pool0 : Array CpInfo := pool [(5, u "<init>"), (0, u "()V"), (1, .class_ 10), (1, u "java/lang/Object")] 113

def k0m0 : Method := { name := "<init>", desc := "()V", sig := { parameters := [], returnType := none }, accessFlags := 1, code := none }
/-- java/lang/Object -/
def k0 : Class := { plain "java/lang/Object" none with
  accessFlags := 33
  interfaces := #[]
  cf := some (fileOf pool0 8 #[] #[{ accessFlags := 1, nameIndex := 5, descriptorIndex := 6, attributes := #[] }] 33 0 #[] #[])
  fields := #[]
  methods := #[k0m0]
  instanceTypes := #[]
  staticTypes := #[]
  resolved := Array.replicate 124 none
  statics := none }

def pool1 : Array CpInfo := pool [(2, .class_ 4), (1, u "java/lang/Object"), (0, u "<init>"), (0, u "()V"), (0, .methodref 8 9), (0, .class_ 10), (0, .nameAndType 11 12), (0, u "org/forwardtrace/reading/HtmlScanner"), (0, u "isSpace"), (0, u "(I)Z"), (0, .class_ 14), (0, u "org/forwardtrace/reading/HtmlScannerIsSpacePinLaw"), (2, u "law"), (0, u "(II)Z")] 3

def k1m0 : Method := { name := "<init>", desc := "()V", sig := { parameters := [], returnType := none }, accessFlags := 1, code := none }
def k1c1 : Code := { maxStack := 2, maxLocals := 4, code := code, exceptionTable := #[], attributes := #[] }
def k1m1 : Method := { name := "law", desc := "(II)Z", sig := { parameters := [.int, .int], returnType := some .boolean }, accessFlags := 9, code := some k1c1 }
/-- org/forwardtrace/reading/HtmlScannerIsSpacePinLaw -/
def k1 : Class := { plain "org/forwardtrace/reading/HtmlScannerIsSpacePinLaw" (some 0) with
  accessFlags := 49
  interfaces := #[]
  cf := some (fileOf pool1 13 #[] #[{ accessFlags := 1, nameIndex := 5, descriptorIndex := 6, attributes := #[] }, { accessFlags := 9, nameIndex := 17, descriptorIndex := 18, attributes := #[] }] 49 2 #[] #[])
  fields := #[]
  methods := #[k1m0, k1m1]
  instanceTypes := #[]
  staticTypes := #[]
  resolved := Array.replicate 22 none
  statics := none }

def pool2 : Array CpInfo := pool [(2, .class_ 4), (1, u "java/lang/Object"), (6, .class_ 13), (1, u "org/forwardtrace/reading/HtmlScanner"), (0, u "tags"), (0, u "Ljava/util/List;"), (4, u "leadInName"), (0, u "Ljava/lang/String;"), (2, u "chainedAt"), (0, u "I"), (2, u "printedPart"), (2, u "text"), (0, u "Lorg/forwardtrace/reading/PrintedText;"), (2, u "code"), (0, u "Ljava/util/Map;"), (2, u "printedFrom"), (9, u "pos"), (8, u "construct"), (2, u "endedByCode"), (0, u "Z"), (32, u "(I)Z"), (12, u "RAW_TEXT"), (0, u "Ljava/util/Set;"), (1, .class_ 113), (1, u "org/forwardtrace/reading/HtmlScanner$Tag"), (26, u "chained"), (148, u "isSpace"), (1, .class_ 292), (0, u "org/forwardtrace/reading/HtmlScanner$Attribute"), (73, u "MARKUP_TAG")] 95

def k2c0 : Code := { maxStack := 2, maxLocals := 1, code := prog_38_method_22_code, exceptionTable := #[], attributes := #[] }
def k2m0 : Method := { name := "isSpace", desc := "(I)Z", sig := { parameters := [.int], returnType := some .boolean }, accessFlags := 8, code := some k2c0 }
/-- org/forwardtrace/reading/HtmlScanner -/
def k2 : Class := { plain "org/forwardtrace/reading/HtmlScanner" (some 0) with
  accessFlags := 48
  interfaces := #[]
  cf := some (fileOf pool2 11 #[.nestMembers #[291, 111]] #[{ accessFlags := 8, nameIndex := 289, descriptorIndex := 95, attributes := #[] }] 48 2 #[] #[{ accessFlags := 26, nameIndex := 108, descriptorIndex := 109, attributes := #[] }, { accessFlags := 26, nameIndex := 366, descriptorIndex := 21, attributes := #[] }, { accessFlags := 18, nameIndex := 31, descriptorIndex := 32, attributes := #[] }, { accessFlags := 18, nameIndex := 35, descriptorIndex := 36, attributes := #[] }, { accessFlags := 18, nameIndex := 39, descriptorIndex := 25, attributes := #[] }, { accessFlags := 18, nameIndex := 14, descriptorIndex := 15, attributes := #[] }, { accessFlags := 2, nameIndex := 49, descriptorIndex := 25, attributes := #[] }, { accessFlags := 2, nameIndex := 20, descriptorIndex := 21, attributes := #[] }, { accessFlags := 2, nameIndex := 140, descriptorIndex := 32, attributes := #[] }, { accessFlags := 2, nameIndex := 24, descriptorIndex := 25, attributes := #[] }, { accessFlags := 2, nameIndex := 28, descriptorIndex := 25, attributes := #[] }, { accessFlags := 2, nameIndex := 58, descriptorIndex := 25, attributes := #[] }, { accessFlags := 2, nameIndex := 61, descriptorIndex := 62, attributes := #[] }])
  fields := #[{ name := "RAW_TEXT", type := (.object "java/util/Set"), accessFlags := 26, slot := 0, constantValue := 0 }, { name := "MARKUP_TAG", type := (.object "java/lang/String"), accessFlags := 26, slot := 1, constantValue := 0 }, { name := "text", type := (.object "org/forwardtrace/reading/PrintedText"), accessFlags := 18, slot := 0, constantValue := 0 }, { name := "code", type := (.object "java/util/Map"), accessFlags := 18, slot := 1, constantValue := 0 }, { name := "printedFrom", type := .int, accessFlags := 18, slot := 2, constantValue := 0 }, { name := "tags", type := (.object "java/util/List"), accessFlags := 18, slot := 3, constantValue := 0 }, { name := "pos", type := .int, accessFlags := 2, slot := 4, constantValue := 0 }, { name := "leadInName", type := (.object "java/lang/String"), accessFlags := 2, slot := 5, constantValue := 0 }, { name := "chained", type := (.object "org/forwardtrace/reading/PrintedText"), accessFlags := 2, slot := 6, constantValue := 0 }, { name := "chainedAt", type := .int, accessFlags := 2, slot := 7, constantValue := 0 }, { name := "printedPart", type := .int, accessFlags := 2, slot := 8, constantValue := 0 }, { name := "construct", type := .int, accessFlags := 2, slot := 9, constantValue := 0 }, { name := "endedByCode", type := .boolean, accessFlags := 2, slot := 10, constantValue := 0 }]
  methods := #[k2m0]
  instanceTypes := #[(.object "org/forwardtrace/reading/PrintedText"), (.object "java/util/Map"), .int, (.object "java/util/List"), .int, (.object "java/lang/String"), (.object "org/forwardtrace/reading/PrintedText"), .int, .int, .int, .boolean]
  staticTypes := #[(.object "java/util/Set"), (.object "java/lang/String")]
  resolved := Array.replicate 462 none
  statics := none }

def pool3 : Array CpInfo := pool [(1, u "java/lang/Cloneable"), (0, .class_ 1), (0, u "java/lang/Object"), (0, .class_ 3)] 3

/-- java/lang/Cloneable -/
def k3 : Class := { plain "java/lang/Cloneable" (some 0) with
  accessFlags := 1537
  interfaces := #[]
  cf := some (fileOf pool3 2 #[] #[] 1537 4 #[] #[])
  fields := #[]
  methods := #[]
  instanceTypes := #[]
  staticTypes := #[]
  resolved := Array.replicate 8 none
  statics := none }

def pool4 : Array CpInfo := pool [(1, u "java/io/Serializable"), (0, .class_ 1), (0, u "java/lang/Object"), (0, .class_ 3)] 3

/-- java/io/Serializable -/
def k4 : Class := { plain "java/io/Serializable" (some 0) with
  accessFlags := 1537
  interfaces := #[]
  cf := some (fileOf pool4 2 #[] #[] 1537 4 #[] #[])
  fields := #[]
  methods := #[]
  instanceTypes := #[]
  staticTypes := #[]
  resolved := Array.replicate 8 none
  statics := none }

/-- the primitive byte -/
def k5 : Class := { plain "byte" none with kind := .primitive 'B', accessFlags := 0x411 }
/-- [B -/
def k6 : Class := { plain "[B" (some 0) with kind := .array 5 .byte, interfaces := #[3, 4], accessFlags := 1041 }

/-- the primitive int -/
def k7 : Class := { plain "int" none with kind := .primitive 'I', accessFlags := 0x411 }
/-- [I -/
def k8 : Class := { plain "[I" (some 0) with kind := .array 7 .int, interfaces := #[3, 4], accessFlags := 1041 }

def heap : Heap := #[]
def classes : Array Class := #[k0, k1, k2, k3, k4, k5, k6, k7, k8]
def interned : List (Array UInt16 × Addr) := []
def slotsUsed : Nat := 0
def theMethod : MethodId := ⟨1, 1⟩
def args0 : Array Value := #[.int 5, .int 0]
def aboutOver (below : List Frame) : State where
  vm := { classes := classes, interned := interned.toArray }
  heap := heap
  slotsUsed := slotsUsed
  threads := #[{ frames := .invoking theMethod args0 :: below }]
def below0 : List Frame := [.native { method := ⟨0, 0⟩, args := #[] }]
def about1 : State := aboutOver below0
def p0 : Program := .bare "" "" ""
def e0 : Env := launch0.env 0 0 0
theorem w_frames : about1.frames = Frame.invoking theMethod args0 :: below0 := rfl
set_option maxRecDepth 65536 in
theorem w_args : argsFit about1.vm theMethod args0 = true := by decide +kernel
set_option maxRecDepth 65536 in
theorem w_heap : heapFits about1 = true := by decide +kernel
set_option maxRecDepth 65536 in
theorem w_runnable : about1.curStatus? = some .runnable := by decide +kernel
set_option maxRecDepth 65536 in
theorem w_alone : about1.alone = true := by decide +kernel
set_option maxRecDepth 65536 in
theorem w_named : about1.methodNamed? x = some theMethod := by decide +kernel
set_option maxRecDepth 65536 in
theorem w_hears : about1.hears theMethod below0 = true := by decide +kernel
set_option maxRecDepth 65536 in
theorem w_ripe : about1.ripe theMethod args0 below0 = true := by decide +kernel
theorem w_running : about1.status = .running := rfl
set_option maxRecDepth 65536 in
theorem w_room : about1.hasRoom e0.platform room_1 = true :=
  launch0.hasRoom_least _ room_1 (by decide +kernel) (by decide +kernel) (by decide +kernel) (by decide +kernel) (by decide +kernel) (by decide +kernel)
theorem allAtoms_all (ts : List Jvm.Cond) (a : Array Jvm.Value) (st : Jvm.State) : (allAtoms ts).before a st = ts.all (fun c => c.before a st) := by
  induction ts with
  | nil => rfl
  | cons c t ih =>
    show (Jvm.Cond.and c (allAtoms t)).before a st = _
    rw [Jvm.Cond.before_and, ih, List.all_cons]
def words1 : List Jvm.Cond := Jvm.Cond.code x code maxLocals ret :: tables_1
/-- a 'code' word, met by the world's own term for the bytes: nothing is compared byte by byte -/
theorem code_word {y : MethodName} {bytes : ByteArray} {mx : Nat} {rt : Option FieldType} {a : Array Value} {s : State} {m : MethodId} {meth : Method} {c : Code} (h1 : s.methodNamed? y = some m) (h2 : s.vm.method? m = some meth) (h3 : meth.code = some c) (h4 : c.code = bytes)
    (h5 : (c.maxLocals == mx && c.exceptionTable.isEmpty && decide (c.maxStack ≤ mostOperands) && decide (meth.sig.returnType = rt) && !meth.locks && decide (parseMethodDescriptor y.desc = some meth.sig)) = true) : (Jvm.Cond.code y bytes mx rt).before a s = true := by
  simp only [Bool.and_eq_true, beq_iff_eq, Bool.not_eq_true', decide_eq_true_eq] at h5
  obtain ⟨⟨⟨⟨⟨g1, g2⟩, g3⟩, g4⟩, g5⟩, g6⟩ := h5
  simp [Cond.before, Cond.holds, Cond.value, h1, h2, h3, h4, g1, g2, g3, g4, g5, g6]
def isCode : Jvm.Cond → Bool
  | .code _ _ _ _ => true
  | _ => false
theorem all_split {L : List Jvm.Cond} {P : Jvm.Cond → Bool} (h1 : L.all (fun c => isCode c || P c) = true) (h2 : ∀ c ∈ L.filter isCode, P c = true) : L.all P = true := by
  refine List.all_eq_true.mpr fun c hc => ?_
  have h := List.all_eq_true.mp h1 c hc
  rcases Bool.eq_false_or_eq_true (isCode c) with hi | hi
  · exact h2 c (List.mem_filter.mpr ⟨hc, hi⟩)
  · simpa [hi] using h
set_option maxRecDepth 65536 in
theorem w_c0 : (Jvm.Cond.code x code maxLocals ret).before args0 about1 = true := code_word (m := ⟨1, 1⟩) (meth := k1m1) (c := k1c1) (by decide +kernel) rfl rfl rfl (by decide +kernel)
set_option maxRecDepth 65536 in
theorem w_c1 : (Jvm.Cond.code ({ cls := "org/forwardtrace/reading/HtmlScanner", name := "isSpace", desc := "(I)Z" } : Jvm.MethodName) prog_38_method_22_code (1 : Nat) (Option.some Jvm.ClassFile.FieldType.boolean)).before args0 about1 = true := code_word (m := ⟨2, 0⟩) (meth := k2m0) (c := k2c0) (by decide +kernel) rfl rfl rfl (by decide +kernel)
def codes1 : List Jvm.Cond := [Jvm.Cond.code x code maxLocals ret, Jvm.Cond.code ({ cls := "org/forwardtrace/reading/HtmlScanner", name := "isSpace", desc := "(I)Z" } : Jvm.MethodName) prog_38_method_22_code (1 : Nat) (Option.some Jvm.ClassFile.FieldType.boolean)]
set_option maxRecDepth 65536 in
theorem codes_eq : words1.filter isCode = codes1 := rfl
theorem w_codes : ∀ c ∈ words1.filter isCode, c.before args0 about1 = true := by
  rw [codes_eq]
  intro c hc
  simp only [codes1, List.mem_cons, List.not_mem_nil, or_false] at hc
  rcases hc with rfl | rfl
  · exact w_c0
  · exact w_c1
set_option maxRecDepth 65536 in
theorem w_t1 : words1.all (fun c => isCode c || c.before args0 about1) = true := by decide +kernel
theorem w_tables : (allAtoms (Jvm.Cond.code x code maxLocals ret :: tables_1)).before args0 about1 = true := by
  rw [allAtoms_all]
  show words1.all (fun c => c.before args0 about1) = true
  refine all_split ?_ w_codes
  rw [w_t1]
set_option maxRecDepth 65536 in
theorem w_case : (Jvm.Cond.and given_1 narrow_1).before args0 about1 = true := by decide +kernel
theorem w_applies : (headSpec (Jvm.Cond.code x code maxLocals ret :: tables_1) room_1).applies x e0.platform about1 = true :=
  (Spec.applies_iff w_frames).mpr ⟨w_running, w_runnable, w_alone, w_named, w_hears, w_ripe, w_room, w_tables⟩
theorem atStart : AtStart classFile x code maxLocals ret World_1 tables_1 room_1 Calls_1 rest_1 Pre_1 launch0 p0 e0 about1 theMethod args0 below0 :=
  ⟨lists_1, trivial, launch0.admits_env _ _ _, launch0.least_env, fairChoices_fair.cas, fairChoices_fair.clock, w_frames, w_args, w_heap, w_applies, trivial, trivial, w_case⟩
end start1
theorem witness_1 : WitnessClaimed_1 := ⟨start1.p0, start1.e0, start1.about1, start1.theMethod, start1.args0, start1.below0, start1.atStart⟩
end Jvm.Pilot.@@N@@
