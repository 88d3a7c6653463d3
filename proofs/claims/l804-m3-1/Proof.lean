import JvmDerived
import JvmDerived.Pilot.@@N@@Statement
import JvmDerived.Pilot.@@N@@Code
set_option linter.unusedVariables false
set_option linter.unusedSimpArgs false
namespace Jvm.RoadKit
open Sem ClassFile Op Lib Jvm.Stand Jvm.Free Jvm.LawKit
section New
variable {p : Program} {l : Launch} {e : Env} {R : Room} {s : State} {m : MethodId} {args : Array Value} {below : List Frame} {meth : Method} {c : Code} {T : State} {locs : List Loc} {cells slots : Nat}
theorem retI (X : Stand p l e R s m args below meth c T locs cells slots) (hx : p.tables.exec = Jvm.exec) {pc : Nat} {Ls : Array Slot} {z : Int32} {rest : List Value} (hret : meth.sig.returnType = some .int) (hd : decode c.code pc = .ok (.ireturn, 1)) {fs : List Frame}
    (hl : ∀ (f : JFrame) (acts : List Action), f.method = m → f.locked = none → f.entered = [] → (doReturn e (T.setTop f) acts (some (.int z))).1 = T.setFrames fs) : Steps p.tables e below (T.setTop (mkF m pc Ls (.int z :: rest))) (T.setFrames fs) := by
  have hm' : T.vm.method? m = some meth := X.method'
  have hn : narrow .int (.int z) = .int z := rfl
  show Steps p.tables e below (T.setTop { method := m, pc := pc, locals := Ls, stack := _ :: rest, locked := none }) _
  jvm_step X.here [X.here.top, hx, hd, hm', hret, hn]
  first | (intro acts; rw [hl _ acts rfl rfl rfl]) | rw [hl _ _ rfl rfl rfl]
  exact Steps.refl _
theorem retAddr (X : Stand p l e R s m args below meth c T locs cells slots) (hx : p.tables.exec = Jvm.exec) {pc : Nat} {Ls : Array Slot} {z : Addr} {rest : List Value} {t : FieldType} (hret : meth.sig.returnType = some t) (ht : t.isReference = true) (hd : decode c.code pc = .ok (.areturn, 1)) {fs : List Frame}
    (hl : ∀ (f : JFrame) (acts : List Action), f.method = m → f.locked = none → f.entered = [] → (doReturn e (T.setTop f) acts (some (.ref z))).1 = T.setFrames fs) : Steps p.tables e below (T.setTop (mkF m pc Ls (.ref z :: rest))) (T.setFrames fs) := by
  have hm' : T.vm.method? m = some meth := X.method'
  show Steps p.tables e below (T.setTop { method := m, pc := pc, locals := Ls, stack := _ :: rest, locked := none }) _
  jvm_step X.here [X.here.top, hx, hd, hm', hret, ht, Value.isRef]
  first | (intro acts; rw [hl _ acts rfl rfl rfl]) | rw [hl _ _ rfl rfl rfl]
  exact Steps.refl _
end New
end Jvm.RoadKit
namespace Jvm.Pilot.@@N@@
open Jvm Jvm.ClassFile Sem Op Lib Jvm.Free Jvm.Stand Jvm.LawKit Jvm.RoadKit Bundle Jvm.Pilot.@@N@@.Jvm.D
/-- from A the run ends, returning, as Q says of the value, the heap and the places written -/
def own_Fin (tb : Tables) (e : Env) (below : List Frame) (s : State) (C S : Nat) (Q : Option Value → Heap → List Loc → Prop) (A : State) : Prop :=
  ∃ s₂ o, Steps tb e below A s₂ ∧ s₂.status = .running ∧ Ended s₂ below o ∧ ∃ v L, o = .returned v ∧ Q v s₂.heap L ∧ FrameEnd s o s₂ L C S
theorem own_st {tb : Tables} {e : Env} {below : List Frame} {s : State} {C S : Nat} {Q : Option Value → Heap → List Loc → Prop} {A B : State} (h : ∀ t, Steps tb e below B t → Steps tb e below A t) (k : own_Fin tb e below s C S Q B) : own_Fin tb e below s C S Q A := by
  obtain ⟨s₂, o, h1, h2⟩ := k
  exact ⟨s₂, o, h _ h1, h2⟩
section Ret
variable {p : Program} {l : Launch} {e : Env} {R : Room} {s : State} {m : MethodId} {args : Array Value} {below : List Frame} {meth : Method} {c : Code} {T : State} {locs : List Loc} {cells slots : Nat} {Q : Option Value → Heap → List Loc → Prop} {C S : Nat}
theorem own_retN (X : Stand p l e R s m args below meth c T locs cells slots) (hx : p.tables.exec = Jvm.exec) (hk : meth.locks = false) {t : FieldType} (hret : meth.sig.returnType = some t) (ht : t = .boolean ∨ t = .byte ∨ t = .char ∨ t = .short) {pc : Nat} {Ls : Array Slot} {z : Int32} {rest : List Value} (hd : decode c.code pc = .ok (.ireturn, 1)) (hC : cells ≤ C) (hS : slots ≤ S) (hq : Q (some (.int (nar t z))) T.heap locs) : own_Fin p.tables e below s C S Q (T.setTop (mkF m pc Ls (.int z :: rest))) := by
  obtain ⟨fs, hr, hrun, hended, hW, hsame⟩ := X.leave (v := some (.int (nar t z))) (fun h => by rw [hret] at h; cases h)
  exact ⟨_, _, retN X hx hret ht hd hr, hrun, hended, _, _, rfl, hq, ⟨_, rfl⟩, hW, hsame.mono hC hS⟩
theorem own_retI (X : Stand p l e R s m args below meth c T locs cells slots) (hx : p.tables.exec = Jvm.exec) (hk : meth.locks = false) (hret : meth.sig.returnType = some .int) {pc : Nat} {Ls : Array Slot} {z : Int32} {rest : List Value} (hd : decode c.code pc = .ok (.ireturn, 1)) (hC : cells ≤ C) (hS : slots ≤ S) (hq : Q (some (.int z)) T.heap locs) : own_Fin p.tables e below s C S Q (T.setTop (mkF m pc Ls (.int z :: rest))) := by
  obtain ⟨fs, hr, hrun, hended, hW, hsame⟩ := X.leave (v := some (.int z)) (fun h => by rw [hret] at h; cases h)
  exact ⟨_, _, retI X hx hret hd hr, hrun, hended, _, _, rfl, hq, ⟨_, rfl⟩, hW, hsame.mono hC hS⟩
theorem own_retA (X : Stand p l e R s m args below meth c T locs cells slots) (hx : p.tables.exec = Jvm.exec) (hk : meth.locks = false) {t : FieldType} (hret : meth.sig.returnType = some t) (ht : t.isReference = true) {pc : Nat} {Ls : Array Slot} {z : Addr} {rest : List Value} (hd : decode c.code pc = .ok (.areturn, 1)) (hC : cells ≤ C) (hS : slots ≤ S) (hq : Q (some (.ref z)) T.heap locs) : own_Fin p.tables e below s C S Q (T.setTop (mkF m pc Ls (.ref z :: rest))) := by
  obtain ⟨fs, hr, hrun, hended, hW, hsame⟩ := X.leave (v := some (.ref z)) (fun h => by rw [hret] at h; cases h)
  exact ⟨_, _, retAddr X hx hret ht hd hr, hrun, hended, _, _, rfl, hq, ⟨_, rfl⟩, hW, hsame.mono hC hS⟩
theorem own_retJ (X : Stand p l e R s m args below meth c T locs cells slots) (hx : p.tables.exec = Jvm.exec) (hk : meth.locks = false) (hret : meth.sig.returnType = some .long) {pc : Nat} {Ls : Array Slot} {z : Int64} (hd : decode c.code pc = .ok (.lreturn, 1)) (hC : cells ≤ C) (hS : slots ≤ S) (hq : Q (some (.long z)) T.heap locs) : own_Fin p.tables e below s C S Q (T.setTop (mkF m pc Ls [.long z])) := by
  obtain ⟨fs, hr, hrun, hended, hW, hsame⟩ := X.leave (v := some (.long z)) (fun h => by rw [hret] at h; cases h)
  exact ⟨_, _, X.lreturnOut hx hret hd hr, hrun, hended, _, _, rfl, hq, ⟨_, rfl⟩, hW, hsame.mono hC hS⟩
theorem own_retV (X : Stand p l e R s m args below meth c T locs cells slots) (hx : p.tables.exec = Jvm.exec) (hk : meth.locks = false) (hret : meth.sig.returnType = none) {pc : Nat} {Ls : Array Slot} (hd : decode c.code pc = .ok (.return_, 1)) (hC : cells ≤ C) (hS : slots ≤ S) (hq : Q none T.heap locs) : own_Fin p.tables e below s C S Q (T.setTop (mkF m pc Ls [])) := by
  obtain ⟨fs, hr, hrun, hended, hW, hsame⟩ := X.leave (v := none) (fun _ => rfl)
  exact ⟨_, _, X.returnOut hx hret hd hr, hrun, hended, _, _, rfl, hq, ⟨_, rfl⟩, hW, hsame.mono hC hS⟩
end Ret
theorem own_ltT {a b : Int64} (h : a < b) : ifCond.holds .lt (lcmpW a b) = true ∧ ifCond.holds .ge (lcmpW a b) = false := by
  have q := (lw_lt a b).mpr h
  exact ⟨(if0 _ _).trans (tlt q).1, (if0 _ _).trans (tlt q).2.1⟩
theorem own_ltF {a b : Int64} (h : ¬ a < b) : ifCond.holds .lt (lcmpW a b) = false ∧ ifCond.holds .ge (lcmpW a b) = true := by
  have q := mt (lw_lt a b).mp h
  exact ⟨(if0 _ _).trans (flt q).1, (if0 _ _).trans (flt q).2.1⟩
theorem own_gtT {a b : Int64} (h : b < a) : ifCond.holds .gt (lcmpW a b) = true ∧ ifCond.holds .le (lcmpW a b) = false := by
  have q := (lw_gt a b).mpr h
  exact ⟨(if0 _ _).trans (tlt q).2.2.1, (if0 _ _).trans (tlt q).2.2.2⟩
theorem own_gtF {a b : Int64} (h : ¬ b < a) : ifCond.holds .gt (lcmpW a b) = false ∧ ifCond.holds .le (lcmpW a b) = true := by
  have q := mt (lw_gt a b).mp h
  exact ⟨(if0 _ _).trans (flt q).2.2.1, (if0 _ _).trans (flt q).2.2.2⟩
theorem own_eqT {a b : Int64} (h : a = b) : ifCond.holds .eq (lcmpW a b) = true ∧ ifCond.holds .ne (lcmpW a b) = false := by
  have q := (lw_eq a b).mpr h
  exact ⟨(if0 _ _).trans (teq q).1, (if0 _ _).trans (teq q).2⟩
theorem own_eqF {a b : Int64} (h : ¬ a = b) : ifCond.holds .eq (lcmpW a b) = false ∧ ifCond.holds .ne (lcmpW a b) = true := by
  have q := mt (lw_eq a b).mp h
  exact ⟨(if0 _ _).trans (feq q).1, (if0 _ _).trans (feq q).2⟩
def own_wr (c at_ : Int32) : Int32 := if c = (256 : Int32) then at_ + (1 : Int32) else if (127 : Int32) < c then at_ + (2 : Int32) else at_ + (1 : Int32)
def own_wv (c at_ : Int32) (vs : List Value) : List Value := if c = (256 : Int32) then vs.set at_.toNatClampNeg (.int (232 : Int32)) else if (127 : Int32) < c then (vs.set at_.toNatClampNeg (.int (235 : Int32))).set (at_ + (1 : Int32)).toNatClampNeg (.int (c - (127 : Int32))) else vs.set at_.toNatClampNeg (.int (c + (1 : Int32)))
theorem d1_0 : decode prog_33_method_3_code 0 = .ok (.iload_n 0, 1) := by decide +kernel
theorem d1_1 : decode prog_33_method_3_code 1 = .ok (.bipush 127, 2) := by decide +kernel
theorem d1_3 : decode prog_33_method_3_code 3 = .ok (.if_icmp .le 14, 3) := by decide +kernel
theorem d1_6 : decode prog_33_method_3_code 6 = .ok (.iload_n 0, 1) := by decide +kernel
theorem d1_7 : decode prog_33_method_3_code 7 = .ok (.sipush 256, 3) := by decide +kernel
theorem d1_10 : decode prog_33_method_3_code 10 = .ok (.if_icmp .eq 7, 3) := by decide +kernel
theorem d1_13 : decode prog_33_method_3_code 13 = .ok (.iconst 2, 1) := by decide +kernel
theorem d1_14 : decode prog_33_method_3_code 14 = .ok (.goto 4, 3) := by decide +kernel
theorem d1_17 : decode prog_33_method_3_code 17 = .ok (.iconst 1, 1) := by decide +kernel
theorem d1_18 : decode prog_33_method_3_code 18 = .ok (.ireturn, 1) := by decide +kernel
theorem pn_1 : plainFor (⟨"com/example/quietzone/quietzone/datamatrix/AsciiEncodation", "length", "(I)I"⟩ : MethodName) = true := plainFor_of_name (x := (⟨"com/example/quietzone/quietzone/datamatrix/AsciiEncodation", "length", "(I)I"⟩ : MethodName)) (by first | (simp [plainName, overriddenIn]; done) | decide +kernel)
theorem ef_1 (m : MethodId) (p1 : Int32) : entryFrame m #[(.int p1)] 1 = mkF m 0 #[.val (.int p1)] [] := by first | (simp [entryFrame, mkF, argsToLocals, Value.category]; done) | rfl
def own_F1 (p1 : Int32) : Int32 := (if (127 : Int32) < p1 then (if p1 = (256 : Int32) then (1 : Int32) else (2 : Int32)) else (1 : Int32))
def own_Q1 (p1 : Int32) (h0 : Heap) (n0 : Nat) (v : Option Value) (h : Heap) (L : List Loc) : Prop := v = some (.int (own_F1 p1)) ∧ Fr n0 L ∧ h = h0
set_option maxRecDepth 65536 in
set_option maxHeartbeats 40000000 in
theorem rm1 (l : Launch) (Z : State) (a0 : Array Value) (hw : ∀ d ∈ tables_1, d.before a0 Z = true) (ws : List Jvm.Cond) (p1 : Int32) (h0 : Heap) (n0 : Nat) (Z0 : n0 ≤ h0.size) :
    MetFree l (⟨"com/example/quietzone/quietzone/datamatrix/AsciiEncodation", "length", "(I)I"⟩ : MethodName) (head1 (Jvm.Cond.code (⟨"com/example/quietzone/quietzone/datamatrix/AsciiEncodation", "length", "(I)I"⟩ : MethodName) prog_33_method_3_code 1 (some .int) :: ws) ({ frames := 0, cells := 0, slots := 0, locals := 0 } : Room)) (fun a U => a = #[(.int p1)] ∧ Z.Warmed39 U.vm ∧ U.heap = h0) (fun _ _ _ _ _ => True) (fun _ U o U' => ∃ v L, o = .returned v ∧ own_Q1 p1 h0 n0 v U'.heap L ∧ FrameEnd U o U' L ({ frames := 0, cells := 0, slots := 0, locals := 0 } : Room).cells ({ frames := 0, cells := 0, slots := 0, locals := 0 } : Room).slots) := by
  refine MetFree.of_bodySF pn_1 hisR ?_
  intro p e s m args below meth c s₁ Bd hml0 hP hK
  obtain ⟨rfl, hZ, hh⟩ := hP
  have hx := Bd.exec
  have hby := Bd.bytes
  have hml : c.maxLocals = 1 := hml0
  have hown : s.vm.findClass "com/example/quietzone/quietzone/datamatrix/AsciiEncodation" = some m.cls := findClass_of_methodNamed Bd.named
  have X0 : Stand p l e ({ frames := 0, cells := 0, slots := 0, locals := 0 } : Room) s m #[(.int p1)] below meth c s₁ [] 0 0 := Stand.of_body Bd
  have e0 : s₁.heap = h0 := by rw [← hh, Bd.state]; rfl
  have N0 := Fr.nil n0
  show own_Fin p.tables e below s (({ frames := 0, cells := 0, slots := 0, locals := 0 } : Room).cells) (({ frames := 0, cells := 0, slots := 0, locals := 0 } : Room).slots) (own_Q1 p1 h0 n0) (s₁.setTop (entryFrame m #[(.int p1)] 1))
  rw [ef_1 m p1]
  show own_Fin _ _ _ _ _ _ _ (s₁.setTop (mkF m 0 #[.val (.int p1)] []))
  refine own_st (fun t k => XS.iloadN X0.here hx rfl (hb hby d1_0) rfl k) ?_
  show own_Fin _ _ _ _ _ _ _ (s₁.setTop (mkF m 1 #[.val (.int p1)] [(.int p1)]))
  refine own_st (fun t k => XS.bipush X0.here hx rfl (hb hby d1_1) k) ?_
  show own_Fin _ _ _ _ _ _ _ (s₁.setTop (mkF m 3 #[.val (.int p1)] [(.int (127 : Int32)), (.int p1)]))
  by_cases hc3_1 : (127 : Int32) < p1
  · refine own_st (fun t k => XS.icmpNo X0.here hx rfl (hb hby d1_3) rfl (tlt hc3_1).2.2.2 k) ?_
    show own_Fin _ _ _ _ _ _ _ (s₁.setTop (mkF m 6 #[.val (.int p1)] []))
    refine own_st (fun t k => XS.iloadN X0.here hx rfl (hb hby d1_6) rfl k) ?_
    show own_Fin _ _ _ _ _ _ _ (s₁.setTop (mkF m 7 #[.val (.int p1)] [(.int p1)]))
    refine own_st (fun t k => XS.sipush X0.here hx rfl (hb hby d1_7) k) ?_
    show own_Fin _ _ _ _ _ _ _ (s₁.setTop (mkF m 10 #[.val (.int p1)] [(.int (256 : Int32)), (.int p1)]))
    by_cases hc10_2 : p1 = (256 : Int32)
    · refine own_st (fun t k => XS.icmpYes X0.here hx rfl (pc0 := 10) (pc' := 17) rfl (hb hby d1_10) rfl (teq hc10_2).1 (by decide) (by decide) k) ?_
      show own_Fin _ _ _ _ _ _ _ (s₁.setTop (mkF m 17 #[.val (.int p1)] []))
      refine own_st (fun t k => XS.iconst X0.here hx rfl (hb hby d1_17) k) ?_
      show own_Fin _ _ _ _ _ _ _ (s₁.setTop (mkF m 18 #[.val (.int p1)] [(.int (1 : Int32))]))
      have hv : own_F1 p1 = (1 : Int32) := by unfold own_F1; rw [if_pos hc3_1, if_pos hc10_2]
      exact own_retI X0 hx Bd.notSynchronized Bd.returns (hb hby d1_18) (by decide) (by decide) ⟨congrArg (fun z => some (Value.int z)) hv.symm, N0, e0⟩
    · refine own_st (fun t k => XS.icmpNo X0.here hx rfl (hb hby d1_10) rfl (feq hc10_2).1 k) ?_
      show own_Fin _ _ _ _ _ _ _ (s₁.setTop (mkF m 13 #[.val (.int p1)] []))
      refine own_st (fun t k => XS.iconst X0.here hx rfl (hb hby d1_13) k) ?_
      show own_Fin _ _ _ _ _ _ _ (s₁.setTop (mkF m 14 #[.val (.int p1)] [(.int (2 : Int32))]))
      refine own_st (fun t k => XS.goto X0.here hx rfl (pc0 := 14) (pc' := 18) rfl (hb hby d1_14) (by decide) (by decide) k) ?_
      show own_Fin _ _ _ _ _ _ _ (s₁.setTop (mkF m 18 #[.val (.int p1)] [(.int (2 : Int32))]))
      have hv : own_F1 p1 = (2 : Int32) := by unfold own_F1; rw [if_pos hc3_1, if_neg hc10_2]
      exact own_retI X0 hx Bd.notSynchronized Bd.returns (hb hby d1_18) (by decide) (by decide) ⟨congrArg (fun z => some (Value.int z)) hv.symm, N0, e0⟩
  · refine own_st (fun t k => XS.icmpYes X0.here hx rfl (pc0 := 3) (pc' := 17) rfl (hb hby d1_3) rfl (flt hc3_1).2.2.2 (by decide) (by decide) k) ?_
    show own_Fin _ _ _ _ _ _ _ (s₁.setTop (mkF m 17 #[.val (.int p1)] []))
    refine own_st (fun t k => XS.iconst X0.here hx rfl (hb hby d1_17) k) ?_
    show own_Fin _ _ _ _ _ _ _ (s₁.setTop (mkF m 18 #[.val (.int p1)] [(.int (1 : Int32))]))
    have hv : own_F1 p1 = (1 : Int32) := by unfold own_F1; rw [if_neg hc3_1]
    exact own_retI X0 hx Bd.notSynchronized Bd.returns (hb hby d1_18) (by decide) (by decide) ⟨congrArg (fun z => some (Value.int z)) hv.symm, N0, e0⟩
theorem d2_0 : decode prog_33_method_4_code 0 = .ok (.iload_n 0, 1) := by decide +kernel
theorem d2_1 : decode prog_33_method_4_code 1 = .ok (.sipush 256, 3) := by decide +kernel
theorem d2_4 : decode prog_33_method_4_code 4 = .ok (.if_icmp .ne 13, 3) := by decide +kernel
theorem d2_7 : decode prog_33_method_4_code 7 = .ok (.aload_n 1, 1) := by decide +kernel
theorem d2_8 : decode prog_33_method_4_code 8 = .ok (.iload_n 2, 1) := by decide +kernel
theorem d2_9 : decode prog_33_method_4_code 9 = .ok (.sipush 232, 3) := by decide +kernel
theorem d2_12 : decode prog_33_method_4_code 12 = .ok (.iastore, 1) := by decide +kernel
theorem d2_13 : decode prog_33_method_4_code 13 = .ok (.iload_n 2, 1) := by decide +kernel
theorem d2_14 : decode prog_33_method_4_code 14 = .ok (.iconst 1, 1) := by decide +kernel
theorem d2_15 : decode prog_33_method_4_code 15 = .ok (.iadd, 1) := by decide +kernel
theorem d2_16 : decode prog_33_method_4_code 16 = .ok (.ireturn, 1) := by decide +kernel
theorem d2_17 : decode prog_33_method_4_code 17 = .ok (.iload_n 0, 1) := by decide +kernel
theorem d2_18 : decode prog_33_method_4_code 18 = .ok (.bipush 127, 2) := by decide +kernel
theorem d2_20 : decode prog_33_method_4_code 20 = .ok (.if_icmp .le 22, 3) := by decide +kernel
theorem d2_23 : decode prog_33_method_4_code 23 = .ok (.aload_n 1, 1) := by decide +kernel
theorem d2_24 : decode prog_33_method_4_code 24 = .ok (.iload_n 2, 1) := by decide +kernel
theorem d2_25 : decode prog_33_method_4_code 25 = .ok (.sipush 235, 3) := by decide +kernel
theorem d2_28 : decode prog_33_method_4_code 28 = .ok (.iastore, 1) := by decide +kernel
theorem d2_29 : decode prog_33_method_4_code 29 = .ok (.aload_n 1, 1) := by decide +kernel
theorem d2_30 : decode prog_33_method_4_code 30 = .ok (.iload_n 2, 1) := by decide +kernel
theorem d2_31 : decode prog_33_method_4_code 31 = .ok (.iconst 1, 1) := by decide +kernel
theorem d2_32 : decode prog_33_method_4_code 32 = .ok (.iadd, 1) := by decide +kernel
theorem d2_33 : decode prog_33_method_4_code 33 = .ok (.iload_n 0, 1) := by decide +kernel
theorem d2_34 : decode prog_33_method_4_code 34 = .ok (.bipush 127, 2) := by decide +kernel
theorem d2_36 : decode prog_33_method_4_code 36 = .ok (.isub, 1) := by decide +kernel
theorem d2_37 : decode prog_33_method_4_code 37 = .ok (.iastore, 1) := by decide +kernel
theorem d2_38 : decode prog_33_method_4_code 38 = .ok (.iload_n 2, 1) := by decide +kernel
theorem d2_39 : decode prog_33_method_4_code 39 = .ok (.iconst 2, 1) := by decide +kernel
theorem d2_40 : decode prog_33_method_4_code 40 = .ok (.iadd, 1) := by decide +kernel
theorem d2_41 : decode prog_33_method_4_code 41 = .ok (.ireturn, 1) := by decide +kernel
theorem d2_42 : decode prog_33_method_4_code 42 = .ok (.aload_n 1, 1) := by decide +kernel
theorem d2_43 : decode prog_33_method_4_code 43 = .ok (.iload_n 2, 1) := by decide +kernel
theorem d2_44 : decode prog_33_method_4_code 44 = .ok (.iload_n 0, 1) := by decide +kernel
theorem d2_45 : decode prog_33_method_4_code 45 = .ok (.iconst 1, 1) := by decide +kernel
theorem d2_46 : decode prog_33_method_4_code 46 = .ok (.iadd, 1) := by decide +kernel
theorem d2_47 : decode prog_33_method_4_code 47 = .ok (.iastore, 1) := by decide +kernel
theorem d2_48 : decode prog_33_method_4_code 48 = .ok (.iload_n 2, 1) := by decide +kernel
theorem d2_49 : decode prog_33_method_4_code 49 = .ok (.iconst 1, 1) := by decide +kernel
theorem d2_50 : decode prog_33_method_4_code 50 = .ok (.iadd, 1) := by decide +kernel
theorem d2_51 : decode prog_33_method_4_code 51 = .ok (.ireturn, 1) := by decide +kernel
theorem pn_2 : plainFor (⟨"com/example/quietzone/quietzone/datamatrix/AsciiEncodation", "write", "(I[II)I"⟩ : MethodName) = true := plainFor_of_name (x := (⟨"com/example/quietzone/quietzone/datamatrix/AsciiEncodation", "write", "(I[II)I"⟩ : MethodName)) (by first | (simp [plainName, overriddenIn]; done) | decide +kernel)
theorem ef_2 (m : MethodId) (p1 : Int32) (a2 : Addr) (p3 : Int32) : entryFrame m #[(.int p1), (.ref a2), (.int p3)] 3 = mkF m 0 #[.val (.int p1), .val (.ref a2), .val (.int p3)] [] := by first | (simp [entryFrame, mkF, argsToLocals, Value.category]; done) | rfl
def own_Q_rm2 (Z : State) (p1 : Int32) (a2 : Addr) (p3 : Int32) (ka : ClassId) (za : Int32) (vs : List Value) (h0 : Heap) (n0 : Nat) (v : Option Value) (h : Heap) (L : List Loc) : Prop := v = some (.int (own_wr p1 p3)) ∧ Fr n0 L ∧ Keep h0 h [a2] ∧ Arv Z h a2 ka .int za (own_wv p1 p3 vs) (.int (0 : Int32))
set_option maxRecDepth 65536 in
set_option maxHeartbeats 40000000 in
theorem rm2 (l : Launch) (Z : State) (a0 : Array Value) (hw : ∀ d ∈ tables_1, d.before a0 Z = true) (ws : List Jvm.Cond) (p1 : Int32) (a2 : Addr) (p3 : Int32) (ka : ClassId) (za : Int32) (vs : List Value) (h0 : Heap) (n0 : Nat) (Z0 : n0 ≤ h0.size) (Vi : Arv Z h0 a2 ka .int za vs (.int (0 : Int32))) (gi : n0 ≤ a2) (hi0 : ¬ p3 < 0) (hi1 : p3 < za) (hi2 : ¬ (p3 + (1 : Int32)) < 0) (hi3 : (p3 + (1 : Int32)) < za) (hl1 : p3.toNatClampNeg < vs.length) (hl2 : (p3 + (1 : Int32)).toNatClampNeg < vs.length) :
    MetFree l (⟨"com/example/quietzone/quietzone/datamatrix/AsciiEncodation", "write", "(I[II)I"⟩ : MethodName) (head1 (Jvm.Cond.code (⟨"com/example/quietzone/quietzone/datamatrix/AsciiEncodation", "write", "(I[II)I"⟩ : MethodName) prog_33_method_4_code 3 (some .int) :: ws) ({ frames := 0, cells := 0, slots := 0, locals := 0 } : Room)) (fun a U => a = #[(.int p1), (.ref a2), (.int p3)] ∧ Z.Warmed39 U.vm ∧ U.heap = h0) (fun _ _ _ _ _ => True) (fun _ U o U' => ∃ v L, o = .returned v ∧ own_Q_rm2 Z p1 a2 p3 ka za vs h0 n0 v U'.heap L ∧ FrameEnd U o U' L ({ frames := 0, cells := 0, slots := 0, locals := 0 } : Room).cells ({ frames := 0, cells := 0, slots := 0, locals := 0 } : Room).slots) := by
  refine MetFree.of_bodySF pn_2 hisR ?_
  intro p e s m args below meth c s₁ Bd hml0 hP hK
  obtain ⟨rfl, hZ, hh⟩ := hP
  have hx := Bd.exec
  have hby := Bd.bytes
  have hml : c.maxLocals = 3 := hml0
  have hown : s.vm.findClass "com/example/quietzone/quietzone/datamatrix/AsciiEncodation" = some m.cls := findClass_of_methodNamed Bd.named
  have hnm := (name_of_methodNamed Bd.named Bd.method).1
  have X0 : Stand p l e ({ frames := 0, cells := 0, slots := 0, locals := 0 } : Room) s m #[(.int p1), (.ref a2), (.int p3)] below meth c s₁ [] 0 0 := Stand.of_body Bd
  have e0 : s₁.heap = h0 := by rw [← hh, Bd.state]; rfl
  have N0 := Fr.nil n0
  have KR : Keep h0 h0 [a2] := Keep.refl h0 [a2]
  show own_Fin p.tables e below s (({ frames := 0, cells := 0, slots := 0, locals := 0 } : Room).cells) (({ frames := 0, cells := 0, slots := 0, locals := 0 } : Room).slots) (own_Q_rm2 Z p1 a2 p3 ka za vs h0 n0) (s₁.setTop (entryFrame m #[(.int p1), (.ref a2), (.int p3)] 3))
  rw [ef_2 m p1 a2 p3]
  show own_Fin _ _ _ _ _ _ _ (s₁.setTop (mkF m 0 #[.val (.int p1), .val (.ref a2), .val (.int p3)] []))
  refine own_st (fun t k => XS.iloadN X0.here hx rfl (hb hby d2_0) rfl k) ?_
  show own_Fin _ _ _ _ _ _ _ (s₁.setTop (mkF m 1 #[.val (.int p1), .val (.ref a2), .val (.int p3)] [(.int p1)]))
  refine own_st (fun t k => XS.sipush X0.here hx rfl (hb hby d2_1) k) ?_
  show own_Fin _ _ _ _ _ _ _ (s₁.setTop (mkF m 4 #[.val (.int p1), .val (.ref a2), .val (.int p3)] [(.int (256 : Int32)), (.int p1)]))
  by_cases hc4_1 : p1 = (256 : Int32)
  · refine own_st (fun t k => XS.icmpNo X0.here hx rfl (hb hby d2_4) rfl (teq hc4_1).2 k) ?_
    show own_Fin _ _ _ _ _ _ _ (s₁.setTop (mkF m 7 #[.val (.int p1), .val (.ref a2), .val (.int p3)] []))
    refine own_st (fun t k => XS.aloadN X0.here hx rfl (hb hby d2_7) rfl rfl k) ?_
    show own_Fin _ _ _ _ _ _ _ (s₁.setTop (mkF m 8 #[.val (.int p1), .val (.ref a2), .val (.int p3)] [(.ref a2)]))
    refine own_st (fun t k => XS.iloadN X0.here hx rfl (hb hby d2_8) rfl k) ?_
    show own_Fin _ _ _ _ _ _ _ (s₁.setTop (mkF m 9 #[.val (.int p1), .val (.ref a2), .val (.int p3)] [(.int p3), (.ref a2)]))
    refine own_st (fun t k => XS.sipush X0.here hx rfl (hb hby d2_9) k) ?_
    show own_Fin _ _ _ _ _ _ _ (s₁.setTop (mkF m 12 #[.val (.int p1), .val (.ref a2), .val (.int p3)] [(.int (232 : Int32)), (.int p3), (.ref a2)]))
    obtain ⟨cl2, Ar2, Cq2, Sz2, Mn2, Hs2, Gf2⟩ := Vi
    obtain ⟨T2, h2, X2, e2, W2, st2⟩ := stI X0 hx hZ e0 Ar2 (j := p3) (inb_of Sz2 ⟨hi0, hi1⟩) (g := (mkF m 12 #[.val (.int p1), .val (.ref a2), .val (.int p3)] [(.int (232 : Int32)), (.int p3), (.ref a2)])) rfl rfl (hb hby d2_12)
    have V2 : Arv Z h2 a2 ka .int za (vs.set (p3).toNatClampNeg (.int (232 : Int32))) (.int (0 : Int32)) := Arv.set Ar2 Cq2 Sz2 Mn2 Hs2 Gf2 rfl W2 (p3).toNatClampNeg rfl hl1
    have N2 := Fr.snoc X2 N0 gi
    have Z2 : n0 ≤ h2.size := Nat.le_trans Z0 (Keep.of_wr W2).1
    have K2 : Keep h0 h2 [a2] := KR.wr W2 (Or.inl (List.mem_of_getElem? (i := 0) rfl))
    refine own_st st2 ?_
    show own_Fin _ _ _ _ _ _ _ (T2.setTop (mkF m 13 #[.val (.int p1), .val (.ref a2), .val (.int p3)] []))
    refine own_st (fun t k => XS.iloadN X2.here hx rfl (hb hby d2_13) rfl k) ?_
    show own_Fin _ _ _ _ _ _ _ (T2.setTop (mkF m 14 #[.val (.int p1), .val (.ref a2), .val (.int p3)] [(.int p3)]))
    refine own_st (fun t k => XS.iconst X2.here hx rfl (hb hby d2_14) k) ?_
    show own_Fin _ _ _ _ _ _ _ (T2.setTop (mkF m 15 #[.val (.int p1), .val (.ref a2), .val (.int p3)] [(.int (1 : Int32)), (.int p3)]))
    refine own_st (fun t k => XS.iadd X2.here hx rfl (hb hby d2_15) rfl k) ?_
    show own_Fin _ _ _ _ _ _ _ (T2.setTop (mkF m 16 #[.val (.int p1), .val (.ref a2), .val (.int p3)] [(.int (p3 + (1 : Int32)))]))
    have hv : own_wr p1 p3 = (p3 + (1 : Int32)) := by unfold own_wr; rw [if_pos hc4_1]
    have hl : own_wv p1 p3 vs = (vs.set (p3).toNatClampNeg (.int (232 : Int32))) := by unfold own_wv; rw [if_pos hc4_1]
    exact own_retI X2 hx Bd.notSynchronized Bd.returns (hb hby d2_16) (by decide) (by decide) (by rw [e2]; unfold own_Q_rm2; rw [hv, hl]; exact ⟨rfl, N2, K2, V2⟩)
  · refine own_st (fun t k => XS.icmpYes X0.here hx rfl (pc0 := 4) (pc' := 17) rfl (hb hby d2_4) rfl (feq hc4_1).2 (by decide) (by decide) k) ?_
    show own_Fin _ _ _ _ _ _ _ (s₁.setTop (mkF m 17 #[.val (.int p1), .val (.ref a2), .val (.int p3)] []))
    refine own_st (fun t k => XS.iloadN X0.here hx rfl (hb hby d2_17) rfl k) ?_
    show own_Fin _ _ _ _ _ _ _ (s₁.setTop (mkF m 18 #[.val (.int p1), .val (.ref a2), .val (.int p3)] [(.int p1)]))
    refine own_st (fun t k => XS.bipush X0.here hx rfl (hb hby d2_18) k) ?_
    show own_Fin _ _ _ _ _ _ _ (s₁.setTop (mkF m 20 #[.val (.int p1), .val (.ref a2), .val (.int p3)] [(.int (127 : Int32)), (.int p1)]))
    by_cases hc20_3 : (127 : Int32) < p1
    · refine own_st (fun t k => XS.icmpNo X0.here hx rfl (hb hby d2_20) rfl (tlt hc20_3).2.2.2 k) ?_
      show own_Fin _ _ _ _ _ _ _ (s₁.setTop (mkF m 23 #[.val (.int p1), .val (.ref a2), .val (.int p3)] []))
      refine own_st (fun t k => XS.aloadN X0.here hx rfl (hb hby d2_23) rfl rfl k) ?_
      show own_Fin _ _ _ _ _ _ _ (s₁.setTop (mkF m 24 #[.val (.int p1), .val (.ref a2), .val (.int p3)] [(.ref a2)]))
      refine own_st (fun t k => XS.iloadN X0.here hx rfl (hb hby d2_24) rfl k) ?_
      show own_Fin _ _ _ _ _ _ _ (s₁.setTop (mkF m 25 #[.val (.int p1), .val (.ref a2), .val (.int p3)] [(.int p3), (.ref a2)]))
      refine own_st (fun t k => XS.sipush X0.here hx rfl (hb hby d2_25) k) ?_
      show own_Fin _ _ _ _ _ _ _ (s₁.setTop (mkF m 28 #[.val (.int p1), .val (.ref a2), .val (.int p3)] [(.int (235 : Int32)), (.int p3), (.ref a2)]))
      obtain ⟨cl4, Ar4, Cq4, Sz4, Mn4, Hs4, Gf4⟩ := Vi
      obtain ⟨T4, h4, X4, e4, W4, st4⟩ := stI X0 hx hZ e0 Ar4 (j := p3) (inb_of Sz4 ⟨hi0, hi1⟩) (g := (mkF m 28 #[.val (.int p1), .val (.ref a2), .val (.int p3)] [(.int (235 : Int32)), (.int p3), (.ref a2)])) rfl rfl (hb hby d2_28)
      have V4 : Arv Z h4 a2 ka .int za (vs.set (p3).toNatClampNeg (.int (235 : Int32))) (.int (0 : Int32)) := Arv.set Ar4 Cq4 Sz4 Mn4 Hs4 Gf4 rfl W4 (p3).toNatClampNeg rfl hl1
      have N4 := Fr.snoc X4 N0 gi
      have Z4 : n0 ≤ h4.size := Nat.le_trans Z0 (Keep.of_wr W4).1
      have K4 : Keep h0 h4 [a2] := KR.wr W4 (Or.inl (List.mem_of_getElem? (i := 0) rfl))
      refine own_st st4 ?_
      show own_Fin _ _ _ _ _ _ _ (T4.setTop (mkF m 29 #[.val (.int p1), .val (.ref a2), .val (.int p3)] []))
      refine own_st (fun t k => XS.aloadN X4.here hx rfl (hb hby d2_29) rfl rfl k) ?_
      show own_Fin _ _ _ _ _ _ _ (T4.setTop (mkF m 30 #[.val (.int p1), .val (.ref a2), .val (.int p3)] [(.ref a2)]))
      refine own_st (fun t k => XS.iloadN X4.here hx rfl (hb hby d2_30) rfl k) ?_
      show own_Fin _ _ _ _ _ _ _ (T4.setTop (mkF m 31 #[.val (.int p1), .val (.ref a2), .val (.int p3)] [(.int p3), (.ref a2)]))
      refine own_st (fun t k => XS.iconst X4.here hx rfl (hb hby d2_31) k) ?_
      show own_Fin _ _ _ _ _ _ _ (T4.setTop (mkF m 32 #[.val (.int p1), .val (.ref a2), .val (.int p3)] [(.int (1 : Int32)), (.int p3), (.ref a2)]))
      refine own_st (fun t k => XS.iadd X4.here hx rfl (hb hby d2_32) rfl k) ?_
      show own_Fin _ _ _ _ _ _ _ (T4.setTop (mkF m 33 #[.val (.int p1), .val (.ref a2), .val (.int p3)] [(.int (p3 + (1 : Int32))), (.ref a2)]))
      refine own_st (fun t k => XS.iloadN X4.here hx rfl (hb hby d2_33) rfl k) ?_
      show own_Fin _ _ _ _ _ _ _ (T4.setTop (mkF m 34 #[.val (.int p1), .val (.ref a2), .val (.int p3)] [(.int p1), (.int (p3 + (1 : Int32))), (.ref a2)]))
      refine own_st (fun t k => XS.bipush X4.here hx rfl (hb hby d2_34) k) ?_
      show own_Fin _ _ _ _ _ _ _ (T4.setTop (mkF m 36 #[.val (.int p1), .val (.ref a2), .val (.int p3)] [(.int (127 : Int32)), (.int p1), (.int (p3 + (1 : Int32))), (.ref a2)]))
      refine own_st (fun t k => XS.isub X4.here hx rfl (hb hby d2_36) rfl k) ?_
      show own_Fin _ _ _ _ _ _ _ (T4.setTop (mkF m 37 #[.val (.int p1), .val (.ref a2), .val (.int p3)] [(.int (p1 - (127 : Int32))), (.int (p3 + (1 : Int32))), (.ref a2)]))
      obtain ⟨cl5, Ar5, Cq5, Sz5, Mn5, Hs5, Gf5⟩ := V4
      obtain ⟨T5, h5, X5, e5, W5, st5⟩ := stI X4 hx hZ e4 Ar5 (j := (p3 + (1 : Int32))) (inb_of Sz5 ⟨hi2, hi3⟩) (g := (mkF m 37 #[.val (.int p1), .val (.ref a2), .val (.int p3)] [(.int (p1 - (127 : Int32))), (.int (p3 + (1 : Int32))), (.ref a2)])) rfl rfl (hb hby d2_37)
      have V5 : Arv Z h5 a2 ka .int za ((vs.set (p3).toNatClampNeg (.int (235 : Int32))).set ((p3 + (1 : Int32))).toNatClampNeg (.int (p1 - (127 : Int32)))) (.int (0 : Int32)) := Arv.set Ar5 Cq5 Sz5 Mn5 Hs5 Gf5 rfl W5 ((p3 + (1 : Int32))).toNatClampNeg rfl (by rw [List.length_set]; exact hl2)
      have N5 := Fr.snoc X5 N4 gi
      have Z5 : n0 ≤ h5.size := Nat.le_trans Z4 (Keep.of_wr W5).1
      have K5 : Keep h0 h5 [a2] := K4.wr W5 (Or.inl (List.mem_of_getElem? (i := 0) rfl))
      refine own_st st5 ?_
      show own_Fin _ _ _ _ _ _ _ (T5.setTop (mkF m 38 #[.val (.int p1), .val (.ref a2), .val (.int p3)] []))
      refine own_st (fun t k => XS.iloadN X5.here hx rfl (hb hby d2_38) rfl k) ?_
      show own_Fin _ _ _ _ _ _ _ (T5.setTop (mkF m 39 #[.val (.int p1), .val (.ref a2), .val (.int p3)] [(.int p3)]))
      refine own_st (fun t k => XS.iconst X5.here hx rfl (hb hby d2_39) k) ?_
      show own_Fin _ _ _ _ _ _ _ (T5.setTop (mkF m 40 #[.val (.int p1), .val (.ref a2), .val (.int p3)] [(.int (2 : Int32)), (.int p3)]))
      refine own_st (fun t k => XS.iadd X5.here hx rfl (hb hby d2_40) rfl k) ?_
      show own_Fin _ _ _ _ _ _ _ (T5.setTop (mkF m 41 #[.val (.int p1), .val (.ref a2), .val (.int p3)] [(.int (p3 + (2 : Int32)))]))
      have hv : own_wr p1 p3 = (p3 + (2 : Int32)) := by unfold own_wr; rw [if_neg hc4_1, if_pos hc20_3]
      have hl : own_wv p1 p3 vs = ((vs.set (p3).toNatClampNeg (.int (235 : Int32))).set ((p3 + (1 : Int32))).toNatClampNeg (.int (p1 - (127 : Int32)))) := by unfold own_wv; rw [if_neg hc4_1, if_pos hc20_3]
      exact own_retI X5 hx Bd.notSynchronized Bd.returns (hb hby d2_41) (by decide) (by decide) (by rw [e5]; unfold own_Q_rm2; rw [hv, hl]; exact ⟨rfl, N5, K5, V5⟩)
    · refine own_st (fun t k => XS.icmpYes X0.here hx rfl (pc0 := 20) (pc' := 42) rfl (hb hby d2_20) rfl (flt hc20_3).2.2.2 (by decide) (by decide) k) ?_
      show own_Fin _ _ _ _ _ _ _ (s₁.setTop (mkF m 42 #[.val (.int p1), .val (.ref a2), .val (.int p3)] []))
      refine own_st (fun t k => XS.aloadN X0.here hx rfl (hb hby d2_42) rfl rfl k) ?_
      show own_Fin _ _ _ _ _ _ _ (s₁.setTop (mkF m 43 #[.val (.int p1), .val (.ref a2), .val (.int p3)] [(.ref a2)]))
      refine own_st (fun t k => XS.iloadN X0.here hx rfl (hb hby d2_43) rfl k) ?_
      show own_Fin _ _ _ _ _ _ _ (s₁.setTop (mkF m 44 #[.val (.int p1), .val (.ref a2), .val (.int p3)] [(.int p3), (.ref a2)]))
      refine own_st (fun t k => XS.iloadN X0.here hx rfl (hb hby d2_44) rfl k) ?_
      show own_Fin _ _ _ _ _ _ _ (s₁.setTop (mkF m 45 #[.val (.int p1), .val (.ref a2), .val (.int p3)] [(.int p1), (.int p3), (.ref a2)]))
      refine own_st (fun t k => XS.iconst X0.here hx rfl (hb hby d2_45) k) ?_
      show own_Fin _ _ _ _ _ _ _ (s₁.setTop (mkF m 46 #[.val (.int p1), .val (.ref a2), .val (.int p3)] [(.int (1 : Int32)), (.int p1), (.int p3), (.ref a2)]))
      refine own_st (fun t k => XS.iadd X0.here hx rfl (hb hby d2_46) rfl k) ?_
      show own_Fin _ _ _ _ _ _ _ (s₁.setTop (mkF m 47 #[.val (.int p1), .val (.ref a2), .val (.int p3)] [(.int (p1 + (1 : Int32))), (.int p3), (.ref a2)]))
      obtain ⟨cl6, Ar6, Cq6, Sz6, Mn6, Hs6, Gf6⟩ := Vi
      obtain ⟨T6, h6, X6, e6, W6, st6⟩ := stI X0 hx hZ e0 Ar6 (j := p3) (inb_of Sz6 ⟨hi0, hi1⟩) (g := (mkF m 47 #[.val (.int p1), .val (.ref a2), .val (.int p3)] [(.int (p1 + (1 : Int32))), (.int p3), (.ref a2)])) rfl rfl (hb hby d2_47)
      have V6 : Arv Z h6 a2 ka .int za (vs.set (p3).toNatClampNeg (.int (p1 + (1 : Int32)))) (.int (0 : Int32)) := Arv.set Ar6 Cq6 Sz6 Mn6 Hs6 Gf6 rfl W6 (p3).toNatClampNeg rfl hl1
      have N6 := Fr.snoc X6 N0 gi
      have Z6 : n0 ≤ h6.size := Nat.le_trans Z0 (Keep.of_wr W6).1
      have K6 : Keep h0 h6 [a2] := KR.wr W6 (Or.inl (List.mem_of_getElem? (i := 0) rfl))
      refine own_st st6 ?_
      show own_Fin _ _ _ _ _ _ _ (T6.setTop (mkF m 48 #[.val (.int p1), .val (.ref a2), .val (.int p3)] []))
      refine own_st (fun t k => XS.iloadN X6.here hx rfl (hb hby d2_48) rfl k) ?_
      show own_Fin _ _ _ _ _ _ _ (T6.setTop (mkF m 49 #[.val (.int p1), .val (.ref a2), .val (.int p3)] [(.int p3)]))
      refine own_st (fun t k => XS.iconst X6.here hx rfl (hb hby d2_49) k) ?_
      show own_Fin _ _ _ _ _ _ _ (T6.setTop (mkF m 50 #[.val (.int p1), .val (.ref a2), .val (.int p3)] [(.int (1 : Int32)), (.int p3)]))
      refine own_st (fun t k => XS.iadd X6.here hx rfl (hb hby d2_50) rfl k) ?_
      show own_Fin _ _ _ _ _ _ _ (T6.setTop (mkF m 51 #[.val (.int p1), .val (.ref a2), .val (.int p3)] [(.int (p3 + (1 : Int32)))]))
      have hv : own_wr p1 p3 = (p3 + (1 : Int32)) := by unfold own_wr; rw [if_neg hc4_1, if_neg hc20_3]
      have hl : own_wv p1 p3 vs = (vs.set (p3).toNatClampNeg (.int (p1 + (1 : Int32)))) := by unfold own_wv; rw [if_neg hc4_1, if_neg hc20_3]
      exact own_retI X6 hx Bd.notSynchronized Bd.returns (hb hby d2_51) (by decide) (by decide) (by rw [e6]; unfold own_Q_rm2; rw [hv, hl]; exact ⟨rfl, N6, K6, V6⟩)
theorem own_at (y : Int32) : 0 ≤ (y &&& (7 : Int32)).toInt ∧ (y &&& (7 : Int32)).toInt ≤ 7 ∧ ((y &&& (7 : Int32)) + (1 : Int32)).toInt = (y &&& (7 : Int32)).toInt + 1 := by
  have b := c_and y (7 : Int32) (by decide)
  rw [show (7 : Int32).toInt = 7 by decide] at b
  have a := c_iadd (y &&& 7) (1 : Int32)
  rw [show (1 : Int32).toInt = 1 by decide] at a
  have r := rng32 ((y &&& 7) + 1)
  omega
theorem own_neg {j : Int32} (h : 0 ≤ j.toInt) : ¬ j < 0 := fun q => by
  have h := Int32.lt_iff_toInt_lt.mp q
  rw [show (0 : Int32).toInt = 0 by decide] at h
  omega
theorem own_lt {j : Int32} (h : j.toInt < 10) : j < (10 : Int32) := by
  rw [Int32.lt_iff_toInt_lt, show (10 : Int32).toInt = 10 by decide]
  exact h
theorem own_len {j : Int32} (h : j.toInt < 10) : j.toNatClampNeg < 10 := by
  simp only [Int32.toNatClampNeg]
  omega
theorem own_c (x : Int32) : 0 ≤ ((x &&& (2147483647 : Int32)) % (256 : Int32)).toInt ∧ ((x &&& (2147483647 : Int32)) % (256 : Int32)).toInt < 256 := by
  have b := c_and x (2147483647 : Int32) (by decide)
  have r := (c_irem (x &&& 2147483647) (256 : Int32) 256 (by decide)).1 b.1
  rw [r]
  omega
theorem own_back1 (a : Int32) : (a + (1 : Int32)) - a = (1 : Int32) := by
  apply Int32.toInt_inj.mp
  have h1 := c_iadd a (1 : Int32)
  have h2 := c_isub (a + 1) a
  have r := rng32 (a + 1 - a)
  rw [show (1 : Int32).toInt = 1 by decide] at h1 ⊢
  omega
theorem own_back2 (a : Int32) : (a + (2 : Int32)) - a = (2 : Int32) := by
  apply Int32.toInt_inj.mp
  have h1 := c_iadd a (2 : Int32)
  have h2 := c_isub (a + 2) a
  have r := rng32 (a + 2 - a)
  rw [show (2 : Int32).toInt = 2 by decide] at h1 ⊢
  omega
/-- what the law finds for c: the length, and what write adds -/
theorem own_low {c : Int32} (h : c < (128 : Int32)) : own_F1 c = 1 ∧ ∀ a, own_wr c a - a = 1 := by
  have h' := Int32.lt_iff_toInt_lt.mp h
  rw [show (128 : Int32).toInt = 128 by decide] at h'
  have n1 : ¬ (127 : Int32) < c := fun q => by have q' := Int32.lt_iff_toInt_lt.mp q; rw [show (127 : Int32).toInt = 127 by decide] at q'; omega
  have n2 : ¬ c = (256 : Int32) := fun q => by rw [q] at h'; exact absurd h' (by decide)
  refine ⟨by unfold own_F1; rw [if_neg n1], fun a => ?_⟩
  unfold own_wr
  rw [if_neg n2, if_neg n1]
  exact own_back1 a
theorem own_high {c : Int32} (h : ¬ c < (128 : Int32)) (h2 : c.toInt < 256) : own_F1 c = 2 ∧ ∀ a, own_wr c a - a = 2 := by
  have h' : ¬ c.toInt < 128 := fun q => h (Int32.lt_iff_toInt_lt.mpr (by rw [show (128 : Int32).toInt = 128 by decide]; exact q))
  have n1 : (127 : Int32) < c := by rw [Int32.lt_iff_toInt_lt, show (127 : Int32).toInt = 127 by decide]; omega
  have n2 : ¬ c = (256 : Int32) := fun q => by rw [q] at h2; exact absurd h2 (by decide)
  refine ⟨by unfold own_F1; rw [if_pos n1, if_neg n2], fun a => ?_⟩
  unfold own_wr
  rw [if_neg n2, if_pos n1]
  exact own_back2 a
theorem pn_0 : plainFor x = true := plainFor_of_name (x := x) (by first | (simp [plainName, overriddenIn]; done) | decide +kernel)
theorem pd_0_0 : parseMethodDescriptor "(I)I" = some ⟨[.int], some .int⟩ := by decide +kernel
theorem pd_0_1 : parseMethodDescriptor "(I[II)I" = some ⟨[.int, (.array .int), .int], some .int⟩ := by decide +kernel
theorem ef_0 (m : MethodId) (p1 : Int32) (p2 : Int32) : entryFrame m #[(.int p1), (.int p2)] maxLocals = mkF m 0 #[.val (.int p1), .val (.int p2), .unset, .unset, .unset, .unset, .unset, .unset, .unset] [] := by first | (simp [entryFrame, mkF, argsToLocals, Value.category, maxLocals]; done) | rfl
def own_Q_rm0 (Z : State) (p1 : Int32) (p2 : Int32)  (h0 : Heap) (n0 : Nat) (v : Option Value) (h : Heap) (L : List Loc) : Prop := v = some (.int (1 : Int32)) ∧ Fr n0 L ∧ True
set_option maxRecDepth 65536 in
set_option maxHeartbeats 40000000 in
theorem rm0 (l : Launch) (Z : State) (a0 : Array Value) (hw : ∀ d ∈ tables_1, d.before a0 Z = true) (ws : List Jvm.Cond) (p1 : Int32) (p2 : Int32)  (h0 : Heap) (n0 : Nat) (Z0 : n0 ≤ h0.size)  :
    MetFree l x (head1 (Jvm.Cond.code x code maxLocals ret :: ws) room_1) (fun a U => a = #[(.int p1), (.int p2)] ∧ Z.Warmed39 U.vm ∧ U.heap = h0) (fun _ _ _ _ _ => True) (fun _ U o U' => ∃ v L, o = .returned v ∧ own_Q_rm0 Z p1 p2 h0 n0 v U'.heap L ∧ FrameEnd U o U' L 16 128) := by
  refine MetFree.of_bodySF pn_0 hisR ?_
  intro p e s m args below meth c s₁ Bd hml0 hP hK
  obtain ⟨rfl, hZ, hh⟩ := hP
  have hx := Bd.exec
  have hby := Bd.bytes
  have hml : c.maxLocals = 9 := hml0
  have hown : s.vm.findClass "com/example/quietzone/quietzone/datamatrix/AsciiEncodationLengthPinLaw" = some m.cls := findClass_of_methodNamed Bd.named
  have hnm := (name_of_methodNamed Bd.named Bd.method).1
  have X0 : Stand p l e room_1 s m #[(.int p1), (.int p2)] below meth c s₁ [] 0 0 := Stand.of_body Bd
  have e0 : s₁.heap = h0 := by rw [← hh, Bd.state]; rfl
  have N0 := Fr.nil n0
  show own_Fin p.tables e below s (16) (128) (own_Q_rm0 Z p1 p2 h0 n0) (s₁.setTop (entryFrame m #[(.int p1), (.int p2)] maxLocals))
  rw [ef_0 m p1 p2]
  show own_Fin _ _ _ _ _ _ _ (s₁.setTop (mkF m 0 #[.val (.int p1), .val (.int p2), .unset, .unset, .unset, .unset, .unset, .unset, .unset] []))
  refine own_st (fun t k => XS.iloadN X0.here hx rfl (hb hby at_0) rfl k) ?_
  show own_Fin _ _ _ _ _ _ _ (s₁.setTop (mkF m 1 #[.val (.int p1), .val (.int p2), .unset, .unset, .unset, .unset, .unset, .unset, .unset] [(.int p2)]))
  refine own_st (fun t k => XS.iconst X0.here hx rfl (hb hby at_1) k) ?_
  show own_Fin _ _ _ _ _ _ _ (s₁.setTop (mkF m 2 #[.val (.int p1), .val (.int p2), .unset, .unset, .unset, .unset, .unset, .unset, .unset] [(.int (3 : Int32)), (.int p2)]))
  refine own_st (fun t k => XS.iushr X0.here hx rfl (hb hby at_2) rfl k) ?_
  show own_Fin _ _ _ _ _ _ _ (s₁.setTop (mkF m 3 #[.val (.int p1), .val (.int p2), .unset, .unset, .unset, .unset, .unset, .unset, .unset] [(.int ((p2.toUInt32 >>> ((3 : Int32) &&& 31).toUInt32).toInt32))]))
  refine own_st (fun t k => XS.iconst X0.here hx rfl (hb hby at_3) k) ?_
  show own_Fin _ _ _ _ _ _ _ (s₁.setTop (mkF m 4 #[.val (.int p1), .val (.int p2), .unset, .unset, .unset, .unset, .unset, .unset, .unset] [(.int (3 : Int32)), (.int ((p2.toUInt32 >>> ((3 : Int32) &&& 31).toUInt32).toInt32))]))
  refine own_st (fun t k => XS.iand X0.here hx rfl (hb hby at_4) rfl k) ?_
  show own_Fin _ _ _ _ _ _ _ (s₁.setTop (mkF m 5 #[.val (.int p1), .val (.int p2), .unset, .unset, .unset, .unset, .unset, .unset, .unset] [(.int (((p2.toUInt32 >>> ((3 : Int32) &&& 31).toUInt32).toInt32) &&& (3 : Int32)))]))
  by_cases hc5_1 : (((p2.toUInt32 >>> ((3 : Int32) &&& 31).toUInt32).toInt32) &&& (3 : Int32)) = (0 : Int32)
  · refine own_st (fun t k => XS.ifNo X0.here hx rfl (hb hby at_5) rfl ((if0 _ _).trans (teq hc5_1).2) k) ?_
    show own_Fin _ _ _ _ _ _ _ (s₁.setTop (mkF m 8 #[.val (.int p1), .val (.int p2), .unset, .unset, .unset, .unset, .unset, .unset, .unset] []))
    refine own_st (fun t k => XS.iconst X0.here hx rfl (hb hby at_8) k) ?_
    show own_Fin _ _ _ _ _ _ _ (s₁.setTop (mkF m 9 #[.val (.int p1), .val (.int p2), .unset, .unset, .unset, .unset, .unset, .unset, .unset] [(.int (1 : Int32))]))
    refine own_st (fun t k => XS.goto X0.here hx rfl (pc0 := 9) (pc' := 13) rfl (hb hby at_9) (by decide) (by decide) k) ?_
    show own_Fin _ _ _ _ _ _ _ (s₁.setTop (mkF m 13 #[.val (.int p1), .val (.int p2), .unset, .unset, .unset, .unset, .unset, .unset, .unset] [(.int (1 : Int32))]))
    refine own_st (fun t k => XS.istoreN X0.here hx rfl (hb hby at_13) rfl (l' := #[.val (.int p1), .val (.int p2), .val (.int (1 : Int32)), .unset, .unset, .unset, .unset, .unset, .unset]) rfl k) ?_
    show own_Fin _ _ _ _ _ _ _ (s₁.setTop (mkF m 14 #[.val (.int p1), .val (.int p2), .val (.int (1 : Int32)), .unset, .unset, .unset, .unset, .unset, .unset] []))
    refine own_st (fun t k => XS.iloadN X0.here hx rfl (hb hby at_14) rfl k) ?_
    show own_Fin _ _ _ _ _ _ _ (s₁.setTop (mkF m 15 #[.val (.int p1), .val (.int p2), .val (.int (1 : Int32)), .unset, .unset, .unset, .unset, .unset, .unset] [(.int (1 : Int32))]))
    refine own_st (fun t k => XS.ifNo X0.here hx rfl (hb hby at_15) rfl ((if0 _ _).trans (feq (by decide : ¬ ((1 : Int32) = (0 : Int32)))).1) k) ?_
    show own_Fin _ _ _ _ _ _ _ (s₁.setTop (mkF m 18 #[.val (.int p1), .val (.int p2), .val (.int (1 : Int32)), .unset, .unset, .unset, .unset, .unset, .unset] []))
    refine own_st (fun t k => XS.sipush X0.here hx rfl (hb hby at_18) k) ?_
    show own_Fin _ _ _ _ _ _ _ (s₁.setTop (mkF m 21 #[.val (.int p1), .val (.int p2), .val (.int (1 : Int32)), .unset, .unset, .unset, .unset, .unset, .unset] [(.int (256 : Int32))]))
    refine own_st (fun t k => XS.goto X0.here hx rfl (pc0 := 21) (pc' := 32) rfl (hb hby at_21) (by decide) (by decide) k) ?_
    show own_Fin _ _ _ _ _ _ _ (s₁.setTop (mkF m 32 #[.val (.int p1), .val (.int p2), .val (.int (1 : Int32)), .unset, .unset, .unset, .unset, .unset, .unset] [(.int (256 : Int32))]))
    refine own_st (fun t k => XS.istoreN X0.here hx rfl (hb hby at_32) rfl (l' := #[.val (.int p1), .val (.int p2), .val (.int (1 : Int32)), .val (.int (256 : Int32)), .unset, .unset, .unset, .unset, .unset]) rfl k) ?_
    show own_Fin _ _ _ _ _ _ _ (s₁.setTop (mkF m 33 #[.val (.int p1), .val (.int p2), .val (.int (1 : Int32)), .val (.int (256 : Int32)), .unset, .unset, .unset, .unset, .unset] []))
    refine own_st (fun t k => XS.iloadN X0.here hx rfl (hb hby at_33) rfl k) ?_
    show own_Fin _ _ _ _ _ _ _ (s₁.setTop (mkF m 34 #[.val (.int p1), .val (.int p2), .val (.int (1 : Int32)), .val (.int (256 : Int32)), .unset, .unset, .unset, .unset, .unset] [(.int p2)]))
    refine own_st (fun t k => XS.bipush X0.here hx rfl (hb hby at_34) k) ?_
    show own_Fin _ _ _ _ _ _ _ (s₁.setTop (mkF m 36 #[.val (.int p1), .val (.int p2), .val (.int (1 : Int32)), .val (.int (256 : Int32)), .unset, .unset, .unset, .unset, .unset] [(.int (7 : Int32)), (.int p2)]))
    refine own_st (fun t k => XS.iand X0.here hx rfl (hb hby at_36) rfl k) ?_
    show own_Fin _ _ _ _ _ _ _ (s₁.setTop (mkF m 37 #[.val (.int p1), .val (.int p2), .val (.int (1 : Int32)), .val (.int (256 : Int32)), .unset, .unset, .unset, .unset, .unset] [(.int (p2 &&& (7 : Int32)))]))
    refine own_st (fun t k => XS.istore X0.here hx rfl (hb hby at_37) rfl (l' := #[.val (.int p1), .val (.int p2), .val (.int (1 : Int32)), .val (.int (256 : Int32)), .val (.int (p2 &&& (7 : Int32))), .unset, .unset, .unset, .unset]) rfl k) ?_
    show own_Fin _ _ _ _ _ _ _ (s₁.setTop (mkF m 39 #[.val (.int p1), .val (.int p2), .val (.int (1 : Int32)), .val (.int (256 : Int32)), .val (.int (p2 &&& (7 : Int32))), .unset, .unset, .unset, .unset] []))
    refine own_st (fun t k => XS.bipush X0.here hx rfl (hb hby at_39) k) ?_
    show own_Fin _ _ _ _ _ _ _ (s₁.setTop (mkF m 41 #[.val (.int p1), .val (.int p2), .val (.int (1 : Int32)), .val (.int (256 : Int32)), .val (.int (p2 &&& (7 : Int32))), .unset, .unset, .unset, .unset] [(.int (10 : Int32))]))
    obtain ⟨T2, h2, k2, X2, e2, E2, A2, st2⟩ := newP X0 hx hZ (hw _ (List.mem_of_getElem? (i := 0) rfl)) e0 (g := (mkF m 41 #[.val (.int p1), .val (.int p2), .val (.int (1 : Int32)), .val (.int (256 : Int32)), .val (.int (p2 &&& (7 : Int32))), .unset, .unset, .unset, .unset] [(.int (10 : Int32))])) rfl (hb hby at_41) rfl (by decide) (cap := 10) (by decide) (by decide) (by decide) (by decide)
    obtain ⟨b2, g2⟩ : ∃ z, z = h0.size := ⟨_, rfl⟩
    rw [← g2] at A2 st2
    have ge_b2 : n0 ≤ b2 := Nat.le_trans Z0 (Nat.le_of_eq g2.symm)
    have Z2 : n0 ≤ h2.size := Nat.le_trans Z0 E2.1
    have V2 : Arv Z h2 b2 k2 .int (10 : Int32) [(.int (0 : Int32)), (.int (0 : Int32)), (.int (0 : Int32)), (.int (0 : Int32)), (.int (0 : Int32)), (.int (0 : Int32)), (.int (0 : Int32)), (.int (0 : Int32)), (.int (0 : Int32)), (.int (0 : Int32))] (.int (0 : Int32)) := (Arv.new A2 (by decide)).pad (pad_rep [] (.int (0 : Int32)) 10)
    refine own_st st2 ?_
    show own_Fin _ _ _ _ _ _ _ (T2.setTop (mkF m 43 #[.val (.int p1), .val (.int p2), .val (.int (1 : Int32)), .val (.int (256 : Int32)), .val (.int (p2 &&& (7 : Int32))), .unset, .unset, .unset, .unset] [(.ref b2)]))
    refine own_st (fun t k => XS.astore X2.here hx rfl (hb hby at_43) rfl rfl (l' := #[.val (.int p1), .val (.int p2), .val (.int (1 : Int32)), .val (.int (256 : Int32)), .val (.int (p2 &&& (7 : Int32))), .val (.ref b2), .unset, .unset, .unset]) rfl k) ?_
    show own_Fin _ _ _ _ _ _ _ (T2.setTop (mkF m 45 #[.val (.int p1), .val (.int p2), .val (.int (1 : Int32)), .val (.int (256 : Int32)), .val (.int (p2 &&& (7 : Int32))), .val (.ref b2), .unset, .unset, .unset] []))
    refine own_st (fun t k => XS.iloadN X2.here hx rfl (hb hby at_45) rfl k) ?_
    show own_Fin _ _ _ _ _ _ _ (T2.setTop (mkF m 46 #[.val (.int p1), .val (.int p2), .val (.int (1 : Int32)), .val (.int (256 : Int32)), .val (.int (p2 &&& (7 : Int32))), .val (.ref b2), .unset, .unset, .unset] [(.int (256 : Int32))]))
    obtain ⟨_, _, ⟨T3, L3, k3, n3⟩, -, X3, ⟨Lc3, hQ3, l3, y3, z3⟩, st3⟩ := Jvm.LawKit.callS X2 hx (y := (⟨"com/example/quietzone/quietzone/datamatrix/AsciiEncodation", "length", "(I)I"⟩ : MethodName)) hown (mvT hZ (hw _ (List.mem_of_getElem? (i := 1) rfl))) (mvT hZ (hw _ (List.mem_of_getElem? (i := 2) rfl))) (mvT hZ (hw _ (List.mem_of_getElem? (i := 3) rfl))) (mvT hZ (hw _ (List.mem_of_getElem? (i := 4) rfl))) (by decide) (backOf (W := 0) (rm1 l Z a0 hw [] (256 : Int32) h2 n0 Z2) hZ (hw _ (List.mem_of_getElem? (i := 4) rfl)) (hw _ (List.mem_of_getElem? (i := 3) rfl)) (by decide) (by decide)) (g := (mkF m 46 #[.val (.int p1), .val (.int p2), .val (.int (1 : Int32)), .val (.int (256 : Int32)), .val (.int (p2 &&& (7 : Int32))), .val (.ref b2), .unset, .unset, .unset] [(.int (256 : Int32))])) rfl (by rw [hml]; rfl) (argsL := [(.int (256 : Int32))]) (rest := []) (lenOf pd_0_0 rfl) rfl (by show 2 * 0 + _ ≤ _; exact Nat.le_of_eq rfl) (hb hby at_46) (fun _ _ => ⟨rfl, e2, (by decide : 1 + 0 ≤ _), (by decide : 10 + 0 ≤ _)⟩)
    dsimp only [Pt.U, Pt.locs, Pt.cells, Pt.slots] at X3 l3 y3 z3 st3 hQ3
    subst l3 y3 z3
    obtain ⟨rfl, N3q, e3⟩ := hQ3
    have N3 := Fr.app N0 N3q
    refine own_st st3 ?_
    show own_Fin _ _ _ _ _ _ _ (T3.setTop (mkF m 49 #[.val (.int p1), .val (.int p2), .val (.int (1 : Int32)), .val (.int (256 : Int32)), .val (.int (p2 &&& (7 : Int32))), .val (.ref b2), .unset, .unset, .unset] [(.int (own_F1 (256 : Int32)))]))
    refine own_st (fun t k => XS.istore X3.here hx rfl (hb hby at_49) rfl (l' := #[.val (.int p1), .val (.int p2), .val (.int (1 : Int32)), .val (.int (256 : Int32)), .val (.int (p2 &&& (7 : Int32))), .val (.ref b2), .val (.int (own_F1 (256 : Int32))), .unset, .unset]) rfl k) ?_
    show own_Fin _ _ _ _ _ _ _ (T3.setTop (mkF m 51 #[.val (.int p1), .val (.int p2), .val (.int (1 : Int32)), .val (.int (256 : Int32)), .val (.int (p2 &&& (7 : Int32))), .val (.ref b2), .val (.int (own_F1 (256 : Int32))), .unset, .unset] []))
    refine own_st (fun t k => XS.iloadN X3.here hx rfl (hb hby at_51) rfl k) ?_
    show own_Fin _ _ _ _ _ _ _ (T3.setTop (mkF m 52 #[.val (.int p1), .val (.int p2), .val (.int (1 : Int32)), .val (.int (256 : Int32)), .val (.int (p2 &&& (7 : Int32))), .val (.ref b2), .val (.int (own_F1 (256 : Int32))), .unset, .unset] [(.int (256 : Int32))]))
    refine own_st (fun t k => XS.aload X3.here hx rfl (hb hby at_52) rfl rfl k) ?_
    show own_Fin _ _ _ _ _ _ _ (T3.setTop (mkF m 54 #[.val (.int p1), .val (.int p2), .val (.int (1 : Int32)), .val (.int (256 : Int32)), .val (.int (p2 &&& (7 : Int32))), .val (.ref b2), .val (.int (own_F1 (256 : Int32))), .unset, .unset] [(.ref b2), (.int (256 : Int32))]))
    refine own_st (fun t k => XS.iload X3.here hx rfl (hb hby at_54) rfl k) ?_
    show own_Fin _ _ _ _ _ _ _ (T3.setTop (mkF m 56 #[.val (.int p1), .val (.int p2), .val (.int (1 : Int32)), .val (.int (256 : Int32)), .val (.int (p2 &&& (7 : Int32))), .val (.ref b2), .val (.int (own_F1 (256 : Int32))), .unset, .unset] [(.int (p2 &&& (7 : Int32))), (.ref b2), (.int (256 : Int32))]))
    obtain ⟨_, _, ⟨T4, L4, k4, n4⟩, -, X4, ⟨Lc4, hQ4, l4, y4, z4⟩, st4⟩ := Jvm.LawKit.callS X3 hx (y := (⟨"com/example/quietzone/quietzone/datamatrix/AsciiEncodation", "write", "(I[II)I"⟩ : MethodName)) hown (mvT hZ (hw _ (List.mem_of_getElem? (i := 5) rfl))) (mvT hZ (hw _ (List.mem_of_getElem? (i := 6) rfl))) (mvT hZ (hw _ (List.mem_of_getElem? (i := 3) rfl))) (mvT hZ (hw _ (List.mem_of_getElem? (i := 7) rfl))) (by decide) (backOf (W := 0) (rm2 l Z a0 hw [] (256 : Int32) b2 (p2 &&& (7 : Int32)) k2 (10 : Int32) [(.int (0 : Int32)), (.int (0 : Int32)), (.int (0 : Int32)), (.int (0 : Int32)), (.int (0 : Int32)), (.int (0 : Int32)), (.int (0 : Int32)), (.int (0 : Int32)), (.int (0 : Int32)), (.int (0 : Int32))] h2 n0 Z2 V2 ge_b2 (own_neg (own_at p2).1) (own_lt (by have := own_at p2; omega)) (own_neg (by have := own_at p2; omega)) (own_lt (by have := own_at p2; omega)) (own_len (by have := own_at p2; omega)) (own_len (by have := own_at p2; omega))) hZ (hw _ (List.mem_of_getElem? (i := 7) rfl)) (hw _ (List.mem_of_getElem? (i := 3) rfl)) (by decide) (by decide)) (g := (mkF m 56 #[.val (.int p1), .val (.int p2), .val (.int (1 : Int32)), .val (.int (256 : Int32)), .val (.int (p2 &&& (7 : Int32))), .val (.ref b2), .val (.int (own_F1 (256 : Int32))), .unset, .unset] [(.int (p2 &&& (7 : Int32))), (.ref b2), (.int (256 : Int32))])) rfl (by rw [hml]; rfl) (argsL := [(.int (256 : Int32)), (.ref b2), (.int (p2 &&& (7 : Int32)))]) (rest := []) (lenOf pd_0_1 rfl) rfl (by show 2 * 0 + _ ≤ _; exact Nat.le_of_eq rfl) (hb hby at_56) (fun _ _ => ⟨rfl, e3, (by decide : 1 + 0 ≤ _), (by decide : 10 + 0 ≤ _)⟩)
    dsimp only [Pt.U, Pt.locs, Pt.cells, Pt.slots] at X4 l4 y4 z4 st4 hQ4
    subst l4 y4 z4
    obtain ⟨rfl, N4q, K4, o4⟩ := hQ4
    have N4 := Fr.app N3 N4q
    have Z4 : n0 ≤ T4.heap.size := Nat.le_trans Z2 K4.1
    refine own_st st4 ?_
    show own_Fin _ _ _ _ _ _ _ (T4.setTop (mkF m 59 #[.val (.int p1), .val (.int p2), .val (.int (1 : Int32)), .val (.int (256 : Int32)), .val (.int (p2 &&& (7 : Int32))), .val (.ref b2), .val (.int (own_F1 (256 : Int32))), .unset, .unset] [(.int (own_wr (256 : Int32) (p2 &&& (7 : Int32))))]))
    refine own_st (fun t k => XS.istore X4.here hx rfl (hb hby at_59) rfl (l' := #[.val (.int p1), .val (.int p2), .val (.int (1 : Int32)), .val (.int (256 : Int32)), .val (.int (p2 &&& (7 : Int32))), .val (.ref b2), .val (.int (own_F1 (256 : Int32))), .val (.int (own_wr (256 : Int32) (p2 &&& (7 : Int32)))), .unset]) rfl k) ?_
    show own_Fin _ _ _ _ _ _ _ (T4.setTop (mkF m 61 #[.val (.int p1), .val (.int p2), .val (.int (1 : Int32)), .val (.int (256 : Int32)), .val (.int (p2 &&& (7 : Int32))), .val (.ref b2), .val (.int (own_F1 (256 : Int32))), .val (.int (own_wr (256 : Int32) (p2 &&& (7 : Int32)))), .unset] []))
    refine own_st (fun t k => XS.iconst X4.here hx rfl (hb hby at_61) k) ?_
    show own_Fin _ _ _ _ _ _ _ (T4.setTop (mkF m 62 #[.val (.int p1), .val (.int p2), .val (.int (1 : Int32)), .val (.int (256 : Int32)), .val (.int (p2 &&& (7 : Int32))), .val (.ref b2), .val (.int (own_F1 (256 : Int32))), .val (.int (own_wr (256 : Int32) (p2 &&& (7 : Int32)))), .unset] [(.int (1 : Int32))]))
    refine own_st (fun t k => XS.istore X4.here hx rfl (hb hby at_62) rfl (l' := #[.val (.int p1), .val (.int p2), .val (.int (1 : Int32)), .val (.int (256 : Int32)), .val (.int (p2 &&& (7 : Int32))), .val (.ref b2), .val (.int (own_F1 (256 : Int32))), .val (.int (own_wr (256 : Int32) (p2 &&& (7 : Int32)))), .val (.int (1 : Int32))]) rfl k) ?_
    show own_Fin _ _ _ _ _ _ _ (T4.setTop (mkF m 64 #[.val (.int p1), .val (.int p2), .val (.int (1 : Int32)), .val (.int (256 : Int32)), .val (.int (p2 &&& (7 : Int32))), .val (.ref b2), .val (.int (own_F1 (256 : Int32))), .val (.int (own_wr (256 : Int32) (p2 &&& (7 : Int32)))), .val (.int (1 : Int32))] []))
    refine own_st (fun t k => XS.iloadN X4.here hx rfl (hb hby at_64) rfl k) ?_
    show own_Fin _ _ _ _ _ _ _ (T4.setTop (mkF m 65 #[.val (.int p1), .val (.int p2), .val (.int (1 : Int32)), .val (.int (256 : Int32)), .val (.int (p2 &&& (7 : Int32))), .val (.ref b2), .val (.int (own_F1 (256 : Int32))), .val (.int (own_wr (256 : Int32) (p2 &&& (7 : Int32)))), .val (.int (1 : Int32))] [(.int (256 : Int32))]))
    refine own_st (fun t k => XS.sipush X4.here hx rfl (hb hby at_65) k) ?_
    show own_Fin _ _ _ _ _ _ _ (T4.setTop (mkF m 68 #[.val (.int p1), .val (.int p2), .val (.int (1 : Int32)), .val (.int (256 : Int32)), .val (.int (p2 &&& (7 : Int32))), .val (.ref b2), .val (.int (own_F1 (256 : Int32))), .val (.int (own_wr (256 : Int32) (p2 &&& (7 : Int32)))), .val (.int (1 : Int32))] [(.int (128 : Int32)), (.int (256 : Int32))]))
    refine own_st (fun t k => XS.icmpNo X4.here hx rfl (hb hby at_68) rfl (flt (by decide : ¬ ((256 : Int32) < (128 : Int32)))).1 k) ?_
    show own_Fin _ _ _ _ _ _ _ (T4.setTop (mkF m 71 #[.val (.int p1), .val (.int p2), .val (.int (1 : Int32)), .val (.int (256 : Int32)), .val (.int (p2 &&& (7 : Int32))), .val (.ref b2), .val (.int (own_F1 (256 : Int32))), .val (.int (own_wr (256 : Int32) (p2 &&& (7 : Int32)))), .val (.int (1 : Int32))] []))
    refine own_st (fun t k => XS.iloadN X4.here hx rfl (hb hby at_71) rfl k) ?_
    show own_Fin _ _ _ _ _ _ _ (T4.setTop (mkF m 72 #[.val (.int p1), .val (.int p2), .val (.int (1 : Int32)), .val (.int (256 : Int32)), .val (.int (p2 &&& (7 : Int32))), .val (.ref b2), .val (.int (own_F1 (256 : Int32))), .val (.int (own_wr (256 : Int32) (p2 &&& (7 : Int32)))), .val (.int (1 : Int32))] [(.int (256 : Int32))]))
    refine own_st (fun t k => XS.sipush X4.here hx rfl (hb hby at_72) k) ?_
    show own_Fin _ _ _ _ _ _ _ (T4.setTop (mkF m 75 #[.val (.int p1), .val (.int p2), .val (.int (1 : Int32)), .val (.int (256 : Int32)), .val (.int (p2 &&& (7 : Int32))), .val (.ref b2), .val (.int (own_F1 (256 : Int32))), .val (.int (own_wr (256 : Int32) (p2 &&& (7 : Int32)))), .val (.int (1 : Int32))] [(.int (255 : Int32)), (.int (256 : Int32))]))
    refine own_st (fun t k => XS.icmpYes X4.here hx rfl (pc0 := 75) (pc' := 81) rfl (hb hby at_75) rfl (tlt (by decide : (255 : Int32) < (256 : Int32))).2.2.1 (by decide) (by decide) k) ?_
    show own_Fin _ _ _ _ _ _ _ (T4.setTop (mkF m 81 #[.val (.int p1), .val (.int p2), .val (.int (1 : Int32)), .val (.int (256 : Int32)), .val (.int (p2 &&& (7 : Int32))), .val (.ref b2), .val (.int (own_F1 (256 : Int32))), .val (.int (own_wr (256 : Int32) (p2 &&& (7 : Int32)))), .val (.int (1 : Int32))] []))
    refine own_st (fun t k => XS.iload X4.here hx rfl (hb hby at_81) rfl k) ?_
    show own_Fin _ _ _ _ _ _ _ (T4.setTop (mkF m 83 #[.val (.int p1), .val (.int p2), .val (.int (1 : Int32)), .val (.int (256 : Int32)), .val (.int (p2 &&& (7 : Int32))), .val (.ref b2), .val (.int (own_F1 (256 : Int32))), .val (.int (own_wr (256 : Int32) (p2 &&& (7 : Int32)))), .val (.int (1 : Int32))] [(.int (own_F1 (256 : Int32)))]))
    refine own_st (fun t k => XS.iload X4.here hx rfl (hb hby at_83) rfl k) ?_
    show own_Fin _ _ _ _ _ _ _ (T4.setTop (mkF m 85 #[.val (.int p1), .val (.int p2), .val (.int (1 : Int32)), .val (.int (256 : Int32)), .val (.int (p2 &&& (7 : Int32))), .val (.ref b2), .val (.int (own_F1 (256 : Int32))), .val (.int (own_wr (256 : Int32) (p2 &&& (7 : Int32)))), .val (.int (1 : Int32))] [(.int (1 : Int32)), (.int (own_F1 (256 : Int32)))]))
    have hd85_5 : (own_F1 (256 : Int32)) = (1 : Int32) := by decide
    refine own_st (fun t k => XS.icmpNo X4.here hx rfl (hb hby at_85) rfl (teq hd85_5).2 k) ?_
    show own_Fin _ _ _ _ _ _ _ (T4.setTop (mkF m 88 #[.val (.int p1), .val (.int p2), .val (.int (1 : Int32)), .val (.int (256 : Int32)), .val (.int (p2 &&& (7 : Int32))), .val (.ref b2), .val (.int (own_F1 (256 : Int32))), .val (.int (own_wr (256 : Int32) (p2 &&& (7 : Int32)))), .val (.int (1 : Int32))] []))
    refine own_st (fun t k => XS.iload X4.here hx rfl (hb hby at_88) rfl k) ?_
    show own_Fin _ _ _ _ _ _ _ (T4.setTop (mkF m 90 #[.val (.int p1), .val (.int p2), .val (.int (1 : Int32)), .val (.int (256 : Int32)), .val (.int (p2 &&& (7 : Int32))), .val (.ref b2), .val (.int (own_F1 (256 : Int32))), .val (.int (own_wr (256 : Int32) (p2 &&& (7 : Int32)))), .val (.int (1 : Int32))] [(.int (own_wr (256 : Int32) (p2 &&& (7 : Int32))))]))
    refine own_st (fun t k => XS.iload X4.here hx rfl (hb hby at_90) rfl k) ?_
    show own_Fin _ _ _ _ _ _ _ (T4.setTop (mkF m 92 #[.val (.int p1), .val (.int p2), .val (.int (1 : Int32)), .val (.int (256 : Int32)), .val (.int (p2 &&& (7 : Int32))), .val (.ref b2), .val (.int (own_F1 (256 : Int32))), .val (.int (own_wr (256 : Int32) (p2 &&& (7 : Int32)))), .val (.int (1 : Int32))] [(.int (p2 &&& (7 : Int32))), (.int (own_wr (256 : Int32) (p2 &&& (7 : Int32))))]))
    refine own_st (fun t k => XS.isub X4.here hx rfl (hb hby at_92) rfl k) ?_
    show own_Fin _ _ _ _ _ _ _ (T4.setTop (mkF m 93 #[.val (.int p1), .val (.int p2), .val (.int (1 : Int32)), .val (.int (256 : Int32)), .val (.int (p2 &&& (7 : Int32))), .val (.ref b2), .val (.int (own_F1 (256 : Int32))), .val (.int (own_wr (256 : Int32) (p2 &&& (7 : Int32)))), .val (.int (1 : Int32))] [(.int ((own_wr (256 : Int32) (p2 &&& (7 : Int32))) - (p2 &&& (7 : Int32))))]))
    refine own_st (fun t k => XS.iload X4.here hx rfl (hb hby at_93) rfl k) ?_
    show own_Fin _ _ _ _ _ _ _ (T4.setTop (mkF m 95 #[.val (.int p1), .val (.int p2), .val (.int (1 : Int32)), .val (.int (256 : Int32)), .val (.int (p2 &&& (7 : Int32))), .val (.ref b2), .val (.int (own_F1 (256 : Int32))), .val (.int (own_wr (256 : Int32) (p2 &&& (7 : Int32)))), .val (.int (1 : Int32))] [(.int (own_F1 (256 : Int32))), (.int ((own_wr (256 : Int32) (p2 &&& (7 : Int32))) - (p2 &&& (7 : Int32))))]))
    have hd95_6 : ((own_wr (256 : Int32) (p2 &&& (7 : Int32))) - (p2 &&& (7 : Int32))) = (own_F1 (256 : Int32)) := by unfold own_wr; rw [if_pos rfl, own_back1]; decide
    refine own_st (fun t k => XS.icmpNo X4.here hx rfl (hb hby at_95) rfl (teq hd95_6).2 k) ?_
    show own_Fin _ _ _ _ _ _ _ (T4.setTop (mkF m 98 #[.val (.int p1), .val (.int p2), .val (.int (1 : Int32)), .val (.int (256 : Int32)), .val (.int (p2 &&& (7 : Int32))), .val (.ref b2), .val (.int (own_F1 (256 : Int32))), .val (.int (own_wr (256 : Int32) (p2 &&& (7 : Int32)))), .val (.int (1 : Int32))] []))
    refine own_st (fun t k => XS.iconst X4.here hx rfl (hb hby at_98) k) ?_
    show own_Fin _ _ _ _ _ _ _ (T4.setTop (mkF m 99 #[.val (.int p1), .val (.int p2), .val (.int (1 : Int32)), .val (.int (256 : Int32)), .val (.int (p2 &&& (7 : Int32))), .val (.ref b2), .val (.int (own_F1 (256 : Int32))), .val (.int (own_wr (256 : Int32) (p2 &&& (7 : Int32)))), .val (.int (1 : Int32))] [(.int (1 : Int32))]))
    refine own_st (fun t k => XS.goto X4.here hx rfl (pc0 := 99) (pc' := 103) rfl (hb hby at_99) (by decide) (by decide) k) ?_
    show own_Fin _ _ _ _ _ _ _ (T4.setTop (mkF m 103 #[.val (.int p1), .val (.int p2), .val (.int (1 : Int32)), .val (.int (256 : Int32)), .val (.int (p2 &&& (7 : Int32))), .val (.ref b2), .val (.int (own_F1 (256 : Int32))), .val (.int (own_wr (256 : Int32) (p2 &&& (7 : Int32)))), .val (.int (1 : Int32))] [(.int (1 : Int32))]))
    exact own_retN X4 hx Bd.notSynchronized (t := .boolean) Bd.returns (by simp) (hb hby at_103) (by decide) (by decide) ⟨rfl, N4, trivial⟩
  · refine own_st (fun t k => XS.ifYes X0.here hx rfl (pc0 := 5) (pc' := 12) rfl (hb hby at_5) rfl ((if0 _ _).trans (feq hc5_1).2) (by decide) (by decide) k) ?_
    show own_Fin _ _ _ _ _ _ _ (s₁.setTop (mkF m 12 #[.val (.int p1), .val (.int p2), .unset, .unset, .unset, .unset, .unset, .unset, .unset] []))
    refine own_st (fun t k => XS.iconst X0.here hx rfl (hb hby at_12) k) ?_
    show own_Fin _ _ _ _ _ _ _ (s₁.setTop (mkF m 13 #[.val (.int p1), .val (.int p2), .unset, .unset, .unset, .unset, .unset, .unset, .unset] [(.int (0 : Int32))]))
    refine own_st (fun t k => XS.istoreN X0.here hx rfl (hb hby at_13) rfl (l' := #[.val (.int p1), .val (.int p2), .val (.int (0 : Int32)), .unset, .unset, .unset, .unset, .unset, .unset]) rfl k) ?_
    show own_Fin _ _ _ _ _ _ _ (s₁.setTop (mkF m 14 #[.val (.int p1), .val (.int p2), .val (.int (0 : Int32)), .unset, .unset, .unset, .unset, .unset, .unset] []))
    refine own_st (fun t k => XS.iloadN X0.here hx rfl (hb hby at_14) rfl k) ?_
    show own_Fin _ _ _ _ _ _ _ (s₁.setTop (mkF m 15 #[.val (.int p1), .val (.int p2), .val (.int (0 : Int32)), .unset, .unset, .unset, .unset, .unset, .unset] [(.int (0 : Int32))]))
    refine own_st (fun t k => XS.ifYes X0.here hx rfl (pc0 := 15) (pc' := 24) rfl (hb hby at_15) rfl ((if0 _ _).trans (teq (by decide : (0 : Int32) = (0 : Int32))).1) (by decide) (by decide) k) ?_
    show own_Fin _ _ _ _ _ _ _ (s₁.setTop (mkF m 24 #[.val (.int p1), .val (.int p2), .val (.int (0 : Int32)), .unset, .unset, .unset, .unset, .unset, .unset] []))
    refine own_st (fun t k => XS.iloadN X0.here hx rfl (hb hby at_24) rfl k) ?_
    show own_Fin _ _ _ _ _ _ _ (s₁.setTop (mkF m 25 #[.val (.int p1), .val (.int p2), .val (.int (0 : Int32)), .unset, .unset, .unset, .unset, .unset, .unset] [(.int p1)]))
    refine own_st (X0.ldcInt hx hown (mvT hZ (hw _ (List.mem_of_getElem? (i := 8) rfl))) (g := (mkF m 25 #[.val (.int p1), .val (.int p2), .val (.int (0 : Int32)), .unset, .unset, .unset, .unset, .unset, .unset] [(.int p1)])) rfl (hb hby at_25)) ?_
    show own_Fin _ _ _ _ _ _ _ (s₁.setTop (mkF m 27 #[.val (.int p1), .val (.int p2), .val (.int (0 : Int32)), .unset, .unset, .unset, .unset, .unset, .unset] [(.int (2147483647 : Int32)), (.int p1)]))
    refine own_st (fun t k => XS.iand X0.here hx rfl (hb hby at_27) rfl k) ?_
    show own_Fin _ _ _ _ _ _ _ (s₁.setTop (mkF m 28 #[.val (.int p1), .val (.int p2), .val (.int (0 : Int32)), .unset, .unset, .unset, .unset, .unset, .unset] [(.int (p1 &&& (2147483647 : Int32)))]))
    refine own_st (fun t k => XS.sipush X0.here hx rfl (hb hby at_28) k) ?_
    show own_Fin _ _ _ _ _ _ _ (s₁.setTop (mkF m 31 #[.val (.int p1), .val (.int p2), .val (.int (0 : Int32)), .unset, .unset, .unset, .unset, .unset, .unset] [(.int (256 : Int32)), (.int (p1 &&& (2147483647 : Int32)))]))
    refine own_st (fun t k => iremM X0 hx rfl (hb hby at_31) rfl (by decide) k) ?_
    show own_Fin _ _ _ _ _ _ _ (s₁.setTop (mkF m 32 #[.val (.int p1), .val (.int p2), .val (.int (0 : Int32)), .unset, .unset, .unset, .unset, .unset, .unset] [(.int ((p1 &&& (2147483647 : Int32)) % (256 : Int32)))]))
    refine own_st (fun t k => XS.istoreN X0.here hx rfl (hb hby at_32) rfl (l' := #[.val (.int p1), .val (.int p2), .val (.int (0 : Int32)), .val (.int ((p1 &&& (2147483647 : Int32)) % (256 : Int32))), .unset, .unset, .unset, .unset, .unset]) rfl k) ?_
    show own_Fin _ _ _ _ _ _ _ (s₁.setTop (mkF m 33 #[.val (.int p1), .val (.int p2), .val (.int (0 : Int32)), .val (.int ((p1 &&& (2147483647 : Int32)) % (256 : Int32))), .unset, .unset, .unset, .unset, .unset] []))
    refine own_st (fun t k => XS.iloadN X0.here hx rfl (hb hby at_33) rfl k) ?_
    show own_Fin _ _ _ _ _ _ _ (s₁.setTop (mkF m 34 #[.val (.int p1), .val (.int p2), .val (.int (0 : Int32)), .val (.int ((p1 &&& (2147483647 : Int32)) % (256 : Int32))), .unset, .unset, .unset, .unset, .unset] [(.int p2)]))
    refine own_st (fun t k => XS.bipush X0.here hx rfl (hb hby at_34) k) ?_
    show own_Fin _ _ _ _ _ _ _ (s₁.setTop (mkF m 36 #[.val (.int p1), .val (.int p2), .val (.int (0 : Int32)), .val (.int ((p1 &&& (2147483647 : Int32)) % (256 : Int32))), .unset, .unset, .unset, .unset, .unset] [(.int (7 : Int32)), (.int p2)]))
    refine own_st (fun t k => XS.iand X0.here hx rfl (hb hby at_36) rfl k) ?_
    show own_Fin _ _ _ _ _ _ _ (s₁.setTop (mkF m 37 #[.val (.int p1), .val (.int p2), .val (.int (0 : Int32)), .val (.int ((p1 &&& (2147483647 : Int32)) % (256 : Int32))), .unset, .unset, .unset, .unset, .unset] [(.int (p2 &&& (7 : Int32)))]))
    refine own_st (fun t k => XS.istore X0.here hx rfl (hb hby at_37) rfl (l' := #[.val (.int p1), .val (.int p2), .val (.int (0 : Int32)), .val (.int ((p1 &&& (2147483647 : Int32)) % (256 : Int32))), .val (.int (p2 &&& (7 : Int32))), .unset, .unset, .unset, .unset]) rfl k) ?_
    show own_Fin _ _ _ _ _ _ _ (s₁.setTop (mkF m 39 #[.val (.int p1), .val (.int p2), .val (.int (0 : Int32)), .val (.int ((p1 &&& (2147483647 : Int32)) % (256 : Int32))), .val (.int (p2 &&& (7 : Int32))), .unset, .unset, .unset, .unset] []))
    refine own_st (fun t k => XS.bipush X0.here hx rfl (hb hby at_39) k) ?_
    show own_Fin _ _ _ _ _ _ _ (s₁.setTop (mkF m 41 #[.val (.int p1), .val (.int p2), .val (.int (0 : Int32)), .val (.int ((p1 &&& (2147483647 : Int32)) % (256 : Int32))), .val (.int (p2 &&& (7 : Int32))), .unset, .unset, .unset, .unset] [(.int (10 : Int32))]))
    obtain ⟨T7, h7, k7, X7, e7, E7, A7, st7⟩ := newP X0 hx hZ (hw _ (List.mem_of_getElem? (i := 0) rfl)) e0 (g := (mkF m 41 #[.val (.int p1), .val (.int p2), .val (.int (0 : Int32)), .val (.int ((p1 &&& (2147483647 : Int32)) % (256 : Int32))), .val (.int (p2 &&& (7 : Int32))), .unset, .unset, .unset, .unset] [(.int (10 : Int32))])) rfl (hb hby at_41) rfl (by decide) (cap := 10) (by decide) (by decide) (by decide) (by decide)
    obtain ⟨b7, g7⟩ : ∃ z, z = h0.size := ⟨_, rfl⟩
    rw [← g7] at A7 st7
    have ge_b7 : n0 ≤ b7 := Nat.le_trans Z0 (Nat.le_of_eq g7.symm)
    have Z7 : n0 ≤ h7.size := Nat.le_trans Z0 E7.1
    have V7 : Arv Z h7 b7 k7 .int (10 : Int32) [(.int (0 : Int32)), (.int (0 : Int32)), (.int (0 : Int32)), (.int (0 : Int32)), (.int (0 : Int32)), (.int (0 : Int32)), (.int (0 : Int32)), (.int (0 : Int32)), (.int (0 : Int32)), (.int (0 : Int32))] (.int (0 : Int32)) := (Arv.new A7 (by decide)).pad (pad_rep [] (.int (0 : Int32)) 10)
    refine own_st st7 ?_
    show own_Fin _ _ _ _ _ _ _ (T7.setTop (mkF m 43 #[.val (.int p1), .val (.int p2), .val (.int (0 : Int32)), .val (.int ((p1 &&& (2147483647 : Int32)) % (256 : Int32))), .val (.int (p2 &&& (7 : Int32))), .unset, .unset, .unset, .unset] [(.ref b7)]))
    refine own_st (fun t k => XS.astore X7.here hx rfl (hb hby at_43) rfl rfl (l' := #[.val (.int p1), .val (.int p2), .val (.int (0 : Int32)), .val (.int ((p1 &&& (2147483647 : Int32)) % (256 : Int32))), .val (.int (p2 &&& (7 : Int32))), .val (.ref b7), .unset, .unset, .unset]) rfl k) ?_
    show own_Fin _ _ _ _ _ _ _ (T7.setTop (mkF m 45 #[.val (.int p1), .val (.int p2), .val (.int (0 : Int32)), .val (.int ((p1 &&& (2147483647 : Int32)) % (256 : Int32))), .val (.int (p2 &&& (7 : Int32))), .val (.ref b7), .unset, .unset, .unset] []))
    refine own_st (fun t k => XS.iloadN X7.here hx rfl (hb hby at_45) rfl k) ?_
    show own_Fin _ _ _ _ _ _ _ (T7.setTop (mkF m 46 #[.val (.int p1), .val (.int p2), .val (.int (0 : Int32)), .val (.int ((p1 &&& (2147483647 : Int32)) % (256 : Int32))), .val (.int (p2 &&& (7 : Int32))), .val (.ref b7), .unset, .unset, .unset] [(.int ((p1 &&& (2147483647 : Int32)) % (256 : Int32)))]))
    obtain ⟨_, _, ⟨T8, L8, k8, n8⟩, -, X8, ⟨Lc8, hQ8, l8, y8, z8⟩, st8⟩ := Jvm.LawKit.callS X7 hx (y := (⟨"com/example/quietzone/quietzone/datamatrix/AsciiEncodation", "length", "(I)I"⟩ : MethodName)) hown (mvT hZ (hw _ (List.mem_of_getElem? (i := 1) rfl))) (mvT hZ (hw _ (List.mem_of_getElem? (i := 2) rfl))) (mvT hZ (hw _ (List.mem_of_getElem? (i := 3) rfl))) (mvT hZ (hw _ (List.mem_of_getElem? (i := 4) rfl))) (by decide) (backOf (W := 0) (rm1 l Z a0 hw [] ((p1 &&& (2147483647 : Int32)) % (256 : Int32)) h7 n0 Z7) hZ (hw _ (List.mem_of_getElem? (i := 4) rfl)) (hw _ (List.mem_of_getElem? (i := 3) rfl)) (by decide) (by decide)) (g := (mkF m 46 #[.val (.int p1), .val (.int p2), .val (.int (0 : Int32)), .val (.int ((p1 &&& (2147483647 : Int32)) % (256 : Int32))), .val (.int (p2 &&& (7 : Int32))), .val (.ref b7), .unset, .unset, .unset] [(.int ((p1 &&& (2147483647 : Int32)) % (256 : Int32)))])) rfl (by rw [hml]; rfl) (argsL := [(.int ((p1 &&& (2147483647 : Int32)) % (256 : Int32)))]) (rest := []) (lenOf pd_0_0 rfl) rfl (by show 2 * 0 + _ ≤ _; exact Nat.le_of_eq rfl) (hb hby at_46) (fun _ _ => ⟨rfl, e7, (by decide : 1 + 0 ≤ _), (by decide : 10 + 0 ≤ _)⟩)
    dsimp only [Pt.U, Pt.locs, Pt.cells, Pt.slots] at X8 l8 y8 z8 st8 hQ8
    subst l8 y8 z8
    obtain ⟨rfl, N8q, e8⟩ := hQ8
    have N8 := Fr.app N0 N8q
    refine own_st st8 ?_
    show own_Fin _ _ _ _ _ _ _ (T8.setTop (mkF m 49 #[.val (.int p1), .val (.int p2), .val (.int (0 : Int32)), .val (.int ((p1 &&& (2147483647 : Int32)) % (256 : Int32))), .val (.int (p2 &&& (7 : Int32))), .val (.ref b7), .unset, .unset, .unset] [(.int (own_F1 ((p1 &&& (2147483647 : Int32)) % (256 : Int32))))]))
    refine own_st (fun t k => XS.istore X8.here hx rfl (hb hby at_49) rfl (l' := #[.val (.int p1), .val (.int p2), .val (.int (0 : Int32)), .val (.int ((p1 &&& (2147483647 : Int32)) % (256 : Int32))), .val (.int (p2 &&& (7 : Int32))), .val (.ref b7), .val (.int (own_F1 ((p1 &&& (2147483647 : Int32)) % (256 : Int32)))), .unset, .unset]) rfl k) ?_
    show own_Fin _ _ _ _ _ _ _ (T8.setTop (mkF m 51 #[.val (.int p1), .val (.int p2), .val (.int (0 : Int32)), .val (.int ((p1 &&& (2147483647 : Int32)) % (256 : Int32))), .val (.int (p2 &&& (7 : Int32))), .val (.ref b7), .val (.int (own_F1 ((p1 &&& (2147483647 : Int32)) % (256 : Int32)))), .unset, .unset] []))
    refine own_st (fun t k => XS.iloadN X8.here hx rfl (hb hby at_51) rfl k) ?_
    show own_Fin _ _ _ _ _ _ _ (T8.setTop (mkF m 52 #[.val (.int p1), .val (.int p2), .val (.int (0 : Int32)), .val (.int ((p1 &&& (2147483647 : Int32)) % (256 : Int32))), .val (.int (p2 &&& (7 : Int32))), .val (.ref b7), .val (.int (own_F1 ((p1 &&& (2147483647 : Int32)) % (256 : Int32)))), .unset, .unset] [(.int ((p1 &&& (2147483647 : Int32)) % (256 : Int32)))]))
    refine own_st (fun t k => XS.aload X8.here hx rfl (hb hby at_52) rfl rfl k) ?_
    show own_Fin _ _ _ _ _ _ _ (T8.setTop (mkF m 54 #[.val (.int p1), .val (.int p2), .val (.int (0 : Int32)), .val (.int ((p1 &&& (2147483647 : Int32)) % (256 : Int32))), .val (.int (p2 &&& (7 : Int32))), .val (.ref b7), .val (.int (own_F1 ((p1 &&& (2147483647 : Int32)) % (256 : Int32)))), .unset, .unset] [(.ref b7), (.int ((p1 &&& (2147483647 : Int32)) % (256 : Int32)))]))
    refine own_st (fun t k => XS.iload X8.here hx rfl (hb hby at_54) rfl k) ?_
    show own_Fin _ _ _ _ _ _ _ (T8.setTop (mkF m 56 #[.val (.int p1), .val (.int p2), .val (.int (0 : Int32)), .val (.int ((p1 &&& (2147483647 : Int32)) % (256 : Int32))), .val (.int (p2 &&& (7 : Int32))), .val (.ref b7), .val (.int (own_F1 ((p1 &&& (2147483647 : Int32)) % (256 : Int32)))), .unset, .unset] [(.int (p2 &&& (7 : Int32))), (.ref b7), (.int ((p1 &&& (2147483647 : Int32)) % (256 : Int32)))]))
    obtain ⟨_, _, ⟨T9, L9, k9, n9⟩, -, X9, ⟨Lc9, hQ9, l9, y9, z9⟩, st9⟩ := Jvm.LawKit.callS X8 hx (y := (⟨"com/example/quietzone/quietzone/datamatrix/AsciiEncodation", "write", "(I[II)I"⟩ : MethodName)) hown (mvT hZ (hw _ (List.mem_of_getElem? (i := 5) rfl))) (mvT hZ (hw _ (List.mem_of_getElem? (i := 6) rfl))) (mvT hZ (hw _ (List.mem_of_getElem? (i := 3) rfl))) (mvT hZ (hw _ (List.mem_of_getElem? (i := 7) rfl))) (by decide) (backOf (W := 0) (rm2 l Z a0 hw [] ((p1 &&& (2147483647 : Int32)) % (256 : Int32)) b7 (p2 &&& (7 : Int32)) k7 (10 : Int32) [(.int (0 : Int32)), (.int (0 : Int32)), (.int (0 : Int32)), (.int (0 : Int32)), (.int (0 : Int32)), (.int (0 : Int32)), (.int (0 : Int32)), (.int (0 : Int32)), (.int (0 : Int32)), (.int (0 : Int32))] h7 n0 Z7 V7 ge_b7 (own_neg (own_at p2).1) (own_lt (by have := own_at p2; omega)) (own_neg (by have := own_at p2; omega)) (own_lt (by have := own_at p2; omega)) (own_len (by have := own_at p2; omega)) (own_len (by have := own_at p2; omega))) hZ (hw _ (List.mem_of_getElem? (i := 7) rfl)) (hw _ (List.mem_of_getElem? (i := 3) rfl)) (by decide) (by decide)) (g := (mkF m 56 #[.val (.int p1), .val (.int p2), .val (.int (0 : Int32)), .val (.int ((p1 &&& (2147483647 : Int32)) % (256 : Int32))), .val (.int (p2 &&& (7 : Int32))), .val (.ref b7), .val (.int (own_F1 ((p1 &&& (2147483647 : Int32)) % (256 : Int32)))), .unset, .unset] [(.int (p2 &&& (7 : Int32))), (.ref b7), (.int ((p1 &&& (2147483647 : Int32)) % (256 : Int32)))])) rfl (by rw [hml]; rfl) (argsL := [(.int ((p1 &&& (2147483647 : Int32)) % (256 : Int32))), (.ref b7), (.int (p2 &&& (7 : Int32)))]) (rest := []) (lenOf pd_0_1 rfl) rfl (by show 2 * 0 + _ ≤ _; exact Nat.le_of_eq rfl) (hb hby at_56) (fun _ _ => ⟨rfl, e8, (by decide : 1 + 0 ≤ _), (by decide : 10 + 0 ≤ _)⟩)
    dsimp only [Pt.U, Pt.locs, Pt.cells, Pt.slots] at X9 l9 y9 z9 st9 hQ9
    subst l9 y9 z9
    obtain ⟨rfl, N9q, K9, o9⟩ := hQ9
    have N9 := Fr.app N8 N9q
    have Z9 : n0 ≤ T9.heap.size := Nat.le_trans Z7 K9.1
    refine own_st st9 ?_
    show own_Fin _ _ _ _ _ _ _ (T9.setTop (mkF m 59 #[.val (.int p1), .val (.int p2), .val (.int (0 : Int32)), .val (.int ((p1 &&& (2147483647 : Int32)) % (256 : Int32))), .val (.int (p2 &&& (7 : Int32))), .val (.ref b7), .val (.int (own_F1 ((p1 &&& (2147483647 : Int32)) % (256 : Int32)))), .unset, .unset] [(.int (own_wr ((p1 &&& (2147483647 : Int32)) % (256 : Int32)) (p2 &&& (7 : Int32))))]))
    refine own_st (fun t k => XS.istore X9.here hx rfl (hb hby at_59) rfl (l' := #[.val (.int p1), .val (.int p2), .val (.int (0 : Int32)), .val (.int ((p1 &&& (2147483647 : Int32)) % (256 : Int32))), .val (.int (p2 &&& (7 : Int32))), .val (.ref b7), .val (.int (own_F1 ((p1 &&& (2147483647 : Int32)) % (256 : Int32)))), .val (.int (own_wr ((p1 &&& (2147483647 : Int32)) % (256 : Int32)) (p2 &&& (7 : Int32)))), .unset]) rfl k) ?_
    show own_Fin _ _ _ _ _ _ _ (T9.setTop (mkF m 61 #[.val (.int p1), .val (.int p2), .val (.int (0 : Int32)), .val (.int ((p1 &&& (2147483647 : Int32)) % (256 : Int32))), .val (.int (p2 &&& (7 : Int32))), .val (.ref b7), .val (.int (own_F1 ((p1 &&& (2147483647 : Int32)) % (256 : Int32)))), .val (.int (own_wr ((p1 &&& (2147483647 : Int32)) % (256 : Int32)) (p2 &&& (7 : Int32)))), .unset] []))
    refine own_st (fun t k => XS.iconst X9.here hx rfl (hb hby at_61) k) ?_
    show own_Fin _ _ _ _ _ _ _ (T9.setTop (mkF m 62 #[.val (.int p1), .val (.int p2), .val (.int (0 : Int32)), .val (.int ((p1 &&& (2147483647 : Int32)) % (256 : Int32))), .val (.int (p2 &&& (7 : Int32))), .val (.ref b7), .val (.int (own_F1 ((p1 &&& (2147483647 : Int32)) % (256 : Int32)))), .val (.int (own_wr ((p1 &&& (2147483647 : Int32)) % (256 : Int32)) (p2 &&& (7 : Int32)))), .unset] [(.int (1 : Int32))]))
    refine own_st (fun t k => XS.istore X9.here hx rfl (hb hby at_62) rfl (l' := #[.val (.int p1), .val (.int p2), .val (.int (0 : Int32)), .val (.int ((p1 &&& (2147483647 : Int32)) % (256 : Int32))), .val (.int (p2 &&& (7 : Int32))), .val (.ref b7), .val (.int (own_F1 ((p1 &&& (2147483647 : Int32)) % (256 : Int32)))), .val (.int (own_wr ((p1 &&& (2147483647 : Int32)) % (256 : Int32)) (p2 &&& (7 : Int32)))), .val (.int (1 : Int32))]) rfl k) ?_
    show own_Fin _ _ _ _ _ _ _ (T9.setTop (mkF m 64 #[.val (.int p1), .val (.int p2), .val (.int (0 : Int32)), .val (.int ((p1 &&& (2147483647 : Int32)) % (256 : Int32))), .val (.int (p2 &&& (7 : Int32))), .val (.ref b7), .val (.int (own_F1 ((p1 &&& (2147483647 : Int32)) % (256 : Int32)))), .val (.int (own_wr ((p1 &&& (2147483647 : Int32)) % (256 : Int32)) (p2 &&& (7 : Int32)))), .val (.int (1 : Int32))] []))
    refine own_st (fun t k => XS.iloadN X9.here hx rfl (hb hby at_64) rfl k) ?_
    show own_Fin _ _ _ _ _ _ _ (T9.setTop (mkF m 65 #[.val (.int p1), .val (.int p2), .val (.int (0 : Int32)), .val (.int ((p1 &&& (2147483647 : Int32)) % (256 : Int32))), .val (.int (p2 &&& (7 : Int32))), .val (.ref b7), .val (.int (own_F1 ((p1 &&& (2147483647 : Int32)) % (256 : Int32)))), .val (.int (own_wr ((p1 &&& (2147483647 : Int32)) % (256 : Int32)) (p2 &&& (7 : Int32)))), .val (.int (1 : Int32))] [(.int ((p1 &&& (2147483647 : Int32)) % (256 : Int32)))]))
    refine own_st (fun t k => XS.sipush X9.here hx rfl (hb hby at_65) k) ?_
    show own_Fin _ _ _ _ _ _ _ (T9.setTop (mkF m 68 #[.val (.int p1), .val (.int p2), .val (.int (0 : Int32)), .val (.int ((p1 &&& (2147483647 : Int32)) % (256 : Int32))), .val (.int (p2 &&& (7 : Int32))), .val (.ref b7), .val (.int (own_F1 ((p1 &&& (2147483647 : Int32)) % (256 : Int32)))), .val (.int (own_wr ((p1 &&& (2147483647 : Int32)) % (256 : Int32)) (p2 &&& (7 : Int32)))), .val (.int (1 : Int32))] [(.int (128 : Int32)), (.int ((p1 &&& (2147483647 : Int32)) % (256 : Int32)))]))
    by_cases hc68_10 : ((p1 &&& (2147483647 : Int32)) % (256 : Int32)) < (128 : Int32)
    · refine own_st (fun t k => XS.icmpYes X9.here hx rfl (pc0 := 68) (pc' := 81) rfl (hb hby at_68) rfl (tlt hc68_10).1 (by decide) (by decide) k) ?_
      show own_Fin _ _ _ _ _ _ _ (T9.setTop (mkF m 81 #[.val (.int p1), .val (.int p2), .val (.int (0 : Int32)), .val (.int ((p1 &&& (2147483647 : Int32)) % (256 : Int32))), .val (.int (p2 &&& (7 : Int32))), .val (.ref b7), .val (.int (own_F1 ((p1 &&& (2147483647 : Int32)) % (256 : Int32)))), .val (.int (own_wr ((p1 &&& (2147483647 : Int32)) % (256 : Int32)) (p2 &&& (7 : Int32)))), .val (.int (1 : Int32))] []))
      refine own_st (fun t k => XS.iload X9.here hx rfl (hb hby at_81) rfl k) ?_
      show own_Fin _ _ _ _ _ _ _ (T9.setTop (mkF m 83 #[.val (.int p1), .val (.int p2), .val (.int (0 : Int32)), .val (.int ((p1 &&& (2147483647 : Int32)) % (256 : Int32))), .val (.int (p2 &&& (7 : Int32))), .val (.ref b7), .val (.int (own_F1 ((p1 &&& (2147483647 : Int32)) % (256 : Int32)))), .val (.int (own_wr ((p1 &&& (2147483647 : Int32)) % (256 : Int32)) (p2 &&& (7 : Int32)))), .val (.int (1 : Int32))] [(.int (own_F1 ((p1 &&& (2147483647 : Int32)) % (256 : Int32))))]))
      refine own_st (fun t k => XS.iload X9.here hx rfl (hb hby at_83) rfl k) ?_
      show own_Fin _ _ _ _ _ _ _ (T9.setTop (mkF m 85 #[.val (.int p1), .val (.int p2), .val (.int (0 : Int32)), .val (.int ((p1 &&& (2147483647 : Int32)) % (256 : Int32))), .val (.int (p2 &&& (7 : Int32))), .val (.ref b7), .val (.int (own_F1 ((p1 &&& (2147483647 : Int32)) % (256 : Int32)))), .val (.int (own_wr ((p1 &&& (2147483647 : Int32)) % (256 : Int32)) (p2 &&& (7 : Int32)))), .val (.int (1 : Int32))] [(.int (1 : Int32)), (.int (own_F1 ((p1 &&& (2147483647 : Int32)) % (256 : Int32))))]))
      have hd85_11 : (own_F1 ((p1 &&& (2147483647 : Int32)) % (256 : Int32))) = (1 : Int32) := (own_low hc68_10).1
      refine own_st (fun t k => XS.icmpNo X9.here hx rfl (hb hby at_85) rfl (teq hd85_11).2 k) ?_
      show own_Fin _ _ _ _ _ _ _ (T9.setTop (mkF m 88 #[.val (.int p1), .val (.int p2), .val (.int (0 : Int32)), .val (.int ((p1 &&& (2147483647 : Int32)) % (256 : Int32))), .val (.int (p2 &&& (7 : Int32))), .val (.ref b7), .val (.int (own_F1 ((p1 &&& (2147483647 : Int32)) % (256 : Int32)))), .val (.int (own_wr ((p1 &&& (2147483647 : Int32)) % (256 : Int32)) (p2 &&& (7 : Int32)))), .val (.int (1 : Int32))] []))
      refine own_st (fun t k => XS.iload X9.here hx rfl (hb hby at_88) rfl k) ?_
      show own_Fin _ _ _ _ _ _ _ (T9.setTop (mkF m 90 #[.val (.int p1), .val (.int p2), .val (.int (0 : Int32)), .val (.int ((p1 &&& (2147483647 : Int32)) % (256 : Int32))), .val (.int (p2 &&& (7 : Int32))), .val (.ref b7), .val (.int (own_F1 ((p1 &&& (2147483647 : Int32)) % (256 : Int32)))), .val (.int (own_wr ((p1 &&& (2147483647 : Int32)) % (256 : Int32)) (p2 &&& (7 : Int32)))), .val (.int (1 : Int32))] [(.int (own_wr ((p1 &&& (2147483647 : Int32)) % (256 : Int32)) (p2 &&& (7 : Int32))))]))
      refine own_st (fun t k => XS.iload X9.here hx rfl (hb hby at_90) rfl k) ?_
      show own_Fin _ _ _ _ _ _ _ (T9.setTop (mkF m 92 #[.val (.int p1), .val (.int p2), .val (.int (0 : Int32)), .val (.int ((p1 &&& (2147483647 : Int32)) % (256 : Int32))), .val (.int (p2 &&& (7 : Int32))), .val (.ref b7), .val (.int (own_F1 ((p1 &&& (2147483647 : Int32)) % (256 : Int32)))), .val (.int (own_wr ((p1 &&& (2147483647 : Int32)) % (256 : Int32)) (p2 &&& (7 : Int32)))), .val (.int (1 : Int32))] [(.int (p2 &&& (7 : Int32))), (.int (own_wr ((p1 &&& (2147483647 : Int32)) % (256 : Int32)) (p2 &&& (7 : Int32))))]))
      refine own_st (fun t k => XS.isub X9.here hx rfl (hb hby at_92) rfl k) ?_
      show own_Fin _ _ _ _ _ _ _ (T9.setTop (mkF m 93 #[.val (.int p1), .val (.int p2), .val (.int (0 : Int32)), .val (.int ((p1 &&& (2147483647 : Int32)) % (256 : Int32))), .val (.int (p2 &&& (7 : Int32))), .val (.ref b7), .val (.int (own_F1 ((p1 &&& (2147483647 : Int32)) % (256 : Int32)))), .val (.int (own_wr ((p1 &&& (2147483647 : Int32)) % (256 : Int32)) (p2 &&& (7 : Int32)))), .val (.int (1 : Int32))] [(.int ((own_wr ((p1 &&& (2147483647 : Int32)) % (256 : Int32)) (p2 &&& (7 : Int32))) - (p2 &&& (7 : Int32))))]))
      refine own_st (fun t k => XS.iload X9.here hx rfl (hb hby at_93) rfl k) ?_
      show own_Fin _ _ _ _ _ _ _ (T9.setTop (mkF m 95 #[.val (.int p1), .val (.int p2), .val (.int (0 : Int32)), .val (.int ((p1 &&& (2147483647 : Int32)) % (256 : Int32))), .val (.int (p2 &&& (7 : Int32))), .val (.ref b7), .val (.int (own_F1 ((p1 &&& (2147483647 : Int32)) % (256 : Int32)))), .val (.int (own_wr ((p1 &&& (2147483647 : Int32)) % (256 : Int32)) (p2 &&& (7 : Int32)))), .val (.int (1 : Int32))] [(.int (own_F1 ((p1 &&& (2147483647 : Int32)) % (256 : Int32)))), (.int ((own_wr ((p1 &&& (2147483647 : Int32)) % (256 : Int32)) (p2 &&& (7 : Int32))) - (p2 &&& (7 : Int32))))]))
      have hd95_12 : ((own_wr ((p1 &&& (2147483647 : Int32)) % (256 : Int32)) (p2 &&& (7 : Int32))) - (p2 &&& (7 : Int32))) = (own_F1 ((p1 &&& (2147483647 : Int32)) % (256 : Int32))) := ((own_low hc68_10).2 _).trans (own_low hc68_10).1.symm
      refine own_st (fun t k => XS.icmpNo X9.here hx rfl (hb hby at_95) rfl (teq hd95_12).2 k) ?_
      show own_Fin _ _ _ _ _ _ _ (T9.setTop (mkF m 98 #[.val (.int p1), .val (.int p2), .val (.int (0 : Int32)), .val (.int ((p1 &&& (2147483647 : Int32)) % (256 : Int32))), .val (.int (p2 &&& (7 : Int32))), .val (.ref b7), .val (.int (own_F1 ((p1 &&& (2147483647 : Int32)) % (256 : Int32)))), .val (.int (own_wr ((p1 &&& (2147483647 : Int32)) % (256 : Int32)) (p2 &&& (7 : Int32)))), .val (.int (1 : Int32))] []))
      refine own_st (fun t k => XS.iconst X9.here hx rfl (hb hby at_98) k) ?_
      show own_Fin _ _ _ _ _ _ _ (T9.setTop (mkF m 99 #[.val (.int p1), .val (.int p2), .val (.int (0 : Int32)), .val (.int ((p1 &&& (2147483647 : Int32)) % (256 : Int32))), .val (.int (p2 &&& (7 : Int32))), .val (.ref b7), .val (.int (own_F1 ((p1 &&& (2147483647 : Int32)) % (256 : Int32)))), .val (.int (own_wr ((p1 &&& (2147483647 : Int32)) % (256 : Int32)) (p2 &&& (7 : Int32)))), .val (.int (1 : Int32))] [(.int (1 : Int32))]))
      refine own_st (fun t k => XS.goto X9.here hx rfl (pc0 := 99) (pc' := 103) rfl (hb hby at_99) (by decide) (by decide) k) ?_
      show own_Fin _ _ _ _ _ _ _ (T9.setTop (mkF m 103 #[.val (.int p1), .val (.int p2), .val (.int (0 : Int32)), .val (.int ((p1 &&& (2147483647 : Int32)) % (256 : Int32))), .val (.int (p2 &&& (7 : Int32))), .val (.ref b7), .val (.int (own_F1 ((p1 &&& (2147483647 : Int32)) % (256 : Int32)))), .val (.int (own_wr ((p1 &&& (2147483647 : Int32)) % (256 : Int32)) (p2 &&& (7 : Int32)))), .val (.int (1 : Int32))] [(.int (1 : Int32))]))
      exact own_retN X9 hx Bd.notSynchronized (t := .boolean) Bd.returns (by simp) (hb hby at_103) (by decide) (by decide) ⟨rfl, N9, trivial⟩
    · refine own_st (fun t k => XS.icmpNo X9.here hx rfl (hb hby at_68) rfl (flt hc68_10).1 k) ?_
      show own_Fin _ _ _ _ _ _ _ (T9.setTop (mkF m 71 #[.val (.int p1), .val (.int p2), .val (.int (0 : Int32)), .val (.int ((p1 &&& (2147483647 : Int32)) % (256 : Int32))), .val (.int (p2 &&& (7 : Int32))), .val (.ref b7), .val (.int (own_F1 ((p1 &&& (2147483647 : Int32)) % (256 : Int32)))), .val (.int (own_wr ((p1 &&& (2147483647 : Int32)) % (256 : Int32)) (p2 &&& (7 : Int32)))), .val (.int (1 : Int32))] []))
      refine own_st (fun t k => XS.iloadN X9.here hx rfl (hb hby at_71) rfl k) ?_
      show own_Fin _ _ _ _ _ _ _ (T9.setTop (mkF m 72 #[.val (.int p1), .val (.int p2), .val (.int (0 : Int32)), .val (.int ((p1 &&& (2147483647 : Int32)) % (256 : Int32))), .val (.int (p2 &&& (7 : Int32))), .val (.ref b7), .val (.int (own_F1 ((p1 &&& (2147483647 : Int32)) % (256 : Int32)))), .val (.int (own_wr ((p1 &&& (2147483647 : Int32)) % (256 : Int32)) (p2 &&& (7 : Int32)))), .val (.int (1 : Int32))] [(.int ((p1 &&& (2147483647 : Int32)) % (256 : Int32)))]))
      refine own_st (fun t k => XS.sipush X9.here hx rfl (hb hby at_72) k) ?_
      show own_Fin _ _ _ _ _ _ _ (T9.setTop (mkF m 75 #[.val (.int p1), .val (.int p2), .val (.int (0 : Int32)), .val (.int ((p1 &&& (2147483647 : Int32)) % (256 : Int32))), .val (.int (p2 &&& (7 : Int32))), .val (.ref b7), .val (.int (own_F1 ((p1 &&& (2147483647 : Int32)) % (256 : Int32)))), .val (.int (own_wr ((p1 &&& (2147483647 : Int32)) % (256 : Int32)) (p2 &&& (7 : Int32)))), .val (.int (1 : Int32))] [(.int (255 : Int32)), (.int ((p1 &&& (2147483647 : Int32)) % (256 : Int32)))]))
      have hd75_13 : ¬ ((255 : Int32) < ((p1 &&& (2147483647 : Int32)) % (256 : Int32))) := fun q => by have q' := Int32.lt_iff_toInt_lt.mp q; have := own_c p1; rw [show (255 : Int32).toInt = 255 by decide] at q'; omega
      refine own_st (fun t k => XS.icmpNo X9.here hx rfl (hb hby at_75) rfl (flt hd75_13).2.2.1 k) ?_
      show own_Fin _ _ _ _ _ _ _ (T9.setTop (mkF m 78 #[.val (.int p1), .val (.int p2), .val (.int (0 : Int32)), .val (.int ((p1 &&& (2147483647 : Int32)) % (256 : Int32))), .val (.int (p2 &&& (7 : Int32))), .val (.ref b7), .val (.int (own_F1 ((p1 &&& (2147483647 : Int32)) % (256 : Int32)))), .val (.int (own_wr ((p1 &&& (2147483647 : Int32)) % (256 : Int32)) (p2 &&& (7 : Int32)))), .val (.int (1 : Int32))] []))
      refine own_st (fun t k => XS.iconst X9.here hx rfl (hb hby at_78) k) ?_
      show own_Fin _ _ _ _ _ _ _ (T9.setTop (mkF m 79 #[.val (.int p1), .val (.int p2), .val (.int (0 : Int32)), .val (.int ((p1 &&& (2147483647 : Int32)) % (256 : Int32))), .val (.int (p2 &&& (7 : Int32))), .val (.ref b7), .val (.int (own_F1 ((p1 &&& (2147483647 : Int32)) % (256 : Int32)))), .val (.int (own_wr ((p1 &&& (2147483647 : Int32)) % (256 : Int32)) (p2 &&& (7 : Int32)))), .val (.int (1 : Int32))] [(.int (2 : Int32))]))
      refine own_st (fun t k => XS.istore X9.here hx rfl (hb hby at_79) rfl (l' := #[.val (.int p1), .val (.int p2), .val (.int (0 : Int32)), .val (.int ((p1 &&& (2147483647 : Int32)) % (256 : Int32))), .val (.int (p2 &&& (7 : Int32))), .val (.ref b7), .val (.int (own_F1 ((p1 &&& (2147483647 : Int32)) % (256 : Int32)))), .val (.int (own_wr ((p1 &&& (2147483647 : Int32)) % (256 : Int32)) (p2 &&& (7 : Int32)))), .val (.int (2 : Int32))]) rfl k) ?_
      show own_Fin _ _ _ _ _ _ _ (T9.setTop (mkF m 81 #[.val (.int p1), .val (.int p2), .val (.int (0 : Int32)), .val (.int ((p1 &&& (2147483647 : Int32)) % (256 : Int32))), .val (.int (p2 &&& (7 : Int32))), .val (.ref b7), .val (.int (own_F1 ((p1 &&& (2147483647 : Int32)) % (256 : Int32)))), .val (.int (own_wr ((p1 &&& (2147483647 : Int32)) % (256 : Int32)) (p2 &&& (7 : Int32)))), .val (.int (2 : Int32))] []))
      refine own_st (fun t k => XS.iload X9.here hx rfl (hb hby at_81) rfl k) ?_
      show own_Fin _ _ _ _ _ _ _ (T9.setTop (mkF m 83 #[.val (.int p1), .val (.int p2), .val (.int (0 : Int32)), .val (.int ((p1 &&& (2147483647 : Int32)) % (256 : Int32))), .val (.int (p2 &&& (7 : Int32))), .val (.ref b7), .val (.int (own_F1 ((p1 &&& (2147483647 : Int32)) % (256 : Int32)))), .val (.int (own_wr ((p1 &&& (2147483647 : Int32)) % (256 : Int32)) (p2 &&& (7 : Int32)))), .val (.int (2 : Int32))] [(.int (own_F1 ((p1 &&& (2147483647 : Int32)) % (256 : Int32))))]))
      refine own_st (fun t k => XS.iload X9.here hx rfl (hb hby at_83) rfl k) ?_
      show own_Fin _ _ _ _ _ _ _ (T9.setTop (mkF m 85 #[.val (.int p1), .val (.int p2), .val (.int (0 : Int32)), .val (.int ((p1 &&& (2147483647 : Int32)) % (256 : Int32))), .val (.int (p2 &&& (7 : Int32))), .val (.ref b7), .val (.int (own_F1 ((p1 &&& (2147483647 : Int32)) % (256 : Int32)))), .val (.int (own_wr ((p1 &&& (2147483647 : Int32)) % (256 : Int32)) (p2 &&& (7 : Int32)))), .val (.int (2 : Int32))] [(.int (2 : Int32)), (.int (own_F1 ((p1 &&& (2147483647 : Int32)) % (256 : Int32))))]))
      have hd85_14 : (own_F1 ((p1 &&& (2147483647 : Int32)) % (256 : Int32))) = (2 : Int32) := (own_high hc68_10 (own_c p1).2).1
      refine own_st (fun t k => XS.icmpNo X9.here hx rfl (hb hby at_85) rfl (teq hd85_14).2 k) ?_
      show own_Fin _ _ _ _ _ _ _ (T9.setTop (mkF m 88 #[.val (.int p1), .val (.int p2), .val (.int (0 : Int32)), .val (.int ((p1 &&& (2147483647 : Int32)) % (256 : Int32))), .val (.int (p2 &&& (7 : Int32))), .val (.ref b7), .val (.int (own_F1 ((p1 &&& (2147483647 : Int32)) % (256 : Int32)))), .val (.int (own_wr ((p1 &&& (2147483647 : Int32)) % (256 : Int32)) (p2 &&& (7 : Int32)))), .val (.int (2 : Int32))] []))
      refine own_st (fun t k => XS.iload X9.here hx rfl (hb hby at_88) rfl k) ?_
      show own_Fin _ _ _ _ _ _ _ (T9.setTop (mkF m 90 #[.val (.int p1), .val (.int p2), .val (.int (0 : Int32)), .val (.int ((p1 &&& (2147483647 : Int32)) % (256 : Int32))), .val (.int (p2 &&& (7 : Int32))), .val (.ref b7), .val (.int (own_F1 ((p1 &&& (2147483647 : Int32)) % (256 : Int32)))), .val (.int (own_wr ((p1 &&& (2147483647 : Int32)) % (256 : Int32)) (p2 &&& (7 : Int32)))), .val (.int (2 : Int32))] [(.int (own_wr ((p1 &&& (2147483647 : Int32)) % (256 : Int32)) (p2 &&& (7 : Int32))))]))
      refine own_st (fun t k => XS.iload X9.here hx rfl (hb hby at_90) rfl k) ?_
      show own_Fin _ _ _ _ _ _ _ (T9.setTop (mkF m 92 #[.val (.int p1), .val (.int p2), .val (.int (0 : Int32)), .val (.int ((p1 &&& (2147483647 : Int32)) % (256 : Int32))), .val (.int (p2 &&& (7 : Int32))), .val (.ref b7), .val (.int (own_F1 ((p1 &&& (2147483647 : Int32)) % (256 : Int32)))), .val (.int (own_wr ((p1 &&& (2147483647 : Int32)) % (256 : Int32)) (p2 &&& (7 : Int32)))), .val (.int (2 : Int32))] [(.int (p2 &&& (7 : Int32))), (.int (own_wr ((p1 &&& (2147483647 : Int32)) % (256 : Int32)) (p2 &&& (7 : Int32))))]))
      refine own_st (fun t k => XS.isub X9.here hx rfl (hb hby at_92) rfl k) ?_
      show own_Fin _ _ _ _ _ _ _ (T9.setTop (mkF m 93 #[.val (.int p1), .val (.int p2), .val (.int (0 : Int32)), .val (.int ((p1 &&& (2147483647 : Int32)) % (256 : Int32))), .val (.int (p2 &&& (7 : Int32))), .val (.ref b7), .val (.int (own_F1 ((p1 &&& (2147483647 : Int32)) % (256 : Int32)))), .val (.int (own_wr ((p1 &&& (2147483647 : Int32)) % (256 : Int32)) (p2 &&& (7 : Int32)))), .val (.int (2 : Int32))] [(.int ((own_wr ((p1 &&& (2147483647 : Int32)) % (256 : Int32)) (p2 &&& (7 : Int32))) - (p2 &&& (7 : Int32))))]))
      refine own_st (fun t k => XS.iload X9.here hx rfl (hb hby at_93) rfl k) ?_
      show own_Fin _ _ _ _ _ _ _ (T9.setTop (mkF m 95 #[.val (.int p1), .val (.int p2), .val (.int (0 : Int32)), .val (.int ((p1 &&& (2147483647 : Int32)) % (256 : Int32))), .val (.int (p2 &&& (7 : Int32))), .val (.ref b7), .val (.int (own_F1 ((p1 &&& (2147483647 : Int32)) % (256 : Int32)))), .val (.int (own_wr ((p1 &&& (2147483647 : Int32)) % (256 : Int32)) (p2 &&& (7 : Int32)))), .val (.int (2 : Int32))] [(.int (own_F1 ((p1 &&& (2147483647 : Int32)) % (256 : Int32)))), (.int ((own_wr ((p1 &&& (2147483647 : Int32)) % (256 : Int32)) (p2 &&& (7 : Int32))) - (p2 &&& (7 : Int32))))]))
      have hd95_15 : ((own_wr ((p1 &&& (2147483647 : Int32)) % (256 : Int32)) (p2 &&& (7 : Int32))) - (p2 &&& (7 : Int32))) = (own_F1 ((p1 &&& (2147483647 : Int32)) % (256 : Int32))) := ((own_high hc68_10 (own_c p1).2).2 _).trans (own_high hc68_10 (own_c p1).2).1.symm
      refine own_st (fun t k => XS.icmpNo X9.here hx rfl (hb hby at_95) rfl (teq hd95_15).2 k) ?_
      show own_Fin _ _ _ _ _ _ _ (T9.setTop (mkF m 98 #[.val (.int p1), .val (.int p2), .val (.int (0 : Int32)), .val (.int ((p1 &&& (2147483647 : Int32)) % (256 : Int32))), .val (.int (p2 &&& (7 : Int32))), .val (.ref b7), .val (.int (own_F1 ((p1 &&& (2147483647 : Int32)) % (256 : Int32)))), .val (.int (own_wr ((p1 &&& (2147483647 : Int32)) % (256 : Int32)) (p2 &&& (7 : Int32)))), .val (.int (2 : Int32))] []))
      refine own_st (fun t k => XS.iconst X9.here hx rfl (hb hby at_98) k) ?_
      show own_Fin _ _ _ _ _ _ _ (T9.setTop (mkF m 99 #[.val (.int p1), .val (.int p2), .val (.int (0 : Int32)), .val (.int ((p1 &&& (2147483647 : Int32)) % (256 : Int32))), .val (.int (p2 &&& (7 : Int32))), .val (.ref b7), .val (.int (own_F1 ((p1 &&& (2147483647 : Int32)) % (256 : Int32)))), .val (.int (own_wr ((p1 &&& (2147483647 : Int32)) % (256 : Int32)) (p2 &&& (7 : Int32)))), .val (.int (2 : Int32))] [(.int (1 : Int32))]))
      refine own_st (fun t k => XS.goto X9.here hx rfl (pc0 := 99) (pc' := 103) rfl (hb hby at_99) (by decide) (by decide) k) ?_
      show own_Fin _ _ _ _ _ _ _ (T9.setTop (mkF m 103 #[.val (.int p1), .val (.int p2), .val (.int (0 : Int32)), .val (.int ((p1 &&& (2147483647 : Int32)) % (256 : Int32))), .val (.int (p2 &&& (7 : Int32))), .val (.ref b7), .val (.int (own_F1 ((p1 &&& (2147483647 : Int32)) % (256 : Int32)))), .val (.int (own_wr ((p1 &&& (2147483647 : Int32)) % (256 : Int32)) (p2 &&& (7 : Int32)))), .val (.int (2 : Int32))] [(.int (1 : Int32))]))
      exact own_retN X9 hx Bd.notSynchronized (t := .boolean) Bd.returns (by simp) (hb hby at_103) (by decide) (by decide) ⟨rfl, N9, trivial⟩
set_option maxRecDepth 65536 in
set_option maxHeartbeats 40000000 in
theorem comes_1 {Post : Tables → Env → Array Value → State → Outcome → State → Prop} (hpost : ∀ tb e args s v u, (limb_1_1.after args s (.returned v) u = true ∧ limb_1_2.after args s (.returned v) u = true ∧ True) → FrameEnd s (.returned v) u (Jvm.fieldLocs frame_1_writes args s ++ Jvm.arrayLocs frame_1_arrays args s ++ Jvm.staticLocs frame_1_statics s) 16 128 → Post tb e args s (.returned v) u) :
    ArmFor flags0 classFile x code maxLocals ret World_1 tables_1 room_1 Calls_1 rest_1 Pre_1 Post := by
  intro l hfl _ _ p e ha hc hk s m args below hf hA hF happ hP
  obtain ⟨hcalls, hrest, hpre⟩ := hP
  obtain ⟨-, -, -, hnamed, -, -, -, hat⟩ := (Spec.applies_iff hf).mp happ
  obtain ⟨hg, hn⟩ := and_e (Cond.before_iff.mp (show (Jvm.Cond.and given_1 narrow_1).before args s = true from hpre))
  obtain ⟨g3, g4⟩ := and_e hg
  obtain ⟨g5, g6⟩ := and_e g4
  obtain ⟨w0, w1, rfl⟩ : ∃ w0 w1 : Value, args = #[w0, w1] := by
    have hs : args.size = 2 := by simpa [Cond.value, given_1] using g3
    obtain ⟨L⟩ := args
    match L, hs with
    | [w0, w1], _ => exact ⟨w0, w1, rfl⟩
  have hw := fun d (hd : d ∈ tables_1) => atoms_spec (ws := Jvm.Cond.code x code maxLocals ret :: tables_1) hat d (List.mem_cons_of_mem _ hd)
  obtain ⟨i0, ei0⟩ := is_v g5
  obtain rfl : w0 = (.int i0) := Option.some.inj ei0
  obtain ⟨i1, ei1⟩ := is_v g6
  obtain rfl : w1 = (.int i1) := Option.some.inj ei1
  obtain ⟨n, o, h1, h2, h3, v, L, rfl, ⟨hv, N, -⟩, hq⟩ := rm0 l s _ hw tables_1 i0 i1 s.heap s.heap.size (Nat.le_refl _) p e ha hc hk s m _ below hf ((Spec.applies_iff_loose hf).mp happ).1 ⟨rfl, State.Warmed39.refl s, rfl⟩ trivial
  subst hv
  refine ⟨n, _, h1, h2, h3, hpost _ _ _ _ _ _ ⟨Cond.after_iff.mpr rfl, Cond.after_iff.mpr (eq_i res_at (Term.int_eval (1)) rfl), trivial⟩ ⟨hq.1, hq.2.1, (hq.2.2.sift fun y hy => Or.inr (N y hy)).mono (by decide) (by decide)⟩⟩
theorem main_1_1 : Claimed_1_1 := comes_1 fun _ _ _ _ _ _ h hF => ⟨h.1, hF⟩
theorem main_1_2 : Claimed_1_2 := comes_1 fun _ _ _ _ _ _ h hF => ⟨h.2.1, hF⟩
end Jvm.Pilot.@@N@@
namespace Jvm.Pilot.@@N@@
open Jvm Jvm.ClassFile Sem Op Lib Jvm.Free Jvm.Stand Jvm.Pilot.@@N@@.Jvm.D
/-! MADE BY PROGRAM (witnessworld.py) out of the Statement's table words and the real class files: 9 classes; the members and pool entries that the words name. The judged class is class 1, her method 1. -/
namespace start1
open Jvm.ClassFile
def u (s : String) : CpInfo := .utf8 (stringToUtf16 s)
/-- a pool by its gaps: so many unusable entries, then the entry; so many at the end -/
def gap : Nat → List CpInfo → List CpInfo
  | 0, r => r
  | n + 1, r => .unusable :: gap n r
def poolList (es : List (Nat × CpInfo)) (last : Nat) : List CpInfo := es.foldr (fun e r => gap e.1 (e.2 :: r)) (gap last [])
def pool (es : List (Nat × CpInfo)) (last : Nat) : Array CpInfo := ⟨poolList es last⟩
def fileOf (pool : Array CpInfo) (this : Nat) (attrs : Array Attribute := #[]) (ms : Array MethodInfo := #[]) (fl : Nat := 33) (sup : Nat := 0) (ifs : Array Nat := #[]) (fds : Array FieldInfo := #[]) : ClassFile where
  minorVersion := 0
  majorVersion := 65
  constantPool := pool
  accessFlags := fl
  thisClass := this
  superClass := sup
  interfaces := ifs
  fields := fds
  methods := ms
  attributes := attrs
def plain (name : String) (sup : Option ClassId) : Class where
  name := name
  kind := .ordinary
  loader := none
  accessFlags := 33
  super := sup
  interfaces := #[]
  cf := none
  fields := #[]
  methods := #[]
  instanceTypes := #[]
  staticTypes := #[]
  resolved := #[]
  callSites := []
  init := .initialized
  statics := none
  mirror := none

def pool0 : Array CpInfo := pool [(5, u "<init>"), (0, u "()V"), (1, .class_ 10), (1, u "java/lang/Object")] 113

def k0m0 : Method := { name := "<init>", desc := "()V", sig := { parameters := [], returnType := none }, accessFlags := 1, code := none }
/-- java/lang/Object -/
def k0 : Class := { plain "java/lang/Object" none with
  accessFlags := 33
  interfaces := #[]
  cf := some (fileOf pool0 8 #[] #[{ accessFlags := 1, nameIndex := 5, descriptorIndex := 6, attributes := #[] }] 33 0 #[] #[])
  fields := #[]
  methods := #[k0m0]
  instanceTypes := #[]
  staticTypes := #[]
  resolved := Array.replicate 124 none
  statics := none }

def pool1 : Array CpInfo := pool [(2, .class_ 4), (1, u "java/lang/Object"), (0, u "<init>"), (0, u "()V"), (0, .class_ 8), (0, u "com/example/quietzone/quietzone/datamatrix/AsciiEncodation"), (0, .integer 2147483647), (0, .methodref 7 11), (0, .nameAndType 12 13), (0, u "length"), (0, u "(I)I"), (0, .methodref 7 15), (0, .nameAndType 16 17), (0, u "write"), (0, u "(I[II)I"), (0, .class_ 19), (0, u "com/example/quietzone/quietzone/datamatrix/AsciiEncodationLengthPinLaw"), (2, u "law"), (0, u "(II)Z")] 5

def k1m0 : Method := { name := "<init>", desc := "()V", sig := { parameters := [], returnType := none }, accessFlags := 1, code := none }
def k1c1 : Code := { maxStack := 3, maxLocals := 9, code := code, exceptionTable := #[], attributes := #[] }
def k1m1 : Method := { name := "law", desc := "(II)Z", sig := { parameters := [.int, .int], returnType := some .boolean }, accessFlags := 9, code := some k1c1 }
/-- com/example/quietzone/quietzone/datamatrix/AsciiEncodationLengthPinLaw -/
def k1 : Class := { plain "com/example/quietzone/quietzone/datamatrix/AsciiEncodationLengthPinLaw" (some 0) with
  accessFlags := 49
  interfaces := #[]
  cf := some (fileOf pool1 18 #[] #[{ accessFlags := 1, nameIndex := 5, descriptorIndex := 6, attributes := #[] }, { accessFlags := 9, nameIndex := 22, descriptorIndex := 23, attributes := #[] }] 49 2 #[] #[])
  fields := #[]
  methods := #[k1m0, k1m1]
  instanceTypes := #[]
  staticTypes := #[]
  resolved := Array.replicate 29 none
  statics := none }

def pool2 : Array CpInfo := pool [(2, .class_ 4), (1, u "java/lang/Object"), (0, u "<init>"), (0, u "()V"), (0, .class_ 8), (0, u "com/example/quietzone/quietzone/datamatrix/AsciiEncodation"), (13, u "FNC1"), (0, u "I"), (2, u "UNLATCH"), (1, u "DIGIT_PAIR"), (1, u "FNC1_CODEWORD"), (1, u "UPPER_SHIFT"), (1, u "ECI"), (1, u "PAD"), (6, u "length"), (0, u "(I)I"), (0, u "write"), (0, u "(I[II)I")] 9

def k2m0 : Method := { name := "<init>", desc := "()V", sig := { parameters := [], returnType := none }, accessFlags := 2, code := none }
def k2c1 : Code := { maxStack := 2, maxLocals := 1, code := prog_33_method_3_code, exceptionTable := #[], attributes := #[] }
def k2m1 : Method := { name := "length", desc := "(I)I", sig := { parameters := [.int], returnType := some .int }, accessFlags := 8, code := some k2c1 }
def k2c2 : Code := { maxStack := 4, maxLocals := 3, code := prog_33_method_4_code, exceptionTable := #[], attributes := #[] }
def k2m2 : Method := { name := "write", desc := "(I[II)I", sig := { parameters := [.int, (.array .int), .int], returnType := some .int }, accessFlags := 8, code := some k2c2 }
/-- com/example/quietzone/quietzone/datamatrix/AsciiEncodation -/
def k2 : Class := { plain "com/example/quietzone/quietzone/datamatrix/AsciiEncodation" (some 0) with
  accessFlags := 48
  interfaces := #[]
  cf := some (fileOf pool2 7 #[] #[{ accessFlags := 2, nameIndex := 5, descriptorIndex := 6, attributes := #[] }, { accessFlags := 8, nameIndex := 43, descriptorIndex := 44, attributes := #[] }, { accessFlags := 8, nameIndex := 45, descriptorIndex := 46, attributes := #[] }] 48 2 #[] #[{ accessFlags := 24, nameIndex := 22, descriptorIndex := 23, attributes := #[] }, { accessFlags := 24, nameIndex := 26, descriptorIndex := 23, attributes := #[] }, { accessFlags := 26, nameIndex := 28, descriptorIndex := 23, attributes := #[] }, { accessFlags := 26, nameIndex := 30, descriptorIndex := 23, attributes := #[] }, { accessFlags := 26, nameIndex := 32, descriptorIndex := 23, attributes := #[] }, { accessFlags := 26, nameIndex := 34, descriptorIndex := 23, attributes := #[] }, { accessFlags := 26, nameIndex := 36, descriptorIndex := 23, attributes := #[] }])
  fields := #[{ name := "FNC1", type := .int, accessFlags := 24, slot := 0, constantValue := 0 }, { name := "UNLATCH", type := .int, accessFlags := 24, slot := 1, constantValue := 0 }, { name := "DIGIT_PAIR", type := .int, accessFlags := 26, slot := 2, constantValue := 0 }, { name := "FNC1_CODEWORD", type := .int, accessFlags := 26, slot := 3, constantValue := 0 }, { name := "UPPER_SHIFT", type := .int, accessFlags := 26, slot := 4, constantValue := 0 }, { name := "ECI", type := .int, accessFlags := 26, slot := 5, constantValue := 0 }, { name := "PAD", type := .int, accessFlags := 26, slot := 6, constantValue := 0 }]
  methods := #[k2m0, k2m1, k2m2]
  instanceTypes := #[]
  staticTypes := #[.int, .int, .int, .int, .int, .int, .int]
  resolved := Array.replicate 56 none
  statics := none }

def pool3 : Array CpInfo := pool [(1, u "java/lang/Cloneable"), (0, .class_ 1), (0, u "java/lang/Object"), (0, .class_ 3)] 3

/-- java/lang/Cloneable -/
def k3 : Class := { plain "java/lang/Cloneable" (some 0) with
  accessFlags := 1537
  interfaces := #[]
  cf := some (fileOf pool3 2 #[] #[] 1537 4 #[] #[])
  fields := #[]
  methods := #[]
  instanceTypes := #[]
  staticTypes := #[]
  resolved := Array.replicate 8 none
  statics := none }

def pool4 : Array CpInfo := pool [(1, u "java/io/Serializable"), (0, .class_ 1), (0, u "java/lang/Object"), (0, .class_ 3)] 3

/-- java/io/Serializable -/
def k4 : Class := { plain "java/io/Serializable" (some 0) with
  accessFlags := 1537
  interfaces := #[]
  cf := some (fileOf pool4 2 #[] #[] 1537 4 #[] #[])
  fields := #[]
  methods := #[]
  instanceTypes := #[]
  staticTypes := #[]
  resolved := Array.replicate 8 none
  statics := none }

/-- the primitive byte -/
def k5 : Class := { plain "byte" none with kind := .primitive 'B', accessFlags := 0x411 }
/-- [B -/
def k6 : Class := { plain "[B" (some 0) with kind := .array 5 .byte, interfaces := #[3, 4], accessFlags := 1041 }

/-- the primitive int -/
def k7 : Class := { plain "int" none with kind := .primitive 'I', accessFlags := 0x411 }
/-- [I -/
def k8 : Class := { plain "[I" (some 0) with kind := .array 7 .int, interfaces := #[3, 4], accessFlags := 1041 }

def heap : Heap := #[]
def classes : Array Class := #[k0, k1, k2, k3, k4, k5, k6, k7, k8]
def interned : List (Array UInt16 × Addr) := []
def slotsUsed : Nat := 0
def theMethod : MethodId := ⟨1, 1⟩
def args0 : Array Value := #[.int 5, .int 0]
def aboutOver (below : List Frame) : State where
  vm := { classes := classes, interned := interned.toArray }
  heap := heap
  slotsUsed := slotsUsed
  threads := #[{ frames := .invoking theMethod args0 :: below }]
def below0 : List Frame := [.native { method := ⟨0, 0⟩, args := #[] }]
def about1 : State := aboutOver below0
def p0 : Program := .bare "" "" ""
def e0 : Env := launch0.env 0 0 0
theorem w_frames : about1.frames = Frame.invoking theMethod args0 :: below0 := rfl
set_option maxRecDepth 65536 in
theorem w_args : argsFit about1.vm theMethod args0 = true := by decide +kernel
set_option maxRecDepth 65536 in
theorem w_heap : heapFits about1 = true := by decide +kernel
set_option maxRecDepth 65536 in
theorem w_runnable : about1.curStatus? = some .runnable := by decide +kernel
set_option maxRecDepth 65536 in
theorem w_alone : about1.alone = true := by decide +kernel
set_option maxRecDepth 65536 in
theorem w_named : about1.methodNamed? x = some theMethod := by decide +kernel
set_option maxRecDepth 65536 in
theorem w_hears : about1.hears theMethod below0 = true := by decide +kernel
set_option maxRecDepth 65536 in
theorem w_ripe : about1.ripe theMethod args0 below0 = true := by decide +kernel
theorem w_running : about1.status = .running := rfl
set_option maxRecDepth 65536 in
theorem w_room : about1.hasRoom e0.platform room_1 = true :=
  launch0.hasRoom_least _ room_1 (by decide +kernel) (by decide +kernel) (by decide +kernel) (by decide +kernel) (by decide +kernel) (by decide +kernel)
theorem allAtoms_all (ts : List Jvm.Cond) (a : Array Jvm.Value) (st : Jvm.State) : (allAtoms ts).before a st = ts.all (fun c => c.before a st) := by
  induction ts with
  | nil => rfl
  | cons c t ih =>
    show (Jvm.Cond.and c (allAtoms t)).before a st = _
    rw [Jvm.Cond.before_and, ih, List.all_cons]
def words1 : List Jvm.Cond := Jvm.Cond.code x code maxLocals ret :: tables_1
/-- a 'code' word, met by the world's own term for the bytes: nothing is compared byte by byte -/
theorem code_word {y : MethodName} {bytes : ByteArray} {mx : Nat} {rt : Option FieldType} {a : Array Value} {s : State} {m : MethodId} {meth : Method} {c : Code} (h1 : s.methodNamed? y = some m) (h2 : s.vm.method? m = some meth) (h3 : meth.code = some c) (h4 : c.code = bytes)
    (h5 : (c.maxLocals == mx && c.exceptionTable.isEmpty && decide (c.maxStack ≤ mostOperands) && decide (meth.sig.returnType = rt) && !meth.locks && decide (parseMethodDescriptor y.desc = some meth.sig)) = true) : (Jvm.Cond.code y bytes mx rt).before a s = true := by
  simp only [Bool.and_eq_true, beq_iff_eq, Bool.not_eq_true', decide_eq_true_eq] at h5
  obtain ⟨⟨⟨⟨⟨g1, g2⟩, g3⟩, g4⟩, g5⟩, g6⟩ := h5
  simp [Cond.before, Cond.holds, Cond.value, h1, h2, h3, h4, g1, g2, g3, g4, g5, g6]
def isCode : Jvm.Cond → Bool
  | .code _ _ _ _ => true
  | _ => false
theorem all_split {L : List Jvm.Cond} {P : Jvm.Cond → Bool} (h1 : L.all (fun c => isCode c || P c) = true) (h2 : ∀ c ∈ L.filter isCode, P c = true) : L.all P = true := by
  refine List.all_eq_true.mpr fun c hc => ?_
  have h := List.all_eq_true.mp h1 c hc
  rcases Bool.eq_false_or_eq_true (isCode c) with hi | hi
  · exact h2 c (List.mem_filter.mpr ⟨hc, hi⟩)
  · simpa [hi] using h
set_option maxRecDepth 65536 in
theorem w_c0 : (Jvm.Cond.code x code maxLocals ret).before args0 about1 = true := code_word (m := ⟨1, 1⟩) (meth := k1m1) (c := k1c1) (by decide +kernel) rfl rfl rfl (by decide +kernel)
set_option maxRecDepth 65536 in
theorem w_c1 : (Jvm.Cond.code ({ cls := "com/example/quietzone/quietzone/datamatrix/AsciiEncodation", name := "length", desc := "(I)I" } : Jvm.MethodName) prog_33_method_3_code (1 : Nat) (Option.some Jvm.ClassFile.FieldType.int)).before args0 about1 = true := code_word (m := ⟨2, 1⟩) (meth := k2m1) (c := k2c1) (by decide +kernel) rfl rfl rfl (by decide +kernel)
set_option maxRecDepth 65536 in
theorem w_c2 : (Jvm.Cond.code ({ cls := "com/example/quietzone/quietzone/datamatrix/AsciiEncodation", name := "write", desc := "(I[II)I" } : Jvm.MethodName) prog_33_method_4_code (3 : Nat) (Option.some Jvm.ClassFile.FieldType.int)).before args0 about1 = true := code_word (m := ⟨2, 2⟩) (meth := k2m2) (c := k2c2) (by decide +kernel) rfl rfl rfl (by decide +kernel)
def codes1 : List Jvm.Cond := [Jvm.Cond.code x code maxLocals ret, Jvm.Cond.code ({ cls := "com/example/quietzone/quietzone/datamatrix/AsciiEncodation", name := "length", desc := "(I)I" } : Jvm.MethodName) prog_33_method_3_code (1 : Nat) (Option.some Jvm.ClassFile.FieldType.int), Jvm.Cond.code ({ cls := "com/example/quietzone/quietzone/datamatrix/AsciiEncodation", name := "write", desc := "(I[II)I" } : Jvm.MethodName) prog_33_method_4_code (3 : Nat) (Option.some Jvm.ClassFile.FieldType.int)]
set_option maxRecDepth 65536 in
theorem codes_eq : words1.filter isCode = codes1 := rfl
theorem w_codes : ∀ c ∈ words1.filter isCode, c.before args0 about1 = true := by
  rw [codes_eq]
  intro c hc
  simp only [codes1, List.mem_cons, List.not_mem_nil, or_false] at hc
  rcases hc with rfl | rfl | rfl
  · exact w_c0
  · exact w_c1
  · exact w_c2
set_option maxRecDepth 65536 in
theorem w_t1 : words1.all (fun c => isCode c || c.before args0 about1) = true := by decide +kernel
theorem w_tables : (allAtoms (Jvm.Cond.code x code maxLocals ret :: tables_1)).before args0 about1 = true := by
  rw [allAtoms_all]
  show words1.all (fun c => c.before args0 about1) = true
  refine all_split ?_ w_codes
  rw [w_t1]
set_option maxRecDepth 65536 in
theorem w_case : (Jvm.Cond.and given_1 narrow_1).before args0 about1 = true := by decide +kernel
theorem w_applies : (headSpec (Jvm.Cond.code x code maxLocals ret :: tables_1) room_1).applies x e0.platform about1 = true :=
  (Spec.applies_iff w_frames).mpr ⟨w_running, w_runnable, w_alone, w_named, w_hears, w_ripe, w_room, w_tables⟩
theorem atStart : AtStart classFile x code maxLocals ret World_1 tables_1 room_1 Calls_1 rest_1 Pre_1 launch0 p0 e0 about1 theMethod args0 below0 :=
  ⟨lists_1, trivial, launch0.admits_env _ _ _, launch0.least_env, fairChoices_fair.cas, fairChoices_fair.clock, w_frames, w_args, w_heap, w_applies, trivial, trivial, w_case⟩
end start1
theorem witness_1 : WitnessClaimed_1 := ⟨start1.p0, start1.e0, start1.about1, start1.theMethod, start1.args0, start1.below0, start1.atStart⟩
end Jvm.Pilot.@@N@@
