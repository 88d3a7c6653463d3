import JvmDerived
import JvmDerived.Pilot.@@N@@Statement
import JvmDerived.Pilot.@@N@@Code
set_option linter.unusedVariables false
set_option linter.unusedSimpArgs false
namespace Jvm.RoadKit
open Sem ClassFile Op Lib Jvm.Stand Jvm.Free Jvm.LawKit
section New
variable {p : Program} {l : Launch} {e : Env} {R : Room} {s : State} {m : MethodId} {args : Array Value} {below : List Frame} {meth : Method} {c : Code} {T : State} {locs : List Loc} {cells slots : Nat}
theorem retI (X : Stand p l e R s m args below meth c T locs cells slots) (hx : p.tables.exec = Jvm.exec) {pc : Nat} {Ls : Array Slot} {z : Int32} {rest : List Value} (hret : meth.sig.returnType = some .int) (hd : decode c.code pc = .ok (.ireturn, 1)) {fs : List Frame}
    (hl : ∀ (f : JFrame) (acts : List Action), f.method = m → f.locked = none → f.entered = [] → (doReturn e (T.setTop f) acts (some (.int z))).1 = T.setFrames fs) : Steps p.tables e below (T.setTop (mkF m pc Ls (.int z :: rest))) (T.setFrames fs) := by
  have hm' : T.vm.method? m = some meth := X.method'
  have hn : narrow .int (.int z) = .int z := rfl
  show Steps p.tables e below (T.setTop { method := m, pc := pc, locals := Ls, stack := _ :: rest, locked := none }) _
  jvm_step X.here [X.here.top, hx, hd, hm', hret, hn]
  first | (intro acts; rw [hl _ acts rfl rfl rfl]) | rw [hl _ _ rfl rfl rfl]
  exact Steps.refl _
theorem retAddr (X : Stand p l e R s m args below meth c T locs cells slots) (hx : p.tables.exec = Jvm.exec) {pc : Nat} {Ls : Array Slot} {z : Addr} {rest : List Value} {t : FieldType} (hret : meth.sig.returnType = some t) (ht : t.isReference = true) (hd : decode c.code pc = .ok (.areturn, 1)) {fs : List Frame}
    (hl : ∀ (f : JFrame) (acts : List Action), f.method = m → f.locked = none → f.entered = [] → (doReturn e (T.setTop f) acts (some (.ref z))).1 = T.setFrames fs) : Steps p.tables e below (T.setTop (mkF m pc Ls (.ref z :: rest))) (T.setFrames fs) := by
  have hm' : T.vm.method? m = some meth := X.method'
  show Steps p.tables e below (T.setTop { method := m, pc := pc, locals := Ls, stack := _ :: rest, locked := none }) _
  jvm_step X.here [X.here.top, hx, hd, hm', hret, ht, Value.isRef]
  first | (intro acts; rw [hl _ acts rfl rfl rfl]) | rw [hl _ _ rfl rfl rfl]
  exact Steps.refl _
end New
end Jvm.RoadKit
namespace Jvm.Pilot.@@N@@
open Jvm Jvm.ClassFile Sem Op Lib Jvm.Free Jvm.Stand Jvm.LawKit Jvm.RoadKit Bundle Jvm.Pilot.@@N@@.Jvm.D
/-- from A the run ends, returning, as Q says of the value, the heap and the places written -/
def own_Fin (tb : Tables) (e : Env) (below : List Frame) (s : State) (C S : Nat) (Q : Option Value → Heap → List Loc → Prop) (A : State) : Prop :=
  ∃ s₂ o, Steps tb e below A s₂ ∧ s₂.status = .running ∧ Ended s₂ below o ∧ ∃ v L, o = .returned v ∧ Q v s₂.heap L ∧ FrameEnd s o s₂ L C S
theorem own_st {tb : Tables} {e : Env} {below : List Frame} {s : State} {C S : Nat} {Q : Option Value → Heap → List Loc → Prop} {A B : State} (h : ∀ t, Steps tb e below B t → Steps tb e below A t) (k : own_Fin tb e below s C S Q B) : own_Fin tb e below s C S Q A := by
  obtain ⟨s₂, o, h1, h2⟩ := k
  exact ⟨s₂, o, h _ h1, h2⟩
section Ret
variable {p : Program} {l : Launch} {e : Env} {R : Room} {s : State} {m : MethodId} {args : Array Value} {below : List Frame} {meth : Method} {c : Code} {T : State} {locs : List Loc} {cells slots : Nat} {Q : Option Value → Heap → List Loc → Prop} {C S : Nat}
theorem own_retN (X : Stand p l e R s m args below meth c T locs cells slots) (hx : p.tables.exec = Jvm.exec) (hk : meth.locks = false) {t : FieldType} (hret : meth.sig.returnType = some t) (ht : t = .boolean ∨ t = .byte ∨ t = .char ∨ t = .short) {pc : Nat} {Ls : Array Slot} {z : Int32} {rest : List Value} (hd : decode c.code pc = .ok (.ireturn, 1)) (hC : cells ≤ C) (hS : slots ≤ S) (hq : Q (some (.int (nar t z))) T.heap locs) : own_Fin p.tables e below s C S Q (T.setTop (mkF m pc Ls (.int z :: rest))) := by
  obtain ⟨fs, hr, hrun, hended, hW, hsame⟩ := X.leave (v := some (.int (nar t z))) (fun h => by rw [hret] at h; cases h)
  exact ⟨_, _, retN X hx hret ht hd hr, hrun, hended, _, _, rfl, hq, ⟨_, rfl⟩, hW, hsame.mono hC hS⟩
theorem own_retI (X : Stand p l e R s m args below meth c T locs cells slots) (hx : p.tables.exec = Jvm.exec) (hk : meth.locks = false) (hret : meth.sig.returnType = some .int) {pc : Nat} {Ls : Array Slot} {z : Int32} {rest : List Value} (hd : decode c.code pc = .ok (.ireturn, 1)) (hC : cells ≤ C) (hS : slots ≤ S) (hq : Q (some (.int z)) T.heap locs) : own_Fin p.tables e below s C S Q (T.setTop (mkF m pc Ls (.int z :: rest))) := by
  obtain ⟨fs, hr, hrun, hended, hW, hsame⟩ := X.leave (v := some (.int z)) (fun h => by rw [hret] at h; cases h)
  exact ⟨_, _, retI X hx hret hd hr, hrun, hended, _, _, rfl, hq, ⟨_, rfl⟩, hW, hsame.mono hC hS⟩
theorem own_retA (X : Stand p l e R s m args below meth c T locs cells slots) (hx : p.tables.exec = Jvm.exec) (hk : meth.locks = false) {t : FieldType} (hret : meth.sig.returnType = some t) (ht : t.isReference = true) {pc : Nat} {Ls : Array Slot} {z : Addr} {rest : List Value} (hd : decode c.code pc = .ok (.areturn, 1)) (hC : cells ≤ C) (hS : slots ≤ S) (hq : Q (some (.ref z)) T.heap locs) : own_Fin p.tables e below s C S Q (T.setTop (mkF m pc Ls (.ref z :: rest))) := by
  obtain ⟨fs, hr, hrun, hended, hW, hsame⟩ := X.leave (v := some (.ref z)) (fun h => by rw [hret] at h; cases h)
  exact ⟨_, _, retAddr X hx hret ht hd hr, hrun, hended, _, _, rfl, hq, ⟨_, rfl⟩, hW, hsame.mono hC hS⟩
theorem own_retJ (X : Stand p l e R s m args below meth c T locs cells slots) (hx : p.tables.exec = Jvm.exec) (hk : meth.locks = false) (hret : meth.sig.returnType = some .long) {pc : Nat} {Ls : Array Slot} {z : Int64} (hd : decode c.code pc = .ok (.lreturn, 1)) (hC : cells ≤ C) (hS : slots ≤ S) (hq : Q (some (.long z)) T.heap locs) : own_Fin p.tables e below s C S Q (T.setTop (mkF m pc Ls [.long z])) := by
  obtain ⟨fs, hr, hrun, hended, hW, hsame⟩ := X.leave (v := some (.long z)) (fun h => by rw [hret] at h; cases h)
  exact ⟨_, _, X.lreturnOut hx hret hd hr, hrun, hended, _, _, rfl, hq, ⟨_, rfl⟩, hW, hsame.mono hC hS⟩
theorem own_retV (X : Stand p l e R s m args below meth c T locs cells slots) (hx : p.tables.exec = Jvm.exec) (hk : meth.locks = false) (hret : meth.sig.returnType = none) {pc : Nat} {Ls : Array Slot} (hd : decode c.code pc = .ok (.return_, 1)) (hC : cells ≤ C) (hS : slots ≤ S) (hq : Q none T.heap locs) : own_Fin p.tables e below s C S Q (T.setTop (mkF m pc Ls [])) := by
  obtain ⟨fs, hr, hrun, hended, hW, hsame⟩ := X.leave (v := none) (fun _ => rfl)
  exact ⟨_, _, X.returnOut hx hret hd hr, hrun, hended, _, _, rfl, hq, ⟨_, rfl⟩, hW, hsame.mono hC hS⟩
end Ret
theorem own_ltT {a b : Int64} (h : a < b) : ifCond.holds .lt (lcmpW a b) = true ∧ ifCond.holds .ge (lcmpW a b) = false := by
  have q := (lw_lt a b).mpr h
  exact ⟨(if0 _ _).trans (tlt q).1, (if0 _ _).trans (tlt q).2.1⟩
theorem own_ltF {a b : Int64} (h : ¬ a < b) : ifCond.holds .lt (lcmpW a b) = false ∧ ifCond.holds .ge (lcmpW a b) = true := by
  have q := mt (lw_lt a b).mp h
  exact ⟨(if0 _ _).trans (flt q).1, (if0 _ _).trans (flt q).2.1⟩
theorem own_gtT {a b : Int64} (h : b < a) : ifCond.holds .gt (lcmpW a b) = true ∧ ifCond.holds .le (lcmpW a b) = false := by
  have q := (lw_gt a b).mpr h
  exact ⟨(if0 _ _).trans (tlt q).2.2.1, (if0 _ _).trans (tlt q).2.2.2⟩
theorem own_gtF {a b : Int64} (h : ¬ b < a) : ifCond.holds .gt (lcmpW a b) = false ∧ ifCond.holds .le (lcmpW a b) = true := by
  have q := mt (lw_gt a b).mp h
  exact ⟨(if0 _ _).trans (flt q).2.2.1, (if0 _ _).trans (flt q).2.2.2⟩
theorem own_eqT {a b : Int64} (h : a = b) : ifCond.holds .eq (lcmpW a b) = true ∧ ifCond.holds .ne (lcmpW a b) = false := by
  have q := (lw_eq a b).mpr h
  exact ⟨(if0 _ _).trans (teq q).1, (if0 _ _).trans (teq q).2⟩
theorem own_eqF {a b : Int64} (h : ¬ a = b) : ifCond.holds .eq (lcmpW a b) = false ∧ ifCond.holds .ne (lcmpW a b) = true := by
  have q := mt (lw_eq a b).mp h
  exact ⟨(if0 _ _).trans (feq q).1, (if0 _ _).trans (feq q).2⟩
theorem d2_0 : decode jdk_30_method_1_code 0 = .ok (.aload_n 0, 1) := by decide +kernel
theorem d2_1 : decode jdk_30_method_1_code 1 = .ok (.invokespecial 1, 3) := by decide +kernel
theorem d2_4 : decode jdk_30_method_1_code 4 = .ok (.return_, 1) := by decide +kernel
theorem pn_2 : plainFor (⟨"java/lang/Record", "<init>", "()V"⟩ : MethodName) = true := plainFor_of_name (x := (⟨"java/lang/Record", "<init>", "()V"⟩ : MethodName)) (by first | (simp [plainName, overriddenIn]; done) | decide +kernel)
theorem ef_2 (m : MethodId) (a1 : Addr) : entryFrame m #[(.ref a1)] 1 = mkF m 0 #[.val (.ref a1)] [] := by first | (simp [entryFrame, mkF, argsToLocals, Value.category]; done) | rfl
def own_Q_rm2 (Z : State) (a1 : Addr)  (h0 : Heap) (n0 : Nat) (v : Option Value) (h : Heap) (L : List Loc) : Prop := v = none ∧ Fr n0 L ∧ h = h0
set_option maxRecDepth 65536 in
set_option maxHeartbeats 40000000 in
theorem rm2 (l : Launch) (Z : State) (a0 : Array Value) (hw : ∀ d ∈ tables_1, d.before a0 Z = true) (ws : List Jvm.Cond) (a1 : Addr)  (h0 : Heap) (n0 : Nat) (Z0 : n0 ≤ h0.size)  :
    MetFree l (⟨"java/lang/Record", "<init>", "()V"⟩ : MethodName) (head1 (Jvm.Cond.code (⟨"java/lang/Record", "<init>", "()V"⟩ : MethodName) jdk_30_method_1_code 1 none :: ws) ({ frames := 1, cells := 0, slots := 0, locals := 12 } : Room)) (fun a U => a = #[(.ref a1)] ∧ Z.Warmed39 U.vm ∧ U.heap = h0) (fun _ _ _ _ _ => True) (fun _ U o U' => ∃ v L, o = .returned v ∧ own_Q_rm2 Z a1 h0 n0 v U'.heap L ∧ FrameEnd U o U' L ({ frames := 1, cells := 0, slots := 0, locals := 12 } : Room).cells ({ frames := 1, cells := 0, slots := 0, locals := 12 } : Room).slots) := by
  refine MetFree.of_bodySF pn_2 hisR ?_
  intro p e s m args below meth c s₁ Bd hml0 hP hK
  obtain ⟨rfl, hZ, hh⟩ := hP
  have hx := Bd.exec
  have hby := Bd.bytes
  have hml : c.maxLocals = 1 := hml0
  have hown : s.vm.findClass "java/lang/Record" = some m.cls := findClass_of_methodNamed Bd.named
  have hnm := (name_of_methodNamed Bd.named Bd.method).1
  have X0 : Stand p l e ({ frames := 1, cells := 0, slots := 0, locals := 12 } : Room) s m #[(.ref a1)] below meth c s₁ [] 0 0 := Stand.of_body Bd
  have e0 : s₁.heap = h0 := by rw [← hh, Bd.state]; rfl
  have N0 := Fr.nil n0
  show own_Fin p.tables e below s (({ frames := 1, cells := 0, slots := 0, locals := 12 } : Room).cells) (({ frames := 1, cells := 0, slots := 0, locals := 12 } : Room).slots) (own_Q_rm2 Z a1 h0 n0) (s₁.setTop (entryFrame m #[(.ref a1)] 1))
  rw [ef_2 m a1]
  show own_Fin _ _ _ _ _ _ _ (s₁.setTop (mkF m 0 #[.val (.ref a1)] []))
  refine own_st (fun t k => XS.aloadN X0.here hx rfl (hb hby d2_0) rfl rfl k) ?_
  show own_Fin _ _ _ _ _ _ _ (s₁.setTop (mkF m 1 #[.val (.ref a1)] [(.ref a1)]))
  obtain ⟨T1, X1, e1, st1⟩ := initO X0 hx hZ hown (hw _ (List.mem_of_getElem? (i := 12) rfl)) (hw _ (List.mem_of_getElem? (i := 13) rfl)) (hw _ (List.mem_of_getElem? (i := 14) rfl)) e0 (g := (mkF m 1 #[.val (.ref a1)] [(.ref a1)])) rfl (by rw [hml]; rfl) rfl (hb hby d2_1) (by decide) (W := 0) (by show 2 * 0 + _ ≤ _; exact Nat.le_of_eq rfl) (by decide)
  refine own_st st1 ?_
  show own_Fin _ _ _ _ _ _ _ (T1.setTop (mkF m 4 #[.val (.ref a1)] []))
  exact own_retV X1 hx Bd.notSynchronized Bd.returns (hb hby d2_4) (by decide) (by decide) (by rw [e1]; exact ⟨rfl, N0, rfl⟩)
theorem d1_0 : decode prog_38_method_2_code 0 = .ok (.aload_n 0, 1) := by decide +kernel
theorem d1_1 : decode prog_38_method_2_code 1 = .ok (.invokespecial 1, 3) := by decide +kernel
theorem d1_4 : decode prog_38_method_2_code 4 = .ok (.aload_n 0, 1) := by decide +kernel
theorem d1_5 : decode prog_38_method_2_code 5 = .ok (.iload_n 1, 1) := by decide +kernel
theorem d1_6 : decode prog_38_method_2_code 6 = .ok (.putfield 7, 3) := by decide +kernel
theorem d1_9 : decode prog_38_method_2_code 9 = .ok (.aload_n 0, 1) := by decide +kernel
theorem d1_10 : decode prog_38_method_2_code 10 = .ok (.iload_n 2, 1) := by decide +kernel
theorem d1_11 : decode prog_38_method_2_code 11 = .ok (.putfield 13, 3) := by decide +kernel
theorem d1_14 : decode prog_38_method_2_code 14 = .ok (.aload_n 0, 1) := by decide +kernel
theorem d1_15 : decode prog_38_method_2_code 15 = .ok (.iload_n 3, 1) := by decide +kernel
theorem d1_16 : decode prog_38_method_2_code 16 = .ok (.putfield 16, 3) := by decide +kernel
theorem d1_19 : decode prog_38_method_2_code 19 = .ok (.aload_n 0, 1) := by decide +kernel
theorem d1_20 : decode prog_38_method_2_code 20 = .ok (.iload 4, 2) := by decide +kernel
theorem d1_22 : decode prog_38_method_2_code 22 = .ok (.putfield 19, 3) := by decide +kernel
theorem d1_25 : decode prog_38_method_2_code 25 = .ok (.aload_n 0, 1) := by decide +kernel
theorem d1_26 : decode prog_38_method_2_code 26 = .ok (.iload 5, 2) := by decide +kernel
theorem d1_28 : decode prog_38_method_2_code 28 = .ok (.putfield 22, 3) := by decide +kernel
theorem d1_31 : decode prog_38_method_2_code 31 = .ok (.aload_n 0, 1) := by decide +kernel
theorem d1_32 : decode prog_38_method_2_code 32 = .ok (.lload 6, 2) := by decide +kernel
theorem d1_34 : decode prog_38_method_2_code 34 = .ok (.putfield 25, 3) := by decide +kernel
theorem d1_37 : decode prog_38_method_2_code 37 = .ok (.aload_n 0, 1) := by decide +kernel
theorem d1_38 : decode prog_38_method_2_code 38 = .ok (.aload 8, 2) := by decide +kernel
theorem d1_40 : decode prog_38_method_2_code 40 = .ok (.putfield 29, 3) := by decide +kernel
theorem d1_43 : decode prog_38_method_2_code 43 = .ok (.aload_n 0, 1) := by decide +kernel
theorem d1_44 : decode prog_38_method_2_code 44 = .ok (.aload 9, 2) := by decide +kernel
theorem d1_46 : decode prog_38_method_2_code 46 = .ok (.putfield 33, 3) := by decide +kernel
theorem d1_49 : decode prog_38_method_2_code 49 = .ok (.aload_n 0, 1) := by decide +kernel
theorem d1_50 : decode prog_38_method_2_code 50 = .ok (.aload 10, 2) := by decide +kernel
theorem d1_52 : decode prog_38_method_2_code 52 = .ok (.putfield 36, 3) := by decide +kernel
theorem d1_55 : decode prog_38_method_2_code 55 = .ok (.aload_n 0, 1) := by decide +kernel
theorem d1_56 : decode prog_38_method_2_code 56 = .ok (.aload 11, 2) := by decide +kernel
theorem d1_58 : decode prog_38_method_2_code 58 = .ok (.putfield 39, 3) := by decide +kernel
theorem d1_61 : decode prog_38_method_2_code 61 = .ok (.return_, 1) := by decide +kernel
theorem pn_1 : plainFor (⟨"com/example/anchorwatch/anchorwatch/protocol/Packet", "<init>", "(IIIIIJ[B[B[B[B)V"⟩ : MethodName) = true := plainFor_of_name (x := (⟨"com/example/anchorwatch/anchorwatch/protocol/Packet", "<init>", "(IIIIIJ[B[B[B[B)V"⟩ : MethodName)) (by first | (simp [plainName, overriddenIn]; done) | decide +kernel)
theorem pd_1_0 : parseMethodDescriptor "()V" = some ⟨[], none⟩ := by decide +kernel
theorem ef_1 (m : MethodId) (a1 : Addr) (p2 : Int32) (p3 : Int32) (p4 : Int32) (p5 : Int32) (p6 : Int32) (q7 : Int64) (a8 : Addr) (a9 : Addr) (a10 : Addr) (a11 : Addr) : entryFrame m #[(.ref a1), (.int p2), (.int p3), (.int p4), (.int p5), (.int p6), (.long q7), (.ref a8), (.ref a9), (.ref a10), (.ref a11)] 12 = mkF m 0 #[.val (.ref a1), .val (.int p2), .val (.int p3), .val (.int p4), .val (.int p5), .val (.int p6), .val (.long q7), .second, .val (.ref a8), .val (.ref a9), .val (.ref a10), .val (.ref a11)] [] := by first | (simp [entryFrame, mkF, argsToLocals, Value.category]; done) | rfl
def own_Q_rm1 (Z : State) (a1 : Addr) (p2 : Int32) (p3 : Int32) (p4 : Int32) (p5 : Int32) (p6 : Int32) (q7 : Int64) (a8 : Addr) (a9 : Addr) (a10 : Addr) (a11 : Addr)  (h0 : Heap) (n0 : Nat) (v : Option Value) (h : Heap) (L : List Loc) : Prop := v = none ∧ Fr n0 L ∧ Keep h0 h [a1] ∧ Exa Z h a1 "com/example/anchorwatch/anchorwatch/protocol/Packet" ∧ Fld Z h a1 "com/example/anchorwatch/anchorwatch/protocol/Packet" "framing" "[B" (.ref a8) ∧ Fld Z h a1 "com/example/anchorwatch/anchorwatch/protocol/Packet" "extras" "[B" (.ref a9) ∧ Fld Z h a1 "com/example/anchorwatch/anchorwatch/protocol/Packet" "key" "[B" (.ref a10) ∧ Fld Z h a1 "com/example/anchorwatch/anchorwatch/protocol/Packet" "value" "[B" (.ref a11)
set_option maxRecDepth 65536 in
set_option maxHeartbeats 40000000 in
theorem rm1 (l : Launch) (Z : State) (a0 : Array Value) (hw : ∀ d ∈ tables_1, d.before a0 Z = true) (ws : List Jvm.Cond) (a1 : Addr) (p2 : Int32) (p3 : Int32) (p4 : Int32) (p5 : Int32) (p6 : Int32) (q7 : Int64) (a8 : Addr) (a9 : Addr) (a10 : Addr) (a11 : Addr)  (h0 : Heap) (n0 : Nat) (Z0 : n0 ≤ h0.size) (Ei : Exa Z h0 a1 "com/example/anchorwatch/anchorwatch/protocol/Packet") (Fi_magic : Fld Z h0 a1 "com/example/anchorwatch/anchorwatch/protocol/Packet" "magic" "I" (.int (0 : Int32))) (Fi_opcode : Fld Z h0 a1 "com/example/anchorwatch/anchorwatch/protocol/Packet" "opcode" "I" (.int (0 : Int32))) (Fi_dataType : Fld Z h0 a1 "com/example/anchorwatch/anchorwatch/protocol/Packet" "dataType" "I" (.int (0 : Int32))) (Fi_vbucketOrStatus : Fld Z h0 a1 "com/example/anchorwatch/anchorwatch/protocol/Packet" "vbucketOrStatus" "I" (.int (0 : Int32))) (Fi_opaque : Fld Z h0 a1 "com/example/anchorwatch/anchorwatch/protocol/Packet" "opaque" "I" (.int (0 : Int32))) (Fi_cas : Fld Z h0 a1 "com/example/anchorwatch/anchorwatch/protocol/Packet" "cas" "J" (.long (0 : Int64))) (Fi_framing : Fld Z h0 a1 "com/example/anchorwatch/anchorwatch/protocol/Packet" "framing" "[B" .null) (Fi_extras : Fld Z h0 a1 "com/example/anchorwatch/anchorwatch/protocol/Packet" "extras" "[B" .null) (Fi_key : Fld Z h0 a1 "com/example/anchorwatch/anchorwatch/protocol/Packet" "key" "[B" .null) (Fi_value : Fld Z h0 a1 "com/example/anchorwatch/anchorwatch/protocol/Packet" "value" "[B" .null) (gi : n0 ≤ a1) :
    MetFree l (⟨"com/example/anchorwatch/anchorwatch/protocol/Packet", "<init>", "(IIIIIJ[B[B[B[B)V"⟩ : MethodName) (head1 (Jvm.Cond.code (⟨"com/example/anchorwatch/anchorwatch/protocol/Packet", "<init>", "(IIIIIJ[B[B[B[B)V"⟩ : MethodName) prog_38_method_2_code 12 none :: ws) ({ frames := 2, cells := 0, slots := 0, locals := 24 } : Room)) (fun a U => a = #[(.ref a1), (.int p2), (.int p3), (.int p4), (.int p5), (.int p6), (.long q7), (.ref a8), (.ref a9), (.ref a10), (.ref a11)] ∧ Z.Warmed39 U.vm ∧ U.heap = h0) (fun _ _ _ _ _ => True) (fun _ U o U' => ∃ v L, o = .returned v ∧ own_Q_rm1 Z a1 p2 p3 p4 p5 p6 q7 a8 a9 a10 a11 h0 n0 v U'.heap L ∧ FrameEnd U o U' L ({ frames := 2, cells := 0, slots := 0, locals := 24 } : Room).cells ({ frames := 2, cells := 0, slots := 0, locals := 24 } : Room).slots) := by
  refine MetFree.of_bodySF pn_1 hisR ?_
  intro p e s m args below meth c s₁ Bd hml0 hP hK
  obtain ⟨rfl, hZ, hh⟩ := hP
  have hx := Bd.exec
  have hby := Bd.bytes
  have hml : c.maxLocals = 12 := hml0
  have hown : s.vm.findClass "com/example/anchorwatch/anchorwatch/protocol/Packet" = some m.cls := findClass_of_methodNamed Bd.named
  have hnm := (name_of_methodNamed Bd.named Bd.method).1
  have X0 : Stand p l e ({ frames := 2, cells := 0, slots := 0, locals := 24 } : Room) s m #[(.ref a1), (.int p2), (.int p3), (.int p4), (.int p5), (.int p6), (.long q7), (.ref a8), (.ref a9), (.ref a10), (.ref a11)] below meth c s₁ [] 0 0 := Stand.of_body Bd
  have e0 : s₁.heap = h0 := by rw [← hh, Bd.state]; rfl
  have N0 := Fr.nil n0
  have KR : Keep h0 h0 [a1] := Keep.refl h0 [a1]
  show own_Fin p.tables e below s (({ frames := 2, cells := 0, slots := 0, locals := 24 } : Room).cells) (({ frames := 2, cells := 0, slots := 0, locals := 24 } : Room).slots) (own_Q_rm1 Z a1 p2 p3 p4 p5 p6 q7 a8 a9 a10 a11 h0 n0) (s₁.setTop (entryFrame m #[(.ref a1), (.int p2), (.int p3), (.int p4), (.int p5), (.int p6), (.long q7), (.ref a8), (.ref a9), (.ref a10), (.ref a11)] 12))
  rw [ef_1 m a1 p2 p3 p4 p5 p6 q7 a8 a9 a10 a11]
  show own_Fin _ _ _ _ _ _ _ (s₁.setTop (mkF m 0 #[.val (.ref a1), .val (.int p2), .val (.int p3), .val (.int p4), .val (.int p5), .val (.int p6), .val (.long q7), .second, .val (.ref a8), .val (.ref a9), .val (.ref a10), .val (.ref a11)] []))
  refine own_st (fun t k => XS.aloadN X0.here hx rfl (hb hby d1_0) rfl rfl k) ?_
  show own_Fin _ _ _ _ _ _ _ (s₁.setTop (mkF m 1 #[.val (.ref a1), .val (.int p2), .val (.int p3), .val (.int p4), .val (.int p5), .val (.int p6), .val (.long q7), .second, .val (.ref a8), .val (.ref a9), .val (.ref a10), .val (.ref a11)] [(.ref a1)]))
  obtain ⟨_, _, ⟨T1, L1, k1, n1⟩, -, X1, ⟨Lc1, hQ1, l1, y1, z1⟩, st1⟩ := X0.specialBack hx (y := (⟨"java/lang/Record", "<init>", "()V"⟩ : MethodName)) rfl hown (mvT hZ (hw _ (List.mem_of_getElem? (i := 7) rfl))) (mvT hZ (hw _ (List.mem_of_getElem? (i := 8) rfl))) (mvT hZ (hw _ (List.mem_of_getElem? (i := 11) rfl))) (by decide) (backOf (W := 0) (rm2 l Z a0 hw [] a1 h0 n0 Z0) hZ (hw _ (List.mem_of_getElem? (i := 11) rfl)) (hw _ (List.mem_of_getElem? (i := 10) rfl)) (by decide) (by decide)) (g := (mkF m 1 #[.val (.ref a1), .val (.int p2), .val (.int p3), .val (.int p4), .val (.int p5), .val (.int p6), .val (.long q7), .second, .val (.ref a8), .val (.ref a9), .val (.ref a10), .val (.ref a11)] [(.ref a1)])) rfl (by rw [hml]; rfl) (Steps.refl _) (a := a1) (argsL := []) (rest := []) (lenOf pd_1_0 rfl) rfl (by show 2 * 0 + _ ≤ _; exact Nat.le_of_eq rfl) (hb hby d1_1) (fun _ _ => ⟨rfl, e0, (by decide : 0 + 0 ≤ _), (by decide : 0 + 0 ≤ _)⟩)
  dsimp only [Pt.U, Pt.locs, Pt.cells, Pt.slots] at X1 l1 y1 z1 st1 hQ1
  subst l1 y1 z1
  obtain ⟨rfl, N1q, e1⟩ := hQ1
  have N1 := Fr.app N0 N1q
  refine own_st (fun t k => st1.trans k) ?_
  show own_Fin _ _ _ _ _ _ _ (T1.setTop (mkF m 4 #[.val (.ref a1), .val (.int p2), .val (.int p3), .val (.int p4), .val (.int p5), .val (.int p6), .val (.long q7), .second, .val (.ref a8), .val (.ref a9), .val (.ref a10), .val (.ref a11)] []))
  refine own_st (fun t k => XS.aloadN X1.here hx rfl (hb hby d1_4) rfl rfl k) ?_
  show own_Fin _ _ _ _ _ _ _ (T1.setTop (mkF m 5 #[.val (.ref a1), .val (.int p2), .val (.int p3), .val (.int p4), .val (.int p5), .val (.int p6), .val (.long q7), .second, .val (.ref a8), .val (.ref a9), .val (.ref a10), .val (.ref a11)] [(.ref a1)]))
  refine own_st (fun t k => XS.iloadN X1.here hx rfl (hb hby d1_5) rfl k) ?_
  show own_Fin _ _ _ _ _ _ _ (T1.setTop (mkF m 6 #[.val (.ref a1), .val (.int p2), .val (.int p3), .val (.int p4), .val (.int p5), .val (.int p6), .val (.long q7), .second, .val (.ref a8), .val (.ref a9), .val (.ref a10), .val (.ref a11)] [(.int p2), (.ref a1)]))
  obtain ⟨T2, h2, X2, e2, W2, st2⟩ := putF X1 hx hZ hown (host := "") (Or.inl (hw _ (List.mem_of_getElem? (i := 15) rfl))) Via.refl e1 Fi_magic Ei (Or.inr ⟨(hw _ (List.mem_of_getElem? (i := 16) rfl)), rfl, hnm⟩) (hw _ (List.mem_of_getElem? (i := 2) rfl)) (ty := .int) (by decide) rfl rfl (g := (mkF m 6 #[.val (.ref a1), .val (.int p2), .val (.int p3), .val (.int p4), .val (.int p5), .val (.int p6), .val (.long q7), .second, .val (.ref a8), .val (.ref a9), .val (.ref a10), .val (.ref a11)] [(.int p2), (.ref a1)])) rfl rfl (hb hby d1_6)
  have f2_0 := Ei.wr W2
  have f2_1 := Fi_opcode.other W2 (Or.inr (slot_ne (Or.inr (hw _ (List.mem_of_getElem? (i := 18) rfl))) (Or.inr (hw _ (List.mem_of_getElem? (i := 16) rfl))) (by decide) (t := .int) (t' := .int) (by decide) (by decide)))
  have f2_2 := Fi_dataType.other W2 (Or.inr (slot_ne (Or.inr (hw _ (List.mem_of_getElem? (i := 20) rfl))) (Or.inr (hw _ (List.mem_of_getElem? (i := 16) rfl))) (by decide) (t := .int) (t' := .int) (by decide) (by decide)))
  have f2_3 := Fi_vbucketOrStatus.other W2 (Or.inr (slot_ne (Or.inr (hw _ (List.mem_of_getElem? (i := 22) rfl))) (Or.inr (hw _ (List.mem_of_getElem? (i := 16) rfl))) (by decide) (t := .int) (t' := .int) (by decide) (by decide)))
  have f2_4 := Fi_opaque.other W2 (Or.inr (slot_ne (Or.inr (hw _ (List.mem_of_getElem? (i := 24) rfl))) (Or.inr (hw _ (List.mem_of_getElem? (i := 16) rfl))) (by decide) (t := .int) (t' := .int) (by decide) (by decide)))
  have f2_5 := Fi_cas.other W2 (Or.inr (slot_ne (Or.inr (hw _ (List.mem_of_getElem? (i := 26) rfl))) (Or.inr (hw _ (List.mem_of_getElem? (i := 16) rfl))) (by decide) (t := .long) (t' := .int) (by decide) (by decide)))
  have f2_6 := Fi_framing.other W2 (Or.inr (slot_ne (Or.inr (hw _ (List.mem_of_getElem? (i := 28) rfl))) (Or.inr (hw _ (List.mem_of_getElem? (i := 16) rfl))) (by decide) (t := (.array .byte)) (t' := .int) (by decide) (by decide)))
  have f2_7 := Fi_extras.other W2 (Or.inr (slot_ne (Or.inr (hw _ (List.mem_of_getElem? (i := 30) rfl))) (Or.inr (hw _ (List.mem_of_getElem? (i := 16) rfl))) (by decide) (t := (.array .byte)) (t' := .int) (by decide) (by decide)))
  have f2_8 := Fi_key.other W2 (Or.inr (slot_ne (Or.inr (hw _ (List.mem_of_getElem? (i := 32) rfl))) (Or.inr (hw _ (List.mem_of_getElem? (i := 16) rfl))) (by decide) (t := (.array .byte)) (t' := .int) (by decide) (by decide)))
  have f2_9 := Fi_value.other W2 (Or.inr (slot_ne (Or.inr (hw _ (List.mem_of_getElem? (i := 34) rfl))) (Or.inr (hw _ (List.mem_of_getElem? (i := 16) rfl))) (by decide) (t := (.array .byte)) (t' := .int) (by decide) (by decide)))
  have Fw2 : Fld Z h2 a1 "com/example/anchorwatch/anchorwatch/protocol/Packet" "magic" "I" (.int p2) := Fi_magic.same W2
  have N2 := Fr.snoc X2 N1 gi
  have Z2 : n0 ≤ h2.size := Nat.le_trans Z0 (Keep.of_wr W2).1
  have K2 : Keep h0 h2 [a1] := KR.wr W2 (Or.inl (List.mem_of_getElem? (i := 0) rfl))
  refine own_st st2 ?_
  show own_Fin _ _ _ _ _ _ _ (T2.setTop (mkF m 9 #[.val (.ref a1), .val (.int p2), .val (.int p3), .val (.int p4), .val (.int p5), .val (.int p6), .val (.long q7), .second, .val (.ref a8), .val (.ref a9), .val (.ref a10), .val (.ref a11)] []))
  refine own_st (fun t k => XS.aloadN X2.here hx rfl (hb hby d1_9) rfl rfl k) ?_
  show own_Fin _ _ _ _ _ _ _ (T2.setTop (mkF m 10 #[.val (.ref a1), .val (.int p2), .val (.int p3), .val (.int p4), .val (.int p5), .val (.int p6), .val (.long q7), .second, .val (.ref a8), .val (.ref a9), .val (.ref a10), .val (.ref a11)] [(.ref a1)]))
  refine own_st (fun t k => XS.iloadN X2.here hx rfl (hb hby d1_10) rfl k) ?_
  show own_Fin _ _ _ _ _ _ _ (T2.setTop (mkF m 11 #[.val (.ref a1), .val (.int p2), .val (.int p3), .val (.int p4), .val (.int p5), .val (.int p6), .val (.long q7), .second, .val (.ref a8), .val (.ref a9), .val (.ref a10), .val (.ref a11)] [(.int p3), (.ref a1)]))
  obtain ⟨T3, h3, X3, e3, W3, st3⟩ := putF X2 hx hZ hown (host := "") (Or.inl (hw _ (List.mem_of_getElem? (i := 17) rfl))) Via.refl e2 f2_1 f2_0 (Or.inr ⟨(hw _ (List.mem_of_getElem? (i := 18) rfl)), rfl, hnm⟩) (hw _ (List.mem_of_getElem? (i := 2) rfl)) (ty := .int) (by decide) rfl rfl (g := (mkF m 11 #[.val (.ref a1), .val (.int p2), .val (.int p3), .val (.int p4), .val (.int p5), .val (.int p6), .val (.long q7), .second, .val (.ref a8), .val (.ref a9), .val (.ref a10), .val (.ref a11)] [(.int p3), (.ref a1)])) rfl rfl (hb hby d1_11)
  have f3_0 := f2_0.wr W3
  have f3_1 := f2_2.other W3 (Or.inr (slot_ne (Or.inr (hw _ (List.mem_of_getElem? (i := 20) rfl))) (Or.inr (hw _ (List.mem_of_getElem? (i := 18) rfl))) (by decide) (t := .int) (t' := .int) (by decide) (by decide)))
  have f3_2 := f2_3.other W3 (Or.inr (slot_ne (Or.inr (hw _ (List.mem_of_getElem? (i := 22) rfl))) (Or.inr (hw _ (List.mem_of_getElem? (i := 18) rfl))) (by decide) (t := .int) (t' := .int) (by decide) (by decide)))
  have f3_3 := f2_4.other W3 (Or.inr (slot_ne (Or.inr (hw _ (List.mem_of_getElem? (i := 24) rfl))) (Or.inr (hw _ (List.mem_of_getElem? (i := 18) rfl))) (by decide) (t := .int) (t' := .int) (by decide) (by decide)))
  have f3_4 := f2_5.other W3 (Or.inr (slot_ne (Or.inr (hw _ (List.mem_of_getElem? (i := 26) rfl))) (Or.inr (hw _ (List.mem_of_getElem? (i := 18) rfl))) (by decide) (t := .long) (t' := .int) (by decide) (by decide)))
  have f3_5 := f2_6.other W3 (Or.inr (slot_ne (Or.inr (hw _ (List.mem_of_getElem? (i := 28) rfl))) (Or.inr (hw _ (List.mem_of_getElem? (i := 18) rfl))) (by decide) (t := (.array .byte)) (t' := .int) (by decide) (by decide)))
  have f3_6 := f2_7.other W3 (Or.inr (slot_ne (Or.inr (hw _ (List.mem_of_getElem? (i := 30) rfl))) (Or.inr (hw _ (List.mem_of_getElem? (i := 18) rfl))) (by decide) (t := (.array .byte)) (t' := .int) (by decide) (by decide)))
  have f3_7 := f2_8.other W3 (Or.inr (slot_ne (Or.inr (hw _ (List.mem_of_getElem? (i := 32) rfl))) (Or.inr (hw _ (List.mem_of_getElem? (i := 18) rfl))) (by decide) (t := (.array .byte)) (t' := .int) (by decide) (by decide)))
  have f3_8 := f2_9.other W3 (Or.inr (slot_ne (Or.inr (hw _ (List.mem_of_getElem? (i := 34) rfl))) (Or.inr (hw _ (List.mem_of_getElem? (i := 18) rfl))) (by decide) (t := (.array .byte)) (t' := .int) (by decide) (by decide)))
  have f3_9 := Fw2.other W3 (Or.inr (slot_ne (Or.inr (hw _ (List.mem_of_getElem? (i := 16) rfl))) (Or.inr (hw _ (List.mem_of_getElem? (i := 18) rfl))) (by decide) (t := .int) (t' := .int) (by decide) (by decide)))
  have Fw3 : Fld Z h3 a1 "com/example/anchorwatch/anchorwatch/protocol/Packet" "opcode" "I" (.int p3) := f2_1.same W3
  have N3 := Fr.snoc X3 N2 gi
  have Z3 : n0 ≤ h3.size := Nat.le_trans Z2 (Keep.of_wr W3).1
  have K3 : Keep h0 h3 [a1] := K2.wr W3 (Or.inl (List.mem_of_getElem? (i := 0) rfl))
  refine own_st st3 ?_
  show own_Fin _ _ _ _ _ _ _ (T3.setTop (mkF m 14 #[.val (.ref a1), .val (.int p2), .val (.int p3), .val (.int p4), .val (.int p5), .val (.int p6), .val (.long q7), .second, .val (.ref a8), .val (.ref a9), .val (.ref a10), .val (.ref a11)] []))
  refine own_st (fun t k => XS.aloadN X3.here hx rfl (hb hby d1_14) rfl rfl k) ?_
  show own_Fin _ _ _ _ _ _ _ (T3.setTop (mkF m 15 #[.val (.ref a1), .val (.int p2), .val (.int p3), .val (.int p4), .val (.int p5), .val (.int p6), .val (.long q7), .second, .val (.ref a8), .val (.ref a9), .val (.ref a10), .val (.ref a11)] [(.ref a1)]))
  refine own_st (fun t k => XS.iloadN X3.here hx rfl (hb hby d1_15) rfl k) ?_
  show own_Fin _ _ _ _ _ _ _ (T3.setTop (mkF m 16 #[.val (.ref a1), .val (.int p2), .val (.int p3), .val (.int p4), .val (.int p5), .val (.int p6), .val (.long q7), .second, .val (.ref a8), .val (.ref a9), .val (.ref a10), .val (.ref a11)] [(.int p4), (.ref a1)]))
  obtain ⟨T4, h4, X4, e4, W4, st4⟩ := putF X3 hx hZ hown (host := "") (Or.inl (hw _ (List.mem_of_getElem? (i := 19) rfl))) Via.refl e3 f3_1 f3_0 (Or.inr ⟨(hw _ (List.mem_of_getElem? (i := 20) rfl)), rfl, hnm⟩) (hw _ (List.mem_of_getElem? (i := 2) rfl)) (ty := .int) (by decide) rfl rfl (g := (mkF m 16 #[.val (.ref a1), .val (.int p2), .val (.int p3), .val (.int p4), .val (.int p5), .val (.int p6), .val (.long q7), .second, .val (.ref a8), .val (.ref a9), .val (.ref a10), .val (.ref a11)] [(.int p4), (.ref a1)])) rfl rfl (hb hby d1_16)
  have f4_0 := f3_0.wr W4
  have f4_1 := f3_2.other W4 (Or.inr (slot_ne (Or.inr (hw _ (List.mem_of_getElem? (i := 22) rfl))) (Or.inr (hw _ (List.mem_of_getElem? (i := 20) rfl))) (by decide) (t := .int) (t' := .int) (by decide) (by decide)))
  have f4_2 := f3_3.other W4 (Or.inr (slot_ne (Or.inr (hw _ (List.mem_of_getElem? (i := 24) rfl))) (Or.inr (hw _ (List.mem_of_getElem? (i := 20) rfl))) (by decide) (t := .int) (t' := .int) (by decide) (by decide)))
  have f4_3 := f3_4.other W4 (Or.inr (slot_ne (Or.inr (hw _ (List.mem_of_getElem? (i := 26) rfl))) (Or.inr (hw _ (List.mem_of_getElem? (i := 20) rfl))) (by decide) (t := .long) (t' := .int) (by decide) (by decide)))
  have f4_4 := f3_5.other W4 (Or.inr (slot_ne (Or.inr (hw _ (List.mem_of_getElem? (i := 28) rfl))) (Or.inr (hw _ (List.mem_of_getElem? (i := 20) rfl))) (by decide) (t := (.array .byte)) (t' := .int) (by decide) (by decide)))
  have f4_5 := f3_6.other W4 (Or.inr (slot_ne (Or.inr (hw _ (List.mem_of_getElem? (i := 30) rfl))) (Or.inr (hw _ (List.mem_of_getElem? (i := 20) rfl))) (by decide) (t := (.array .byte)) (t' := .int) (by decide) (by decide)))
  have f4_6 := f3_7.other W4 (Or.inr (slot_ne (Or.inr (hw _ (List.mem_of_getElem? (i := 32) rfl))) (Or.inr (hw _ (List.mem_of_getElem? (i := 20) rfl))) (by decide) (t := (.array .byte)) (t' := .int) (by decide) (by decide)))
  have f4_7 := f3_8.other W4 (Or.inr (slot_ne (Or.inr (hw _ (List.mem_of_getElem? (i := 34) rfl))) (Or.inr (hw _ (List.mem_of_getElem? (i := 20) rfl))) (by decide) (t := (.array .byte)) (t' := .int) (by decide) (by decide)))
  have f4_8 := f3_9.other W4 (Or.inr (slot_ne (Or.inr (hw _ (List.mem_of_getElem? (i := 16) rfl))) (Or.inr (hw _ (List.mem_of_getElem? (i := 20) rfl))) (by decide) (t := .int) (t' := .int) (by decide) (by decide)))
  have f4_9 := Fw3.other W4 (Or.inr (slot_ne (Or.inr (hw _ (List.mem_of_getElem? (i := 18) rfl))) (Or.inr (hw _ (List.mem_of_getElem? (i := 20) rfl))) (by decide) (t := .int) (t' := .int) (by decide) (by decide)))
  have Fw4 : Fld Z h4 a1 "com/example/anchorwatch/anchorwatch/protocol/Packet" "dataType" "I" (.int p4) := f3_1.same W4
  have N4 := Fr.snoc X4 N3 gi
  have Z4 : n0 ≤ h4.size := Nat.le_trans Z3 (Keep.of_wr W4).1
  have K4 : Keep h0 h4 [a1] := K3.wr W4 (Or.inl (List.mem_of_getElem? (i := 0) rfl))
  refine own_st st4 ?_
  show own_Fin _ _ _ _ _ _ _ (T4.setTop (mkF m 19 #[.val (.ref a1), .val (.int p2), .val (.int p3), .val (.int p4), .val (.int p5), .val (.int p6), .val (.long q7), .second, .val (.ref a8), .val (.ref a9), .val (.ref a10), .val (.ref a11)] []))
  refine own_st (fun t k => XS.aloadN X4.here hx rfl (hb hby d1_19) rfl rfl k) ?_
  show own_Fin _ _ _ _ _ _ _ (T4.setTop (mkF m 20 #[.val (.ref a1), .val (.int p2), .val (.int p3), .val (.int p4), .val (.int p5), .val (.int p6), .val (.long q7), .second, .val (.ref a8), .val (.ref a9), .val (.ref a10), .val (.ref a11)] [(.ref a1)]))
  refine own_st (fun t k => XS.iload X4.here hx rfl (hb hby d1_20) rfl k) ?_
  show own_Fin _ _ _ _ _ _ _ (T4.setTop (mkF m 22 #[.val (.ref a1), .val (.int p2), .val (.int p3), .val (.int p4), .val (.int p5), .val (.int p6), .val (.long q7), .second, .val (.ref a8), .val (.ref a9), .val (.ref a10), .val (.ref a11)] [(.int p5), (.ref a1)]))
  obtain ⟨T5, h5, X5, e5, W5, st5⟩ := putF X4 hx hZ hown (host := "") (Or.inl (hw _ (List.mem_of_getElem? (i := 21) rfl))) Via.refl e4 f4_1 f4_0 (Or.inr ⟨(hw _ (List.mem_of_getElem? (i := 22) rfl)), rfl, hnm⟩) (hw _ (List.mem_of_getElem? (i := 2) rfl)) (ty := .int) (by decide) rfl rfl (g := (mkF m 22 #[.val (.ref a1), .val (.int p2), .val (.int p3), .val (.int p4), .val (.int p5), .val (.int p6), .val (.long q7), .second, .val (.ref a8), .val (.ref a9), .val (.ref a10), .val (.ref a11)] [(.int p5), (.ref a1)])) rfl rfl (hb hby d1_22)
  have f5_0 := f4_0.wr W5
  have f5_1 := f4_2.other W5 (Or.inr (slot_ne (Or.inr (hw _ (List.mem_of_getElem? (i := 24) rfl))) (Or.inr (hw _ (List.mem_of_getElem? (i := 22) rfl))) (by decide) (t := .int) (t' := .int) (by decide) (by decide)))
  have f5_2 := f4_3.other W5 (Or.inr (slot_ne (Or.inr (hw _ (List.mem_of_getElem? (i := 26) rfl))) (Or.inr (hw _ (List.mem_of_getElem? (i := 22) rfl))) (by decide) (t := .long) (t' := .int) (by decide) (by decide)))
  have f5_3 := f4_4.other W5 (Or.inr (slot_ne (Or.inr (hw _ (List.mem_of_getElem? (i := 28) rfl))) (Or.inr (hw _ (List.mem_of_getElem? (i := 22) rfl))) (by decide) (t := (.array .byte)) (t' := .int) (by decide) (by decide)))
  have f5_4 := f4_5.other W5 (Or.inr (slot_ne (Or.inr (hw _ (List.mem_of_getElem? (i := 30) rfl))) (Or.inr (hw _ (List.mem_of_getElem? (i := 22) rfl))) (by decide) (t := (.array .byte)) (t' := .int) (by decide) (by decide)))
  have f5_5 := f4_6.other W5 (Or.inr (slot_ne (Or.inr (hw _ (List.mem_of_getElem? (i := 32) rfl))) (Or.inr (hw _ (List.mem_of_getElem? (i := 22) rfl))) (by decide) (t := (.array .byte)) (t' := .int) (by decide) (by decide)))
  have f5_6 := f4_7.other W5 (Or.inr (slot_ne (Or.inr (hw _ (List.mem_of_getElem? (i := 34) rfl))) (Or.inr (hw _ (List.mem_of_getElem? (i := 22) rfl))) (by decide) (t := (.array .byte)) (t' := .int) (by decide) (by decide)))
  have f5_7 := f4_8.other W5 (Or.inr (slot_ne (Or.inr (hw _ (List.mem_of_getElem? (i := 16) rfl))) (Or.inr (hw _ (List.mem_of_getElem? (i := 22) rfl))) (by decide) (t := .int) (t' := .int) (by decide) (by decide)))
  have f5_8 := f4_9.other W5 (Or.inr (slot_ne (Or.inr (hw _ (List.mem_of_getElem? (i := 18) rfl))) (Or.inr (hw _ (List.mem_of_getElem? (i := 22) rfl))) (by decide) (t := .int) (t' := .int) (by decide) (by decide)))
  have f5_9 := Fw4.other W5 (Or.inr (slot_ne (Or.inr (hw _ (List.mem_of_getElem? (i := 20) rfl))) (Or.inr (hw _ (List.mem_of_getElem? (i := 22) rfl))) (by decide) (t := .int) (t' := .int) (by decide) (by decide)))
  have Fw5 : Fld Z h5 a1 "com/example/anchorwatch/anchorwatch/protocol/Packet" "vbucketOrStatus" "I" (.int p5) := f4_1.same W5
  have N5 := Fr.snoc X5 N4 gi
  have Z5 : n0 ≤ h5.size := Nat.le_trans Z4 (Keep.of_wr W5).1
  have K5 : Keep h0 h5 [a1] := K4.wr W5 (Or.inl (List.mem_of_getElem? (i := 0) rfl))
  refine own_st st5 ?_
  show own_Fin _ _ _ _ _ _ _ (T5.setTop (mkF m 25 #[.val (.ref a1), .val (.int p2), .val (.int p3), .val (.int p4), .val (.int p5), .val (.int p6), .val (.long q7), .second, .val (.ref a8), .val (.ref a9), .val (.ref a10), .val (.ref a11)] []))
  refine own_st (fun t k => XS.aloadN X5.here hx rfl (hb hby d1_25) rfl rfl k) ?_
  show own_Fin _ _ _ _ _ _ _ (T5.setTop (mkF m 26 #[.val (.ref a1), .val (.int p2), .val (.int p3), .val (.int p4), .val (.int p5), .val (.int p6), .val (.long q7), .second, .val (.ref a8), .val (.ref a9), .val (.ref a10), .val (.ref a11)] [(.ref a1)]))
  refine own_st (fun t k => XS.iload X5.here hx rfl (hb hby d1_26) rfl k) ?_
  show own_Fin _ _ _ _ _ _ _ (T5.setTop (mkF m 28 #[.val (.ref a1), .val (.int p2), .val (.int p3), .val (.int p4), .val (.int p5), .val (.int p6), .val (.long q7), .second, .val (.ref a8), .val (.ref a9), .val (.ref a10), .val (.ref a11)] [(.int p6), (.ref a1)]))
  obtain ⟨T6, h6, X6, e6, W6, st6⟩ := putF X5 hx hZ hown (host := "") (Or.inl (hw _ (List.mem_of_getElem? (i := 23) rfl))) Via.refl e5 f5_1 f5_0 (Or.inr ⟨(hw _ (List.mem_of_getElem? (i := 24) rfl)), rfl, hnm⟩) (hw _ (List.mem_of_getElem? (i := 2) rfl)) (ty := .int) (by decide) rfl rfl (g := (mkF m 28 #[.val (.ref a1), .val (.int p2), .val (.int p3), .val (.int p4), .val (.int p5), .val (.int p6), .val (.long q7), .second, .val (.ref a8), .val (.ref a9), .val (.ref a10), .val (.ref a11)] [(.int p6), (.ref a1)])) rfl rfl (hb hby d1_28)
  have f6_0 := f5_0.wr W6
  have f6_1 := f5_2.other W6 (Or.inr (slot_ne (Or.inr (hw _ (List.mem_of_getElem? (i := 26) rfl))) (Or.inr (hw _ (List.mem_of_getElem? (i := 24) rfl))) (by decide) (t := .long) (t' := .int) (by decide) (by decide)))
  have f6_2 := f5_3.other W6 (Or.inr (slot_ne (Or.inr (hw _ (List.mem_of_getElem? (i := 28) rfl))) (Or.inr (hw _ (List.mem_of_getElem? (i := 24) rfl))) (by decide) (t := (.array .byte)) (t' := .int) (by decide) (by decide)))
  have f6_3 := f5_4.other W6 (Or.inr (slot_ne (Or.inr (hw _ (List.mem_of_getElem? (i := 30) rfl))) (Or.inr (hw _ (List.mem_of_getElem? (i := 24) rfl))) (by decide) (t := (.array .byte)) (t' := .int) (by decide) (by decide)))
  have f6_4 := f5_5.other W6 (Or.inr (slot_ne (Or.inr (hw _ (List.mem_of_getElem? (i := 32) rfl))) (Or.inr (hw _ (List.mem_of_getElem? (i := 24) rfl))) (by decide) (t := (.array .byte)) (t' := .int) (by decide) (by decide)))
  have f6_5 := f5_6.other W6 (Or.inr (slot_ne (Or.inr (hw _ (List.mem_of_getElem? (i := 34) rfl))) (Or.inr (hw _ (List.mem_of_getElem? (i := 24) rfl))) (by decide) (t := (.array .byte)) (t' := .int) (by decide) (by decide)))
  have f6_6 := f5_7.other W6 (Or.inr (slot_ne (Or.inr (hw _ (List.mem_of_getElem? (i := 16) rfl))) (Or.inr (hw _ (List.mem_of_getElem? (i := 24) rfl))) (by decide) (t := .int) (t' := .int) (by decide) (by decide)))
  have f6_7 := f5_8.other W6 (Or.inr (slot_ne (Or.inr (hw _ (List.mem_of_getElem? (i := 18) rfl))) (Or.inr (hw _ (List.mem_of_getElem? (i := 24) rfl))) (by decide) (t := .int) (t' := .int) (by decide) (by decide)))
  have f6_8 := f5_9.other W6 (Or.inr (slot_ne (Or.inr (hw _ (List.mem_of_getElem? (i := 20) rfl))) (Or.inr (hw _ (List.mem_of_getElem? (i := 24) rfl))) (by decide) (t := .int) (t' := .int) (by decide) (by decide)))
  have f6_9 := Fw5.other W6 (Or.inr (slot_ne (Or.inr (hw _ (List.mem_of_getElem? (i := 22) rfl))) (Or.inr (hw _ (List.mem_of_getElem? (i := 24) rfl))) (by decide) (t := .int) (t' := .int) (by decide) (by decide)))
  have Fw6 : Fld Z h6 a1 "com/example/anchorwatch/anchorwatch/protocol/Packet" "opaque" "I" (.int p6) := f5_1.same W6
  have N6 := Fr.snoc X6 N5 gi
  have Z6 : n0 ≤ h6.size := Nat.le_trans Z5 (Keep.of_wr W6).1
  have K6 : Keep h0 h6 [a1] := K5.wr W6 (Or.inl (List.mem_of_getElem? (i := 0) rfl))
  refine own_st st6 ?_
  show own_Fin _ _ _ _ _ _ _ (T6.setTop (mkF m 31 #[.val (.ref a1), .val (.int p2), .val (.int p3), .val (.int p4), .val (.int p5), .val (.int p6), .val (.long q7), .second, .val (.ref a8), .val (.ref a9), .val (.ref a10), .val (.ref a11)] []))
  refine own_st (fun t k => XS.aloadN X6.here hx rfl (hb hby d1_31) rfl rfl k) ?_
  show own_Fin _ _ _ _ _ _ _ (T6.setTop (mkF m 32 #[.val (.ref a1), .val (.int p2), .val (.int p3), .val (.int p4), .val (.int p5), .val (.int p6), .val (.long q7), .second, .val (.ref a8), .val (.ref a9), .val (.ref a10), .val (.ref a11)] [(.ref a1)]))
  refine own_st (fun t k => XS.lload X6.here hx rfl (hb hby d1_32) rfl k) ?_
  show own_Fin _ _ _ _ _ _ _ (T6.setTop (mkF m 34 #[.val (.ref a1), .val (.int p2), .val (.int p3), .val (.int p4), .val (.int p5), .val (.int p6), .val (.long q7), .second, .val (.ref a8), .val (.ref a9), .val (.ref a10), .val (.ref a11)] [(.long q7), (.ref a1)]))
  obtain ⟨T7, h7, X7, e7, W7, st7⟩ := putF X6 hx hZ hown (host := "") (Or.inl (hw _ (List.mem_of_getElem? (i := 25) rfl))) Via.refl e6 f6_1 f6_0 (Or.inr ⟨(hw _ (List.mem_of_getElem? (i := 26) rfl)), rfl, hnm⟩) (hw _ (List.mem_of_getElem? (i := 2) rfl)) (ty := .long) (by decide) rfl rfl (g := (mkF m 34 #[.val (.ref a1), .val (.int p2), .val (.int p3), .val (.int p4), .val (.int p5), .val (.int p6), .val (.long q7), .second, .val (.ref a8), .val (.ref a9), .val (.ref a10), .val (.ref a11)] [(.long q7), (.ref a1)])) rfl rfl (hb hby d1_34)
  have f7_0 := f6_0.wr W7
  have f7_1 := f6_2.other W7 (Or.inr (slot_ne (Or.inr (hw _ (List.mem_of_getElem? (i := 28) rfl))) (Or.inr (hw _ (List.mem_of_getElem? (i := 26) rfl))) (by decide) (t := (.array .byte)) (t' := .long) (by decide) (by decide)))
  have f7_2 := f6_3.other W7 (Or.inr (slot_ne (Or.inr (hw _ (List.mem_of_getElem? (i := 30) rfl))) (Or.inr (hw _ (List.mem_of_getElem? (i := 26) rfl))) (by decide) (t := (.array .byte)) (t' := .long) (by decide) (by decide)))
  have f7_3 := f6_4.other W7 (Or.inr (slot_ne (Or.inr (hw _ (List.mem_of_getElem? (i := 32) rfl))) (Or.inr (hw _ (List.mem_of_getElem? (i := 26) rfl))) (by decide) (t := (.array .byte)) (t' := .long) (by decide) (by decide)))
  have f7_4 := f6_5.other W7 (Or.inr (slot_ne (Or.inr (hw _ (List.mem_of_getElem? (i := 34) rfl))) (Or.inr (hw _ (List.mem_of_getElem? (i := 26) rfl))) (by decide) (t := (.array .byte)) (t' := .long) (by decide) (by decide)))
  have f7_5 := f6_6.other W7 (Or.inr (slot_ne (Or.inr (hw _ (List.mem_of_getElem? (i := 16) rfl))) (Or.inr (hw _ (List.mem_of_getElem? (i := 26) rfl))) (by decide) (t := .int) (t' := .long) (by decide) (by decide)))
  have f7_6 := f6_7.other W7 (Or.inr (slot_ne (Or.inr (hw _ (List.mem_of_getElem? (i := 18) rfl))) (Or.inr (hw _ (List.mem_of_getElem? (i := 26) rfl))) (by decide) (t := .int) (t' := .long) (by decide) (by decide)))
  have f7_7 := f6_8.other W7 (Or.inr (slot_ne (Or.inr (hw _ (List.mem_of_getElem? (i := 20) rfl))) (Or.inr (hw _ (List.mem_of_getElem? (i := 26) rfl))) (by decide) (t := .int) (t' := .long) (by decide) (by decide)))
  have f7_8 := f6_9.other W7 (Or.inr (slot_ne (Or.inr (hw _ (List.mem_of_getElem? (i := 22) rfl))) (Or.inr (hw _ (List.mem_of_getElem? (i := 26) rfl))) (by decide) (t := .int) (t' := .long) (by decide) (by decide)))
  have f7_9 := Fw6.other W7 (Or.inr (slot_ne (Or.inr (hw _ (List.mem_of_getElem? (i := 24) rfl))) (Or.inr (hw _ (List.mem_of_getElem? (i := 26) rfl))) (by decide) (t := .int) (t' := .long) (by decide) (by decide)))
  have Fw7 : Fld Z h7 a1 "com/example/anchorwatch/anchorwatch/protocol/Packet" "cas" "J" (.long q7) := f6_1.same W7
  have N7 := Fr.snoc X7 N6 gi
  have Z7 : n0 ≤ h7.size := Nat.le_trans Z6 (Keep.of_wr W7).1
  have K7 : Keep h0 h7 [a1] := K6.wr W7 (Or.inl (List.mem_of_getElem? (i := 0) rfl))
  refine own_st st7 ?_
  show own_Fin _ _ _ _ _ _ _ (T7.setTop (mkF m 37 #[.val (.ref a1), .val (.int p2), .val (.int p3), .val (.int p4), .val (.int p5), .val (.int p6), .val (.long q7), .second, .val (.ref a8), .val (.ref a9), .val (.ref a10), .val (.ref a11)] []))
  refine own_st (fun t k => XS.aloadN X7.here hx rfl (hb hby d1_37) rfl rfl k) ?_
  show own_Fin _ _ _ _ _ _ _ (T7.setTop (mkF m 38 #[.val (.ref a1), .val (.int p2), .val (.int p3), .val (.int p4), .val (.int p5), .val (.int p6), .val (.long q7), .second, .val (.ref a8), .val (.ref a9), .val (.ref a10), .val (.ref a11)] [(.ref a1)]))
  refine own_st (fun t k => XS.aload X7.here hx rfl (hb hby d1_38) rfl rfl k) ?_
  show own_Fin _ _ _ _ _ _ _ (T7.setTop (mkF m 40 #[.val (.ref a1), .val (.int p2), .val (.int p3), .val (.int p4), .val (.int p5), .val (.int p6), .val (.long q7), .second, .val (.ref a8), .val (.ref a9), .val (.ref a10), .val (.ref a11)] [(.ref a8), (.ref a1)]))
  obtain ⟨T8, h8, X8, e8, W8, st8⟩ := putF X7 hx hZ hown (host := "") (Or.inl (hw _ (List.mem_of_getElem? (i := 27) rfl))) Via.refl e7 f7_1 f7_0 (Or.inr ⟨(hw _ (List.mem_of_getElem? (i := 28) rfl)), rfl, hnm⟩) (hw _ (List.mem_of_getElem? (i := 2) rfl)) (ty := (.array .byte)) (by decide) rfl rfl (g := (mkF m 40 #[.val (.ref a1), .val (.int p2), .val (.int p3), .val (.int p4), .val (.int p5), .val (.int p6), .val (.long q7), .second, .val (.ref a8), .val (.ref a9), .val (.ref a10), .val (.ref a11)] [(.ref a8), (.ref a1)])) rfl rfl (hb hby d1_40)
  have f8_0 := f7_0.wr W8
  have f8_1 := f7_2.other W8 (Or.inr (slot_ne (Or.inr (hw _ (List.mem_of_getElem? (i := 30) rfl))) (Or.inr (hw _ (List.mem_of_getElem? (i := 28) rfl))) (by decide) (t := (.array .byte)) (t' := (.array .byte)) (by decide) (by decide)))
  have f8_2 := f7_3.other W8 (Or.inr (slot_ne (Or.inr (hw _ (List.mem_of_getElem? (i := 32) rfl))) (Or.inr (hw _ (List.mem_of_getElem? (i := 28) rfl))) (by decide) (t := (.array .byte)) (t' := (.array .byte)) (by decide) (by decide)))
  have f8_3 := f7_4.other W8 (Or.inr (slot_ne (Or.inr (hw _ (List.mem_of_getElem? (i := 34) rfl))) (Or.inr (hw _ (List.mem_of_getElem? (i := 28) rfl))) (by decide) (t := (.array .byte)) (t' := (.array .byte)) (by decide) (by decide)))
  have f8_4 := f7_5.other W8 (Or.inr (slot_ne (Or.inr (hw _ (List.mem_of_getElem? (i := 16) rfl))) (Or.inr (hw _ (List.mem_of_getElem? (i := 28) rfl))) (by decide) (t := .int) (t' := (.array .byte)) (by decide) (by decide)))
  have f8_5 := f7_6.other W8 (Or.inr (slot_ne (Or.inr (hw _ (List.mem_of_getElem? (i := 18) rfl))) (Or.inr (hw _ (List.mem_of_getElem? (i := 28) rfl))) (by decide) (t := .int) (t' := (.array .byte)) (by decide) (by decide)))
  have f8_6 := f7_7.other W8 (Or.inr (slot_ne (Or.inr (hw _ (List.mem_of_getElem? (i := 20) rfl))) (Or.inr (hw _ (List.mem_of_getElem? (i := 28) rfl))) (by decide) (t := .int) (t' := (.array .byte)) (by decide) (by decide)))
  have f8_7 := f7_8.other W8 (Or.inr (slot_ne (Or.inr (hw _ (List.mem_of_getElem? (i := 22) rfl))) (Or.inr (hw _ (List.mem_of_getElem? (i := 28) rfl))) (by decide) (t := .int) (t' := (.array .byte)) (by decide) (by decide)))
  have f8_8 := f7_9.other W8 (Or.inr (slot_ne (Or.inr (hw _ (List.mem_of_getElem? (i := 24) rfl))) (Or.inr (hw _ (List.mem_of_getElem? (i := 28) rfl))) (by decide) (t := .int) (t' := (.array .byte)) (by decide) (by decide)))
  have f8_9 := Fw7.other W8 (Or.inr (slot_ne (Or.inr (hw _ (List.mem_of_getElem? (i := 26) rfl))) (Or.inr (hw _ (List.mem_of_getElem? (i := 28) rfl))) (by decide) (t := .long) (t' := (.array .byte)) (by decide) (by decide)))
  have Fw8 : Fld Z h8 a1 "com/example/anchorwatch/anchorwatch/protocol/Packet" "framing" "[B" (.ref a8) := f7_1.same W8
  have N8 := Fr.snoc X8 N7 gi
  have Z8 : n0 ≤ h8.size := Nat.le_trans Z7 (Keep.of_wr W8).1
  have K8 : Keep h0 h8 [a1] := K7.wr W8 (Or.inl (List.mem_of_getElem? (i := 0) rfl))
  refine own_st st8 ?_
  show own_Fin _ _ _ _ _ _ _ (T8.setTop (mkF m 43 #[.val (.ref a1), .val (.int p2), .val (.int p3), .val (.int p4), .val (.int p5), .val (.int p6), .val (.long q7), .second, .val (.ref a8), .val (.ref a9), .val (.ref a10), .val (.ref a11)] []))
  refine own_st (fun t k => XS.aloadN X8.here hx rfl (hb hby d1_43) rfl rfl k) ?_
  show own_Fin _ _ _ _ _ _ _ (T8.setTop (mkF m 44 #[.val (.ref a1), .val (.int p2), .val (.int p3), .val (.int p4), .val (.int p5), .val (.int p6), .val (.long q7), .second, .val (.ref a8), .val (.ref a9), .val (.ref a10), .val (.ref a11)] [(.ref a1)]))
  refine own_st (fun t k => XS.aload X8.here hx rfl (hb hby d1_44) rfl rfl k) ?_
  show own_Fin _ _ _ _ _ _ _ (T8.setTop (mkF m 46 #[.val (.ref a1), .val (.int p2), .val (.int p3), .val (.int p4), .val (.int p5), .val (.int p6), .val (.long q7), .second, .val (.ref a8), .val (.ref a9), .val (.ref a10), .val (.ref a11)] [(.ref a9), (.ref a1)]))
  obtain ⟨T9, h9, X9, e9, W9, st9⟩ := putF X8 hx hZ hown (host := "") (Or.inl (hw _ (List.mem_of_getElem? (i := 29) rfl))) Via.refl e8 f8_1 f8_0 (Or.inr ⟨(hw _ (List.mem_of_getElem? (i := 30) rfl)), rfl, hnm⟩) (hw _ (List.mem_of_getElem? (i := 2) rfl)) (ty := (.array .byte)) (by decide) rfl rfl (g := (mkF m 46 #[.val (.ref a1), .val (.int p2), .val (.int p3), .val (.int p4), .val (.int p5), .val (.int p6), .val (.long q7), .second, .val (.ref a8), .val (.ref a9), .val (.ref a10), .val (.ref a11)] [(.ref a9), (.ref a1)])) rfl rfl (hb hby d1_46)
  have f9_0 := f8_0.wr W9
  have f9_1 := f8_2.other W9 (Or.inr (slot_ne (Or.inr (hw _ (List.mem_of_getElem? (i := 32) rfl))) (Or.inr (hw _ (List.mem_of_getElem? (i := 30) rfl))) (by decide) (t := (.array .byte)) (t' := (.array .byte)) (by decide) (by decide)))
  have f9_2 := f8_3.other W9 (Or.inr (slot_ne (Or.inr (hw _ (List.mem_of_getElem? (i := 34) rfl))) (Or.inr (hw _ (List.mem_of_getElem? (i := 30) rfl))) (by decide) (t := (.array .byte)) (t' := (.array .byte)) (by decide) (by decide)))
  have f9_3 := f8_4.other W9 (Or.inr (slot_ne (Or.inr (hw _ (List.mem_of_getElem? (i := 16) rfl))) (Or.inr (hw _ (List.mem_of_getElem? (i := 30) rfl))) (by decide) (t := .int) (t' := (.array .byte)) (by decide) (by decide)))
  have f9_4 := f8_5.other W9 (Or.inr (slot_ne (Or.inr (hw _ (List.mem_of_getElem? (i := 18) rfl))) (Or.inr (hw _ (List.mem_of_getElem? (i := 30) rfl))) (by decide) (t := .int) (t' := (.array .byte)) (by decide) (by decide)))
  have f9_5 := f8_6.other W9 (Or.inr (slot_ne (Or.inr (hw _ (List.mem_of_getElem? (i := 20) rfl))) (Or.inr (hw _ (List.mem_of_getElem? (i := 30) rfl))) (by decide) (t := .int) (t' := (.array .byte)) (by decide) (by decide)))
  have f9_6 := f8_7.other W9 (Or.inr (slot_ne (Or.inr (hw _ (List.mem_of_getElem? (i := 22) rfl))) (Or.inr (hw _ (List.mem_of_getElem? (i := 30) rfl))) (by decide) (t := .int) (t' := (.array .byte)) (by decide) (by decide)))
  have f9_7 := f8_8.other W9 (Or.inr (slot_ne (Or.inr (hw _ (List.mem_of_getElem? (i := 24) rfl))) (Or.inr (hw _ (List.mem_of_getElem? (i := 30) rfl))) (by decide) (t := .int) (t' := (.array .byte)) (by decide) (by decide)))
  have f9_8 := f8_9.other W9 (Or.inr (slot_ne (Or.inr (hw _ (List.mem_of_getElem? (i := 26) rfl))) (Or.inr (hw _ (List.mem_of_getElem? (i := 30) rfl))) (by decide) (t := .long) (t' := (.array .byte)) (by decide) (by decide)))
  have f9_9 := Fw8.other W9 (Or.inr (slot_ne (Or.inr (hw _ (List.mem_of_getElem? (i := 28) rfl))) (Or.inr (hw _ (List.mem_of_getElem? (i := 30) rfl))) (by decide) (t := (.array .byte)) (t' := (.array .byte)) (by decide) (by decide)))
  have Fw9 : Fld Z h9 a1 "com/example/anchorwatch/anchorwatch/protocol/Packet" "extras" "[B" (.ref a9) := f8_1.same W9
  have N9 := Fr.snoc X9 N8 gi
  have Z9 : n0 ≤ h9.size := Nat.le_trans Z8 (Keep.of_wr W9).1
  have K9 : Keep h0 h9 [a1] := K8.wr W9 (Or.inl (List.mem_of_getElem? (i := 0) rfl))
  refine own_st st9 ?_
  show own_Fin _ _ _ _ _ _ _ (T9.setTop (mkF m 49 #[.val (.ref a1), .val (.int p2), .val (.int p3), .val (.int p4), .val (.int p5), .val (.int p6), .val (.long q7), .second, .val (.ref a8), .val (.ref a9), .val (.ref a10), .val (.ref a11)] []))
  refine own_st (fun t k => XS.aloadN X9.here hx rfl (hb hby d1_49) rfl rfl k) ?_
  show own_Fin _ _ _ _ _ _ _ (T9.setTop (mkF m 50 #[.val (.ref a1), .val (.int p2), .val (.int p3), .val (.int p4), .val (.int p5), .val (.int p6), .val (.long q7), .second, .val (.ref a8), .val (.ref a9), .val (.ref a10), .val (.ref a11)] [(.ref a1)]))
  refine own_st (fun t k => XS.aload X9.here hx rfl (hb hby d1_50) rfl rfl k) ?_
  show own_Fin _ _ _ _ _ _ _ (T9.setTop (mkF m 52 #[.val (.ref a1), .val (.int p2), .val (.int p3), .val (.int p4), .val (.int p5), .val (.int p6), .val (.long q7), .second, .val (.ref a8), .val (.ref a9), .val (.ref a10), .val (.ref a11)] [(.ref a10), (.ref a1)]))
  obtain ⟨T10, h10, X10, e10, W10, st10⟩ := putF X9 hx hZ hown (host := "") (Or.inl (hw _ (List.mem_of_getElem? (i := 31) rfl))) Via.refl e9 f9_1 f9_0 (Or.inr ⟨(hw _ (List.mem_of_getElem? (i := 32) rfl)), rfl, hnm⟩) (hw _ (List.mem_of_getElem? (i := 2) rfl)) (ty := (.array .byte)) (by decide) rfl rfl (g := (mkF m 52 #[.val (.ref a1), .val (.int p2), .val (.int p3), .val (.int p4), .val (.int p5), .val (.int p6), .val (.long q7), .second, .val (.ref a8), .val (.ref a9), .val (.ref a10), .val (.ref a11)] [(.ref a10), (.ref a1)])) rfl rfl (hb hby d1_52)
  have f10_0 := f9_0.wr W10
  have f10_1 := f9_2.other W10 (Or.inr (slot_ne (Or.inr (hw _ (List.mem_of_getElem? (i := 34) rfl))) (Or.inr (hw _ (List.mem_of_getElem? (i := 32) rfl))) (by decide) (t := (.array .byte)) (t' := (.array .byte)) (by decide) (by decide)))
  have f10_2 := f9_3.other W10 (Or.inr (slot_ne (Or.inr (hw _ (List.mem_of_getElem? (i := 16) rfl))) (Or.inr (hw _ (List.mem_of_getElem? (i := 32) rfl))) (by decide) (t := .int) (t' := (.array .byte)) (by decide) (by decide)))
  have f10_3 := f9_4.other W10 (Or.inr (slot_ne (Or.inr (hw _ (List.mem_of_getElem? (i := 18) rfl))) (Or.inr (hw _ (List.mem_of_getElem? (i := 32) rfl))) (by decide) (t := .int) (t' := (.array .byte)) (by decide) (by decide)))
  have f10_4 := f9_5.other W10 (Or.inr (slot_ne (Or.inr (hw _ (List.mem_of_getElem? (i := 20) rfl))) (Or.inr (hw _ (List.mem_of_getElem? (i := 32) rfl))) (by decide) (t := .int) (t' := (.array .byte)) (by decide) (by decide)))
  have f10_5 := f9_6.other W10 (Or.inr (slot_ne (Or.inr (hw _ (List.mem_of_getElem? (i := 22) rfl))) (Or.inr (hw _ (List.mem_of_getElem? (i := 32) rfl))) (by decide) (t := .int) (t' := (.array .byte)) (by decide) (by decide)))
  have f10_6 := f9_7.other W10 (Or.inr (slot_ne (Or.inr (hw _ (List.mem_of_getElem? (i := 24) rfl))) (Or.inr (hw _ (List.mem_of_getElem? (i := 32) rfl))) (by decide) (t := .int) (t' := (.array .byte)) (by decide) (by decide)))
  have f10_7 := f9_8.other W10 (Or.inr (slot_ne (Or.inr (hw _ (List.mem_of_getElem? (i := 26) rfl))) (Or.inr (hw _ (List.mem_of_getElem? (i := 32) rfl))) (by decide) (t := .long) (t' := (.array .byte)) (by decide) (by decide)))
  have f10_8 := f9_9.other W10 (Or.inr (slot_ne (Or.inr (hw _ (List.mem_of_getElem? (i := 28) rfl))) (Or.inr (hw _ (List.mem_of_getElem? (i := 32) rfl))) (by decide) (t := (.array .byte)) (t' := (.array .byte)) (by decide) (by decide)))
  have f10_9 := Fw9.other W10 (Or.inr (slot_ne (Or.inr (hw _ (List.mem_of_getElem? (i := 30) rfl))) (Or.inr (hw _ (List.mem_of_getElem? (i := 32) rfl))) (by decide) (t := (.array .byte)) (t' := (.array .byte)) (by decide) (by decide)))
  have Fw10 : Fld Z h10 a1 "com/example/anchorwatch/anchorwatch/protocol/Packet" "key" "[B" (.ref a10) := f9_1.same W10
  have N10 := Fr.snoc X10 N9 gi
  have Z10 : n0 ≤ h10.size := Nat.le_trans Z9 (Keep.of_wr W10).1
  have K10 : Keep h0 h10 [a1] := K9.wr W10 (Or.inl (List.mem_of_getElem? (i := 0) rfl))
  refine own_st st10 ?_
  show own_Fin _ _ _ _ _ _ _ (T10.setTop (mkF m 55 #[.val (.ref a1), .val (.int p2), .val (.int p3), .val (.int p4), .val (.int p5), .val (.int p6), .val (.long q7), .second, .val (.ref a8), .val (.ref a9), .val (.ref a10), .val (.ref a11)] []))
  refine own_st (fun t k => XS.aloadN X10.here hx rfl (hb hby d1_55) rfl rfl k) ?_
  show own_Fin _ _ _ _ _ _ _ (T10.setTop (mkF m 56 #[.val (.ref a1), .val (.int p2), .val (.int p3), .val (.int p4), .val (.int p5), .val (.int p6), .val (.long q7), .second, .val (.ref a8), .val (.ref a9), .val (.ref a10), .val (.ref a11)] [(.ref a1)]))
  refine own_st (fun t k => XS.aload X10.here hx rfl (hb hby d1_56) rfl rfl k) ?_
  show own_Fin _ _ _ _ _ _ _ (T10.setTop (mkF m 58 #[.val (.ref a1), .val (.int p2), .val (.int p3), .val (.int p4), .val (.int p5), .val (.int p6), .val (.long q7), .second, .val (.ref a8), .val (.ref a9), .val (.ref a10), .val (.ref a11)] [(.ref a11), (.ref a1)]))
  obtain ⟨T11, h11, X11, e11, W11, st11⟩ := putF X10 hx hZ hown (host := "") (Or.inl (hw _ (List.mem_of_getElem? (i := 33) rfl))) Via.refl e10 f10_1 f10_0 (Or.inr ⟨(hw _ (List.mem_of_getElem? (i := 34) rfl)), rfl, hnm⟩) (hw _ (List.mem_of_getElem? (i := 2) rfl)) (ty := (.array .byte)) (by decide) rfl rfl (g := (mkF m 58 #[.val (.ref a1), .val (.int p2), .val (.int p3), .val (.int p4), .val (.int p5), .val (.int p6), .val (.long q7), .second, .val (.ref a8), .val (.ref a9), .val (.ref a10), .val (.ref a11)] [(.ref a11), (.ref a1)])) rfl rfl (hb hby d1_58)
  have f11_0 := f10_0.wr W11
  have f11_1 := f10_2.other W11 (Or.inr (slot_ne (Or.inr (hw _ (List.mem_of_getElem? (i := 16) rfl))) (Or.inr (hw _ (List.mem_of_getElem? (i := 34) rfl))) (by decide) (t := .int) (t' := (.array .byte)) (by decide) (by decide)))
  have f11_2 := f10_3.other W11 (Or.inr (slot_ne (Or.inr (hw _ (List.mem_of_getElem? (i := 18) rfl))) (Or.inr (hw _ (List.mem_of_getElem? (i := 34) rfl))) (by decide) (t := .int) (t' := (.array .byte)) (by decide) (by decide)))
  have f11_3 := f10_4.other W11 (Or.inr (slot_ne (Or.inr (hw _ (List.mem_of_getElem? (i := 20) rfl))) (Or.inr (hw _ (List.mem_of_getElem? (i := 34) rfl))) (by decide) (t := .int) (t' := (.array .byte)) (by decide) (by decide)))
  have f11_4 := f10_5.other W11 (Or.inr (slot_ne (Or.inr (hw _ (List.mem_of_getElem? (i := 22) rfl))) (Or.inr (hw _ (List.mem_of_getElem? (i := 34) rfl))) (by decide) (t := .int) (t' := (.array .byte)) (by decide) (by decide)))
  have f11_5 := f10_6.other W11 (Or.inr (slot_ne (Or.inr (hw _ (List.mem_of_getElem? (i := 24) rfl))) (Or.inr (hw _ (List.mem_of_getElem? (i := 34) rfl))) (by decide) (t := .int) (t' := (.array .byte)) (by decide) (by decide)))
  have f11_6 := f10_7.other W11 (Or.inr (slot_ne (Or.inr (hw _ (List.mem_of_getElem? (i := 26) rfl))) (Or.inr (hw _ (List.mem_of_getElem? (i := 34) rfl))) (by decide) (t := .long) (t' := (.array .byte)) (by decide) (by decide)))
  have f11_7 := f10_8.other W11 (Or.inr (slot_ne (Or.inr (hw _ (List.mem_of_getElem? (i := 28) rfl))) (Or.inr (hw _ (List.mem_of_getElem? (i := 34) rfl))) (by decide) (t := (.array .byte)) (t' := (.array .byte)) (by decide) (by decide)))
  have f11_8 := f10_9.other W11 (Or.inr (slot_ne (Or.inr (hw _ (List.mem_of_getElem? (i := 30) rfl))) (Or.inr (hw _ (List.mem_of_getElem? (i := 34) rfl))) (by decide) (t := (.array .byte)) (t' := (.array .byte)) (by decide) (by decide)))
  have f11_9 := Fw10.other W11 (Or.inr (slot_ne (Or.inr (hw _ (List.mem_of_getElem? (i := 32) rfl))) (Or.inr (hw _ (List.mem_of_getElem? (i := 34) rfl))) (by decide) (t := (.array .byte)) (t' := (.array .byte)) (by decide) (by decide)))
  have Fw11 : Fld Z h11 a1 "com/example/anchorwatch/anchorwatch/protocol/Packet" "value" "[B" (.ref a11) := f10_1.same W11
  have N11 := Fr.snoc X11 N10 gi
  have Z11 : n0 ≤ h11.size := Nat.le_trans Z10 (Keep.of_wr W11).1
  have K11 : Keep h0 h11 [a1] := K10.wr W11 (Or.inl (List.mem_of_getElem? (i := 0) rfl))
  refine own_st st11 ?_
  show own_Fin _ _ _ _ _ _ _ (T11.setTop (mkF m 61 #[.val (.ref a1), .val (.int p2), .val (.int p3), .val (.int p4), .val (.int p5), .val (.int p6), .val (.long q7), .second, .val (.ref a8), .val (.ref a9), .val (.ref a10), .val (.ref a11)] []))
  exact own_retV X11 hx Bd.notSynchronized Bd.returns (hb hby d1_61) (by decide) (by decide) (by rw [e11]; exact ⟨rfl, N11, K11, f11_0, f11_7, f11_8, f11_9, Fw11⟩)
theorem d4_0 : decode prog_38_method_8_code 0 = .ok (.aload_n 0, 1) := by decide +kernel
theorem d4_1 : decode prog_38_method_8_code 1 = .ok (.getfield 29, 3) := by decide +kernel
theorem d4_4 : decode prog_38_method_8_code 4 = .ok (.arraylength, 1) := by decide +kernel
theorem d4_5 : decode prog_38_method_8_code 5 = .ok (.aload_n 0, 1) := by decide +kernel
theorem d4_6 : decode prog_38_method_8_code 6 = .ok (.getfield 33, 3) := by decide +kernel
theorem d4_9 : decode prog_38_method_8_code 9 = .ok (.arraylength, 1) := by decide +kernel
theorem d4_10 : decode prog_38_method_8_code 10 = .ok (.iadd, 1) := by decide +kernel
theorem d4_11 : decode prog_38_method_8_code 11 = .ok (.aload_n 0, 1) := by decide +kernel
theorem d4_12 : decode prog_38_method_8_code 12 = .ok (.getfield 36, 3) := by decide +kernel
theorem d4_15 : decode prog_38_method_8_code 15 = .ok (.arraylength, 1) := by decide +kernel
theorem d4_16 : decode prog_38_method_8_code 16 = .ok (.iadd, 1) := by decide +kernel
theorem d4_17 : decode prog_38_method_8_code 17 = .ok (.aload_n 0, 1) := by decide +kernel
theorem d4_18 : decode prog_38_method_8_code 18 = .ok (.getfield 39, 3) := by decide +kernel
theorem d4_21 : decode prog_38_method_8_code 21 = .ok (.arraylength, 1) := by decide +kernel
theorem d4_22 : decode prog_38_method_8_code 22 = .ok (.iadd, 1) := by decide +kernel
theorem d4_23 : decode prog_38_method_8_code 23 = .ok (.ireturn, 1) := by decide +kernel
theorem pn_4 : plainFor (⟨"com/example/anchorwatch/anchorwatch/protocol/Packet", "bodyLength", "()I"⟩ : MethodName) = true := plainFor_of_name (x := (⟨"com/example/anchorwatch/anchorwatch/protocol/Packet", "bodyLength", "()I"⟩ : MethodName)) (by first | (simp [plainName, overriddenIn]; done) | decide +kernel)
theorem ef_4 (m : MethodId) (a1 : Addr) : entryFrame m #[(.ref a1)] 1 = mkF m 0 #[.val (.ref a1)] [] := by first | (simp [entryFrame, mkF, argsToLocals, Value.category]; done) | rfl
def own_Q_rm4 (Z : State) (a1 : Addr) (o_framing : Addr) (k_framing : ClassId) (z_framing : Int32) (o_extras : Addr) (k_extras : ClassId) (z_extras : Int32) (o_key : Addr) (k_key : ClassId) (z_key : Int32) (o_value : Addr) (k_value : ClassId) (z_value : Int32) (h0 : Heap) (n0 : Nat) (v : Option Value) (h : Heap) (L : List Loc) : Prop := v = some (.int (((z_framing + z_extras) + z_key) + z_value)) ∧ Fr n0 L ∧ h = h0
set_option maxRecDepth 65536 in
set_option maxHeartbeats 40000000 in
theorem rm4 (l : Launch) (Z : State) (a0 : Array Value) (hw : ∀ d ∈ tables_1, d.before a0 Z = true) (ws : List Jvm.Cond) (a1 : Addr) (o_framing : Addr) (k_framing : ClassId) (z_framing : Int32) (o_extras : Addr) (k_extras : ClassId) (z_extras : Int32) (o_key : Addr) (k_key : ClassId) (z_key : Int32) (o_value : Addr) (k_value : ClassId) (z_value : Int32) (h0 : Heap) (n0 : Nat) (Z0 : n0 ≤ h0.size) (Fi_framing : Fld Z h0 a1 "com/example/anchorwatch/anchorwatch/protocol/Packet" "framing" "[B" (.ref o_framing)) (Fi_extras : Fld Z h0 a1 "com/example/anchorwatch/anchorwatch/protocol/Packet" "extras" "[B" (.ref o_extras)) (Fi_key : Fld Z h0 a1 "com/example/anchorwatch/anchorwatch/protocol/Packet" "key" "[B" (.ref o_key)) (Fi_value : Fld Z h0 a1 "com/example/anchorwatch/anchorwatch/protocol/Packet" "value" "[B" (.ref o_value)) (Vi_framing : Arv Z h0 o_framing k_framing .byte z_framing [] (.int (0 : Int32))) (Vi_extras : Arv Z h0 o_extras k_extras .byte z_extras [] (.int (0 : Int32))) (Vi_key : Arv Z h0 o_key k_key .byte z_key [] (.int (0 : Int32))) (Vi_value : Arv Z h0 o_value k_value .byte z_value [] (.int (0 : Int32))) :
    MetFree l (⟨"com/example/anchorwatch/anchorwatch/protocol/Packet", "bodyLength", "()I"⟩ : MethodName) (head1 (Jvm.Cond.code (⟨"com/example/anchorwatch/anchorwatch/protocol/Packet", "bodyLength", "()I"⟩ : MethodName) prog_38_method_8_code 1 (some .int) :: ws) ({ frames := 0, cells := 0, slots := 0, locals := 0 } : Room)) (fun a U => a = #[(.ref a1)] ∧ Z.Warmed39 U.vm ∧ U.heap = h0) (fun _ _ _ _ _ => True) (fun _ U o U' => ∃ v L, o = .returned v ∧ own_Q_rm4 Z a1 o_framing k_framing z_framing o_extras k_extras z_extras o_key k_key z_key o_value k_value z_value h0 n0 v U'.heap L ∧ FrameEnd U o U' L ({ frames := 0, cells := 0, slots := 0, locals := 0 } : Room).cells ({ frames := 0, cells := 0, slots := 0, locals := 0 } : Room).slots) := by
  refine MetFree.of_bodySF pn_4 hisR ?_
  intro p e s m args below meth c s₁ Bd hml0 hP hK
  obtain ⟨rfl, hZ, hh⟩ := hP
  have hx := Bd.exec
  have hby := Bd.bytes
  have hml : c.maxLocals = 1 := hml0
  have hown : s.vm.findClass "com/example/anchorwatch/anchorwatch/protocol/Packet" = some m.cls := findClass_of_methodNamed Bd.named
  have hnm := (name_of_methodNamed Bd.named Bd.method).1
  have X0 : Stand p l e ({ frames := 0, cells := 0, slots := 0, locals := 0 } : Room) s m #[(.ref a1)] below meth c s₁ [] 0 0 := Stand.of_body Bd
  have e0 : s₁.heap = h0 := by rw [← hh, Bd.state]; rfl
  have N0 := Fr.nil n0
  show own_Fin p.tables e below s (({ frames := 0, cells := 0, slots := 0, locals := 0 } : Room).cells) (({ frames := 0, cells := 0, slots := 0, locals := 0 } : Room).slots) (own_Q_rm4 Z a1 o_framing k_framing z_framing o_extras k_extras z_extras o_key k_key z_key o_value k_value z_value h0 n0) (s₁.setTop (entryFrame m #[(.ref a1)] 1))
  rw [ef_4 m a1]
  show own_Fin _ _ _ _ _ _ _ (s₁.setTop (mkF m 0 #[.val (.ref a1)] []))
  refine own_st (fun t k => XS.aloadN X0.here hx rfl (hb hby d4_0) rfl rfl k) ?_
  show own_Fin _ _ _ _ _ _ _ (s₁.setTop (mkF m 1 #[.val (.ref a1)] [(.ref a1)]))
  obtain ⟨T1, X1, e1, st1⟩ := getF X0 hx hZ hown (host := "") (Or.inl (hw _ (List.mem_of_getElem? (i := 27) rfl))) Via.refl e0 Fi_framing (g := (mkF m 1 #[.val (.ref a1)] [(.ref a1)])) rfl rfl (hb hby d4_1)
  refine own_st st1 ?_
  show own_Fin _ _ _ _ _ _ _ (T1.setTop (mkF m 4 #[.val (.ref a1)] [(.ref o_framing)]))
  obtain ⟨cl2, Ar2, Cq2, Sz2, Mn2, Hs2, Gf2⟩ := Vi_framing
  refine own_st (X1.arraylength hx (by rw [e1]; exact Ar2.1) (State.isArrayOf_alike hZ.alike Ar2.2.1) (g := (mkF m 4 #[.val (.ref a1)] [(.ref o_framing)])) rfl rfl (hb hby d4_4)) ?_
  rw [len_of Sz2 Mn2]
  show own_Fin _ _ _ _ _ _ _ (T1.setTop (mkF m 5 #[.val (.ref a1)] [(.int z_framing)]))
  refine own_st (fun t k => XS.aloadN X1.here hx rfl (hb hby d4_5) rfl rfl k) ?_
  show own_Fin _ _ _ _ _ _ _ (T1.setTop (mkF m 6 #[.val (.ref a1)] [(.ref a1), (.int z_framing)]))
  obtain ⟨T3, X3, e3, st3⟩ := getF X1 hx hZ hown (host := "") (Or.inl (hw _ (List.mem_of_getElem? (i := 29) rfl))) Via.refl e1 Fi_extras (g := (mkF m 6 #[.val (.ref a1)] [(.ref a1), (.int z_framing)])) rfl rfl (hb hby d4_6)
  refine own_st st3 ?_
  show own_Fin _ _ _ _ _ _ _ (T3.setTop (mkF m 9 #[.val (.ref a1)] [(.ref o_extras), (.int z_framing)]))
  obtain ⟨cl4, Ar4, Cq4, Sz4, Mn4, Hs4, Gf4⟩ := Vi_extras
  refine own_st (X3.arraylength hx (by rw [e3]; exact Ar4.1) (State.isArrayOf_alike hZ.alike Ar4.2.1) (g := (mkF m 9 #[.val (.ref a1)] [(.ref o_extras), (.int z_framing)])) rfl rfl (hb hby d4_9)) ?_
  rw [len_of Sz4 Mn4]
  show own_Fin _ _ _ _ _ _ _ (T3.setTop (mkF m 10 #[.val (.ref a1)] [(.int z_extras), (.int z_framing)]))
  refine own_st (fun t k => XS.iadd X3.here hx rfl (hb hby d4_10) rfl k) ?_
  show own_Fin _ _ _ _ _ _ _ (T3.setTop (mkF m 11 #[.val (.ref a1)] [(.int (z_framing + z_extras))]))
  refine own_st (fun t k => XS.aloadN X3.here hx rfl (hb hby d4_11) rfl rfl k) ?_
  show own_Fin _ _ _ _ _ _ _ (T3.setTop (mkF m 12 #[.val (.ref a1)] [(.ref a1), (.int (z_framing + z_extras))]))
  obtain ⟨T5, X5, e5, st5⟩ := getF X3 hx hZ hown (host := "") (Or.inl (hw _ (List.mem_of_getElem? (i := 31) rfl))) Via.refl e3 Fi_key (g := (mkF m 12 #[.val (.ref a1)] [(.ref a1), (.int (z_framing + z_extras))])) rfl rfl (hb hby d4_12)
  refine own_st st5 ?_
  show own_Fin _ _ _ _ _ _ _ (T5.setTop (mkF m 15 #[.val (.ref a1)] [(.ref o_key), (.int (z_framing + z_extras))]))
  obtain ⟨cl6, Ar6, Cq6, Sz6, Mn6, Hs6, Gf6⟩ := Vi_key
  refine own_st (X5.arraylength hx (by rw [e5]; exact Ar6.1) (State.isArrayOf_alike hZ.alike Ar6.2.1) (g := (mkF m 15 #[.val (.ref a1)] [(.ref o_key), (.int (z_framing + z_extras))])) rfl rfl (hb hby d4_15)) ?_
  rw [len_of Sz6 Mn6]
  show own_Fin _ _ _ _ _ _ _ (T5.setTop (mkF m 16 #[.val (.ref a1)] [(.int z_key), (.int (z_framing + z_extras))]))
  refine own_st (fun t k => XS.iadd X5.here hx rfl (hb hby d4_16) rfl k) ?_
  show own_Fin _ _ _ _ _ _ _ (T5.setTop (mkF m 17 #[.val (.ref a1)] [(.int ((z_framing + z_extras) + z_key))]))
  refine own_st (fun t k => XS.aloadN X5.here hx rfl (hb hby d4_17) rfl rfl k) ?_
  show own_Fin _ _ _ _ _ _ _ (T5.setTop (mkF m 18 #[.val (.ref a1)] [(.ref a1), (.int ((z_framing + z_extras) + z_key))]))
  obtain ⟨T7, X7, e7, st7⟩ := getF X5 hx hZ hown (host := "") (Or.inl (hw _ (List.mem_of_getElem? (i := 33) rfl))) Via.refl e5 Fi_value (g := (mkF m 18 #[.val (.ref a1)] [(.ref a1), (.int ((z_framing + z_extras) + z_key))])) rfl rfl (hb hby d4_18)
  refine own_st st7 ?_
  show own_Fin _ _ _ _ _ _ _ (T7.setTop (mkF m 21 #[.val (.ref a1)] [(.ref o_value), (.int ((z_framing + z_extras) + z_key))]))
  obtain ⟨cl8, Ar8, Cq8, Sz8, Mn8, Hs8, Gf8⟩ := Vi_value
  refine own_st (X7.arraylength hx (by rw [e7]; exact Ar8.1) (State.isArrayOf_alike hZ.alike Ar8.2.1) (g := (mkF m 21 #[.val (.ref a1)] [(.ref o_value), (.int ((z_framing + z_extras) + z_key))])) rfl rfl (hb hby d4_21)) ?_
  rw [len_of Sz8 Mn8]
  show own_Fin _ _ _ _ _ _ _ (T7.setTop (mkF m 22 #[.val (.ref a1)] [(.int z_value), (.int ((z_framing + z_extras) + z_key))]))
  refine own_st (fun t k => XS.iadd X7.here hx rfl (hb hby d4_22) rfl k) ?_
  show own_Fin _ _ _ _ _ _ _ (T7.setTop (mkF m 23 #[.val (.ref a1)] [(.int (((z_framing + z_extras) + z_key) + z_value))]))
  exact own_retI X7 hx Bd.notSynchronized Bd.returns (hb hby d4_23) (by decide) (by decide) (by rw [e7]; exact ⟨rfl, N0, rfl⟩)
theorem own_neg (x : Int32) : ¬ (x &&& (15 : Int32)) < 0 := fun q => by
  have h := Int32.lt_iff_toInt_lt.mp q
  have b := c_and x (15 : Int32) (by decide)
  rw [show (0 : Int32).toInt = 0 by decide] at h
  omega
theorem own_cap (x : Int32) : (x &&& (15 : Int32)).toNatClampNeg ≤ 15 := by
  have b := c_and x (15 : Int32) (by decide)
  rw [show (15 : Int32).toInt = 15 by decide] at b
  simp only [Int32.toNatClampNeg]
  omega
theorem pn_0 : plainFor x = true := plainFor_of_name (x := x) (by first | (simp [plainName, overriddenIn]; done) | decide +kernel)
theorem pd_0_0 : parseMethodDescriptor "(IIIIIJ[B[B[B[B)V" = some ⟨[.int, .int, .int, .int, .int, .long, (.array .byte), (.array .byte), (.array .byte), (.array .byte)], none⟩ := by decide +kernel
theorem pd_0_1 : parseMethodDescriptor "()I" = some ⟨[], some .int⟩ := by decide +kernel
theorem ef_0 (m : MethodId) (p1 : Int32) (p2 : Int32) (p3 : Int32) (p4 : Int32) (p5 : Int32) (q6 : Int64) : entryFrame m #[(.int p1), (.int p2), (.int p3), (.int p4), (.int p5), (.long q6)] maxLocals = mkF m 0 #[.val (.int p1), .val (.int p2), .val (.int p3), .val (.int p4), .val (.int p5), .val (.long q6), .second, .unset, .unset, .unset, .unset, .unset, .unset, .unset, .unset, .unset] [] := by first | (simp [entryFrame, mkF, argsToLocals, Value.category, maxLocals]; done) | rfl
def own_Q_rm0 (Z : State) (p1 : Int32) (p2 : Int32) (p3 : Int32) (p4 : Int32) (p5 : Int32) (q6 : Int64)  (h0 : Heap) (n0 : Nat) (v : Option Value) (h : Heap) (L : List Loc) : Prop := v = some (.int (1 : Int32)) ∧ Fr n0 L ∧ True
set_option maxRecDepth 65536 in
set_option maxHeartbeats 40000000 in
theorem rm0 (l : Launch) (Z : State) (a0 : Array Value) (hw : ∀ d ∈ tables_1, d.before a0 Z = true) (ws : List Jvm.Cond) (p1 : Int32) (p2 : Int32) (p3 : Int32) (p4 : Int32) (p5 : Int32) (q6 : Int64)  (h0 : Heap) (n0 : Nat) (Z0 : n0 ≤ h0.size)  :
    MetFree l x (head1 (Jvm.Cond.code x code maxLocals ret :: ws) room_1) (fun a U => a = #[(.int p1), (.int p2), (.int p3), (.int p4), (.int p5), (.long q6)] ∧ Z.Warmed39 U.vm ∧ U.heap = h0) (fun _ _ _ _ _ => True) (fun _ U o U' => ∃ v L, o = .returned v ∧ own_Q_rm0 Z p1 p2 p3 p4 p5 q6 h0 n0 v U'.heap L ∧ FrameEnd U o U' L 24 256) := by
  refine MetFree.of_bodySF pn_0 hisR ?_
  intro p e s m args below meth c s₁ Bd hml0 hP hK
  obtain ⟨rfl, hZ, hh⟩ := hP
  have hx := Bd.exec
  have hby := Bd.bytes
  have hml : c.maxLocals = 16 := hml0
  have hown : s.vm.findClass "com/example/anchorwatch/anchorwatch/protocol/PacketBodyLengthPinLaw" = some m.cls := findClass_of_methodNamed Bd.named
  have hnm := (name_of_methodNamed Bd.named Bd.method).1
  have X0 : Stand p l e room_1 s m #[(.int p1), (.int p2), (.int p3), (.int p4), (.int p5), (.long q6)] below meth c s₁ [] 0 0 := Stand.of_body Bd
  have e0 : s₁.heap = h0 := by rw [← hh, Bd.state]; rfl
  have N0 := Fr.nil n0
  show own_Fin p.tables e below s (24) (256) (own_Q_rm0 Z p1 p2 p3 p4 p5 q6 h0 n0) (s₁.setTop (entryFrame m #[(.int p1), (.int p2), (.int p3), (.int p4), (.int p5), (.long q6)] maxLocals))
  rw [ef_0 m p1 p2 p3 p4 p5 q6]
  show own_Fin _ _ _ _ _ _ _ (s₁.setTop (mkF m 0 #[.val (.int p1), .val (.int p2), .val (.int p3), .val (.int p4), .val (.int p5), .val (.long q6), .second, .unset, .unset, .unset, .unset, .unset, .unset, .unset, .unset, .unset] []))
  refine own_st (fun t k => XS.iloadN X0.here hx rfl (hb hby at_0) rfl k) ?_
  show own_Fin _ _ _ _ _ _ _ (s₁.setTop (mkF m 1 #[.val (.int p1), .val (.int p2), .val (.int p3), .val (.int p4), .val (.int p5), .val (.long q6), .second, .unset, .unset, .unset, .unset, .unset, .unset, .unset, .unset, .unset] [(.int p1)]))
  refine own_st (fun t k => XS.bipush X0.here hx rfl (hb hby at_1) k) ?_
  show own_Fin _ _ _ _ _ _ _ (s₁.setTop (mkF m 3 #[.val (.int p1), .val (.int p2), .val (.int p3), .val (.int p4), .val (.int p5), .val (.long q6), .second, .unset, .unset, .unset, .unset, .unset, .unset, .unset, .unset, .unset] [(.int (15 : Int32)), (.int p1)]))
  refine own_st (fun t k => XS.iand X0.here hx rfl (hb hby at_3) rfl k) ?_
  show own_Fin _ _ _ _ _ _ _ (s₁.setTop (mkF m 4 #[.val (.int p1), .val (.int p2), .val (.int p3), .val (.int p4), .val (.int p5), .val (.long q6), .second, .unset, .unset, .unset, .unset, .unset, .unset, .unset, .unset, .unset] [(.int (p1 &&& (15 : Int32)))]))
  refine own_st (fun t k => XS.istore X0.here hx rfl (hb hby at_4) rfl (l' := #[.val (.int p1), .val (.int p2), .val (.int p3), .val (.int p4), .val (.int p5), .val (.long q6), .second, .val (.int (p1 &&& (15 : Int32))), .unset, .unset, .unset, .unset, .unset, .unset, .unset, .unset]) rfl k) ?_
  show own_Fin _ _ _ _ _ _ _ (s₁.setTop (mkF m 6 #[.val (.int p1), .val (.int p2), .val (.int p3), .val (.int p4), .val (.int p5), .val (.long q6), .second, .val (.int (p1 &&& (15 : Int32))), .unset, .unset, .unset, .unset, .unset, .unset, .unset, .unset] []))
  refine own_st (fun t k => XS.iloadN X0.here hx rfl (hb hby at_6) rfl k) ?_
  show own_Fin _ _ _ _ _ _ _ (s₁.setTop (mkF m 7 #[.val (.int p1), .val (.int p2), .val (.int p3), .val (.int p4), .val (.int p5), .val (.long q6), .second, .val (.int (p1 &&& (15 : Int32))), .unset, .unset, .unset, .unset, .unset, .unset, .unset, .unset] [(.int p2)]))
  refine own_st (fun t k => XS.bipush X0.here hx rfl (hb hby at_7) k) ?_
  show own_Fin _ _ _ _ _ _ _ (s₁.setTop (mkF m 9 #[.val (.int p1), .val (.int p2), .val (.int p3), .val (.int p4), .val (.int p5), .val (.long q6), .second, .val (.int (p1 &&& (15 : Int32))), .unset, .unset, .unset, .unset, .unset, .unset, .unset, .unset] [(.int (15 : Int32)), (.int p2)]))
  refine own_st (fun t k => XS.iand X0.here hx rfl (hb hby at_9) rfl k) ?_
  show own_Fin _ _ _ _ _ _ _ (s₁.setTop (mkF m 10 #[.val (.int p1), .val (.int p2), .val (.int p3), .val (.int p4), .val (.int p5), .val (.long q6), .second, .val (.int (p1 &&& (15 : Int32))), .unset, .unset, .unset, .unset, .unset, .unset, .unset, .unset] [(.int (p2 &&& (15 : Int32)))]))
  refine own_st (fun t k => XS.istore X0.here hx rfl (hb hby at_10) rfl (l' := #[.val (.int p1), .val (.int p2), .val (.int p3), .val (.int p4), .val (.int p5), .val (.long q6), .second, .val (.int (p1 &&& (15 : Int32))), .val (.int (p2 &&& (15 : Int32))), .unset, .unset, .unset, .unset, .unset, .unset, .unset]) rfl k) ?_
  show own_Fin _ _ _ _ _ _ _ (s₁.setTop (mkF m 12 #[.val (.int p1), .val (.int p2), .val (.int p3), .val (.int p4), .val (.int p5), .val (.long q6), .second, .val (.int (p1 &&& (15 : Int32))), .val (.int (p2 &&& (15 : Int32))), .unset, .unset, .unset, .unset, .unset, .unset, .unset] []))
  refine own_st (fun t k => XS.iloadN X0.here hx rfl (hb hby at_12) rfl k) ?_
  show own_Fin _ _ _ _ _ _ _ (s₁.setTop (mkF m 13 #[.val (.int p1), .val (.int p2), .val (.int p3), .val (.int p4), .val (.int p5), .val (.long q6), .second, .val (.int (p1 &&& (15 : Int32))), .val (.int (p2 &&& (15 : Int32))), .unset, .unset, .unset, .unset, .unset, .unset, .unset] [(.int p3)]))
  refine own_st (fun t k => XS.bipush X0.here hx rfl (hb hby at_13) k) ?_
  show own_Fin _ _ _ _ _ _ _ (s₁.setTop (mkF m 15 #[.val (.int p1), .val (.int p2), .val (.int p3), .val (.int p4), .val (.int p5), .val (.long q6), .second, .val (.int (p1 &&& (15 : Int32))), .val (.int (p2 &&& (15 : Int32))), .unset, .unset, .unset, .unset, .unset, .unset, .unset] [(.int (15 : Int32)), (.int p3)]))
  refine own_st (fun t k => XS.iand X0.here hx rfl (hb hby at_15) rfl k) ?_
  show own_Fin _ _ _ _ _ _ _ (s₁.setTop (mkF m 16 #[.val (.int p1), .val (.int p2), .val (.int p3), .val (.int p4), .val (.int p5), .val (.long q6), .second, .val (.int (p1 &&& (15 : Int32))), .val (.int (p2 &&& (15 : Int32))), .unset, .unset, .unset, .unset, .unset, .unset, .unset] [(.int (p3 &&& (15 : Int32)))]))
  refine own_st (fun t k => XS.istore X0.here hx rfl (hb hby at_16) rfl (l' := #[.val (.int p1), .val (.int p2), .val (.int p3), .val (.int p4), .val (.int p5), .val (.long q6), .second, .val (.int (p1 &&& (15 : Int32))), .val (.int (p2 &&& (15 : Int32))), .val (.int (p3 &&& (15 : Int32))), .unset, .unset, .unset, .unset, .unset, .unset]) rfl k) ?_
  show own_Fin _ _ _ _ _ _ _ (s₁.setTop (mkF m 18 #[.val (.int p1), .val (.int p2), .val (.int p3), .val (.int p4), .val (.int p5), .val (.long q6), .second, .val (.int (p1 &&& (15 : Int32))), .val (.int (p2 &&& (15 : Int32))), .val (.int (p3 &&& (15 : Int32))), .unset, .unset, .unset, .unset, .unset, .unset] []))
  refine own_st (fun t k => XS.iloadN X0.here hx rfl (hb hby at_18) rfl k) ?_
  show own_Fin _ _ _ _ _ _ _ (s₁.setTop (mkF m 19 #[.val (.int p1), .val (.int p2), .val (.int p3), .val (.int p4), .val (.int p5), .val (.long q6), .second, .val (.int (p1 &&& (15 : Int32))), .val (.int (p2 &&& (15 : Int32))), .val (.int (p3 &&& (15 : Int32))), .unset, .unset, .unset, .unset, .unset, .unset] [(.int p4)]))
  refine own_st (fun t k => XS.bipush X0.here hx rfl (hb hby at_19) k) ?_
  show own_Fin _ _ _ _ _ _ _ (s₁.setTop (mkF m 21 #[.val (.int p1), .val (.int p2), .val (.int p3), .val (.int p4), .val (.int p5), .val (.long q6), .second, .val (.int (p1 &&& (15 : Int32))), .val (.int (p2 &&& (15 : Int32))), .val (.int (p3 &&& (15 : Int32))), .unset, .unset, .unset, .unset, .unset, .unset] [(.int (15 : Int32)), (.int p4)]))
  refine own_st (fun t k => XS.iand X0.here hx rfl (hb hby at_21) rfl k) ?_
  show own_Fin _ _ _ _ _ _ _ (s₁.setTop (mkF m 22 #[.val (.int p1), .val (.int p2), .val (.int p3), .val (.int p4), .val (.int p5), .val (.long q6), .second, .val (.int (p1 &&& (15 : Int32))), .val (.int (p2 &&& (15 : Int32))), .val (.int (p3 &&& (15 : Int32))), .unset, .unset, .unset, .unset, .unset, .unset] [(.int (p4 &&& (15 : Int32)))]))
  refine own_st (fun t k => XS.istore X0.here hx rfl (hb hby at_22) rfl (l' := #[.val (.int p1), .val (.int p2), .val (.int p3), .val (.int p4), .val (.int p5), .val (.long q6), .second, .val (.int (p1 &&& (15 : Int32))), .val (.int (p2 &&& (15 : Int32))), .val (.int (p3 &&& (15 : Int32))), .val (.int (p4 &&& (15 : Int32))), .unset, .unset, .unset, .unset, .unset]) rfl k) ?_
  show own_Fin _ _ _ _ _ _ _ (s₁.setTop (mkF m 24 #[.val (.int p1), .val (.int p2), .val (.int p3), .val (.int p4), .val (.int p5), .val (.long q6), .second, .val (.int (p1 &&& (15 : Int32))), .val (.int (p2 &&& (15 : Int32))), .val (.int (p3 &&& (15 : Int32))), .val (.int (p4 &&& (15 : Int32))), .unset, .unset, .unset, .unset, .unset] []))
  refine own_st (fun t k => XS.iload X0.here hx rfl (hb hby at_24) rfl k) ?_
  show own_Fin _ _ _ _ _ _ _ (s₁.setTop (mkF m 26 #[.val (.int p1), .val (.int p2), .val (.int p3), .val (.int p4), .val (.int p5), .val (.long q6), .second, .val (.int (p1 &&& (15 : Int32))), .val (.int (p2 &&& (15 : Int32))), .val (.int (p3 &&& (15 : Int32))), .val (.int (p4 &&& (15 : Int32))), .unset, .unset, .unset, .unset, .unset] [(.int (p1 &&& (15 : Int32)))]))
  obtain ⟨T1, h1, k1, X1, e1, E1, A1, st1⟩ := newP X0 hx hZ (hw _ (List.mem_of_getElem? (i := 0) rfl)) e0 (g := (mkF m 26 #[.val (.int p1), .val (.int p2), .val (.int p3), .val (.int p4), .val (.int p5), .val (.long q6), .second, .val (.int (p1 &&& (15 : Int32))), .val (.int (p2 &&& (15 : Int32))), .val (.int (p3 &&& (15 : Int32))), .val (.int (p4 &&& (15 : Int32))), .unset, .unset, .unset, .unset, .unset] [(.int (p1 &&& (15 : Int32)))])) rfl (hb hby at_26) rfl (own_neg _) (cap := 15) (own_cap _) (by decide) (by decide) (by decide)
  obtain ⟨b1, g1⟩ : ∃ z, z = h0.size := ⟨_, rfl⟩
  rw [← g1] at A1 st1
  have ge_b1 : n0 ≤ b1 := Nat.le_trans Z0 (Nat.le_of_eq g1.symm)
  have Z1 : n0 ≤ h1.size := Nat.le_trans Z0 E1.1
  have V1 : Arv Z h1 b1 k1 .byte (p1 &&& (15 : Int32)) [] (.int (0 : Int32)) := Arv.new A1 (own_neg _)
  refine own_st st1 ?_
  show own_Fin _ _ _ _ _ _ _ (T1.setTop (mkF m 28 #[.val (.int p1), .val (.int p2), .val (.int p3), .val (.int p4), .val (.int p5), .val (.long q6), .second, .val (.int (p1 &&& (15 : Int32))), .val (.int (p2 &&& (15 : Int32))), .val (.int (p3 &&& (15 : Int32))), .val (.int (p4 &&& (15 : Int32))), .unset, .unset, .unset, .unset, .unset] [(.ref b1)]))
  refine own_st (fun t k => XS.astore X1.here hx rfl (hb hby at_28) rfl rfl (l' := #[.val (.int p1), .val (.int p2), .val (.int p3), .val (.int p4), .val (.int p5), .val (.long q6), .second, .val (.int (p1 &&& (15 : Int32))), .val (.int (p2 &&& (15 : Int32))), .val (.int (p3 &&& (15 : Int32))), .val (.int (p4 &&& (15 : Int32))), .val (.ref b1), .unset, .unset, .unset, .unset]) rfl k) ?_
  show own_Fin _ _ _ _ _ _ _ (T1.setTop (mkF m 30 #[.val (.int p1), .val (.int p2), .val (.int p3), .val (.int p4), .val (.int p5), .val (.long q6), .second, .val (.int (p1 &&& (15 : Int32))), .val (.int (p2 &&& (15 : Int32))), .val (.int (p3 &&& (15 : Int32))), .val (.int (p4 &&& (15 : Int32))), .val (.ref b1), .unset, .unset, .unset, .unset] []))
  refine own_st (fun t k => XS.iload X1.here hx rfl (hb hby at_30) rfl k) ?_
  show own_Fin _ _ _ _ _ _ _ (T1.setTop (mkF m 32 #[.val (.int p1), .val (.int p2), .val (.int p3), .val (.int p4), .val (.int p5), .val (.long q6), .second, .val (.int (p1 &&& (15 : Int32))), .val (.int (p2 &&& (15 : Int32))), .val (.int (p3 &&& (15 : Int32))), .val (.int (p4 &&& (15 : Int32))), .val (.ref b1), .unset, .unset, .unset, .unset] [(.int (p2 &&& (15 : Int32)))]))
  obtain ⟨T2, h2, k2, X2, e2, E2, A2, st2⟩ := newP X1 hx hZ (hw _ (List.mem_of_getElem? (i := 0) rfl)) e1 (g := (mkF m 32 #[.val (.int p1), .val (.int p2), .val (.int p3), .val (.int p4), .val (.int p5), .val (.long q6), .second, .val (.int (p1 &&& (15 : Int32))), .val (.int (p2 &&& (15 : Int32))), .val (.int (p3 &&& (15 : Int32))), .val (.int (p4 &&& (15 : Int32))), .val (.ref b1), .unset, .unset, .unset, .unset] [(.int (p2 &&& (15 : Int32)))])) rfl (hb hby at_32) rfl (own_neg _) (cap := 15) (own_cap _) (by decide) (by decide) (by decide)
  obtain ⟨b2, g2⟩ : ∃ z, z = h1.size := ⟨_, rfl⟩
  rw [← g2] at A2 st2
  have f2_0 := V1.ext E2
  have ne_b1_b2 : b1 ≠ b2 := Nat.ne_of_lt (Nat.lt_of_lt_of_le V1.lt (Nat.le_of_eq g2.symm))
  have ge_b2 : n0 ≤ b2 := Nat.le_trans Z1 (Nat.le_of_eq g2.symm)
  have Z2 : n0 ≤ h2.size := Nat.le_trans Z1 E2.1
  have V2 : Arv Z h2 b2 k2 .byte (p2 &&& (15 : Int32)) [] (.int (0 : Int32)) := Arv.new A2 (own_neg _)
  refine own_st st2 ?_
  show own_Fin _ _ _ _ _ _ _ (T2.setTop (mkF m 34 #[.val (.int p1), .val (.int p2), .val (.int p3), .val (.int p4), .val (.int p5), .val (.long q6), .second, .val (.int (p1 &&& (15 : Int32))), .val (.int (p2 &&& (15 : Int32))), .val (.int (p3 &&& (15 : Int32))), .val (.int (p4 &&& (15 : Int32))), .val (.ref b1), .unset, .unset, .unset, .unset] [(.ref b2)]))
  refine own_st (fun t k => XS.astore X2.here hx rfl (hb hby at_34) rfl rfl (l' := #[.val (.int p1), .val (.int p2), .val (.int p3), .val (.int p4), .val (.int p5), .val (.long q6), .second, .val (.int (p1 &&& (15 : Int32))), .val (.int (p2 &&& (15 : Int32))), .val (.int (p3 &&& (15 : Int32))), .val (.int (p4 &&& (15 : Int32))), .val (.ref b1), .val (.ref b2), .unset, .unset, .unset]) rfl k) ?_
  show own_Fin _ _ _ _ _ _ _ (T2.setTop (mkF m 36 #[.val (.int p1), .val (.int p2), .val (.int p3), .val (.int p4), .val (.int p5), .val (.long q6), .second, .val (.int (p1 &&& (15 : Int32))), .val (.int (p2 &&& (15 : Int32))), .val (.int (p3 &&& (15 : Int32))), .val (.int (p4 &&& (15 : Int32))), .val (.ref b1), .val (.ref b2), .unset, .unset, .unset] []))
  refine own_st (fun t k => XS.iload X2.here hx rfl (hb hby at_36) rfl k) ?_
  show own_Fin _ _ _ _ _ _ _ (T2.setTop (mkF m 38 #[.val (.int p1), .val (.int p2), .val (.int p3), .val (.int p4), .val (.int p5), .val (.long q6), .second, .val (.int (p1 &&& (15 : Int32))), .val (.int (p2 &&& (15 : Int32))), .val (.int (p3 &&& (15 : Int32))), .val (.int (p4 &&& (15 : Int32))), .val (.ref b1), .val (.ref b2), .unset, .unset, .unset] [(.int (p3 &&& (15 : Int32)))]))
  obtain ⟨T3, h3, k3, X3, e3, E3, A3, st3⟩ := newP X2 hx hZ (hw _ (List.mem_of_getElem? (i := 0) rfl)) e2 (g := (mkF m 38 #[.val (.int p1), .val (.int p2), .val (.int p3), .val (.int p4), .val (.int p5), .val (.long q6), .second, .val (.int (p1 &&& (15 : Int32))), .val (.int (p2 &&& (15 : Int32))), .val (.int (p3 &&& (15 : Int32))), .val (.int (p4 &&& (15 : Int32))), .val (.ref b1), .val (.ref b2), .unset, .unset, .unset] [(.int (p3 &&& (15 : Int32)))])) rfl (hb hby at_38) rfl (own_neg _) (cap := 15) (own_cap _) (by decide) (by decide) (by decide)
  obtain ⟨b3, g3⟩ : ∃ z, z = h2.size := ⟨_, rfl⟩
  rw [← g3] at A3 st3
  have f3_0 := f2_0.ext E3
  have f3_1 := V2.ext E3
  have ne_b1_b3 : b1 ≠ b3 := Nat.ne_of_lt (Nat.lt_of_lt_of_le f2_0.lt (Nat.le_of_eq g3.symm))
  have ne_b2_b3 : b2 ≠ b3 := Nat.ne_of_lt (Nat.lt_of_lt_of_le V2.lt (Nat.le_of_eq g3.symm))
  have ge_b3 : n0 ≤ b3 := Nat.le_trans Z2 (Nat.le_of_eq g3.symm)
  have Z3 : n0 ≤ h3.size := Nat.le_trans Z2 E3.1
  have V3 : Arv Z h3 b3 k3 .byte (p3 &&& (15 : Int32)) [] (.int (0 : Int32)) := Arv.new A3 (own_neg _)
  refine own_st st3 ?_
  show own_Fin _ _ _ _ _ _ _ (T3.setTop (mkF m 40 #[.val (.int p1), .val (.int p2), .val (.int p3), .val (.int p4), .val (.int p5), .val (.long q6), .second, .val (.int (p1 &&& (15 : Int32))), .val (.int (p2 &&& (15 : Int32))), .val (.int (p3 &&& (15 : Int32))), .val (.int (p4 &&& (15 : Int32))), .val (.ref b1), .val (.ref b2), .unset, .unset, .unset] [(.ref b3)]))
  refine own_st (fun t k => XS.astore X3.here hx rfl (hb hby at_40) rfl rfl (l' := #[.val (.int p1), .val (.int p2), .val (.int p3), .val (.int p4), .val (.int p5), .val (.long q6), .second, .val (.int (p1 &&& (15 : Int32))), .val (.int (p2 &&& (15 : Int32))), .val (.int (p3 &&& (15 : Int32))), .val (.int (p4 &&& (15 : Int32))), .val (.ref b1), .val (.ref b2), .val (.ref b3), .unset, .unset]) rfl k) ?_
  show own_Fin _ _ _ _ _ _ _ (T3.setTop (mkF m 42 #[.val (.int p1), .val (.int p2), .val (.int p3), .val (.int p4), .val (.int p5), .val (.long q6), .second, .val (.int (p1 &&& (15 : Int32))), .val (.int (p2 &&& (15 : Int32))), .val (.int (p3 &&& (15 : Int32))), .val (.int (p4 &&& (15 : Int32))), .val (.ref b1), .val (.ref b2), .val (.ref b3), .unset, .unset] []))
  refine own_st (fun t k => XS.iload X3.here hx rfl (hb hby at_42) rfl k) ?_
  show own_Fin _ _ _ _ _ _ _ (T3.setTop (mkF m 44 #[.val (.int p1), .val (.int p2), .val (.int p3), .val (.int p4), .val (.int p5), .val (.long q6), .second, .val (.int (p1 &&& (15 : Int32))), .val (.int (p2 &&& (15 : Int32))), .val (.int (p3 &&& (15 : Int32))), .val (.int (p4 &&& (15 : Int32))), .val (.ref b1), .val (.ref b2), .val (.ref b3), .unset, .unset] [(.int (p4 &&& (15 : Int32)))]))
  obtain ⟨T4, h4, k4, X4, e4, E4, A4, st4⟩ := newP X3 hx hZ (hw _ (List.mem_of_getElem? (i := 0) rfl)) e3 (g := (mkF m 44 #[.val (.int p1), .val (.int p2), .val (.int p3), .val (.int p4), .val (.int p5), .val (.long q6), .second, .val (.int (p1 &&& (15 : Int32))), .val (.int (p2 &&& (15 : Int32))), .val (.int (p3 &&& (15 : Int32))), .val (.int (p4 &&& (15 : Int32))), .val (.ref b1), .val (.ref b2), .val (.ref b3), .unset, .unset] [(.int (p4 &&& (15 : Int32)))])) rfl (hb hby at_44) rfl (own_neg _) (cap := 15) (own_cap _) (by decide) (by decide) (by decide)
  obtain ⟨b4, g4⟩ : ∃ z, z = h3.size := ⟨_, rfl⟩
  rw [← g4] at A4 st4
  have f4_0 := f3_0.ext E4
  have f4_1 := f3_1.ext E4
  have f4_2 := V3.ext E4
  have ne_b1_b4 : b1 ≠ b4 := Nat.ne_of_lt (Nat.lt_of_lt_of_le f3_0.lt (Nat.le_of_eq g4.symm))
  have ne_b2_b4 : b2 ≠ b4 := Nat.ne_of_lt (Nat.lt_of_lt_of_le f3_1.lt (Nat.le_of_eq g4.symm))
  have ne_b3_b4 : b3 ≠ b4 := Nat.ne_of_lt (Nat.lt_of_lt_of_le V3.lt (Nat.le_of_eq g4.symm))
  have ge_b4 : n0 ≤ b4 := Nat.le_trans Z3 (Nat.le_of_eq g4.symm)
  have Z4 : n0 ≤ h4.size := Nat.le_trans Z3 E4.1
  have V4 : Arv Z h4 b4 k4 .byte (p4 &&& (15 : Int32)) [] (.int (0 : Int32)) := Arv.new A4 (own_neg _)
  refine own_st st4 ?_
  show own_Fin _ _ _ _ _ _ _ (T4.setTop (mkF m 46 #[.val (.int p1), .val (.int p2), .val (.int p3), .val (.int p4), .val (.int p5), .val (.long q6), .second, .val (.int (p1 &&& (15 : Int32))), .val (.int (p2 &&& (15 : Int32))), .val (.int (p3 &&& (15 : Int32))), .val (.int (p4 &&& (15 : Int32))), .val (.ref b1), .val (.ref b2), .val (.ref b3), .unset, .unset] [(.ref b4)]))
  refine own_st (fun t k => XS.astore X4.here hx rfl (hb hby at_46) rfl rfl (l' := #[.val (.int p1), .val (.int p2), .val (.int p3), .val (.int p4), .val (.int p5), .val (.long q6), .second, .val (.int (p1 &&& (15 : Int32))), .val (.int (p2 &&& (15 : Int32))), .val (.int (p3 &&& (15 : Int32))), .val (.int (p4 &&& (15 : Int32))), .val (.ref b1), .val (.ref b2), .val (.ref b3), .val (.ref b4), .unset]) rfl k) ?_
  show own_Fin _ _ _ _ _ _ _ (T4.setTop (mkF m 48 #[.val (.int p1), .val (.int p2), .val (.int p3), .val (.int p4), .val (.int p5), .val (.long q6), .second, .val (.int (p1 &&& (15 : Int32))), .val (.int (p2 &&& (15 : Int32))), .val (.int (p3 &&& (15 : Int32))), .val (.int (p4 &&& (15 : Int32))), .val (.ref b1), .val (.ref b2), .val (.ref b3), .val (.ref b4), .unset] []))
  obtain ⟨T5, h5, X5, e5, E5, A5, D5, -, st5⟩ := newO X4 hx hZ hown (hw _ (List.mem_of_getElem? (i := 1) rfl)) (hw _ (List.mem_of_getElem? (i := 2) rfl)) (hw _ (List.mem_of_getElem? (i := 3) rfl)) e4 (g := (mkF m 48 #[.val (.int p1), .val (.int p2), .val (.int p3), .val (.int p4), .val (.int p5), .val (.long q6), .second, .val (.int (p1 &&& (15 : Int32))), .val (.int (p2 &&& (15 : Int32))), .val (.int (p3 &&& (15 : Int32))), .val (.int (p4 &&& (15 : Int32))), .val (.ref b1), .val (.ref b2), .val (.ref b3), .val (.ref b4), .unset] [])) rfl (hb hby at_48) (by decide) (by decide)
  obtain ⟨b5, g5⟩ : ∃ z, z = h4.size := ⟨_, rfl⟩
  rw [← g5] at A5 D5 st5
  have f5_0 := f4_0.ext E5
  have f5_1 := f4_1.ext E5
  have f5_2 := f4_2.ext E5
  have f5_3 := V4.ext E5
  have ne_b1_b5 : b1 ≠ b5 := Nat.ne_of_lt (Nat.lt_of_lt_of_le f4_0.lt (Nat.le_of_eq g5.symm))
  have ne_b2_b5 : b2 ≠ b5 := Nat.ne_of_lt (Nat.lt_of_lt_of_le f4_1.lt (Nat.le_of_eq g5.symm))
  have ne_b3_b5 : b3 ≠ b5 := Nat.ne_of_lt (Nat.lt_of_lt_of_le f4_2.lt (Nat.le_of_eq g5.symm))
  have ne_b4_b5 : b4 ≠ b5 := Nat.ne_of_lt (Nat.lt_of_lt_of_le V4.lt (Nat.le_of_eq g5.symm))
  have ge_b5 : n0 ≤ b5 := Nat.le_trans Z4 (Nat.le_of_eq g5.symm)
  have Z5 : n0 ≤ h5.size := Nat.le_trans Z4 E5.1
  have F5_magic : Fld Z h5 b5 "com/example/anchorwatch/anchorwatch/protocol/Packet" "magic" "I" (.int (0 : Int32)) := D5 (Or.inr (hw _ (List.mem_of_getElem? (i := 16) rfl))) (ty := .int) (by decide)
  have F5_opcode : Fld Z h5 b5 "com/example/anchorwatch/anchorwatch/protocol/Packet" "opcode" "I" (.int (0 : Int32)) := D5 (Or.inr (hw _ (List.mem_of_getElem? (i := 18) rfl))) (ty := .int) (by decide)
  have F5_dataType : Fld Z h5 b5 "com/example/anchorwatch/anchorwatch/protocol/Packet" "dataType" "I" (.int (0 : Int32)) := D5 (Or.inr (hw _ (List.mem_of_getElem? (i := 20) rfl))) (ty := .int) (by decide)
  have F5_vbucketOrStatus : Fld Z h5 b5 "com/example/anchorwatch/anchorwatch/protocol/Packet" "vbucketOrStatus" "I" (.int (0 : Int32)) := D5 (Or.inr (hw _ (List.mem_of_getElem? (i := 22) rfl))) (ty := .int) (by decide)
  have F5_opaque : Fld Z h5 b5 "com/example/anchorwatch/anchorwatch/protocol/Packet" "opaque" "I" (.int (0 : Int32)) := D5 (Or.inr (hw _ (List.mem_of_getElem? (i := 24) rfl))) (ty := .int) (by decide)
  have F5_cas : Fld Z h5 b5 "com/example/anchorwatch/anchorwatch/protocol/Packet" "cas" "J" (.long (0 : Int64)) := D5 (Or.inr (hw _ (List.mem_of_getElem? (i := 26) rfl))) (ty := .long) (by decide)
  have F5_framing : Fld Z h5 b5 "com/example/anchorwatch/anchorwatch/protocol/Packet" "framing" "[B" .null := D5 (Or.inr (hw _ (List.mem_of_getElem? (i := 28) rfl))) (ty := (.array .byte)) (by decide)
  have F5_extras : Fld Z h5 b5 "com/example/anchorwatch/anchorwatch/protocol/Packet" "extras" "[B" .null := D5 (Or.inr (hw _ (List.mem_of_getElem? (i := 30) rfl))) (ty := (.array .byte)) (by decide)
  have F5_key : Fld Z h5 b5 "com/example/anchorwatch/anchorwatch/protocol/Packet" "key" "[B" .null := D5 (Or.inr (hw _ (List.mem_of_getElem? (i := 32) rfl))) (ty := (.array .byte)) (by decide)
  have F5_value : Fld Z h5 b5 "com/example/anchorwatch/anchorwatch/protocol/Packet" "value" "[B" .null := D5 (Or.inr (hw _ (List.mem_of_getElem? (i := 34) rfl))) (ty := (.array .byte)) (by decide)
  refine own_st st5 ?_
  show own_Fin _ _ _ _ _ _ _ (T5.setTop (mkF m 51 #[.val (.int p1), .val (.int p2), .val (.int p3), .val (.int p4), .val (.int p5), .val (.long q6), .second, .val (.int (p1 &&& (15 : Int32))), .val (.int (p2 &&& (15 : Int32))), .val (.int (p3 &&& (15 : Int32))), .val (.int (p4 &&& (15 : Int32))), .val (.ref b1), .val (.ref b2), .val (.ref b3), .val (.ref b4), .unset] [(.ref b5)]))
  refine own_st (fun t k => XS.dup X5.here hx rfl (hb hby at_51) rfl rfl k) ?_
  show own_Fin _ _ _ _ _ _ _ (T5.setTop (mkF m 52 #[.val (.int p1), .val (.int p2), .val (.int p3), .val (.int p4), .val (.int p5), .val (.long q6), .second, .val (.int (p1 &&& (15 : Int32))), .val (.int (p2 &&& (15 : Int32))), .val (.int (p3 &&& (15 : Int32))), .val (.int (p4 &&& (15 : Int32))), .val (.ref b1), .val (.ref b2), .val (.ref b3), .val (.ref b4), .unset] [(.ref b5), (.ref b5)]))
  refine own_st (fun t k => XS.iload X5.here hx rfl (hb hby at_52) rfl k) ?_
  show own_Fin _ _ _ _ _ _ _ (T5.setTop (mkF m 54 #[.val (.int p1), .val (.int p2), .val (.int p3), .val (.int p4), .val (.int p5), .val (.long q6), .second, .val (.int (p1 &&& (15 : Int32))), .val (.int (p2 &&& (15 : Int32))), .val (.int (p3 &&& (15 : Int32))), .val (.int (p4 &&& (15 : Int32))), .val (.ref b1), .val (.ref b2), .val (.ref b3), .val (.ref b4), .unset] [(.int p5), (.ref b5), (.ref b5)]))
  refine own_st (fun t k => XS.sipush X5.here hx rfl (hb hby at_54) k) ?_
  show own_Fin _ _ _ _ _ _ _ (T5.setTop (mkF m 57 #[.val (.int p1), .val (.int p2), .val (.int p3), .val (.int p4), .val (.int p5), .val (.long q6), .second, .val (.int (p1 &&& (15 : Int32))), .val (.int (p2 &&& (15 : Int32))), .val (.int (p3 &&& (15 : Int32))), .val (.int (p4 &&& (15 : Int32))), .val (.ref b1), .val (.ref b2), .val (.ref b3), .val (.ref b4), .unset] [(.int (255 : Int32)), (.int p5), (.ref b5), (.ref b5)]))
  refine own_st (fun t k => XS.iand X5.here hx rfl (hb hby at_57) rfl k) ?_
  show own_Fin _ _ _ _ _ _ _ (T5.setTop (mkF m 58 #[.val (.int p1), .val (.int p2), .val (.int p3), .val (.int p4), .val (.int p5), .val (.long q6), .second, .val (.int (p1 &&& (15 : Int32))), .val (.int (p2 &&& (15 : Int32))), .val (.int (p3 &&& (15 : Int32))), .val (.int (p4 &&& (15 : Int32))), .val (.ref b1), .val (.ref b2), .val (.ref b3), .val (.ref b4), .unset] [(.int (p5 &&& (255 : Int32))), (.ref b5), (.ref b5)]))
  refine own_st (fun t k => XS.iload X5.here hx rfl (hb hby at_58) rfl k) ?_
  show own_Fin _ _ _ _ _ _ _ (T5.setTop (mkF m 60 #[.val (.int p1), .val (.int p2), .val (.int p3), .val (.int p4), .val (.int p5), .val (.long q6), .second, .val (.int (p1 &&& (15 : Int32))), .val (.int (p2 &&& (15 : Int32))), .val (.int (p3 &&& (15 : Int32))), .val (.int (p4 &&& (15 : Int32))), .val (.ref b1), .val (.ref b2), .val (.ref b3), .val (.ref b4), .unset] [(.int p5), (.int (p5 &&& (255 : Int32))), (.ref b5), (.ref b5)]))
  refine own_st (fun t k => XS.bipush X5.here hx rfl (hb hby at_60) k) ?_
  show own_Fin _ _ _ _ _ _ _ (T5.setTop (mkF m 62 #[.val (.int p1), .val (.int p2), .val (.int p3), .val (.int p4), .val (.int p5), .val (.long q6), .second, .val (.int (p1 &&& (15 : Int32))), .val (.int (p2 &&& (15 : Int32))), .val (.int (p3 &&& (15 : Int32))), .val (.int (p4 &&& (15 : Int32))), .val (.ref b1), .val (.ref b2), .val (.ref b3), .val (.ref b4), .unset] [(.int (8 : Int32)), (.int p5), (.int (p5 &&& (255 : Int32))), (.ref b5), (.ref b5)]))
  refine own_st (fun t k => XS.iushr X5.here hx rfl (hb hby at_62) rfl k) ?_
  show own_Fin _ _ _ _ _ _ _ (T5.setTop (mkF m 63 #[.val (.int p1), .val (.int p2), .val (.int p3), .val (.int p4), .val (.int p5), .val (.long q6), .second, .val (.int (p1 &&& (15 : Int32))), .val (.int (p2 &&& (15 : Int32))), .val (.int (p3 &&& (15 : Int32))), .val (.int (p4 &&& (15 : Int32))), .val (.ref b1), .val (.ref b2), .val (.ref b3), .val (.ref b4), .unset] [(.int ((p5.toUInt32 >>> ((8 : Int32) &&& 31).toUInt32).toInt32)), (.int (p5 &&& (255 : Int32))), (.ref b5), (.ref b5)]))
  refine own_st (fun t k => XS.sipush X5.here hx rfl (hb hby at_63) k) ?_
  show own_Fin _ _ _ _ _ _ _ (T5.setTop (mkF m 66 #[.val (.int p1), .val (.int p2), .val (.int p3), .val (.int p4), .val (.int p5), .val (.long q6), .second, .val (.int (p1 &&& (15 : Int32))), .val (.int (p2 &&& (15 : Int32))), .val (.int (p3 &&& (15 : Int32))), .val (.int (p4 &&& (15 : Int32))), .val (.ref b1), .val (.ref b2), .val (.ref b3), .val (.ref b4), .unset] [(.int (255 : Int32)), (.int ((p5.toUInt32 >>> ((8 : Int32) &&& 31).toUInt32).toInt32)), (.int (p5 &&& (255 : Int32))), (.ref b5), (.ref b5)]))
  refine own_st (fun t k => XS.iand X5.here hx rfl (hb hby at_66) rfl k) ?_
  show own_Fin _ _ _ _ _ _ _ (T5.setTop (mkF m 67 #[.val (.int p1), .val (.int p2), .val (.int p3), .val (.int p4), .val (.int p5), .val (.long q6), .second, .val (.int (p1 &&& (15 : Int32))), .val (.int (p2 &&& (15 : Int32))), .val (.int (p3 &&& (15 : Int32))), .val (.int (p4 &&& (15 : Int32))), .val (.ref b1), .val (.ref b2), .val (.ref b3), .val (.ref b4), .unset] [(.int (((p5.toUInt32 >>> ((8 : Int32) &&& 31).toUInt32).toInt32) &&& (255 : Int32))), (.int (p5 &&& (255 : Int32))), (.ref b5), (.ref b5)]))
  refine own_st (fun t k => XS.iload X5.here hx rfl (hb hby at_67) rfl k) ?_
  show own_Fin _ _ _ _ _ _ _ (T5.setTop (mkF m 69 #[.val (.int p1), .val (.int p2), .val (.int p3), .val (.int p4), .val (.int p5), .val (.long q6), .second, .val (.int (p1 &&& (15 : Int32))), .val (.int (p2 &&& (15 : Int32))), .val (.int (p3 &&& (15 : Int32))), .val (.int (p4 &&& (15 : Int32))), .val (.ref b1), .val (.ref b2), .val (.ref b3), .val (.ref b4), .unset] [(.int p5), (.int (((p5.toUInt32 >>> ((8 : Int32) &&& 31).toUInt32).toInt32) &&& (255 : Int32))), (.int (p5 &&& (255 : Int32))), (.ref b5), (.ref b5)]))
  refine own_st (fun t k => XS.bipush X5.here hx rfl (hb hby at_69) k) ?_
  show own_Fin _ _ _ _ _ _ _ (T5.setTop (mkF m 71 #[.val (.int p1), .val (.int p2), .val (.int p3), .val (.int p4), .val (.int p5), .val (.long q6), .second, .val (.int (p1 &&& (15 : Int32))), .val (.int (p2 &&& (15 : Int32))), .val (.int (p3 &&& (15 : Int32))), .val (.int (p4 &&& (15 : Int32))), .val (.ref b1), .val (.ref b2), .val (.ref b3), .val (.ref b4), .unset] [(.int (16 : Int32)), (.int p5), (.int (((p5.toUInt32 >>> ((8 : Int32) &&& 31).toUInt32).toInt32) &&& (255 : Int32))), (.int (p5 &&& (255 : Int32))), (.ref b5), (.ref b5)]))
  refine own_st (fun t k => XS.iushr X5.here hx rfl (hb hby at_71) rfl k) ?_
  show own_Fin _ _ _ _ _ _ _ (T5.setTop (mkF m 72 #[.val (.int p1), .val (.int p2), .val (.int p3), .val (.int p4), .val (.int p5), .val (.long q6), .second, .val (.int (p1 &&& (15 : Int32))), .val (.int (p2 &&& (15 : Int32))), .val (.int (p3 &&& (15 : Int32))), .val (.int (p4 &&& (15 : Int32))), .val (.ref b1), .val (.ref b2), .val (.ref b3), .val (.ref b4), .unset] [(.int ((p5.toUInt32 >>> ((16 : Int32) &&& 31).toUInt32).toInt32)), (.int (((p5.toUInt32 >>> ((8 : Int32) &&& 31).toUInt32).toInt32) &&& (255 : Int32))), (.int (p5 &&& (255 : Int32))), (.ref b5), (.ref b5)]))
  refine own_st (fun t k => XS.sipush X5.here hx rfl (hb hby at_72) k) ?_
  show own_Fin _ _ _ _ _ _ _ (T5.setTop (mkF m 75 #[.val (.int p1), .val (.int p2), .val (.int p3), .val (.int p4), .val (.int p5), .val (.long q6), .second, .val (.int (p1 &&& (15 : Int32))), .val (.int (p2 &&& (15 : Int32))), .val (.int (p3 &&& (15 : Int32))), .val (.int (p4 &&& (15 : Int32))), .val (.ref b1), .val (.ref b2), .val (.ref b3), .val (.ref b4), .unset] [(.int (255 : Int32)), (.int ((p5.toUInt32 >>> ((16 : Int32) &&& 31).toUInt32).toInt32)), (.int (((p5.toUInt32 >>> ((8 : Int32) &&& 31).toUInt32).toInt32) &&& (255 : Int32))), (.int (p5 &&& (255 : Int32))), (.ref b5), (.ref b5)]))
  refine own_st (fun t k => XS.iand X5.here hx rfl (hb hby at_75) rfl k) ?_
  show own_Fin _ _ _ _ _ _ _ (T5.setTop (mkF m 76 #[.val (.int p1), .val (.int p2), .val (.int p3), .val (.int p4), .val (.int p5), .val (.long q6), .second, .val (.int (p1 &&& (15 : Int32))), .val (.int (p2 &&& (15 : Int32))), .val (.int (p3 &&& (15 : Int32))), .val (.int (p4 &&& (15 : Int32))), .val (.ref b1), .val (.ref b2), .val (.ref b3), .val (.ref b4), .unset] [(.int (((p5.toUInt32 >>> ((16 : Int32) &&& 31).toUInt32).toInt32) &&& (255 : Int32))), (.int (((p5.toUInt32 >>> ((8 : Int32) &&& 31).toUInt32).toInt32) &&& (255 : Int32))), (.int (p5 &&& (255 : Int32))), (.ref b5), (.ref b5)]))
  refine own_st (fun t k => XS.iload X5.here hx rfl (hb hby at_76) rfl k) ?_
  show own_Fin _ _ _ _ _ _ _ (T5.setTop (mkF m 78 #[.val (.int p1), .val (.int p2), .val (.int p3), .val (.int p4), .val (.int p5), .val (.long q6), .second, .val (.int (p1 &&& (15 : Int32))), .val (.int (p2 &&& (15 : Int32))), .val (.int (p3 &&& (15 : Int32))), .val (.int (p4 &&& (15 : Int32))), .val (.ref b1), .val (.ref b2), .val (.ref b3), .val (.ref b4), .unset] [(.int p5), (.int (((p5.toUInt32 >>> ((16 : Int32) &&& 31).toUInt32).toInt32) &&& (255 : Int32))), (.int (((p5.toUInt32 >>> ((8 : Int32) &&& 31).toUInt32).toInt32) &&& (255 : Int32))), (.int (p5 &&& (255 : Int32))), (.ref b5), (.ref b5)]))
  refine own_st (fun t k => XS.iloadN X5.here hx rfl (hb hby at_78) rfl k) ?_
  show own_Fin _ _ _ _ _ _ _ (T5.setTop (mkF m 79 #[.val (.int p1), .val (.int p2), .val (.int p3), .val (.int p4), .val (.int p5), .val (.long q6), .second, .val (.int (p1 &&& (15 : Int32))), .val (.int (p2 &&& (15 : Int32))), .val (.int (p3 &&& (15 : Int32))), .val (.int (p4 &&& (15 : Int32))), .val (.ref b1), .val (.ref b2), .val (.ref b3), .val (.ref b4), .unset] [(.int p1), (.int p5), (.int (((p5.toUInt32 >>> ((16 : Int32) &&& 31).toUInt32).toInt32) &&& (255 : Int32))), (.int (((p5.toUInt32 >>> ((8 : Int32) &&& 31).toUInt32).toInt32) &&& (255 : Int32))), (.int (p5 &&& (255 : Int32))), (.ref b5), (.ref b5)]))
  refine own_st (fun t k => XS.iloadN X5.here hx rfl (hb hby at_79) rfl k) ?_
  show own_Fin _ _ _ _ _ _ _ (T5.setTop (mkF m 80 #[.val (.int p1), .val (.int p2), .val (.int p3), .val (.int p4), .val (.int p5), .val (.long q6), .second, .val (.int (p1 &&& (15 : Int32))), .val (.int (p2 &&& (15 : Int32))), .val (.int (p3 &&& (15 : Int32))), .val (.int (p4 &&& (15 : Int32))), .val (.ref b1), .val (.ref b2), .val (.ref b3), .val (.ref b4), .unset] [(.int p4), (.int p1), (.int p5), (.int (((p5.toUInt32 >>> ((16 : Int32) &&& 31).toUInt32).toInt32) &&& (255 : Int32))), (.int (((p5.toUInt32 >>> ((8 : Int32) &&& 31).toUInt32).toInt32) &&& (255 : Int32))), (.int (p5 &&& (255 : Int32))), (.ref b5), (.ref b5)]))
  refine own_st (fun t k => XS.ixor X5.here hx rfl (hb hby at_80) rfl k) ?_
  show own_Fin _ _ _ _ _ _ _ (T5.setTop (mkF m 81 #[.val (.int p1), .val (.int p2), .val (.int p3), .val (.int p4), .val (.int p5), .val (.long q6), .second, .val (.int (p1 &&& (15 : Int32))), .val (.int (p2 &&& (15 : Int32))), .val (.int (p3 &&& (15 : Int32))), .val (.int (p4 &&& (15 : Int32))), .val (.ref b1), .val (.ref b2), .val (.ref b3), .val (.ref b4), .unset] [(.int (p1 ^^^ p4)), (.int p5), (.int (((p5.toUInt32 >>> ((16 : Int32) &&& 31).toUInt32).toInt32) &&& (255 : Int32))), (.int (((p5.toUInt32 >>> ((8 : Int32) &&& 31).toUInt32).toInt32) &&& (255 : Int32))), (.int (p5 &&& (255 : Int32))), (.ref b5), (.ref b5)]))
  refine own_st (fun t k => XS.lload X5.here hx rfl (hb hby at_81) rfl k) ?_
  show own_Fin _ _ _ _ _ _ _ (T5.setTop (mkF m 83 #[.val (.int p1), .val (.int p2), .val (.int p3), .val (.int p4), .val (.int p5), .val (.long q6), .second, .val (.int (p1 &&& (15 : Int32))), .val (.int (p2 &&& (15 : Int32))), .val (.int (p3 &&& (15 : Int32))), .val (.int (p4 &&& (15 : Int32))), .val (.ref b1), .val (.ref b2), .val (.ref b3), .val (.ref b4), .unset] [(.long q6), (.int (p1 ^^^ p4)), (.int p5), (.int (((p5.toUInt32 >>> ((16 : Int32) &&& 31).toUInt32).toInt32) &&& (255 : Int32))), (.int (((p5.toUInt32 >>> ((8 : Int32) &&& 31).toUInt32).toInt32) &&& (255 : Int32))), (.int (p5 &&& (255 : Int32))), (.ref b5), (.ref b5)]))
  refine own_st (fun t k => XS.aload X5.here hx rfl (hb hby at_83) rfl rfl k) ?_
  show own_Fin _ _ _ _ _ _ _ (T5.setTop (mkF m 85 #[.val (.int p1), .val (.int p2), .val (.int p3), .val (.int p4), .val (.int p5), .val (.long q6), .second, .val (.int (p1 &&& (15 : Int32))), .val (.int (p2 &&& (15 : Int32))), .val (.int (p3 &&& (15 : Int32))), .val (.int (p4 &&& (15 : Int32))), .val (.ref b1), .val (.ref b2), .val (.ref b3), .val (.ref b4), .unset] [(.ref b1), (.long q6), (.int (p1 ^^^ p4)), (.int p5), (.int (((p5.toUInt32 >>> ((16 : Int32) &&& 31).toUInt32).toInt32) &&& (255 : Int32))), (.int (((p5.toUInt32 >>> ((8 : Int32) &&& 31).toUInt32).toInt32) &&& (255 : Int32))), (.int (p5 &&& (255 : Int32))), (.ref b5), (.ref b5)]))
  refine own_st (fun t k => XS.aload X5.here hx rfl (hb hby at_85) rfl rfl k) ?_
  show own_Fin _ _ _ _ _ _ _ (T5.setTop (mkF m 87 #[.val (.int p1), .val (.int p2), .val (.int p3), .val (.int p4), .val (.int p5), .val (.long q6), .second, .val (.int (p1 &&& (15 : Int32))), .val (.int (p2 &&& (15 : Int32))), .val (.int (p3 &&& (15 : Int32))), .val (.int (p4 &&& (15 : Int32))), .val (.ref b1), .val (.ref b2), .val (.ref b3), .val (.ref b4), .unset] [(.ref b2), (.ref b1), (.long q6), (.int (p1 ^^^ p4)), (.int p5), (.int (((p5.toUInt32 >>> ((16 : Int32) &&& 31).toUInt32).toInt32) &&& (255 : Int32))), (.int (((p5.toUInt32 >>> ((8 : Int32) &&& 31).toUInt32).toInt32) &&& (255 : Int32))), (.int (p5 &&& (255 : Int32))), (.ref b5), (.ref b5)]))
  refine own_st (fun t k => XS.aload X5.here hx rfl (hb hby at_87) rfl rfl k) ?_
  show own_Fin _ _ _ _ _ _ _ (T5.setTop (mkF m 89 #[.val (.int p1), .val (.int p2), .val (.int p3), .val (.int p4), .val (.int p5), .val (.long q6), .second, .val (.int (p1 &&& (15 : Int32))), .val (.int (p2 &&& (15 : Int32))), .val (.int (p3 &&& (15 : Int32))), .val (.int (p4 &&& (15 : Int32))), .val (.ref b1), .val (.ref b2), .val (.ref b3), .val (.ref b4), .unset] [(.ref b3), (.ref b2), (.ref b1), (.long q6), (.int (p1 ^^^ p4)), (.int p5), (.int (((p5.toUInt32 >>> ((16 : Int32) &&& 31).toUInt32).toInt32) &&& (255 : Int32))), (.int (((p5.toUInt32 >>> ((8 : Int32) &&& 31).toUInt32).toInt32) &&& (255 : Int32))), (.int (p5 &&& (255 : Int32))), (.ref b5), (.ref b5)]))
  refine own_st (fun t k => XS.aload X5.here hx rfl (hb hby at_89) rfl rfl k) ?_
  show own_Fin _ _ _ _ _ _ _ (T5.setTop (mkF m 91 #[.val (.int p1), .val (.int p2), .val (.int p3), .val (.int p4), .val (.int p5), .val (.long q6), .second, .val (.int (p1 &&& (15 : Int32))), .val (.int (p2 &&& (15 : Int32))), .val (.int (p3 &&& (15 : Int32))), .val (.int (p4 &&& (15 : Int32))), .val (.ref b1), .val (.ref b2), .val (.ref b3), .val (.ref b4), .unset] [(.ref b4), (.ref b3), (.ref b2), (.ref b1), (.long q6), (.int (p1 ^^^ p4)), (.int p5), (.int (((p5.toUInt32 >>> ((16 : Int32) &&& 31).toUInt32).toInt32) &&& (255 : Int32))), (.int (((p5.toUInt32 >>> ((8 : Int32) &&& 31).toUInt32).toInt32) &&& (255 : Int32))), (.int (p5 &&& (255 : Int32))), (.ref b5), (.ref b5)]))
  obtain ⟨_, _, ⟨T6, L6, k6, n6⟩, -, X6, ⟨Lc6, hQ6, l6, y6, z6⟩, st6⟩ := X5.specialBack hx (y := (⟨"com/example/anchorwatch/anchorwatch/protocol/Packet", "<init>", "(IIIIIJ[B[B[B[B)V"⟩ : MethodName)) rfl hown (mvT hZ (hw _ (List.mem_of_getElem? (i := 4) rfl))) (mvT hZ (hw _ (List.mem_of_getElem? (i := 5) rfl))) (mvT hZ (hw _ (List.mem_of_getElem? (i := 6) rfl))) (by decide) (backOf (W := 1) (rm1 l Z a0 hw [] b5 (p5 &&& (255 : Int32)) (((p5.toUInt32 >>> ((8 : Int32) &&& 31).toUInt32).toInt32) &&& (255 : Int32)) (((p5.toUInt32 >>> ((16 : Int32) &&& 31).toUInt32).toInt32) &&& (255 : Int32)) p5 (p1 ^^^ p4) q6 b1 b2 b3 b4 h5 n0 Z5 A5 F5_magic F5_opcode F5_dataType F5_vbucketOrStatus F5_opaque F5_cas F5_framing F5_extras F5_key F5_value ge_b5) hZ (hw _ (List.mem_of_getElem? (i := 6) rfl)) (hw _ (List.mem_of_getElem? (i := 3) rfl)) (by decide) (by decide)) (g := (mkF m 91 #[.val (.int p1), .val (.int p2), .val (.int p3), .val (.int p4), .val (.int p5), .val (.long q6), .second, .val (.int (p1 &&& (15 : Int32))), .val (.int (p2 &&& (15 : Int32))), .val (.int (p3 &&& (15 : Int32))), .val (.int (p4 &&& (15 : Int32))), .val (.ref b1), .val (.ref b2), .val (.ref b3), .val (.ref b4), .unset] [(.ref b4), (.ref b3), (.ref b2), (.ref b1), (.long q6), (.int (p1 ^^^ p4)), (.int p5), (.int (((p5.toUInt32 >>> ((16 : Int32) &&& 31).toUInt32).toInt32) &&& (255 : Int32))), (.int (((p5.toUInt32 >>> ((8 : Int32) &&& 31).toUInt32).toInt32) &&& (255 : Int32))), (.int (p5 &&& (255 : Int32))), (.ref b5), (.ref b5)])) rfl (by rw [hml]; rfl) (Steps.refl _) (a := b5) (argsL := [(.int (p5 &&& (255 : Int32))), (.int (((p5.toUInt32 >>> ((8 : Int32) &&& 31).toUInt32).toInt32) &&& (255 : Int32))), (.int (((p5.toUInt32 >>> ((16 : Int32) &&& 31).toUInt32).toInt32) &&& (255 : Int32))), (.int p5), (.int (p1 ^^^ p4)), (.long q6), (.ref b1), (.ref b2), (.ref b3), (.ref b4)]) (rest := [(.ref b5)]) (lenOf pd_0_0 rfl) rfl (by show 2 * 0 + _ ≤ _; exact Nat.le_of_eq rfl) (hb hby at_91) (fun _ _ => ⟨rfl, e5, (by decide : 5 + 0 ≤ _), (by decide : 70 + 0 ≤ _)⟩)
  dsimp only [Pt.U, Pt.locs, Pt.cells, Pt.slots] at X6 l6 y6 z6 st6 hQ6
  subst l6 y6 z6
  obtain ⟨rfl, N6q, K6, o6_0, o6_1, o6_2, o6_3, o6_4⟩ := hQ6
  have N6 := Fr.app N0 N6q
  have f6_0 := f5_0.keep K6 (ninS ne_b1_b5 nin0)
  have f6_1 := f5_1.keep K6 (ninS ne_b2_b5 nin0)
  have f6_2 := f5_2.keep K6 (ninS ne_b3_b5 nin0)
  have f6_3 := f5_3.keep K6 (ninS ne_b4_b5 nin0)
  have Z6 : n0 ≤ T6.heap.size := Nat.le_trans Z5 K6.1
  refine own_st (fun t k => st6.trans k) ?_
  show own_Fin _ _ _ _ _ _ _ (T6.setTop (mkF m 94 #[.val (.int p1), .val (.int p2), .val (.int p3), .val (.int p4), .val (.int p5), .val (.long q6), .second, .val (.int (p1 &&& (15 : Int32))), .val (.int (p2 &&& (15 : Int32))), .val (.int (p3 &&& (15 : Int32))), .val (.int (p4 &&& (15 : Int32))), .val (.ref b1), .val (.ref b2), .val (.ref b3), .val (.ref b4), .unset] [(.ref b5)]))
  refine own_st (fun t k => XS.astore X6.here hx rfl (hb hby at_94) rfl rfl (l' := #[.val (.int p1), .val (.int p2), .val (.int p3), .val (.int p4), .val (.int p5), .val (.long q6), .second, .val (.int (p1 &&& (15 : Int32))), .val (.int (p2 &&& (15 : Int32))), .val (.int (p3 &&& (15 : Int32))), .val (.int (p4 &&& (15 : Int32))), .val (.ref b1), .val (.ref b2), .val (.ref b3), .val (.ref b4), .val (.ref b5)]) rfl k) ?_
  show own_Fin _ _ _ _ _ _ _ (T6.setTop (mkF m 96 #[.val (.int p1), .val (.int p2), .val (.int p3), .val (.int p4), .val (.int p5), .val (.long q6), .second, .val (.int (p1 &&& (15 : Int32))), .val (.int (p2 &&& (15 : Int32))), .val (.int (p3 &&& (15 : Int32))), .val (.int (p4 &&& (15 : Int32))), .val (.ref b1), .val (.ref b2), .val (.ref b3), .val (.ref b4), .val (.ref b5)] []))
  refine own_st (fun t k => XS.aload X6.here hx rfl (hb hby at_96) rfl rfl k) ?_
  show own_Fin _ _ _ _ _ _ _ (T6.setTop (mkF m 98 #[.val (.int p1), .val (.int p2), .val (.int p3), .val (.int p4), .val (.int p5), .val (.long q6), .second, .val (.int (p1 &&& (15 : Int32))), .val (.int (p2 &&& (15 : Int32))), .val (.int (p3 &&& (15 : Int32))), .val (.int (p4 &&& (15 : Int32))), .val (.ref b1), .val (.ref b2), .val (.ref b3), .val (.ref b4), .val (.ref b5)] [(.ref b5)]))
  obtain ⟨cq7, kq7, qa7, qb7, qc7⟩ := isOf hZ rfl o6_0
  obtain ⟨_, _, ⟨T7, L7, k7, n7⟩, -, X7, ⟨Lc7, hQ7, l7, y7, z7⟩, st7⟩ := X6.virtualBack hx (y := (⟨"com/example/anchorwatch/anchorwatch/protocol/Packet", "bodyLength", "()I"⟩ : MethodName)) (z := (⟨"com/example/anchorwatch/anchorwatch/protocol/Packet", "bodyLength", "()I"⟩ : MethodName)) hown (mvT hZ (hw _ (List.mem_of_getElem? (i := 35) rfl))) (mvT hZ (hw _ (List.mem_of_getElem? (i := 36) rfl))) (notFace_of_selects (args := #[]) (mvT hZ (hw _ (List.mem_of_getElem? (i := 38) rfl)))) (mvT hZ (hw _ (List.mem_of_getElem? (i := 38) rfl))) (mvT hZ (hw _ (List.mem_of_getElem? (i := 37) rfl))) (by decide) (backOf (W := 0) (rm4 l Z a0 hw [] b5 b1 k1 (p1 &&& (15 : Int32)) b2 k2 (p2 &&& (15 : Int32)) b3 k3 (p3 &&& (15 : Int32)) b4 k4 (p4 &&& (15 : Int32)) T6.heap n0 Z6 o6_1 o6_2 o6_3 o6_4 f6_0 f6_1 f6_2 f6_3) hZ (hw _ (List.mem_of_getElem? (i := 39) rfl)) (hw _ (List.mem_of_getElem? (i := 3) rfl)) (by decide) (by decide)) qa7 qc7 (g := (mkF m 98 #[.val (.int p1), .val (.int p2), .val (.int p3), .val (.int p4), .val (.int p5), .val (.long q6), .second, .val (.int (p1 &&& (15 : Int32))), .val (.int (p2 &&& (15 : Int32))), .val (.int (p3 &&& (15 : Int32))), .val (.int (p4 &&& (15 : Int32))), .val (.ref b1), .val (.ref b2), .val (.ref b3), .val (.ref b4), .val (.ref b5)] [(.ref b5)])) rfl (by rw [hml]; rfl) (Steps.refl _) (argsL := []) (rest := []) (lenOf pd_0_1 rfl) rfl (by show 2 * 0 + _ ≤ _; exact Nat.le_of_eq rfl) (hb hby at_98) (fun _ _ => ⟨rfl, rfl, (by decide : 5 + 0 ≤ _), (by decide : 70 + 0 ≤ _)⟩)
  dsimp only [Pt.U, Pt.locs, Pt.cells, Pt.slots] at X7 l7 y7 z7 st7 hQ7
  subst l7 y7 z7
  obtain ⟨rfl, N7q, e7⟩ := hQ7
  have N7 := Fr.app N6 N7q
  refine own_st (fun t k => st7.trans k) ?_
  show own_Fin _ _ _ _ _ _ _ (T7.setTop (mkF m 101 #[.val (.int p1), .val (.int p2), .val (.int p3), .val (.int p4), .val (.int p5), .val (.long q6), .second, .val (.int (p1 &&& (15 : Int32))), .val (.int (p2 &&& (15 : Int32))), .val (.int (p3 &&& (15 : Int32))), .val (.int (p4 &&& (15 : Int32))), .val (.ref b1), .val (.ref b2), .val (.ref b3), .val (.ref b4), .val (.ref b5)] [(.int ((((p1 &&& (15 : Int32)) + (p2 &&& (15 : Int32))) + (p3 &&& (15 : Int32))) + (p4 &&& (15 : Int32))))]))
  refine own_st (fun t k => XS.iload X7.here hx rfl (hb hby at_101) rfl k) ?_
  show own_Fin _ _ _ _ _ _ _ (T7.setTop (mkF m 103 #[.val (.int p1), .val (.int p2), .val (.int p3), .val (.int p4), .val (.int p5), .val (.long q6), .second, .val (.int (p1 &&& (15 : Int32))), .val (.int (p2 &&& (15 : Int32))), .val (.int (p3 &&& (15 : Int32))), .val (.int (p4 &&& (15 : Int32))), .val (.ref b1), .val (.ref b2), .val (.ref b3), .val (.ref b4), .val (.ref b5)] [(.int (p1 &&& (15 : Int32))), (.int ((((p1 &&& (15 : Int32)) + (p2 &&& (15 : Int32))) + (p3 &&& (15 : Int32))) + (p4 &&& (15 : Int32))))]))
  refine own_st (fun t k => XS.iload X7.here hx rfl (hb hby at_103) rfl k) ?_
  show own_Fin _ _ _ _ _ _ _ (T7.setTop (mkF m 105 #[.val (.int p1), .val (.int p2), .val (.int p3), .val (.int p4), .val (.int p5), .val (.long q6), .second, .val (.int (p1 &&& (15 : Int32))), .val (.int (p2 &&& (15 : Int32))), .val (.int (p3 &&& (15 : Int32))), .val (.int (p4 &&& (15 : Int32))), .val (.ref b1), .val (.ref b2), .val (.ref b3), .val (.ref b4), .val (.ref b5)] [(.int (p2 &&& (15 : Int32))), (.int (p1 &&& (15 : Int32))), (.int ((((p1 &&& (15 : Int32)) + (p2 &&& (15 : Int32))) + (p3 &&& (15 : Int32))) + (p4 &&& (15 : Int32))))]))
  refine own_st (fun t k => XS.iadd X7.here hx rfl (hb hby at_105) rfl k) ?_
  show own_Fin _ _ _ _ _ _ _ (T7.setTop (mkF m 106 #[.val (.int p1), .val (.int p2), .val (.int p3), .val (.int p4), .val (.int p5), .val (.long q6), .second, .val (.int (p1 &&& (15 : Int32))), .val (.int (p2 &&& (15 : Int32))), .val (.int (p3 &&& (15 : Int32))), .val (.int (p4 &&& (15 : Int32))), .val (.ref b1), .val (.ref b2), .val (.ref b3), .val (.ref b4), .val (.ref b5)] [(.int ((p1 &&& (15 : Int32)) + (p2 &&& (15 : Int32)))), (.int ((((p1 &&& (15 : Int32)) + (p2 &&& (15 : Int32))) + (p3 &&& (15 : Int32))) + (p4 &&& (15 : Int32))))]))
  refine own_st (fun t k => XS.iload X7.here hx rfl (hb hby at_106) rfl k) ?_
  show own_Fin _ _ _ _ _ _ _ (T7.setTop (mkF m 108 #[.val (.int p1), .val (.int p2), .val (.int p3), .val (.int p4), .val (.int p5), .val (.long q6), .second, .val (.int (p1 &&& (15 : Int32))), .val (.int (p2 &&& (15 : Int32))), .val (.int (p3 &&& (15 : Int32))), .val (.int (p4 &&& (15 : Int32))), .val (.ref b1), .val (.ref b2), .val (.ref b3), .val (.ref b4), .val (.ref b5)] [(.int (p3 &&& (15 : Int32))), (.int ((p1 &&& (15 : Int32)) + (p2 &&& (15 : Int32)))), (.int ((((p1 &&& (15 : Int32)) + (p2 &&& (15 : Int32))) + (p3 &&& (15 : Int32))) + (p4 &&& (15 : Int32))))]))
  refine own_st (fun t k => XS.iadd X7.here hx rfl (hb hby at_108) rfl k) ?_
  show own_Fin _ _ _ _ _ _ _ (T7.setTop (mkF m 109 #[.val (.int p1), .val (.int p2), .val (.int p3), .val (.int p4), .val (.int p5), .val (.long q6), .second, .val (.int (p1 &&& (15 : Int32))), .val (.int (p2 &&& (15 : Int32))), .val (.int (p3 &&& (15 : Int32))), .val (.int (p4 &&& (15 : Int32))), .val (.ref b1), .val (.ref b2), .val (.ref b3), .val (.ref b4), .val (.ref b5)] [(.int (((p1 &&& (15 : Int32)) + (p2 &&& (15 : Int32))) + (p3 &&& (15 : Int32)))), (.int ((((p1 &&& (15 : Int32)) + (p2 &&& (15 : Int32))) + (p3 &&& (15 : Int32))) + (p4 &&& (15 : Int32))))]))
  refine own_st (fun t k => XS.iload X7.here hx rfl (hb hby at_109) rfl k) ?_
  show own_Fin _ _ _ _ _ _ _ (T7.setTop (mkF m 111 #[.val (.int p1), .val (.int p2), .val (.int p3), .val (.int p4), .val (.int p5), .val (.long q6), .second, .val (.int (p1 &&& (15 : Int32))), .val (.int (p2 &&& (15 : Int32))), .val (.int (p3 &&& (15 : Int32))), .val (.int (p4 &&& (15 : Int32))), .val (.ref b1), .val (.ref b2), .val (.ref b3), .val (.ref b4), .val (.ref b5)] [(.int (p4 &&& (15 : Int32))), (.int (((p1 &&& (15 : Int32)) + (p2 &&& (15 : Int32))) + (p3 &&& (15 : Int32)))), (.int ((((p1 &&& (15 : Int32)) + (p2 &&& (15 : Int32))) + (p3 &&& (15 : Int32))) + (p4 &&& (15 : Int32))))]))
  refine own_st (fun t k => XS.iadd X7.here hx rfl (hb hby at_111) rfl k) ?_
  show own_Fin _ _ _ _ _ _ _ (T7.setTop (mkF m 112 #[.val (.int p1), .val (.int p2), .val (.int p3), .val (.int p4), .val (.int p5), .val (.long q6), .second, .val (.int (p1 &&& (15 : Int32))), .val (.int (p2 &&& (15 : Int32))), .val (.int (p3 &&& (15 : Int32))), .val (.int (p4 &&& (15 : Int32))), .val (.ref b1), .val (.ref b2), .val (.ref b3), .val (.ref b4), .val (.ref b5)] [(.int ((((p1 &&& (15 : Int32)) + (p2 &&& (15 : Int32))) + (p3 &&& (15 : Int32))) + (p4 &&& (15 : Int32)))), (.int ((((p1 &&& (15 : Int32)) + (p2 &&& (15 : Int32))) + (p3 &&& (15 : Int32))) + (p4 &&& (15 : Int32))))]))
  have hd112_8 : ((((p1 &&& (15 : Int32)) + (p2 &&& (15 : Int32))) + (p3 &&& (15 : Int32))) + (p4 &&& (15 : Int32))) = ((((p1 &&& (15 : Int32)) + (p2 &&& (15 : Int32))) + (p3 &&& (15 : Int32))) + (p4 &&& (15 : Int32))) := rfl
  refine own_st (fun t k => XS.icmpNo X7.here hx rfl (hb hby at_112) rfl (teq hd112_8).2 k) ?_
  show own_Fin _ _ _ _ _ _ _ (T7.setTop (mkF m 115 #[.val (.int p1), .val (.int p2), .val (.int p3), .val (.int p4), .val (.int p5), .val (.long q6), .second, .val (.int (p1 &&& (15 : Int32))), .val (.int (p2 &&& (15 : Int32))), .val (.int (p3 &&& (15 : Int32))), .val (.int (p4 &&& (15 : Int32))), .val (.ref b1), .val (.ref b2), .val (.ref b3), .val (.ref b4), .val (.ref b5)] []))
  refine own_st (fun t k => XS.iconst X7.here hx rfl (hb hby at_115) k) ?_
  show own_Fin _ _ _ _ _ _ _ (T7.setTop (mkF m 116 #[.val (.int p1), .val (.int p2), .val (.int p3), .val (.int p4), .val (.int p5), .val (.long q6), .second, .val (.int (p1 &&& (15 : Int32))), .val (.int (p2 &&& (15 : Int32))), .val (.int (p3 &&& (15 : Int32))), .val (.int (p4 &&& (15 : Int32))), .val (.ref b1), .val (.ref b2), .val (.ref b3), .val (.ref b4), .val (.ref b5)] [(.int (1 : Int32))]))
  refine own_st (fun t k => XS.goto X7.here hx rfl (pc0 := 116) (pc' := 120) rfl (hb hby at_116) (by decide) (by decide) k) ?_
  show own_Fin _ _ _ _ _ _ _ (T7.setTop (mkF m 120 #[.val (.int p1), .val (.int p2), .val (.int p3), .val (.int p4), .val (.int p5), .val (.long q6), .second, .val (.int (p1 &&& (15 : Int32))), .val (.int (p2 &&& (15 : Int32))), .val (.int (p3 &&& (15 : Int32))), .val (.int (p4 &&& (15 : Int32))), .val (.ref b1), .val (.ref b2), .val (.ref b3), .val (.ref b4), .val (.ref b5)] [(.int (1 : Int32))]))
  exact own_retN X7 hx Bd.notSynchronized (t := .boolean) Bd.returns (by simp) (hb hby at_120) (by decide) (by decide) ⟨rfl, N7, trivial⟩
set_option maxRecDepth 65536 in
set_option maxHeartbeats 40000000 in
theorem comes_1 {Post : Tables → Env → Array Value → State → Outcome → State → Prop} (hpost : ∀ tb e args s v u, (limb_1_1.after args s (.returned v) u = true ∧ limb_1_2.after args s (.returned v) u = true ∧ True) → FrameEnd s (.returned v) u (Jvm.fieldLocs frame_1_writes args s ++ Jvm.arrayLocs frame_1_arrays args s ++ Jvm.staticLocs frame_1_statics s) 24 256 → Post tb e args s (.returned v) u) :
    ArmFor flags0 classFile x code maxLocals ret World_1 tables_1 room_1 Calls_1 rest_1 Pre_1 Post := by
  intro l hfl _ _ p e ha hc hk s m args below hf hA hF happ hP
  obtain ⟨hcalls, hrest, hpre⟩ := hP
  obtain ⟨-, -, -, hnamed, -, -, -, hat⟩ := (Spec.applies_iff hf).mp happ
  obtain ⟨hg, hn⟩ := and_e (Cond.before_iff.mp (show (Jvm.Cond.and given_1 narrow_1).before args s = true from hpre))
  obtain ⟨g3, g4⟩ := and_e hg
  obtain ⟨g5, g6⟩ := and_e g4
  obtain ⟨g7, g8⟩ := and_e g6
  obtain ⟨g9, g10⟩ := and_e g8
  obtain ⟨g11, g12⟩ := and_e g10
  obtain ⟨g13, g14⟩ := and_e g12
  obtain ⟨w0, w1, w2, w3, w4, w5, rfl⟩ : ∃ w0 w1 w2 w3 w4 w5 : Value, args = #[w0, w1, w2, w3, w4, w5] := by
    have hs : args.size = 6 := by simpa [Cond.value, given_1] using g3
    obtain ⟨L⟩ := args
    match L, hs with
    | [w0, w1, w2, w3, w4, w5], _ => exact ⟨w0, w1, w2, w3, w4, w5, rfl⟩
  have hw := fun d (hd : d ∈ tables_1) => atoms_spec (ws := Jvm.Cond.code x code maxLocals ret :: tables_1) hat d (List.mem_cons_of_mem _ hd)
  obtain ⟨i0, ei0⟩ := is_v g5
  obtain rfl : w0 = (.int i0) := Option.some.inj ei0
  obtain ⟨i1, ei1⟩ := is_v g7
  obtain rfl : w1 = (.int i1) := Option.some.inj ei1
  obtain ⟨i2, ei2⟩ := is_v g9
  obtain rfl : w2 = (.int i2) := Option.some.inj ei2
  obtain ⟨i3, ei3⟩ := is_v g11
  obtain rfl : w3 = (.int i3) := Option.some.inj ei3
  obtain ⟨i4, ei4⟩ := is_v g13
  obtain rfl : w4 = (.int i4) := Option.some.inj ei4
  obtain ⟨i5, ei5⟩ := isL_v g14
  obtain rfl : w5 = (.long i5) := Option.some.inj ei5
  obtain ⟨n, o, h1, h2, h3, v, L, rfl, ⟨hv, N, -⟩, hq⟩ := rm0 l s _ hw tables_1 i0 i1 i2 i3 i4 i5 s.heap s.heap.size (Nat.le_refl _) p e ha hc hk s m _ below hf ((Spec.applies_iff_loose hf).mp happ).1 ⟨rfl, State.Warmed39.refl s, rfl⟩ trivial
  subst hv
  refine ⟨n, _, h1, h2, h3, hpost _ _ _ _ _ _ ⟨Cond.after_iff.mpr rfl, Cond.after_iff.mpr (eq_i res_at (Term.int_eval (1)) rfl), trivial⟩ ⟨hq.1, hq.2.1, (hq.2.2.sift fun y hy => Or.inr (N y hy)).mono (by decide) (by decide)⟩⟩
theorem main_1_1 : Claimed_1_1 := comes_1 fun _ _ _ _ _ _ h hF => ⟨h.1, hF⟩
theorem main_1_2 : Claimed_1_2 := comes_1 fun _ _ _ _ _ _ h hF => ⟨h.2.1, hF⟩
end Jvm.Pilot.@@N@@
namespace Jvm.Pilot.@@N@@
open Jvm Jvm.ClassFile Sem Op Lib Jvm.Free Jvm.Stand Jvm.Pilot.@@N@@.Jvm.D
/-! MADE BY PROGRAM (witnessworld.py) out of the Statement's table words and the real class files: 10 classes; the members and pool entries that the words name. The judged class is class 1, her method 1. -/
namespace start1
open Jvm.ClassFile
def u (s : String) : CpInfo := .utf8 (stringToUtf16 s)
/-- a pool by its gaps: so many unusable entries, then the entry; so many at the end -/
def gap : Nat → List CpInfo → List CpInfo
  | 0, r => r
  | n + 1, r => .unusable :: gap n r
def poolList (es : List (Nat × CpInfo)) (last : Nat) : List CpInfo := es.foldr (fun e r => gap e.1 (e.2 :: r)) (gap last [])
def pool (es : List (Nat × CpInfo)) (last : Nat) : Array CpInfo := ⟨poolList es last⟩
def fileOf (pool : Array CpInfo) (this : Nat) (attrs : Array Attribute := #[]) (ms : Array MethodInfo := #[]) (fl : Nat := 33) (sup : Nat := 0) (ifs : Array Nat := #[]) (fds : Array FieldInfo := #[]) : ClassFile where
  minorVersion := 0
  majorVersion := 65
  constantPool := pool
  accessFlags := fl
  thisClass := this
  superClass := sup
  interfaces := ifs
  fields := fds
  methods := ms
  attributes := attrs
def plain (name : String) (sup : Option ClassId) : Class where
  name := name
  kind := .ordinary
  loader := none
  accessFlags := 33
  super := sup
  interfaces := #[]
  cf := none
  fields := #[]
  methods := #[]
  instanceTypes := #[]
  staticTypes := #[]
  resolved := #[]
  callSites := []
  init := .initialized
  statics := none
  mirror := none

def pool0 : Array CpInfo := pool [(5, u "<init>"), (0, u "()V"), (1, .class_ 10), (1, u "java/lang/Object")] 113

def k0c0 : Code := { maxStack := 0, maxLocals := 1, code := object_method_1_code, exceptionTable := #[], attributes := #[] }
def k0m0 : Method := { name := "<init>", desc := "()V", sig := { parameters := [], returnType := none }, accessFlags := 1, code := some k0c0 }
/-- java/lang/Object -/
def k0 : Class := { plain "java/lang/Object" none with
  accessFlags := 33
  interfaces := #[]
  cf := some (fileOf pool0 8 #[] #[{ accessFlags := 1, nameIndex := 5, descriptorIndex := 6, attributes := #[] }] 33 0 #[] #[])
  fields := #[]
  methods := #[k0m0]
  instanceTypes := #[]
  staticTypes := #[]
  resolved := Array.replicate 124 none
  statics := none }

def pool1 : Array CpInfo := pool [(2, .class_ 4), (1, u "java/lang/Object"), (0, u "<init>"), (0, u "()V"), (0, .class_ 8), (0, u "com/example/anchorwatch/anchorwatch/protocol/Packet"), (0, .methodref 7 10), (0, .nameAndType 5 11), (0, u "(IIIIIJ[B[B[B[B)V"), (0, .methodref 7 13), (0, .nameAndType 14 15), (0, u "bodyLength"), (0, u "()I"), (0, .class_ 17), (0, u "com/example/anchorwatch/anchorwatch/protocol/PacketBodyLengthPinLaw"), (2, u "law"), (0, u "(IIIIIJ)Z")] 5

def k1m0 : Method := { name := "<init>", desc := "()V", sig := { parameters := [], returnType := none }, accessFlags := 1, code := none }
def k1c1 : Code := { maxStack := 13, maxLocals := 16, code := code, exceptionTable := #[], attributes := #[] }
def k1m1 : Method := { name := "law", desc := "(IIIIIJ)Z", sig := { parameters := [.int, .int, .int, .int, .int, .long], returnType := some .boolean }, accessFlags := 9, code := some k1c1 }
/-- com/example/anchorwatch/anchorwatch/protocol/PacketBodyLengthPinLaw -/
def k1 : Class := { plain "com/example/anchorwatch/anchorwatch/protocol/PacketBodyLengthPinLaw" (some 0) with
  accessFlags := 49
  interfaces := #[]
  cf := some (fileOf pool1 16 #[] #[{ accessFlags := 1, nameIndex := 5, descriptorIndex := 6, attributes := #[] }, { accessFlags := 9, nameIndex := 20, descriptorIndex := 21, attributes := #[] }] 49 2 #[] #[])
  fields := #[]
  methods := #[k1m0, k1m1]
  instanceTypes := #[]
  staticTypes := #[]
  resolved := Array.replicate 27 none
  statics := none }

def pool2 : Array CpInfo := pool [(1, .methodref 2 3), (0, .class_ 4), (0, .nameAndType 5 6), (0, u "java/lang/Object"), (0, u "<init>"), (0, u "()V"), (0, .class_ 8), (0, u "java/lang/Record")] 13

def k2c0 : Code := { maxStack := 1, maxLocals := 1, code := jdk_30_method_1_code, exceptionTable := #[], attributes := #[] }
def k2m0 : Method := { name := "<init>", desc := "()V", sig := { parameters := [], returnType := none }, accessFlags := 4, code := some k2c0 }
/-- java/lang/Record -/
def k2 : Class := { plain "java/lang/Record" (some 0) with
  accessFlags := 1057
  interfaces := #[]
  cf := some (fileOf pool2 7 #[] #[{ accessFlags := 4, nameIndex := 5, descriptorIndex := 6, attributes := #[] }] 1057 2 #[] #[])
  fields := #[]
  methods := #[k2m0]
  instanceTypes := #[]
  staticTypes := #[]
  resolved := Array.replicate 22 none
  statics := none }

def pool3 : Array CpInfo := pool [(1, .methodref 2 3), (0, .class_ 4), (0, .nameAndType 5 6), (0, u "java/lang/Record"), (0, u "<init>"), (0, u "()V"), (0, .fieldref 8 9), (0, .class_ 10), (0, .nameAndType 11 12), (0, u "com/example/anchorwatch/anchorwatch/protocol/Packet"), (0, u "magic"), (0, u "I"), (0, .fieldref 8 14), (0, .nameAndType 15 12), (0, u "opcode"), (0, .fieldref 8 17), (0, .nameAndType 18 12), (0, u "dataType"), (0, .fieldref 8 20), (0, .nameAndType 21 12), (0, u "vbucketOrStatus"), (0, .fieldref 8 23), (0, .nameAndType 24 12), (0, u "opaque"), (0, .fieldref 8 26), (0, .nameAndType 27 28), (0, u "cas"), (0, u "J"), (0, .fieldref 8 30), (0, .nameAndType 31 32), (0, u "framing"), (0, u "[B"), (0, .fieldref 8 34), (0, .nameAndType 35 32), (0, u "extras"), (0, .fieldref 8 37), (0, .nameAndType 38 32), (0, u "key"), (0, .fieldref 8 40), (0, .nameAndType 41 32), (0, u "value"), (2, u "NONE"), (2, u "(IIIIIJ[B[B[B[B)V"), (7, u "()I"), (46, u "bodyLength")] 77

def k3c0 : Code := { maxStack := 3, maxLocals := 12, code := prog_38_method_2_code, exceptionTable := #[], attributes := #[] }
def k3m0 : Method := { name := "<init>", desc := "(IIIIIJ[B[B[B[B)V", sig := { parameters := [.int, .int, .int, .int, .int, .long, (.array .byte), (.array .byte), (.array .byte), (.array .byte)], returnType := none }, accessFlags := 1, code := some k3c0 }
def k3c1 : Code := { maxStack := 2, maxLocals := 1, code := prog_38_method_8_code, exceptionTable := #[], attributes := #[] }
def k3m1 : Method := { name := "bodyLength", desc := "()I", sig := { parameters := [], returnType := some .int }, accessFlags := 1, code := some k3c1 }
/-- com/example/anchorwatch/anchorwatch/protocol/Packet -/
def k3 : Class := { plain "com/example/anchorwatch/anchorwatch/protocol/Packet" (some 2) with
  accessFlags := 49
  interfaces := #[]
  cf := some (fileOf pool3 8 #[] #[{ accessFlags := 1, nameIndex := 5, descriptorIndex := 47, attributes := #[] }, { accessFlags := 1, nameIndex := 102, descriptorIndex := 55, attributes := #[] }] 49 2 #[] #[{ accessFlags := 18, nameIndex := 11, descriptorIndex := 12, attributes := #[] }, { accessFlags := 18, nameIndex := 15, descriptorIndex := 12, attributes := #[] }, { accessFlags := 18, nameIndex := 18, descriptorIndex := 12, attributes := #[] }, { accessFlags := 18, nameIndex := 21, descriptorIndex := 12, attributes := #[] }, { accessFlags := 18, nameIndex := 24, descriptorIndex := 12, attributes := #[] }, { accessFlags := 18, nameIndex := 27, descriptorIndex := 28, attributes := #[] }, { accessFlags := 18, nameIndex := 31, descriptorIndex := 32, attributes := #[] }, { accessFlags := 18, nameIndex := 35, descriptorIndex := 32, attributes := #[] }, { accessFlags := 18, nameIndex := 38, descriptorIndex := 32, attributes := #[] }, { accessFlags := 18, nameIndex := 41, descriptorIndex := 32, attributes := #[] }, { accessFlags := 25, nameIndex := 44, descriptorIndex := 32, attributes := #[] }])
  fields := #[{ name := "magic", type := .int, accessFlags := 18, slot := 0, constantValue := 0 }, { name := "opcode", type := .int, accessFlags := 18, slot := 1, constantValue := 0 }, { name := "dataType", type := .int, accessFlags := 18, slot := 2, constantValue := 0 }, { name := "vbucketOrStatus", type := .int, accessFlags := 18, slot := 3, constantValue := 0 }, { name := "opaque", type := .int, accessFlags := 18, slot := 4, constantValue := 0 }, { name := "cas", type := .long, accessFlags := 18, slot := 5, constantValue := 0 }, { name := "framing", type := (.array .byte), accessFlags := 18, slot := 6, constantValue := 0 }, { name := "extras", type := (.array .byte), accessFlags := 18, slot := 7, constantValue := 0 }, { name := "key", type := (.array .byte), accessFlags := 18, slot := 8, constantValue := 0 }, { name := "value", type := (.array .byte), accessFlags := 18, slot := 9, constantValue := 0 }, { name := "NONE", type := (.array .byte), accessFlags := 25, slot := 0, constantValue := 0 }]
  methods := #[k3m0, k3m1]
  instanceTypes := #[.int, .int, .int, .int, .int, .long, (.array .byte), (.array .byte), (.array .byte), (.array .byte)]
  staticTypes := #[(.array .byte)]
  resolved := Array.replicate 180 none
  statics := none }

def pool4 : Array CpInfo := pool [(1, u "java/lang/Cloneable"), (0, .class_ 1), (0, u "java/lang/Object"), (0, .class_ 3)] 3

/-- java/lang/Cloneable -/
def k4 : Class := { plain "java/lang/Cloneable" (some 0) with
  accessFlags := 1537
  interfaces := #[]
  cf := some (fileOf pool4 2 #[] #[] 1537 4 #[] #[])
  fields := #[]
  methods := #[]
  instanceTypes := #[]
  staticTypes := #[]
  resolved := Array.replicate 8 none
  statics := none }

def pool5 : Array CpInfo := pool [(1, u "java/io/Serializable"), (0, .class_ 1), (0, u "java/lang/Object"), (0, .class_ 3)] 3

/-- java/io/Serializable -/
def k5 : Class := { plain "java/io/Serializable" (some 0) with
  accessFlags := 1537
  interfaces := #[]
  cf := some (fileOf pool5 2 #[] #[] 1537 4 #[] #[])
  fields := #[]
  methods := #[]
  instanceTypes := #[]
  staticTypes := #[]
  resolved := Array.replicate 8 none
  statics := none }

/-- the primitive byte -/
def k6 : Class := { plain "byte" none with kind := .primitive 'B', accessFlags := 0x411 }
/-- [B -/
def k7 : Class := { plain "[B" (some 0) with kind := .array 6 .byte, interfaces := #[4, 5], accessFlags := 1041 }

/-- the primitive int -/
def k8 : Class := { plain "int" none with kind := .primitive 'I', accessFlags := 0x411 }
/-- [I -/
def k9 : Class := { plain "[I" (some 0) with kind := .array 8 .int, interfaces := #[4, 5], accessFlags := 1041 }

def heap : Heap := #[]
def classes : Array Class := #[k0, k1, k2, k3, k4, k5, k6, k7, k8, k9]
def interned : List (Array UInt16 × Addr) := []
def slotsUsed : Nat := 0
def theMethod : MethodId := ⟨1, 1⟩
def args0 : Array Value := #[.int 5, .int 0, .int 5, .int 0, .int 5, .long 0]
def aboutOver (below : List Frame) : State where
  vm := { classes := classes, interned := interned.toArray }
  heap := heap
  slotsUsed := slotsUsed
  threads := #[{ frames := .invoking theMethod args0 :: below }]
def below0 : List Frame := [.native { method := ⟨0, 0⟩, args := #[] }]
def about1 : State := aboutOver below0
def p0 : Program := .bare "" "" ""
def e0 : Env := launch0.env 0 0 0
theorem w_frames : about1.frames = Frame.invoking theMethod args0 :: below0 := rfl
set_option maxRecDepth 65536 in
theorem w_args : argsFit about1.vm theMethod args0 = true := by decide +kernel
set_option maxRecDepth 65536 in
theorem w_heap : heapFits about1 = true := by decide +kernel
set_option maxRecDepth 65536 in
theorem w_runnable : about1.curStatus? = some .runnable := by decide +kernel
set_option maxRecDepth 65536 in
theorem w_alone : about1.alone = true := by decide +kernel
set_option maxRecDepth 65536 in
theorem w_named : about1.methodNamed? x = some theMethod := by decide +kernel
set_option maxRecDepth 65536 in
theorem w_hears : about1.hears theMethod below0 = true := by decide +kernel
set_option maxRecDepth 65536 in
theorem w_ripe : about1.ripe theMethod args0 below0 = true := by decide +kernel
theorem w_running : about1.status = .running := rfl
set_option maxRecDepth 65536 in
theorem w_room : about1.hasRoom e0.platform room_1 = true :=
  launch0.hasRoom_least _ room_1 (by decide +kernel) (by decide +kernel) (by decide +kernel) (by decide +kernel) (by decide +kernel) (by decide +kernel)
theorem allAtoms_all (ts : List Jvm.Cond) (a : Array Jvm.Value) (st : Jvm.State) : (allAtoms ts).before a st = ts.all (fun c => c.before a st) := by
  induction ts with
  | nil => rfl
  | cons c t ih =>
    show (Jvm.Cond.and c (allAtoms t)).before a st = _
    rw [Jvm.Cond.before_and, ih, List.all_cons]
def words1 : List Jvm.Cond := Jvm.Cond.code x code maxLocals ret :: tables_1
/-- a 'code' word, met by the world's own term for the bytes: nothing is compared byte by byte -/
theorem code_word {y : MethodName} {bytes : ByteArray} {mx : Nat} {rt : Option FieldType} {a : Array Value} {s : State} {m : MethodId} {meth : Method} {c : Code} (h1 : s.methodNamed? y = some m) (h2 : s.vm.method? m = some meth) (h3 : meth.code = some c) (h4 : c.code = bytes)
    (h5 : (c.maxLocals == mx && c.exceptionTable.isEmpty && decide (c.maxStack ≤ mostOperands) && decide (meth.sig.returnType = rt) && !meth.locks && decide (parseMethodDescriptor y.desc = some meth.sig)) = true) : (Jvm.Cond.code y bytes mx rt).before a s = true := by
  simp only [Bool.and_eq_true, beq_iff_eq, Bool.not_eq_true', decide_eq_true_eq] at h5
  obtain ⟨⟨⟨⟨⟨g1, g2⟩, g3⟩, g4⟩, g5⟩, g6⟩ := h5
  simp [Cond.before, Cond.holds, Cond.value, h1, h2, h3, h4, g1, g2, g3, g4, g5, g6]
def isCode : Jvm.Cond → Bool
  | .code _ _ _ _ => true
  | _ => false
theorem all_split {L : List Jvm.Cond} {P : Jvm.Cond → Bool} (h1 : L.all (fun c => isCode c || P c) = true) (h2 : ∀ c ∈ L.filter isCode, P c = true) : L.all P = true := by
  refine List.all_eq_true.mpr fun c hc => ?_
  have h := List.all_eq_true.mp h1 c hc
  rcases Bool.eq_false_or_eq_true (isCode c) with hi | hi
  · exact h2 c (List.mem_filter.mpr ⟨hc, hi⟩)
  · simpa [hi] using h
set_option maxRecDepth 65536 in
theorem w_c0 : (Jvm.Cond.code x code maxLocals ret).before args0 about1 = true := code_word (m := ⟨1, 1⟩) (meth := k1m1) (c := k1c1) (by decide +kernel) rfl rfl rfl (by decide +kernel)
set_option maxRecDepth 65536 in
theorem w_c1 : (Jvm.Cond.code ({ cls := "com/example/anchorwatch/anchorwatch/protocol/Packet", name := "<init>", desc := "(IIIIIJ[B[B[B[B)V" } : Jvm.MethodName) prog_38_method_2_code (12 : Nat) (Option.none : Option Jvm.ClassFile.FieldType)).before args0 about1 = true := code_word (m := ⟨3, 0⟩) (meth := k3m0) (c := k3c0) (by decide +kernel) rfl rfl rfl (by decide +kernel)
set_option maxRecDepth 65536 in
theorem w_c2 : (Jvm.Cond.code ({ cls := "java/lang/Record", name := "<init>", desc := "()V" } : Jvm.MethodName) jdk_30_method_1_code (1 : Nat) (Option.none : Option Jvm.ClassFile.FieldType)).before args0 about1 = true := code_word (m := ⟨2, 0⟩) (meth := k2m0) (c := k2c0) (by decide +kernel) rfl rfl rfl (by decide +kernel)
set_option maxRecDepth 65536 in
theorem w_c3 : (Jvm.Cond.code ({ cls := "java/lang/Object", name := "<init>", desc := "()V" } : Jvm.MethodName) object_method_1_code (1 : Nat) (Option.none : Option Jvm.ClassFile.FieldType)).before args0 about1 = true := code_word (m := ⟨0, 0⟩) (meth := k0m0) (c := k0c0) (by decide +kernel) rfl rfl rfl (by decide +kernel)
set_option maxRecDepth 65536 in
theorem w_c4 : (Jvm.Cond.code ({ cls := "com/example/anchorwatch/anchorwatch/protocol/Packet", name := "bodyLength", desc := "()I" } : Jvm.MethodName) prog_38_method_8_code (1 : Nat) (Option.some Jvm.ClassFile.FieldType.int)).before args0 about1 = true := code_word (m := ⟨3, 1⟩) (meth := k3m1) (c := k3c1) (by decide +kernel) rfl rfl rfl (by decide +kernel)
def codes1 : List Jvm.Cond := [Jvm.Cond.code x code maxLocals ret, Jvm.Cond.code ({ cls := "com/example/anchorwatch/anchorwatch/protocol/Packet", name := "<init>", desc := "(IIIIIJ[B[B[B[B)V" } : Jvm.MethodName) prog_38_method_2_code (12 : Nat) (Option.none : Option Jvm.ClassFile.FieldType), Jvm.Cond.code ({ cls := "java/lang/Record", name := "<init>", desc := "()V" } : Jvm.MethodName) jdk_30_method_1_code (1 : Nat) (Option.none : Option Jvm.ClassFile.FieldType), Jvm.Cond.code ({ cls := "java/lang/Object", name := "<init>", desc := "()V" } : Jvm.MethodName) object_method_1_code (1 : Nat) (Option.none : Option Jvm.ClassFile.FieldType), Jvm.Cond.code ({ cls := "com/example/anchorwatch/anchorwatch/protocol/Packet", name := "bodyLength", desc := "()I" } : Jvm.MethodName) prog_38_method_8_code (1 : Nat) (Option.some Jvm.ClassFile.FieldType.int)]
set_option maxRecDepth 65536 in
theorem codes_eq : words1.filter isCode = codes1 := rfl
theorem w_codes : ∀ c ∈ words1.filter isCode, c.before args0 about1 = true := by
  rw [codes_eq]
  intro c hc
  simp only [codes1, List.mem_cons, List.not_mem_nil, or_false] at hc
  rcases hc with rfl | rfl | rfl | rfl | rfl
  · exact w_c0
  · exact w_c1
  · exact w_c2
  · exact w_c3
  · exact w_c4
set_option maxRecDepth 65536 in
theorem w_t1 : (words1.take 24).all (fun c => isCode c || c.before args0 about1) = true := by decide +kernel
set_option maxRecDepth 65536 in
theorem w_t2 : (words1.drop 24).all (fun c => isCode c || c.before args0 about1) = true := by decide +kernel
theorem w_tables : (allAtoms (Jvm.Cond.code x code maxLocals ret :: tables_1)).before args0 about1 = true := by
  rw [allAtoms_all]
  show words1.all (fun c => c.before args0 about1) = true
  refine all_split ?_ w_codes
  rw [← List.take_append_drop 24 words1, List.all_append, w_t1, w_t2]
  rfl
set_option maxRecDepth 65536 in
theorem w_case : (Jvm.Cond.and given_1 narrow_1).before args0 about1 = true := by decide +kernel
theorem w_applies : (headSpec (Jvm.Cond.code x code maxLocals ret :: tables_1) room_1).applies x e0.platform about1 = true :=
  (Spec.applies_iff w_frames).mpr ⟨w_running, w_runnable, w_alone, w_named, w_hears, w_ripe, w_room, w_tables⟩
theorem atStart : AtStart classFile x code maxLocals ret World_1 tables_1 room_1 Calls_1 rest_1 Pre_1 launch0 p0 e0 about1 theMethod args0 below0 :=
  ⟨lists_1, trivial, launch0.admits_env _ _ _, launch0.least_env, fairChoices_fair.cas, fairChoices_fair.clock, w_frames, w_args, w_heap, w_applies, trivial, trivial, w_case⟩
end start1
theorem witness_1 : WitnessClaimed_1 := ⟨start1.p0, start1.e0, start1.about1, start1.theMethod, start1.args0, start1.below0, start1.atStart⟩
end Jvm.Pilot.@@N@@
