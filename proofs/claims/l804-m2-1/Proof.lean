import JvmDerived
import JvmDerived.Pilot.@@N@@Statement
import JvmDerived.Pilot.@@N@@Code
set_option linter.unusedVariables false
set_option linter.unusedSimpArgs false
namespace Jvm.RoadKit
open Sem ClassFile Op Lib Jvm.Stand Jvm.Free Jvm.LawKit
section New
variable {p : Program} {l : Launch} {e : Env} {R : Room} {s : State} {m : MethodId} {args : Array Value} {below : List Frame} {meth : Method} {c : Code} {T : State} {locs : List Loc} {cells slots : Nat}
theorem retI (X : Stand p l e R s m args below meth c T locs cells slots) (hx : p.tables.exec = Jvm.exec) {pc : Nat} {Ls : Array Slot} {z : Int32} {rest : List Value} (hret : meth.sig.returnType = some .int) (hd : decode c.code pc = .ok (.ireturn, 1)) {fs : List Frame}
    (hl : ∀ (f : JFrame) (acts : List Action), f.method = m → f.locked = none → f.entered = [] → (doReturn e (T.setTop f) acts (some (.int z))).1 = T.setFrames fs) : Steps p.tables e below (T.setTop (mkF m pc Ls (.int z :: rest))) (T.setFrames fs) := by
  have hm' : T.vm.method? m = some meth := X.method'
  have hn : narrow .int (.int z) = .int z := rfl
  show Steps p.tables e below (T.setTop { method := m, pc := pc, locals := Ls, stack := _ :: rest, locked := none }) _
  jvm_step X.here [X.here.top, hx, hd, hm', hret, hn]
  first | (intro acts; rw [hl _ acts rfl rfl rfl]) | rw [hl _ _ rfl rfl rfl]
  exact Steps.refl _
theorem retAddr (X : Stand p l e R s m args below meth c T locs cells slots) (hx : p.tables.exec = Jvm.exec) {pc : Nat} {Ls : Array Slot} {z : Addr} {rest : List Value} {t : FieldType} (hret : meth.sig.returnType = some t) (ht : t.isReference = true) (hd : decode c.code pc = .ok (.areturn, 1)) {fs : List Frame}
    (hl : ∀ (f : JFrame) (acts : List Action), f.method = m → f.locked = none → f.entered = [] → (doReturn e (T.setTop f) acts (some (.ref z))).1 = T.setFrames fs) : Steps p.tables e below (T.setTop (mkF m pc Ls (.ref z :: rest))) (T.setFrames fs) := by
  have hm' : T.vm.method? m = some meth := X.method'
  show Steps p.tables e below (T.setTop { method := m, pc := pc, locals := Ls, stack := _ :: rest, locked := none }) _
  jvm_step X.here [X.here.top, hx, hd, hm', hret, ht, Value.isRef]
  first | (intro acts; rw [hl _ acts rfl rfl rfl]) | rw [hl _ _ rfl rfl rfl]
  exact Steps.refl _
end New
end Jvm.RoadKit
namespace Jvm.Pilot.@@N@@
open Jvm Jvm.ClassFile Sem Op Lib Jvm.Free Jvm.Stand Jvm.LawKit Jvm.RoadKit Bundle Jvm.Pilot.@@N@@.Jvm.D
/-- from A the run ends, returning, as Q says of the value, the heap and the places written -/
def own_Fin (tb : Tables) (e : Env) (below : List Frame) (s : State) (C S : Nat) (Q : Option Value → Heap → List Loc → Prop) (A : State) : Prop :=
  ∃ s₂ o, Steps tb e below A s₂ ∧ s₂.status = .running ∧ Ended s₂ below o ∧ ∃ v L, o = .returned v ∧ Q v s₂.heap L ∧ FrameEnd s o s₂ L C S
theorem own_st {tb : Tables} {e : Env} {below : List Frame} {s : State} {C S : Nat} {Q : Option Value → Heap → List Loc → Prop} {A B : State} (h : ∀ t, Steps tb e below B t → Steps tb e below A t) (k : own_Fin tb e below s C S Q B) : own_Fin tb e below s C S Q A := by
  obtain ⟨s₂, o, h1, h2⟩ := k
  exact ⟨s₂, o, h _ h1, h2⟩
section Ret
variable {p : Program} {l : Launch} {e : Env} {R : Room} {s : State} {m : MethodId} {args : Array Value} {below : List Frame} {meth : Method} {c : Code} {T : State} {locs : List Loc} {cells slots : Nat} {Q : Option Value → Heap → List Loc → Prop} {C S : Nat}
theorem own_retN (X : Stand p l e R s m args below meth c T locs cells slots) (hx : p.tables.exec = Jvm.exec) (hk : meth.locks = false) {t : FieldType} (hret : meth.sig.returnType = some t) (ht : t = .boolean ∨ t = .byte ∨ t = .char ∨ t = .short) {pc : Nat} {Ls : Array Slot} {z : Int32} {rest : List Value} (hd : decode c.code pc = .ok (.ireturn, 1)) (hC : cells ≤ C) (hS : slots ≤ S) (hq : Q (some (.int (nar t z))) T.heap locs) : own_Fin p.tables e below s C S Q (T.setTop (mkF m pc Ls (.int z :: rest))) := by
  obtain ⟨fs, hr, hrun, hended, hW, hsame⟩ := X.leave (v := some (.int (nar t z))) (fun h => by rw [hret] at h; cases h)
  exact ⟨_, _, retN X hx hret ht hd hr, hrun, hended, _, _, rfl, hq, ⟨_, rfl⟩, hW, hsame.mono hC hS⟩
theorem own_retI (X : Stand p l e R s m args below meth c T locs cells slots) (hx : p.tables.exec = Jvm.exec) (hk : meth.locks = false) (hret : meth.sig.returnType = some .int) {pc : Nat} {Ls : Array Slot} {z : Int32} {rest : List Value} (hd : decode c.code pc = .ok (.ireturn, 1)) (hC : cells ≤ C) (hS : slots ≤ S) (hq : Q (some (.int z)) T.heap locs) : own_Fin p.tables e below s C S Q (T.setTop (mkF m pc Ls (.int z :: rest))) := by
  obtain ⟨fs, hr, hrun, hended, hW, hsame⟩ := X.leave (v := some (.int z)) (fun h => by rw [hret] at h; cases h)
  exact ⟨_, _, retI X hx hret hd hr, hrun, hended, _, _, rfl, hq, ⟨_, rfl⟩, hW, hsame.mono hC hS⟩
theorem own_retA (X : Stand p l e R s m args below meth c T locs cells slots) (hx : p.tables.exec = Jvm.exec) (hk : meth.locks = false) {t : FieldType} (hret : meth.sig.returnType = some t) (ht : t.isReference = true) {pc : Nat} {Ls : Array Slot} {z : Addr} {rest : List Value} (hd : decode c.code pc = .ok (.areturn, 1)) (hC : cells ≤ C) (hS : slots ≤ S) (hq : Q (some (.ref z)) T.heap locs) : own_Fin p.tables e below s C S Q (T.setTop (mkF m pc Ls (.ref z :: rest))) := by
  obtain ⟨fs, hr, hrun, hended, hW, hsame⟩ := X.leave (v := some (.ref z)) (fun h => by rw [hret] at h; cases h)
  exact ⟨_, _, retAddr X hx hret ht hd hr, hrun, hended, _, _, rfl, hq, ⟨_, rfl⟩, hW, hsame.mono hC hS⟩
theorem own_retJ (X : Stand p l e R s m args below meth c T locs cells slots) (hx : p.tables.exec = Jvm.exec) (hk : meth.locks = false) (hret : meth.sig.returnType = some .long) {pc : Nat} {Ls : Array Slot} {z : Int64} (hd : decode c.code pc = .ok (.lreturn, 1)) (hC : cells ≤ C) (hS : slots ≤ S) (hq : Q (some (.long z)) T.heap locs) : own_Fin p.tables e below s C S Q (T.setTop (mkF m pc Ls [.long z])) := by
  obtain ⟨fs, hr, hrun, hended, hW, hsame⟩ := X.leave (v := some (.long z)) (fun h => by rw [hret] at h; cases h)
  exact ⟨_, _, X.lreturnOut hx hret hd hr, hrun, hended, _, _, rfl, hq, ⟨_, rfl⟩, hW, hsame.mono hC hS⟩
theorem own_retV (X : Stand p l e R s m args below meth c T locs cells slots) (hx : p.tables.exec = Jvm.exec) (hk : meth.locks = false) (hret : meth.sig.returnType = none) {pc : Nat} {Ls : Array Slot} (hd : decode c.code pc = .ok (.return_, 1)) (hC : cells ≤ C) (hS : slots ≤ S) (hq : Q none T.heap locs) : own_Fin p.tables e below s C S Q (T.setTop (mkF m pc Ls [])) := by
  obtain ⟨fs, hr, hrun, hended, hW, hsame⟩ := X.leave (v := none) (fun _ => rfl)
  exact ⟨_, _, X.returnOut hx hret hd hr, hrun, hended, _, _, rfl, hq, ⟨_, rfl⟩, hW, hsame.mono hC hS⟩
end Ret
theorem own_ltT {a b : Int64} (h : a < b) : ifCond.holds .lt (lcmpW a b) = true ∧ ifCond.holds .ge (lcmpW a b) = false := by
  have q := (lw_lt a b).mpr h
  exact ⟨(if0 _ _).trans (tlt q).1, (if0 _ _).trans (tlt q).2.1⟩
theorem own_ltF {a b : Int64} (h : ¬ a < b) : ifCond.holds .lt (lcmpW a b) = false ∧ ifCond.holds .ge (lcmpW a b) = true := by
  have q := mt (lw_lt a b).mp h
  exact ⟨(if0 _ _).trans (flt q).1, (if0 _ _).trans (flt q).2.1⟩
theorem own_gtT {a b : Int64} (h : b < a) : ifCond.holds .gt (lcmpW a b) = true ∧ ifCond.holds .le (lcmpW a b) = false := by
  have q := (lw_gt a b).mpr h
  exact ⟨(if0 _ _).trans (tlt q).2.2.1, (if0 _ _).trans (tlt q).2.2.2⟩
theorem own_gtF {a b : Int64} (h : ¬ b < a) : ifCond.holds .gt (lcmpW a b) = false ∧ ifCond.holds .le (lcmpW a b) = true := by
  have q := mt (lw_gt a b).mp h
  exact ⟨(if0 _ _).trans (flt q).2.2.1, (if0 _ _).trans (flt q).2.2.2⟩
theorem own_eqT {a b : Int64} (h : a = b) : ifCond.holds .eq (lcmpW a b) = true ∧ ifCond.holds .ne (lcmpW a b) = false := by
  have q := (lw_eq a b).mpr h
  exact ⟨(if0 _ _).trans (teq q).1, (if0 _ _).trans (teq q).2⟩
theorem own_eqF {a b : Int64} (h : ¬ a = b) : ifCond.holds .eq (lcmpW a b) = false ∧ ifCond.holds .ne (lcmpW a b) = true := by
  have q := mt (lw_eq a b).mp h
  exact ⟨(if0 _ _).trans (feq q).1, (if0 _ _).trans (feq q).2⟩
def own_wr (c at_ : Int32) : Int32 := if c = (256 : Int32) then at_ + (1 : Int32) else if (127 : Int32) < c then at_ + (2 : Int32) else at_ + (1 : Int32)
def own_wv (c at_ : Int32) (vs : List Value) : List Value := if c = (256 : Int32) then vs.set at_.toNatClampNeg (.int (232 : Int32)) else if (127 : Int32) < c then (vs.set at_.toNatClampNeg (.int (235 : Int32))).set (at_ + (1 : Int32)).toNatClampNeg (.int (c - (127 : Int32))) else vs.set at_.toNatClampNeg (.int (c + (1 : Int32)))
theorem d1_0 : decode prog_33_method_4_code 0 = .ok (.iload_n 0, 1) := by decide +kernel
theorem d1_1 : decode prog_33_method_4_code 1 = .ok (.sipush 256, 3) := by decide +kernel
theorem d1_4 : decode prog_33_method_4_code 4 = .ok (.if_icmp .ne 13, 3) := by decide +kernel
theorem d1_7 : decode prog_33_method_4_code 7 = .ok (.aload_n 1, 1) := by decide +kernel
theorem d1_8 : decode prog_33_method_4_code 8 = .ok (.iload_n 2, 1) := by decide +kernel
theorem d1_9 : decode prog_33_method_4_code 9 = .ok (.sipush 232, 3) := by decide +kernel
theorem d1_12 : decode prog_33_method_4_code 12 = .ok (.iastore, 1) := by decide +kernel
theorem d1_13 : decode prog_33_method_4_code 13 = .ok (.iload_n 2, 1) := by decide +kernel
theorem d1_14 : decode prog_33_method_4_code 14 = .ok (.iconst 1, 1) := by decide +kernel
theorem d1_15 : decode prog_33_method_4_code 15 = .ok (.iadd, 1) := by decide +kernel
theorem d1_16 : decode prog_33_method_4_code 16 = .ok (.ireturn, 1) := by decide +kernel
theorem d1_17 : decode prog_33_method_4_code 17 = .ok (.iload_n 0, 1) := by decide +kernel
theorem d1_18 : decode prog_33_method_4_code 18 = .ok (.bipush 127, 2) := by decide +kernel
theorem d1_20 : decode prog_33_method_4_code 20 = .ok (.if_icmp .le 22, 3) := by decide +kernel
theorem d1_23 : decode prog_33_method_4_code 23 = .ok (.aload_n 1, 1) := by decide +kernel
theorem d1_24 : decode prog_33_method_4_code 24 = .ok (.iload_n 2, 1) := by decide +kernel
theorem d1_25 : decode prog_33_method_4_code 25 = .ok (.sipush 235, 3) := by decide +kernel
theorem d1_28 : decode prog_33_method_4_code 28 = .ok (.iastore, 1) := by decide +kernel
theorem d1_29 : decode prog_33_method_4_code 29 = .ok (.aload_n 1, 1) := by decide +kernel
theorem d1_30 : decode prog_33_method_4_code 30 = .ok (.iload_n 2, 1) := by decide +kernel
theorem d1_31 : decode prog_33_method_4_code 31 = .ok (.iconst 1, 1) := by decide +kernel
theorem d1_32 : decode prog_33_method_4_code 32 = .ok (.iadd, 1) := by decide +kernel
theorem d1_33 : decode prog_33_method_4_code 33 = .ok (.iload_n 0, 1) := by decide +kernel
theorem d1_34 : decode prog_33_method_4_code 34 = .ok (.bipush 127, 2) := by decide +kernel
theorem d1_36 : decode prog_33_method_4_code 36 = .ok (.isub, 1) := by decide +kernel
theorem d1_37 : decode prog_33_method_4_code 37 = .ok (.iastore, 1) := by decide +kernel
theorem d1_38 : decode prog_33_method_4_code 38 = .ok (.iload_n 2, 1) := by decide +kernel
theorem d1_39 : decode prog_33_method_4_code 39 = .ok (.iconst 2, 1) := by decide +kernel
theorem d1_40 : decode prog_33_method_4_code 40 = .ok (.iadd, 1) := by decide +kernel
theorem d1_41 : decode prog_33_method_4_code 41 = .ok (.ireturn, 1) := by decide +kernel
theorem d1_42 : decode prog_33_method_4_code 42 = .ok (.aload_n 1, 1) := by decide +kernel
theorem d1_43 : decode prog_33_method_4_code 43 = .ok (.iload_n 2, 1) := by decide +kernel
theorem d1_44 : decode prog_33_method_4_code 44 = .ok (.iload_n 0, 1) := by decide +kernel
theorem d1_45 : decode prog_33_method_4_code 45 = .ok (.iconst 1, 1) := by decide +kernel
theorem d1_46 : decode prog_33_method_4_code 46 = .ok (.iadd, 1) := by decide +kernel
theorem d1_47 : decode prog_33_method_4_code 47 = .ok (.iastore, 1) := by decide +kernel
theorem d1_48 : decode prog_33_method_4_code 48 = .ok (.iload_n 2, 1) := by decide +kernel
theorem d1_49 : decode prog_33_method_4_code 49 = .ok (.iconst 1, 1) := by decide +kernel
theorem d1_50 : decode prog_33_method_4_code 50 = .ok (.iadd, 1) := by decide +kernel
theorem d1_51 : decode prog_33_method_4_code 51 = .ok (.ireturn, 1) := by decide +kernel
theorem pn_1 : plainFor (⟨"com/example/quietzone/quietzone/datamatrix/AsciiEncodation", "write", "(I[II)I"⟩ : MethodName) = true := plainFor_of_name (x := (⟨"com/example/quietzone/quietzone/datamatrix/AsciiEncodation", "write", "(I[II)I"⟩ : MethodName)) (by first | (simp [plainName, overriddenIn]; done) | decide +kernel)
theorem ef_1 (m : MethodId) (p1 : Int32) (a2 : Addr) (p3 : Int32) : entryFrame m #[(.int p1), (.ref a2), (.int p3)] 3 = mkF m 0 #[.val (.int p1), .val (.ref a2), .val (.int p3)] [] := by first | (simp [entryFrame, mkF, argsToLocals, Value.category]; done) | rfl
def own_Q_rm1 (Z : State) (p1 : Int32) (a2 : Addr) (p3 : Int32) (ka : ClassId) (za : Int32) (vs : List Value) (h0 : Heap) (n0 : Nat) (v : Option Value) (h : Heap) (L : List Loc) : Prop := v = some (.int (own_wr p1 p3)) ∧ Fr n0 L ∧ Keep h0 h [a2] ∧ Arv Z h a2 ka .int za (own_wv p1 p3 vs) (.int (0 : Int32))
set_option maxRecDepth 65536 in
set_option maxHeartbeats 40000000 in
theorem rm1 (l : Launch) (Z : State) (a0 : Array Value) (hw : ∀ d ∈ tables_1, d.before a0 Z = true) (ws : List Jvm.Cond) (p1 : Int32) (a2 : Addr) (p3 : Int32) (ka : ClassId) (za : Int32) (vs : List Value) (h0 : Heap) (n0 : Nat) (Z0 : n0 ≤ h0.size) (Vi : Arv Z h0 a2 ka .int za vs (.int (0 : Int32))) (gi : n0 ≤ a2) (hi0 : ¬ p3 < 0) (hi1 : p3 < za) (hi2 : ¬ (p3 + (1 : Int32)) < 0) (hi3 : (p3 + (1 : Int32)) < za) (hl1 : p3.toNatClampNeg < vs.length) (hl2 : (p3 + (1 : Int32)).toNatClampNeg < vs.length) :
    MetFree l (⟨"com/example/quietzone/quietzone/datamatrix/AsciiEncodation", "write", "(I[II)I"⟩ : MethodName) (head1 (Jvm.Cond.code (⟨"com/example/quietzone/quietzone/datamatrix/AsciiEncodation", "write", "(I[II)I"⟩ : MethodName) prog_33_method_4_code 3 (some .int) :: ws) ({ frames := 0, cells := 0, slots := 0, locals := 0 } : Room)) (fun a U => a = #[(.int p1), (.ref a2), (.int p3)] ∧ Z.Warmed39 U.vm ∧ U.heap = h0) (fun _ _ _ _ _ => True) (fun _ U o U' => ∃ v L, o = .returned v ∧ own_Q_rm1 Z p1 a2 p3 ka za vs h0 n0 v U'.heap L ∧ FrameEnd U o U' L ({ frames := 0, cells := 0, slots := 0, locals := 0 } : Room).cells ({ frames := 0, cells := 0, slots := 0, locals := 0 } : Room).slots) := by
  refine MetFree.of_bodySF pn_1 hisR ?_
  intro p e s m args below meth c s₁ Bd hml0 hP hK
  obtain ⟨rfl, hZ, hh⟩ := hP
  have hx := Bd.exec
  have hby := Bd.bytes
  have hml : c.maxLocals = 3 := hml0
  have hown : s.vm.findClass "com/example/quietzone/quietzone/datamatrix/AsciiEncodation" = some m.cls := findClass_of_methodNamed Bd.named
  have hnm := (name_of_methodNamed Bd.named Bd.method).1
  have X0 : Stand p l e ({ frames := 0, cells := 0, slots := 0, locals := 0 } : Room) s m #[(.int p1), (.ref a2), (.int p3)] below meth c s₁ [] 0 0 := Stand.of_body Bd
  have e0 : s₁.heap = h0 := by rw [← hh, Bd.state]; rfl
  have N0 := Fr.nil n0
  have KR : Keep h0 h0 [a2] := Keep.refl h0 [a2]
  show own_Fin p.tables e below s (({ frames := 0, cells := 0, slots := 0, locals := 0 } : Room).cells) (({ frames := 0, cells := 0, slots := 0, locals := 0 } : Room).slots) (own_Q_rm1 Z p1 a2 p3 ka za vs h0 n0) (s₁.setTop (entryFrame m #[(.int p1), (.ref a2), (.int p3)] 3))
  rw [ef_1 m p1 a2 p3]
  show own_Fin _ _ _ _ _ _ _ (s₁.setTop (mkF m 0 #[.val (.int p1), .val (.ref a2), .val (.int p3)] []))
  refine own_st (fun t k => XS.iloadN X0.here hx rfl (hb hby d1_0) rfl k) ?_
  show own_Fin _ _ _ _ _ _ _ (s₁.setTop (mkF m 1 #[.val (.int p1), .val (.ref a2), .val (.int p3)] [(.int p1)]))
  refine own_st (fun t k => XS.sipush X0.here hx rfl (hb hby d1_1) k) ?_
  show own_Fin _ _ _ _ _ _ _ (s₁.setTop (mkF m 4 #[.val (.int p1), .val (.ref a2), .val (.int p3)] [(.int (256 : Int32)), (.int p1)]))
  by_cases hc4_1 : p1 = (256 : Int32)
  · refine own_st (fun t k => XS.icmpNo X0.here hx rfl (hb hby d1_4) rfl (teq hc4_1).2 k) ?_
    show own_Fin _ _ _ _ _ _ _ (s₁.setTop (mkF m 7 #[.val (.int p1), .val (.ref a2), .val (.int p3)] []))
    refine own_st (fun t k => XS.aloadN X0.here hx rfl (hb hby d1_7) rfl rfl k) ?_
    show own_Fin _ _ _ _ _ _ _ (s₁.setTop (mkF m 8 #[.val (.int p1), .val (.ref a2), .val (.int p3)] [(.ref a2)]))
    refine own_st (fun t k => XS.iloadN X0.here hx rfl (hb hby d1_8) rfl k) ?_
    show own_Fin _ _ _ _ _ _ _ (s₁.setTop (mkF m 9 #[.val (.int p1), .val (.ref a2), .val (.int p3)] [(.int p3), (.ref a2)]))
    refine own_st (fun t k => XS.sipush X0.here hx rfl (hb hby d1_9) k) ?_
    show own_Fin _ _ _ _ _ _ _ (s₁.setTop (mkF m 12 #[.val (.int p1), .val (.ref a2), .val (.int p3)] [(.int (232 : Int32)), (.int p3), (.ref a2)]))
    obtain ⟨cl2, Ar2, Cq2, Sz2, Mn2, Hs2, Gf2⟩ := id Vi
    obtain ⟨T2, h2, X2, e2, W2, st2⟩ := stI X0 hx hZ e0 Ar2 (j := p3) (inb_of Sz2 ⟨hi0, hi1⟩) (g := (mkF m 12 #[.val (.int p1), .val (.ref a2), .val (.int p3)] [(.int (232 : Int32)), (.int p3), (.ref a2)])) rfl rfl (hb hby d1_12)
    have V2 : Arv Z h2 a2 ka .int za (vs.set (p3).toNatClampNeg (.int (232 : Int32))) (.int (0 : Int32)) := Arv.set Ar2 Cq2 Sz2 Mn2 Hs2 Gf2 rfl W2 (p3).toNatClampNeg rfl hl1
    have N2 := Fr.snoc X2 N0 gi
    have Z2 : n0 ≤ h2.size := Nat.le_trans Z0 (Keep.of_wr W2).1
    have K2 : Keep h0 h2 [a2] := KR.wr W2 (Or.inl (List.mem_of_getElem? (i := 0) rfl))
    refine own_st st2 ?_
    show own_Fin _ _ _ _ _ _ _ (T2.setTop (mkF m 13 #[.val (.int p1), .val (.ref a2), .val (.int p3)] []))
    refine own_st (fun t k => XS.iloadN X2.here hx rfl (hb hby d1_13) rfl k) ?_
    show own_Fin _ _ _ _ _ _ _ (T2.setTop (mkF m 14 #[.val (.int p1), .val (.ref a2), .val (.int p3)] [(.int p3)]))
    refine own_st (fun t k => XS.iconst X2.here hx rfl (hb hby d1_14) k) ?_
    show own_Fin _ _ _ _ _ _ _ (T2.setTop (mkF m 15 #[.val (.int p1), .val (.ref a2), .val (.int p3)] [(.int (1 : Int32)), (.int p3)]))
    refine own_st (fun t k => XS.iadd X2.here hx rfl (hb hby d1_15) rfl k) ?_
    show own_Fin _ _ _ _ _ _ _ (T2.setTop (mkF m 16 #[.val (.int p1), .val (.ref a2), .val (.int p3)] [(.int (p3 + (1 : Int32)))]))
    have hv : own_wr p1 p3 = (p3 + (1 : Int32)) := by unfold own_wr; rw [if_pos hc4_1]
    have hl : own_wv p1 p3 vs = (vs.set (p3).toNatClampNeg (.int (232 : Int32))) := by unfold own_wv; rw [if_pos hc4_1]
    exact own_retI X2 hx Bd.notSynchronized Bd.returns (hb hby d1_16) (by decide) (by decide) (by rw [e2]; unfold own_Q_rm1; rw [hv, hl]; exact ⟨rfl, N2, K2, V2⟩)
  · refine own_st (fun t k => XS.icmpYes X0.here hx rfl (pc0 := 4) (pc' := 17) rfl (hb hby d1_4) rfl (feq hc4_1).2 (by decide) (by decide) k) ?_
    show own_Fin _ _ _ _ _ _ _ (s₁.setTop (mkF m 17 #[.val (.int p1), .val (.ref a2), .val (.int p3)] []))
    refine own_st (fun t k => XS.iloadN X0.here hx rfl (hb hby d1_17) rfl k) ?_
    show own_Fin _ _ _ _ _ _ _ (s₁.setTop (mkF m 18 #[.val (.int p1), .val (.ref a2), .val (.int p3)] [(.int p1)]))
    refine own_st (fun t k => XS.bipush X0.here hx rfl (hb hby d1_18) k) ?_
    show own_Fin _ _ _ _ _ _ _ (s₁.setTop (mkF m 20 #[.val (.int p1), .val (.ref a2), .val (.int p3)] [(.int (127 : Int32)), (.int p1)]))
    by_cases hc20_3 : (127 : Int32) < p1
    · refine own_st (fun t k => XS.icmpNo X0.here hx rfl (hb hby d1_20) rfl (tlt hc20_3).2.2.2 k) ?_
      show own_Fin _ _ _ _ _ _ _ (s₁.setTop (mkF m 23 #[.val (.int p1), .val (.ref a2), .val (.int p3)] []))
      refine own_st (fun t k => XS.aloadN X0.here hx rfl (hb hby d1_23) rfl rfl k) ?_
      show own_Fin _ _ _ _ _ _ _ (s₁.setTop (mkF m 24 #[.val (.int p1), .val (.ref a2), .val (.int p3)] [(.ref a2)]))
      refine own_st (fun t k => XS.iloadN X0.here hx rfl (hb hby d1_24) rfl k) ?_
      show own_Fin _ _ _ _ _ _ _ (s₁.setTop (mkF m 25 #[.val (.int p1), .val (.ref a2), .val (.int p3)] [(.int p3), (.ref a2)]))
      refine own_st (fun t k => XS.sipush X0.here hx rfl (hb hby d1_25) k) ?_
      show own_Fin _ _ _ _ _ _ _ (s₁.setTop (mkF m 28 #[.val (.int p1), .val (.ref a2), .val (.int p3)] [(.int (235 : Int32)), (.int p3), (.ref a2)]))
      obtain ⟨cl4, Ar4, Cq4, Sz4, Mn4, Hs4, Gf4⟩ := id Vi
      obtain ⟨T4, h4, X4, e4, W4, st4⟩ := stI X0 hx hZ e0 Ar4 (j := p3) (inb_of Sz4 ⟨hi0, hi1⟩) (g := (mkF m 28 #[.val (.int p1), .val (.ref a2), .val (.int p3)] [(.int (235 : Int32)), (.int p3), (.ref a2)])) rfl rfl (hb hby d1_28)
      have V4 : Arv Z h4 a2 ka .int za (vs.set (p3).toNatClampNeg (.int (235 : Int32))) (.int (0 : Int32)) := Arv.set Ar4 Cq4 Sz4 Mn4 Hs4 Gf4 rfl W4 (p3).toNatClampNeg rfl hl1
      have N4 := Fr.snoc X4 N0 gi
      have Z4 : n0 ≤ h4.size := Nat.le_trans Z0 (Keep.of_wr W4).1
      have K4 : Keep h0 h4 [a2] := KR.wr W4 (Or.inl (List.mem_of_getElem? (i := 0) rfl))
      refine own_st st4 ?_
      show own_Fin _ _ _ _ _ _ _ (T4.setTop (mkF m 29 #[.val (.int p1), .val (.ref a2), .val (.int p3)] []))
      refine own_st (fun t k => XS.aloadN X4.here hx rfl (hb hby d1_29) rfl rfl k) ?_
      show own_Fin _ _ _ _ _ _ _ (T4.setTop (mkF m 30 #[.val (.int p1), .val (.ref a2), .val (.int p3)] [(.ref a2)]))
      refine own_st (fun t k => XS.iloadN X4.here hx rfl (hb hby d1_30) rfl k) ?_
      show own_Fin _ _ _ _ _ _ _ (T4.setTop (mkF m 31 #[.val (.int p1), .val (.ref a2), .val (.int p3)] [(.int p3), (.ref a2)]))
      refine own_st (fun t k => XS.iconst X4.here hx rfl (hb hby d1_31) k) ?_
      show own_Fin _ _ _ _ _ _ _ (T4.setTop (mkF m 32 #[.val (.int p1), .val (.ref a2), .val (.int p3)] [(.int (1 : Int32)), (.int p3), (.ref a2)]))
      refine own_st (fun t k => XS.iadd X4.here hx rfl (hb hby d1_32) rfl k) ?_
      show own_Fin _ _ _ _ _ _ _ (T4.setTop (mkF m 33 #[.val (.int p1), .val (.ref a2), .val (.int p3)] [(.int (p3 + (1 : Int32))), (.ref a2)]))
      refine own_st (fun t k => XS.iloadN X4.here hx rfl (hb hby d1_33) rfl k) ?_
      show own_Fin _ _ _ _ _ _ _ (T4.setTop (mkF m 34 #[.val (.int p1), .val (.ref a2), .val (.int p3)] [(.int p1), (.int (p3 + (1 : Int32))), (.ref a2)]))
      refine own_st (fun t k => XS.bipush X4.here hx rfl (hb hby d1_34) k) ?_
      show own_Fin _ _ _ _ _ _ _ (T4.setTop (mkF m 36 #[.val (.int p1), .val (.ref a2), .val (.int p3)] [(.int (127 : Int32)), (.int p1), (.int (p3 + (1 : Int32))), (.ref a2)]))
      refine own_st (fun t k => XS.isub X4.here hx rfl (hb hby d1_36) rfl k) ?_
      show own_Fin _ _ _ _ _ _ _ (T4.setTop (mkF m 37 #[.val (.int p1), .val (.ref a2), .val (.int p3)] [(.int (p1 - (127 : Int32))), (.int (p3 + (1 : Int32))), (.ref a2)]))
      obtain ⟨cl5, Ar5, Cq5, Sz5, Mn5, Hs5, Gf5⟩ := id V4
      obtain ⟨T5, h5, X5, e5, W5, st5⟩ := stI X4 hx hZ e4 Ar5 (j := (p3 + (1 : Int32))) (inb_of Sz5 ⟨hi2, hi3⟩) (g := (mkF m 37 #[.val (.int p1), .val (.ref a2), .val (.int p3)] [(.int (p1 - (127 : Int32))), (.int (p3 + (1 : Int32))), (.ref a2)])) rfl rfl (hb hby d1_37)
      have V5 : Arv Z h5 a2 ka .int za ((vs.set (p3).toNatClampNeg (.int (235 : Int32))).set ((p3 + (1 : Int32))).toNatClampNeg (.int (p1 - (127 : Int32)))) (.int (0 : Int32)) := Arv.set Ar5 Cq5 Sz5 Mn5 Hs5 Gf5 rfl W5 ((p3 + (1 : Int32))).toNatClampNeg rfl (by rw [List.length_set]; exact hl2)
      have N5 := Fr.snoc X5 N4 gi
      have Z5 : n0 ≤ h5.size := Nat.le_trans Z4 (Keep.of_wr W5).1
      have K5 : Keep h0 h5 [a2] := K4.wr W5 (Or.inl (List.mem_of_getElem? (i := 0) rfl))
      refine own_st st5 ?_
      show own_Fin _ _ _ _ _ _ _ (T5.setTop (mkF m 38 #[.val (.int p1), .val (.ref a2), .val (.int p3)] []))
      refine own_st (fun t k => XS.iloadN X5.here hx rfl (hb hby d1_38) rfl k) ?_
      show own_Fin _ _ _ _ _ _ _ (T5.setTop (mkF m 39 #[.val (.int p1), .val (.ref a2), .val (.int p3)] [(.int p3)]))
      refine own_st (fun t k => XS.iconst X5.here hx rfl (hb hby d1_39) k) ?_
      show own_Fin _ _ _ _ _ _ _ (T5.setTop (mkF m 40 #[.val (.int p1), .val (.ref a2), .val (.int p3)] [(.int (2 : Int32)), (.int p3)]))
      refine own_st (fun t k => XS.iadd X5.here hx rfl (hb hby d1_40) rfl k) ?_
      show own_Fin _ _ _ _ _ _ _ (T5.setTop (mkF m 41 #[.val (.int p1), .val (.ref a2), .val (.int p3)] [(.int (p3 + (2 : Int32)))]))
      have hv : own_wr p1 p3 = (p3 + (2 : Int32)) := by unfold own_wr; rw [if_neg hc4_1, if_pos hc20_3]
      have hl : own_wv p1 p3 vs = ((vs.set (p3).toNatClampNeg (.int (235 : Int32))).set ((p3 + (1 : Int32))).toNatClampNeg (.int (p1 - (127 : Int32)))) := by unfold own_wv; rw [if_neg hc4_1, if_pos hc20_3]
      exact own_retI X5 hx Bd.notSynchronized Bd.returns (hb hby d1_41) (by decide) (by decide) (by rw [e5]; unfold own_Q_rm1; rw [hv, hl]; exact ⟨rfl, N5, K5, V5⟩)
    · refine own_st (fun t k => XS.icmpYes X0.here hx rfl (pc0 := 20) (pc' := 42) rfl (hb hby d1_20) rfl (flt hc20_3).2.2.2 (by decide) (by decide) k) ?_
      show own_Fin _ _ _ _ _ _ _ (s₁.setTop (mkF m 42 #[.val (.int p1), .val (.ref a2), .val (.int p3)] []))
      refine own_st (fun t k => XS.aloadN X0.here hx rfl (hb hby d1_42) rfl rfl k) ?_
      show own_Fin _ _ _ _ _ _ _ (s₁.setTop (mkF m 43 #[.val (.int p1), .val (.ref a2), .val (.int p3)] [(.ref a2)]))
      refine own_st (fun t k => XS.iloadN X0.here hx rfl (hb hby d1_43) rfl k) ?_
      show own_Fin _ _ _ _ _ _ _ (s₁.setTop (mkF m 44 #[.val (.int p1), .val (.ref a2), .val (.int p3)] [(.int p3), (.ref a2)]))
      refine own_st (fun t k => XS.iloadN X0.here hx rfl (hb hby d1_44) rfl k) ?_
      show own_Fin _ _ _ _ _ _ _ (s₁.setTop (mkF m 45 #[.val (.int p1), .val (.ref a2), .val (.int p3)] [(.int p1), (.int p3), (.ref a2)]))
      refine own_st (fun t k => XS.iconst X0.here hx rfl (hb hby d1_45) k) ?_
      show own_Fin _ _ _ _ _ _ _ (s₁.setTop (mkF m 46 #[.val (.int p1), .val (.ref a2), .val (.int p3)] [(.int (1 : Int32)), (.int p1), (.int p3), (.ref a2)]))
      refine own_st (fun t k => XS.iadd X0.here hx rfl (hb hby d1_46) rfl k) ?_
      show own_Fin _ _ _ _ _ _ _ (s₁.setTop (mkF m 47 #[.val (.int p1), .val (.ref a2), .val (.int p3)] [(.int (p1 + (1 : Int32))), (.int p3), (.ref a2)]))
      obtain ⟨cl6, Ar6, Cq6, Sz6, Mn6, Hs6, Gf6⟩ := id Vi
      obtain ⟨T6, h6, X6, e6, W6, st6⟩ := stI X0 hx hZ e0 Ar6 (j := p3) (inb_of Sz6 ⟨hi0, hi1⟩) (g := (mkF m 47 #[.val (.int p1), .val (.ref a2), .val (.int p3)] [(.int (p1 + (1 : Int32))), (.int p3), (.ref a2)])) rfl rfl (hb hby d1_47)
      have V6 : Arv Z h6 a2 ka .int za (vs.set (p3).toNatClampNeg (.int (p1 + (1 : Int32)))) (.int (0 : Int32)) := Arv.set Ar6 Cq6 Sz6 Mn6 Hs6 Gf6 rfl W6 (p3).toNatClampNeg rfl hl1
      have N6 := Fr.snoc X6 N0 gi
      have Z6 : n0 ≤ h6.size := Nat.le_trans Z0 (Keep.of_wr W6).1
      have K6 : Keep h0 h6 [a2] := KR.wr W6 (Or.inl (List.mem_of_getElem? (i := 0) rfl))
      refine own_st st6 ?_
      show own_Fin _ _ _ _ _ _ _ (T6.setTop (mkF m 48 #[.val (.int p1), .val (.ref a2), .val (.int p3)] []))
      refine own_st (fun t k => XS.iloadN X6.here hx rfl (hb hby d1_48) rfl k) ?_
      show own_Fin _ _ _ _ _ _ _ (T6.setTop (mkF m 49 #[.val (.int p1), .val (.ref a2), .val (.int p3)] [(.int p3)]))
      refine own_st (fun t k => XS.iconst X6.here hx rfl (hb hby d1_49) k) ?_
      show own_Fin _ _ _ _ _ _ _ (T6.setTop (mkF m 50 #[.val (.int p1), .val (.ref a2), .val (.int p3)] [(.int (1 : Int32)), (.int p3)]))
      refine own_st (fun t k => XS.iadd X6.here hx rfl (hb hby d1_50) rfl k) ?_
      show own_Fin _ _ _ _ _ _ _ (T6.setTop (mkF m 51 #[.val (.int p1), .val (.ref a2), .val (.int p3)] [(.int (p3 + (1 : Int32)))]))
      have hv : own_wr p1 p3 = (p3 + (1 : Int32)) := by unfold own_wr; rw [if_neg hc4_1, if_neg hc20_3]
      have hl : own_wv p1 p3 vs = (vs.set (p3).toNatClampNeg (.int (p1 + (1 : Int32)))) := by unfold own_wv; rw [if_neg hc4_1, if_neg hc20_3]
      exact own_retI X6 hx Bd.notSynchronized Bd.returns (hb hby d1_51) (by decide) (by decide) (by rw [e6]; unfold own_Q_rm1; rw [hv, hl]; exact ⟨rfl, N6, K6, V6⟩)
def own_un (i a e s w : Int32) : Int32 := if i < a then (if w = s then (1 : Int32) else (0 : Int32)) else if i < e then (1 : Int32) else (if w = s then (1 : Int32) else (0 : Int32))
theorem d2_0 : decode method_2_code 0 = .ok (.iload_n 1, 1) := by decide +kernel
theorem d2_1 : decode method_2_code 1 = .ok (.iload_n 2, 1) := by decide +kernel
theorem d2_2 : decode method_2_code 2 = .ok (.if_icmp .lt 10, 3) := by decide +kernel
theorem d2_5 : decode method_2_code 5 = .ok (.iload_n 1, 1) := by decide +kernel
theorem d2_6 : decode method_2_code 6 = .ok (.iload_n 3, 1) := by decide +kernel
theorem d2_7 : decode method_2_code 7 = .ok (.if_icmp .ge 5, 3) := by decide +kernel
theorem d2_10 : decode method_2_code 10 = .ok (.iconst 1, 1) := by decide +kernel
theorem d2_11 : decode method_2_code 11 = .ok (.ireturn, 1) := by decide +kernel
theorem d2_12 : decode method_2_code 12 = .ok (.aload_n 0, 1) := by decide +kernel
theorem d2_13 : decode method_2_code 13 = .ok (.iload_n 1, 1) := by decide +kernel
theorem d2_14 : decode method_2_code 14 = .ok (.iaload, 1) := by decide +kernel
theorem d2_15 : decode method_2_code 15 = .ok (.iload 4, 2) := by decide +kernel
theorem d2_17 : decode method_2_code 17 = .ok (.if_icmp .ne 7, 3) := by decide +kernel
theorem d2_20 : decode method_2_code 20 = .ok (.iconst 1, 1) := by decide +kernel
theorem d2_21 : decode method_2_code 21 = .ok (.goto 4, 3) := by decide +kernel
theorem d2_24 : decode method_2_code 24 = .ok (.iconst 0, 1) := by decide +kernel
theorem d2_25 : decode method_2_code 25 = .ok (.ireturn, 1) := by decide +kernel
theorem pn_2 : plainFor (⟨"com/example/quietzone/quietzone/datamatrix/AsciiEncodationWritePinLaw", "untouched", "([IIIII)Z"⟩ : MethodName) = true := plainFor_of_name (x := (⟨"com/example/quietzone/quietzone/datamatrix/AsciiEncodationWritePinLaw", "untouched", "([IIIII)Z"⟩ : MethodName)) (by first | (simp [plainName, overriddenIn]; done) | decide +kernel)
theorem ef_2 (m : MethodId) (a1 : Addr) (p2 : Int32) (p3 : Int32) (p4 : Int32) (p5 : Int32) : entryFrame m #[(.ref a1), (.int p2), (.int p3), (.int p4), (.int p5)] 5 = mkF m 0 #[.val (.ref a1), .val (.int p2), .val (.int p3), .val (.int p4), .val (.int p5)] [] := by first | (simp [entryFrame, mkF, argsToLocals, Value.category]; done) | rfl
def own_Q_rm2 (Z : State) (a1 : Addr) (p2 : Int32) (p3 : Int32) (p4 : Int32) (p5 : Int32) (ka : ClassId) (za : Int32) (vs : List Value) (wa : Int32) (h0 : Heap) (n0 : Nat) (v : Option Value) (h : Heap) (L : List Loc) : Prop := v = some (.int (own_un p2 p3 p4 p5 wa)) ∧ Fr n0 L ∧ h = h0
set_option maxRecDepth 65536 in
set_option maxHeartbeats 40000000 in
theorem rm2 (l : Launch) (Z : State) (a0 : Array Value) (hw : ∀ d ∈ tables_1, d.before a0 Z = true) (ws : List Jvm.Cond) (a1 : Addr) (p2 : Int32) (p3 : Int32) (p4 : Int32) (p5 : Int32) (ka : ClassId) (za : Int32) (vs : List Value) (wa : Int32) (h0 : Heap) (n0 : Nat) (Z0 : n0 ≤ h0.size) (Vi : Arv Z h0 a1 ka .int za vs (.int (0 : Int32))) (hi0 : ¬ p2 < 0) (hi1 : p2 < za) (hat : vs.getD p2.toNatClampNeg (.int (0 : Int32)) = .int wa) :
    MetFree l (⟨"com/example/quietzone/quietzone/datamatrix/AsciiEncodationWritePinLaw", "untouched", "([IIIII)Z"⟩ : MethodName) (head1 (Jvm.Cond.code (⟨"com/example/quietzone/quietzone/datamatrix/AsciiEncodationWritePinLaw", "untouched", "([IIIII)Z"⟩ : MethodName) method_2_code 5 (some .boolean) :: ws) ({ frames := 0, cells := 0, slots := 0, locals := 0 } : Room)) (fun a U => a = #[(.ref a1), (.int p2), (.int p3), (.int p4), (.int p5)] ∧ Z.Warmed39 U.vm ∧ U.heap = h0) (fun _ _ _ _ _ => True) (fun _ U o U' => ∃ v L, o = .returned v ∧ own_Q_rm2 Z a1 p2 p3 p4 p5 ka za vs wa h0 n0 v U'.heap L ∧ FrameEnd U o U' L ({ frames := 0, cells := 0, slots := 0, locals := 0 } : Room).cells ({ frames := 0, cells := 0, slots := 0, locals := 0 } : Room).slots) := by
  refine MetFree.of_bodySF pn_2 hisR ?_
  intro p e s m args below meth c s₁ Bd hml0 hP hK
  obtain ⟨rfl, hZ, hh⟩ := hP
  have hx := Bd.exec
  have hby := Bd.bytes
  have hml : c.maxLocals = 5 := hml0
  have hown : s.vm.findClass "com/example/quietzone/quietzone/datamatrix/AsciiEncodationWritePinLaw" = some m.cls := findClass_of_methodNamed Bd.named
  have hnm := (name_of_methodNamed Bd.named Bd.method).1
  have X0 : Stand p l e ({ frames := 0, cells := 0, slots := 0, locals := 0 } : Room) s m #[(.ref a1), (.int p2), (.int p3), (.int p4), (.int p5)] below meth c s₁ [] 0 0 := Stand.of_body Bd
  have e0 : s₁.heap = h0 := by rw [← hh, Bd.state]; rfl
  have N0 := Fr.nil n0
  show own_Fin p.tables e below s (({ frames := 0, cells := 0, slots := 0, locals := 0 } : Room).cells) (({ frames := 0, cells := 0, slots := 0, locals := 0 } : Room).slots) (own_Q_rm2 Z a1 p2 p3 p4 p5 ka za vs wa h0 n0) (s₁.setTop (entryFrame m #[(.ref a1), (.int p2), (.int p3), (.int p4), (.int p5)] 5))
  rw [ef_2 m a1 p2 p3 p4 p5]
  show own_Fin _ _ _ _ _ _ _ (s₁.setTop (mkF m 0 #[.val (.ref a1), .val (.int p2), .val (.int p3), .val (.int p4), .val (.int p5)] []))
  refine own_st (fun t k => XS.iloadN X0.here hx rfl (hb hby d2_0) rfl k) ?_
  show own_Fin _ _ _ _ _ _ _ (s₁.setTop (mkF m 1 #[.val (.ref a1), .val (.int p2), .val (.int p3), .val (.int p4), .val (.int p5)] [(.int p2)]))
  refine own_st (fun t k => XS.iloadN X0.here hx rfl (hb hby d2_1) rfl k) ?_
  show own_Fin _ _ _ _ _ _ _ (s₁.setTop (mkF m 2 #[.val (.ref a1), .val (.int p2), .val (.int p3), .val (.int p4), .val (.int p5)] [(.int p3), (.int p2)]))
  by_cases hc2_1 : p2 < p3
  · refine own_st (fun t k => XS.icmpYes X0.here hx rfl (pc0 := 2) (pc' := 12) rfl (hb hby d2_2) rfl (tlt hc2_1).1 (by decide) (by decide) k) ?_
    show own_Fin _ _ _ _ _ _ _ (s₁.setTop (mkF m 12 #[.val (.ref a1), .val (.int p2), .val (.int p3), .val (.int p4), .val (.int p5)] []))
    refine own_st (fun t k => XS.aloadN X0.here hx rfl (hb hby d2_12) rfl rfl k) ?_
    show own_Fin _ _ _ _ _ _ _ (s₁.setTop (mkF m 13 #[.val (.ref a1), .val (.int p2), .val (.int p3), .val (.int p4), .val (.int p5)] [(.ref a1)]))
    refine own_st (fun t k => XS.iloadN X0.here hx rfl (hb hby d2_13) rfl k) ?_
    show own_Fin _ _ _ _ _ _ _ (s₁.setTop (mkF m 14 #[.val (.ref a1), .val (.int p2), .val (.int p3), .val (.int p4), .val (.int p5)] [(.int p2), (.ref a1)]))
    obtain ⟨cl2, Ar2, Cq2, Sz2, Mn2, Hs2, Gf2⟩ := id Vi
    have hin2 := inb_of Sz2 (j := p2) ⟨hi0, hi1⟩
    refine own_st (X0.iaload hx (j := p2) (v := (.int wa)) (by rw [e0]; exact Ar2.1) (State.isArrayOf_alike hZ.alike Ar2.2.1) Ar2.2.2 hin2 (Hs2.at hin2 hat) (g := (mkF m 14 #[.val (.ref a1), .val (.int p2), .val (.int p3), .val (.int p4), .val (.int p5)] [(.int p2), (.ref a1)])) rfl rfl (hb hby d2_14)) ?_
    show own_Fin _ _ _ _ _ _ _ (s₁.setTop (mkF m 15 #[.val (.ref a1), .val (.int p2), .val (.int p3), .val (.int p4), .val (.int p5)] [(.int wa)]))
    refine own_st (fun t k => XS.iload X0.here hx rfl (hb hby d2_15) rfl k) ?_
    show own_Fin _ _ _ _ _ _ _ (s₁.setTop (mkF m 17 #[.val (.ref a1), .val (.int p2), .val (.int p3), .val (.int p4), .val (.int p5)] [(.int p5), (.int wa)]))
    by_cases hc17_3 : wa = p5
    · refine own_st (fun t k => XS.icmpNo X0.here hx rfl (hb hby d2_17) rfl (teq hc17_3).2 k) ?_
      show own_Fin _ _ _ _ _ _ _ (s₁.setTop (mkF m 20 #[.val (.ref a1), .val (.int p2), .val (.int p3), .val (.int p4), .val (.int p5)] []))
      refine own_st (fun t k => XS.iconst X0.here hx rfl (hb hby d2_20) k) ?_
      show own_Fin _ _ _ _ _ _ _ (s₁.setTop (mkF m 21 #[.val (.ref a1), .val (.int p2), .val (.int p3), .val (.int p4), .val (.int p5)] [(.int (1 : Int32))]))
      refine own_st (fun t k => XS.goto X0.here hx rfl (pc0 := 21) (pc' := 25) rfl (hb hby d2_21) (by decide) (by decide) k) ?_
      show own_Fin _ _ _ _ _ _ _ (s₁.setTop (mkF m 25 #[.val (.ref a1), .val (.int p2), .val (.int p3), .val (.int p4), .val (.int p5)] [(.int (1 : Int32))]))
      exact own_retN X0 hx Bd.notSynchronized (t := .boolean) Bd.returns (by simp) (hb hby d2_25) (by decide) (by decide) (by rw [e0]; exact ⟨by unfold own_un; rw [if_pos hc2_1, if_pos hc17_3]; rfl, N0, rfl⟩)
    · refine own_st (fun t k => XS.icmpYes X0.here hx rfl (pc0 := 17) (pc' := 24) rfl (hb hby d2_17) rfl (feq hc17_3).2 (by decide) (by decide) k) ?_
      show own_Fin _ _ _ _ _ _ _ (s₁.setTop (mkF m 24 #[.val (.ref a1), .val (.int p2), .val (.int p3), .val (.int p4), .val (.int p5)] []))
      refine own_st (fun t k => XS.iconst X0.here hx rfl (hb hby d2_24) k) ?_
      show own_Fin _ _ _ _ _ _ _ (s₁.setTop (mkF m 25 #[.val (.ref a1), .val (.int p2), .val (.int p3), .val (.int p4), .val (.int p5)] [(.int (0 : Int32))]))
      exact own_retN X0 hx Bd.notSynchronized (t := .boolean) Bd.returns (by simp) (hb hby d2_25) (by decide) (by decide) (by rw [e0]; exact ⟨by unfold own_un; rw [if_pos hc2_1, if_neg hc17_3]; rfl, N0, rfl⟩)
  · refine own_st (fun t k => XS.icmpNo X0.here hx rfl (hb hby d2_2) rfl (flt hc2_1).1 k) ?_
    show own_Fin _ _ _ _ _ _ _ (s₁.setTop (mkF m 5 #[.val (.ref a1), .val (.int p2), .val (.int p3), .val (.int p4), .val (.int p5)] []))
    refine own_st (fun t k => XS.iloadN X0.here hx rfl (hb hby d2_5) rfl k) ?_
    show own_Fin _ _ _ _ _ _ _ (s₁.setTop (mkF m 6 #[.val (.ref a1), .val (.int p2), .val (.int p3), .val (.int p4), .val (.int p5)] [(.int p2)]))
    refine own_st (fun t k => XS.iloadN X0.here hx rfl (hb hby d2_6) rfl k) ?_
    show own_Fin _ _ _ _ _ _ _ (s₁.setTop (mkF m 7 #[.val (.ref a1), .val (.int p2), .val (.int p3), .val (.int p4), .val (.int p5)] [(.int p4), (.int p2)]))
    by_cases hc7_4 : p2 < p4
    · refine own_st (fun t k => XS.icmpNo X0.here hx rfl (hb hby d2_7) rfl (tlt hc7_4).2.1 k) ?_
      show own_Fin _ _ _ _ _ _ _ (s₁.setTop (mkF m 10 #[.val (.ref a1), .val (.int p2), .val (.int p3), .val (.int p4), .val (.int p5)] []))
      refine own_st (fun t k => XS.iconst X0.here hx rfl (hb hby d2_10) k) ?_
      show own_Fin _ _ _ _ _ _ _ (s₁.setTop (mkF m 11 #[.val (.ref a1), .val (.int p2), .val (.int p3), .val (.int p4), .val (.int p5)] [(.int (1 : Int32))]))
      exact own_retN X0 hx Bd.notSynchronized (t := .boolean) Bd.returns (by simp) (hb hby d2_11) (by decide) (by decide) (by rw [e0]; exact ⟨by unfold own_un; rw [if_neg hc2_1, if_pos hc7_4]; rfl, N0, rfl⟩)
    · refine own_st (fun t k => XS.icmpYes X0.here hx rfl (pc0 := 7) (pc' := 12) rfl (hb hby d2_7) rfl (flt hc7_4).2.1 (by decide) (by decide) k) ?_
      show own_Fin _ _ _ _ _ _ _ (s₁.setTop (mkF m 12 #[.val (.ref a1), .val (.int p2), .val (.int p3), .val (.int p4), .val (.int p5)] []))
      refine own_st (fun t k => XS.aloadN X0.here hx rfl (hb hby d2_12) rfl rfl k) ?_
      show own_Fin _ _ _ _ _ _ _ (s₁.setTop (mkF m 13 #[.val (.ref a1), .val (.int p2), .val (.int p3), .val (.int p4), .val (.int p5)] [(.ref a1)]))
      refine own_st (fun t k => XS.iloadN X0.here hx rfl (hb hby d2_13) rfl k) ?_
      show own_Fin _ _ _ _ _ _ _ (s₁.setTop (mkF m 14 #[.val (.ref a1), .val (.int p2), .val (.int p3), .val (.int p4), .val (.int p5)] [(.int p2), (.ref a1)]))
      obtain ⟨cl5, Ar5, Cq5, Sz5, Mn5, Hs5, Gf5⟩ := id Vi
      have hin5 := inb_of Sz5 (j := p2) ⟨hi0, hi1⟩
      refine own_st (X0.iaload hx (j := p2) (v := (.int wa)) (by rw [e0]; exact Ar5.1) (State.isArrayOf_alike hZ.alike Ar5.2.1) Ar5.2.2 hin5 (Hs5.at hin5 hat) (g := (mkF m 14 #[.val (.ref a1), .val (.int p2), .val (.int p3), .val (.int p4), .val (.int p5)] [(.int p2), (.ref a1)])) rfl rfl (hb hby d2_14)) ?_
      show own_Fin _ _ _ _ _ _ _ (s₁.setTop (mkF m 15 #[.val (.ref a1), .val (.int p2), .val (.int p3), .val (.int p4), .val (.int p5)] [(.int wa)]))
      refine own_st (fun t k => XS.iload X0.here hx rfl (hb hby d2_15) rfl k) ?_
      show own_Fin _ _ _ _ _ _ _ (s₁.setTop (mkF m 17 #[.val (.ref a1), .val (.int p2), .val (.int p3), .val (.int p4), .val (.int p5)] [(.int p5), (.int wa)]))
      by_cases hc17_6 : wa = p5
      · refine own_st (fun t k => XS.icmpNo X0.here hx rfl (hb hby d2_17) rfl (teq hc17_6).2 k) ?_
        show own_Fin _ _ _ _ _ _ _ (s₁.setTop (mkF m 20 #[.val (.ref a1), .val (.int p2), .val (.int p3), .val (.int p4), .val (.int p5)] []))
        refine own_st (fun t k => XS.iconst X0.here hx rfl (hb hby d2_20) k) ?_
        show own_Fin _ _ _ _ _ _ _ (s₁.setTop (mkF m 21 #[.val (.ref a1), .val (.int p2), .val (.int p3), .val (.int p4), .val (.int p5)] [(.int (1 : Int32))]))
        refine own_st (fun t k => XS.goto X0.here hx rfl (pc0 := 21) (pc' := 25) rfl (hb hby d2_21) (by decide) (by decide) k) ?_
        show own_Fin _ _ _ _ _ _ _ (s₁.setTop (mkF m 25 #[.val (.ref a1), .val (.int p2), .val (.int p3), .val (.int p4), .val (.int p5)] [(.int (1 : Int32))]))
        exact own_retN X0 hx Bd.notSynchronized (t := .boolean) Bd.returns (by simp) (hb hby d2_25) (by decide) (by decide) (by rw [e0]; exact ⟨by unfold own_un; rw [if_neg hc2_1, if_neg hc7_4, if_pos hc17_6]; rfl, N0, rfl⟩)
      · refine own_st (fun t k => XS.icmpYes X0.here hx rfl (pc0 := 17) (pc' := 24) rfl (hb hby d2_17) rfl (feq hc17_6).2 (by decide) (by decide) k) ?_
        show own_Fin _ _ _ _ _ _ _ (s₁.setTop (mkF m 24 #[.val (.ref a1), .val (.int p2), .val (.int p3), .val (.int p4), .val (.int p5)] []))
        refine own_st (fun t k => XS.iconst X0.here hx rfl (hb hby d2_24) k) ?_
        show own_Fin _ _ _ _ _ _ _ (s₁.setTop (mkF m 25 #[.val (.ref a1), .val (.int p2), .val (.int p3), .val (.int p4), .val (.int p5)] [(.int (0 : Int32))]))
        exact own_retN X0 hx Bd.notSynchronized (t := .boolean) Bd.returns (by simp) (hb hby d2_25) (by decide) (by decide) (by rw [e0]; exact ⟨by unfold own_un; rw [if_neg hc2_1, if_neg hc7_4, if_neg hc17_6]; rfl, N0, rfl⟩)
theorem own_at (y : Int32) : (y &&& (3 : Int32)) = (0 : Int32) ∨ (y &&& (3 : Int32)) = (1 : Int32) ∨ (y &&& (3 : Int32)) = (2 : Int32) ∨ (y &&& (3 : Int32)) = (3 : Int32) := by
  have b := c_and y (3 : Int32) (by decide)
  rw [show (3 : Int32).toInt = 3 by decide] at b
  simp only [← Int32.toInt_inj, show (0 : Int32).toInt = 0 by decide, show (1 : Int32).toInt = 1 by decide, show (2 : Int32).toInt = 2 by decide, show (3 : Int32).toInt = 3 by decide]
  omega
theorem own_c (x : Int32) : 0 ≤ ((x &&& (2147483647 : Int32)) % (257 : Int32)).toInt ∧ ((x &&& (2147483647 : Int32)) % (257 : Int32)).toInt < 257 := by
  have b := c_and x (2147483647 : Int32) (by decide)
  have r := (c_irem (x &&& 2147483647) (257 : Int32) 257 (by decide)).1 b.1
  rw [r]
  omega
theorem own_lo {c : Int32} (h0 : 0 ≤ c.toInt) (h : ¬ (127 : Int32) < c) : ¬ (c + (1 : Int32)) < (1 : Int32) ∧ ¬ (128 : Int32) < (c + (1 : Int32)) ∧ (c + (1 : Int32)) - (1 : Int32) = c := by
  have h' : ¬ 127 < c.toInt := fun q => h (Int32.lt_iff_toInt_lt.mpr (by rw [show (127 : Int32).toInt = 127 by decide]; exact q))
  have a := c_iadd c (1 : Int32)
  have b := c_isub (c + 1) (1 : Int32)
  have r1 := rng32 (c + 1)
  have r2 := rng32 (c + 1 - 1)
  have r3 := rng32 c
  have l1 : (1 : Int32).toInt = 1 := by decide
  have l2 : (128 : Int32).toInt = 128 := by decide
  rw [l1] at a b
  refine ⟨fun q => ?_, fun q => ?_, Int32.toInt_inj.mp (by omega)⟩
  · have q' := Int32.lt_iff_toInt_lt.mp q
    rw [l1] at q'
    omega
  · have q' := Int32.lt_iff_toInt_lt.mp q
    rw [l2] at q'
    omega
theorem own_hi {c : Int32} (h0 : c.toInt < 257) (h1 : ¬ c = (256 : Int32)) (h : (127 : Int32) < c) : ¬ (c - (127 : Int32)) < (1 : Int32) ∧ ¬ (128 : Int32) < (c - (127 : Int32)) ∧ ((c - (127 : Int32)) - (1 : Int32)) + (128 : Int32) = c := by
  have h' := Int32.lt_iff_toInt_lt.mp h
  have h1' : c.toInt ≠ 256 := fun q => h1 (Int32.toInt_inj.mp (by rw [q]; decide))
  have a := c_isub c (127 : Int32)
  have b := c_isub (c - 127) (1 : Int32)
  have d := c_iadd (c - 127 - 1) (128 : Int32)
  have r1 := rng32 (c - 127)
  have r2 := rng32 (c - 127 - 1)
  have r4 := rng32 (c - 127 - 1 + 128)
  have r3 := rng32 c
  have l0 : (127 : Int32).toInt = 127 := by decide
  have l1 : (1 : Int32).toInt = 1 := by decide
  have l2 : (128 : Int32).toInt = 128 := by decide
  rw [l0] at a h'
  rw [l1] at b
  rw [l2] at d
  refine ⟨fun q => ?_, fun q => ?_, Int32.toInt_inj.mp (by omega)⟩
  · have q' := Int32.lt_iff_toInt_lt.mp q
    rw [l1] at q'
    omega
  · have q' := Int32.lt_iff_toInt_lt.mp q
    rw [l2] at q'
    omega
theorem pn_0 : plainFor x = true := plainFor_of_name (x := x) (by first | (simp [plainName, overriddenIn]; done) | decide +kernel)
theorem pd_0_0 : parseMethodDescriptor "(I[II)I" = some ⟨[.int, (.array .int), .int], some .int⟩ := by decide +kernel
theorem pd_0_1 : parseMethodDescriptor "([IIIII)Z" = some ⟨[(.array .int), .int, .int, .int, .int], some .boolean⟩ := by decide +kernel
theorem ef_0 (m : MethodId) (p1 : Int32) (p2 : Int32) (p3 : Int32) : entryFrame m #[(.int p1), (.int p2), (.int p3)] maxLocals = mkF m 0 #[.val (.int p1), .val (.int p2), .val (.int p3), .unset, .unset, .unset, .unset, .unset, .unset, .unset, .unset] [] := by first | (simp [entryFrame, mkF, argsToLocals, Value.category, maxLocals]; done) | rfl
def own_Q_rm0 (Z : State) (p1 : Int32) (p2 : Int32) (p3 : Int32)  (h0 : Heap) (n0 : Nat) (v : Option Value) (h : Heap) (L : List Loc) : Prop := v = some (.int (1 : Int32)) ∧ Fr n0 L ∧ True
set_option maxRecDepth 65536 in
set_option maxHeartbeats 40000000 in
theorem rm0 (l : Launch) (Z : State) (a0 : Array Value) (hw : ∀ d ∈ tables_1, d.before a0 Z = true) (ws : List Jvm.Cond) (p1 : Int32) (p2 : Int32) (p3 : Int32)  (h0 : Heap) (n0 : Nat) (Z0 : n0 ≤ h0.size)  :
    MetFree l x (head1 (Jvm.Cond.code x code maxLocals ret :: ws) room_1) (fun a U => a = #[(.int p1), (.int p2), (.int p3)] ∧ Z.Warmed39 U.vm ∧ U.heap = h0) (fun _ _ _ _ _ => True) (fun _ U o U' => ∃ v L, o = .returned v ∧ own_Q_rm0 Z p1 p2 p3 h0 n0 v U'.heap L ∧ FrameEnd U o U' L 16 128) := by
  refine MetFree.of_bodySF pn_0 hisR ?_
  intro p e s m args below meth c s₁ Bd hml0 hP hK
  obtain ⟨rfl, hZ, hh⟩ := hP
  have hx := Bd.exec
  have hby := Bd.bytes
  have hml : c.maxLocals = 11 := hml0
  have hown : s.vm.findClass "com/example/quietzone/quietzone/datamatrix/AsciiEncodationWritePinLaw" = some m.cls := findClass_of_methodNamed Bd.named
  have hnm := (name_of_methodNamed Bd.named Bd.method).1
  have X0 : Stand p l e room_1 s m #[(.int p1), (.int p2), (.int p3)] below meth c s₁ [] 0 0 := Stand.of_body Bd
  have e0 : s₁.heap = h0 := by rw [← hh, Bd.state]; rfl
  have N0 := Fr.nil n0
  show own_Fin p.tables e below s (16) (128) (own_Q_rm0 Z p1 p2 p3 h0 n0) (s₁.setTop (entryFrame m #[(.int p1), (.int p2), (.int p3)] maxLocals))
  rw [ef_0 m p1 p2 p3]
  show own_Fin _ _ _ _ _ _ _ (s₁.setTop (mkF m 0 #[.val (.int p1), .val (.int p2), .val (.int p3), .unset, .unset, .unset, .unset, .unset, .unset, .unset, .unset] []))
  refine own_st (fun t k => XS.iloadN X0.here hx rfl (hb hby at_0) rfl k) ?_
  show own_Fin _ _ _ _ _ _ _ (s₁.setTop (mkF m 1 #[.val (.int p1), .val (.int p2), .val (.int p3), .unset, .unset, .unset, .unset, .unset, .unset, .unset, .unset] [(.int p1)]))
  refine own_st (X0.ldcInt hx hown (mvT hZ (hw _ (List.mem_of_getElem? (i := 0) rfl))) (g := (mkF m 1 #[.val (.int p1), .val (.int p2), .val (.int p3), .unset, .unset, .unset, .unset, .unset, .unset, .unset, .unset] [(.int p1)])) rfl (hb hby at_1)) ?_
  show own_Fin _ _ _ _ _ _ _ (s₁.setTop (mkF m 3 #[.val (.int p1), .val (.int p2), .val (.int p3), .unset, .unset, .unset, .unset, .unset, .unset, .unset, .unset] [(.int (2147483647 : Int32)), (.int p1)]))
  refine own_st (fun t k => XS.iand X0.here hx rfl (hb hby at_3) rfl k) ?_
  show own_Fin _ _ _ _ _ _ _ (s₁.setTop (mkF m 4 #[.val (.int p1), .val (.int p2), .val (.int p3), .unset, .unset, .unset, .unset, .unset, .unset, .unset, .unset] [(.int (p1 &&& (2147483647 : Int32)))]))
  refine own_st (fun t k => XS.sipush X0.here hx rfl (hb hby at_4) k) ?_
  show own_Fin _ _ _ _ _ _ _ (s₁.setTop (mkF m 7 #[.val (.int p1), .val (.int p2), .val (.int p3), .unset, .unset, .unset, .unset, .unset, .unset, .unset, .unset] [(.int (257 : Int32)), (.int (p1 &&& (2147483647 : Int32)))]))
  refine own_st (fun t k => iremM X0 hx rfl (hb hby at_7) rfl (by decide) k) ?_
  show own_Fin _ _ _ _ _ _ _ (s₁.setTop (mkF m 8 #[.val (.int p1), .val (.int p2), .val (.int p3), .unset, .unset, .unset, .unset, .unset, .unset, .unset, .unset] [(.int ((p1 &&& (2147483647 : Int32)) % (257 : Int32)))]))
  refine own_st (fun t k => XS.istoreN X0.here hx rfl (hb hby at_8) rfl (l' := #[.val (.int p1), .val (.int p2), .val (.int p3), .val (.int ((p1 &&& (2147483647 : Int32)) % (257 : Int32))), .unset, .unset, .unset, .unset, .unset, .unset, .unset]) rfl k) ?_
  show own_Fin _ _ _ _ _ _ _ (s₁.setTop (mkF m 9 #[.val (.int p1), .val (.int p2), .val (.int p3), .val (.int ((p1 &&& (2147483647 : Int32)) % (257 : Int32))), .unset, .unset, .unset, .unset, .unset, .unset, .unset] []))
  refine own_st (fun t k => XS.iloadN X0.here hx rfl (hb hby at_9) rfl k) ?_
  show own_Fin _ _ _ _ _ _ _ (s₁.setTop (mkF m 10 #[.val (.int p1), .val (.int p2), .val (.int p3), .val (.int ((p1 &&& (2147483647 : Int32)) % (257 : Int32))), .unset, .unset, .unset, .unset, .unset, .unset, .unset] [(.int p2)]))
  refine own_st (fun t k => XS.iconst X0.here hx rfl (hb hby at_10) k) ?_
  show own_Fin _ _ _ _ _ _ _ (s₁.setTop (mkF m 11 #[.val (.int p1), .val (.int p2), .val (.int p3), .val (.int ((p1 &&& (2147483647 : Int32)) % (257 : Int32))), .unset, .unset, .unset, .unset, .unset, .unset, .unset] [(.int (3 : Int32)), (.int p2)]))
  refine own_st (fun t k => XS.iand X0.here hx rfl (hb hby at_11) rfl k) ?_
  show own_Fin _ _ _ _ _ _ _ (s₁.setTop (mkF m 12 #[.val (.int p1), .val (.int p2), .val (.int p3), .val (.int ((p1 &&& (2147483647 : Int32)) % (257 : Int32))), .unset, .unset, .unset, .unset, .unset, .unset, .unset] [(.int (p2 &&& (3 : Int32)))]))
  refine own_st (fun t k => XS.istore X0.here hx rfl (hb hby at_12) rfl (l' := #[.val (.int p1), .val (.int p2), .val (.int p3), .val (.int ((p1 &&& (2147483647 : Int32)) % (257 : Int32))), .val (.int (p2 &&& (3 : Int32))), .unset, .unset, .unset, .unset, .unset, .unset]) rfl k) ?_
  show own_Fin _ _ _ _ _ _ _ (s₁.setTop (mkF m 14 #[.val (.int p1), .val (.int p2), .val (.int p3), .val (.int ((p1 &&& (2147483647 : Int32)) % (257 : Int32))), .val (.int (p2 &&& (3 : Int32))), .unset, .unset, .unset, .unset, .unset, .unset] []))
  refine own_st (fun t k => XS.bipush X0.here hx rfl (hb hby at_14) k) ?_
  show own_Fin _ _ _ _ _ _ _ (s₁.setTop (mkF m 16 #[.val (.int p1), .val (.int p2), .val (.int p3), .val (.int ((p1 &&& (2147483647 : Int32)) % (257 : Int32))), .val (.int (p2 &&& (3 : Int32))), .unset, .unset, .unset, .unset, .unset, .unset] [(.int (6 : Int32))]))
  obtain ⟨T1, h1, k1, X1, e1, E1, A1, st1⟩ := newP X0 hx hZ (hw _ (List.mem_of_getElem? (i := 1) rfl)) e0 (g := (mkF m 16 #[.val (.int p1), .val (.int p2), .val (.int p3), .val (.int ((p1 &&& (2147483647 : Int32)) % (257 : Int32))), .val (.int (p2 &&& (3 : Int32))), .unset, .unset, .unset, .unset, .unset, .unset] [(.int (6 : Int32))])) rfl (hb hby at_16) rfl (by decide) (cap := 6) (by decide) (by decide) (by decide) (by decide)
  obtain ⟨b1, g1⟩ : ∃ z, z = h0.size := ⟨_, rfl⟩
  rw [← g1] at A1 st1
  have ge_b1 : n0 ≤ b1 := Nat.le_trans Z0 (Nat.le_of_eq g1.symm)
  have Z1 : n0 ≤ h1.size := Nat.le_trans Z0 E1.1
  have V1 : Arv Z h1 b1 k1 .int (6 : Int32) [(.int (0 : Int32)), (.int (0 : Int32)), (.int (0 : Int32)), (.int (0 : Int32)), (.int (0 : Int32)), (.int (0 : Int32))] (.int (0 : Int32)) := (Arv.new A1 (by decide)).pad (pad_rep [] (.int (0 : Int32)) 6)
  refine own_st st1 ?_
  show own_Fin _ _ _ _ _ _ _ (T1.setTop (mkF m 18 #[.val (.int p1), .val (.int p2), .val (.int p3), .val (.int ((p1 &&& (2147483647 : Int32)) % (257 : Int32))), .val (.int (p2 &&& (3 : Int32))), .unset, .unset, .unset, .unset, .unset, .unset] [(.ref b1)]))
  refine own_st (fun t k => XS.dup X1.here hx rfl (hb hby at_18) rfl rfl k) ?_
  show own_Fin _ _ _ _ _ _ _ (T1.setTop (mkF m 19 #[.val (.int p1), .val (.int p2), .val (.int p3), .val (.int ((p1 &&& (2147483647 : Int32)) % (257 : Int32))), .val (.int (p2 &&& (3 : Int32))), .unset, .unset, .unset, .unset, .unset, .unset] [(.ref b1), (.ref b1)]))
  refine own_st (fun t k => XS.iconst X1.here hx rfl (hb hby at_19) k) ?_
  show own_Fin _ _ _ _ _ _ _ (T1.setTop (mkF m 20 #[.val (.int p1), .val (.int p2), .val (.int p3), .val (.int ((p1 &&& (2147483647 : Int32)) % (257 : Int32))), .val (.int (p2 &&& (3 : Int32))), .unset, .unset, .unset, .unset, .unset, .unset] [(.int (0 : Int32)), (.ref b1), (.ref b1)]))
  refine own_st (fun t k => XS.iloadN X1.here hx rfl (hb hby at_20) rfl k) ?_
  show own_Fin _ _ _ _ _ _ _ (T1.setTop (mkF m 21 #[.val (.int p1), .val (.int p2), .val (.int p3), .val (.int ((p1 &&& (2147483647 : Int32)) % (257 : Int32))), .val (.int (p2 &&& (3 : Int32))), .unset, .unset, .unset, .unset, .unset, .unset] [(.int p3), (.int (0 : Int32)), (.ref b1), (.ref b1)]))
  obtain ⟨cl2, Ar2, Cq2, Sz2, Mn2, Hs2, Gf2⟩ := id V1
  obtain ⟨T2, h2, X2, e2, W2, st2⟩ := stI X1 hx hZ e1 Ar2 (j := (0 : Int32)) (inb_of Sz2 ⟨by decide, by decide⟩) (g := (mkF m 21 #[.val (.int p1), .val (.int p2), .val (.int p3), .val (.int ((p1 &&& (2147483647 : Int32)) % (257 : Int32))), .val (.int (p2 &&& (3 : Int32))), .unset, .unset, .unset, .unset, .unset, .unset] [(.int p3), (.int (0 : Int32)), (.ref b1), (.ref b1)])) rfl rfl (hb hby at_21)
  have V2 : Arv Z h2 b1 k1 .int (6 : Int32) [(.int p3), (.int (0 : Int32)), (.int (0 : Int32)), (.int (0 : Int32)), (.int (0 : Int32)), (.int (0 : Int32))] (.int (0 : Int32)) := Arv.set Ar2 Cq2 Sz2 Mn2 Hs2 Gf2 rfl W2 0 rfl (Nat.le_of_ble_eq_true rfl)
  have N2 := Fr.snoc X2 N0 ge_b1
  have Z2 : n0 ≤ h2.size := Nat.le_trans Z1 (Keep.of_wr W2).1
  refine own_st st2 ?_
  show own_Fin _ _ _ _ _ _ _ (T2.setTop (mkF m 22 #[.val (.int p1), .val (.int p2), .val (.int p3), .val (.int ((p1 &&& (2147483647 : Int32)) % (257 : Int32))), .val (.int (p2 &&& (3 : Int32))), .unset, .unset, .unset, .unset, .unset, .unset] [(.ref b1)]))
  refine own_st (fun t k => XS.dup X2.here hx rfl (hb hby at_22) rfl rfl k) ?_
  show own_Fin _ _ _ _ _ _ _ (T2.setTop (mkF m 23 #[.val (.int p1), .val (.int p2), .val (.int p3), .val (.int ((p1 &&& (2147483647 : Int32)) % (257 : Int32))), .val (.int (p2 &&& (3 : Int32))), .unset, .unset, .unset, .unset, .unset, .unset] [(.ref b1), (.ref b1)]))
  refine own_st (fun t k => XS.iconst X2.here hx rfl (hb hby at_23) k) ?_
  show own_Fin _ _ _ _ _ _ _ (T2.setTop (mkF m 24 #[.val (.int p1), .val (.int p2), .val (.int p3), .val (.int ((p1 &&& (2147483647 : Int32)) % (257 : Int32))), .val (.int (p2 &&& (3 : Int32))), .unset, .unset, .unset, .unset, .unset, .unset] [(.int (1 : Int32)), (.ref b1), (.ref b1)]))
  refine own_st (fun t k => XS.iloadN X2.here hx rfl (hb hby at_24) rfl k) ?_
  show own_Fin _ _ _ _ _ _ _ (T2.setTop (mkF m 25 #[.val (.int p1), .val (.int p2), .val (.int p3), .val (.int ((p1 &&& (2147483647 : Int32)) % (257 : Int32))), .val (.int (p2 &&& (3 : Int32))), .unset, .unset, .unset, .unset, .unset, .unset] [(.int p3), (.int (1 : Int32)), (.ref b1), (.ref b1)]))
  obtain ⟨cl3, Ar3, Cq3, Sz3, Mn3, Hs3, Gf3⟩ := id V2
  obtain ⟨T3, h3, X3, e3, W3, st3⟩ := stI X2 hx hZ e2 Ar3 (j := (1 : Int32)) (inb_of Sz3 ⟨by decide, by decide⟩) (g := (mkF m 25 #[.val (.int p1), .val (.int p2), .val (.int p3), .val (.int ((p1 &&& (2147483647 : Int32)) % (257 : Int32))), .val (.int (p2 &&& (3 : Int32))), .unset, .unset, .unset, .unset, .unset, .unset] [(.int p3), (.int (1 : Int32)), (.ref b1), (.ref b1)])) rfl rfl (hb hby at_25)
  have V3 : Arv Z h3 b1 k1 .int (6 : Int32) [(.int p3), (.int p3), (.int (0 : Int32)), (.int (0 : Int32)), (.int (0 : Int32)), (.int (0 : Int32))] (.int (0 : Int32)) := Arv.set Ar3 Cq3 Sz3 Mn3 Hs3 Gf3 rfl W3 1 rfl (Nat.le_of_ble_eq_true rfl)
  have N3 := Fr.snoc X3 N2 ge_b1
  have Z3 : n0 ≤ h3.size := Nat.le_trans Z2 (Keep.of_wr W3).1
  refine own_st st3 ?_
  show own_Fin _ _ _ _ _ _ _ (T3.setTop (mkF m 26 #[.val (.int p1), .val (.int p2), .val (.int p3), .val (.int ((p1 &&& (2147483647 : Int32)) % (257 : Int32))), .val (.int (p2 &&& (3 : Int32))), .unset, .unset, .unset, .unset, .unset, .unset] [(.ref b1)]))
  refine own_st (fun t k => XS.dup X3.here hx rfl (hb hby at_26) rfl rfl k) ?_
  show own_Fin _ _ _ _ _ _ _ (T3.setTop (mkF m 27 #[.val (.int p1), .val (.int p2), .val (.int p3), .val (.int ((p1 &&& (2147483647 : Int32)) % (257 : Int32))), .val (.int (p2 &&& (3 : Int32))), .unset, .unset, .unset, .unset, .unset, .unset] [(.ref b1), (.ref b1)]))
  refine own_st (fun t k => XS.iconst X3.here hx rfl (hb hby at_27) k) ?_
  show own_Fin _ _ _ _ _ _ _ (T3.setTop (mkF m 28 #[.val (.int p1), .val (.int p2), .val (.int p3), .val (.int ((p1 &&& (2147483647 : Int32)) % (257 : Int32))), .val (.int (p2 &&& (3 : Int32))), .unset, .unset, .unset, .unset, .unset, .unset] [(.int (2 : Int32)), (.ref b1), (.ref b1)]))
  refine own_st (fun t k => XS.iloadN X3.here hx rfl (hb hby at_28) rfl k) ?_
  show own_Fin _ _ _ _ _ _ _ (T3.setTop (mkF m 29 #[.val (.int p1), .val (.int p2), .val (.int p3), .val (.int ((p1 &&& (2147483647 : Int32)) % (257 : Int32))), .val (.int (p2 &&& (3 : Int32))), .unset, .unset, .unset, .unset, .unset, .unset] [(.int p3), (.int (2 : Int32)), (.ref b1), (.ref b1)]))
  obtain ⟨cl4, Ar4, Cq4, Sz4, Mn4, Hs4, Gf4⟩ := id V3
  obtain ⟨T4, h4, X4, e4, W4, st4⟩ := stI X3 hx hZ e3 Ar4 (j := (2 : Int32)) (inb_of Sz4 ⟨by decide, by decide⟩) (g := (mkF m 29 #[.val (.int p1), .val (.int p2), .val (.int p3), .val (.int ((p1 &&& (2147483647 : Int32)) % (257 : Int32))), .val (.int (p2 &&& (3 : Int32))), .unset, .unset, .unset, .unset, .unset, .unset] [(.int p3), (.int (2 : Int32)), (.ref b1), (.ref b1)])) rfl rfl (hb hby at_29)
  have V4 : Arv Z h4 b1 k1 .int (6 : Int32) [(.int p3), (.int p3), (.int p3), (.int (0 : Int32)), (.int (0 : Int32)), (.int (0 : Int32))] (.int (0 : Int32)) := Arv.set Ar4 Cq4 Sz4 Mn4 Hs4 Gf4 rfl W4 2 rfl (Nat.le_of_ble_eq_true rfl)
  have N4 := Fr.snoc X4 N3 ge_b1
  have Z4 : n0 ≤ h4.size := Nat.le_trans Z3 (Keep.of_wr W4).1
  refine own_st st4 ?_
  show own_Fin _ _ _ _ _ _ _ (T4.setTop (mkF m 30 #[.val (.int p1), .val (.int p2), .val (.int p3), .val (.int ((p1 &&& (2147483647 : Int32)) % (257 : Int32))), .val (.int (p2 &&& (3 : Int32))), .unset, .unset, .unset, .unset, .unset, .unset] [(.ref b1)]))
  refine own_st (fun t k => XS.dup X4.here hx rfl (hb hby at_30) rfl rfl k) ?_
  show own_Fin _ _ _ _ _ _ _ (T4.setTop (mkF m 31 #[.val (.int p1), .val (.int p2), .val (.int p3), .val (.int ((p1 &&& (2147483647 : Int32)) % (257 : Int32))), .val (.int (p2 &&& (3 : Int32))), .unset, .unset, .unset, .unset, .unset, .unset] [(.ref b1), (.ref b1)]))
  refine own_st (fun t k => XS.iconst X4.here hx rfl (hb hby at_31) k) ?_
  show own_Fin _ _ _ _ _ _ _ (T4.setTop (mkF m 32 #[.val (.int p1), .val (.int p2), .val (.int p3), .val (.int ((p1 &&& (2147483647 : Int32)) % (257 : Int32))), .val (.int (p2 &&& (3 : Int32))), .unset, .unset, .unset, .unset, .unset, .unset] [(.int (3 : Int32)), (.ref b1), (.ref b1)]))
  refine own_st (fun t k => XS.iloadN X4.here hx rfl (hb hby at_32) rfl k) ?_
  show own_Fin _ _ _ _ _ _ _ (T4.setTop (mkF m 33 #[.val (.int p1), .val (.int p2), .val (.int p3), .val (.int ((p1 &&& (2147483647 : Int32)) % (257 : Int32))), .val (.int (p2 &&& (3 : Int32))), .unset, .unset, .unset, .unset, .unset, .unset] [(.int p3), (.int (3 : Int32)), (.ref b1), (.ref b1)]))
  obtain ⟨cl5, Ar5, Cq5, Sz5, Mn5, Hs5, Gf5⟩ := id V4
  obtain ⟨T5, h5, X5, e5, W5, st5⟩ := stI X4 hx hZ e4 Ar5 (j := (3 : Int32)) (inb_of Sz5 ⟨by decide, by decide⟩) (g := (mkF m 33 #[.val (.int p1), .val (.int p2), .val (.int p3), .val (.int ((p1 &&& (2147483647 : Int32)) % (257 : Int32))), .val (.int (p2 &&& (3 : Int32))), .unset, .unset, .unset, .unset, .unset, .unset] [(.int p3), (.int (3 : Int32)), (.ref b1), (.ref b1)])) rfl rfl (hb hby at_33)
  have V5 : Arv Z h5 b1 k1 .int (6 : Int32) [(.int p3), (.int p3), (.int p3), (.int p3), (.int (0 : Int32)), (.int (0 : Int32))] (.int (0 : Int32)) := Arv.set Ar5 Cq5 Sz5 Mn5 Hs5 Gf5 rfl W5 3 rfl (Nat.le_of_ble_eq_true rfl)
  have N5 := Fr.snoc X5 N4 ge_b1
  have Z5 : n0 ≤ h5.size := Nat.le_trans Z4 (Keep.of_wr W5).1
  refine own_st st5 ?_
  show own_Fin _ _ _ _ _ _ _ (T5.setTop (mkF m 34 #[.val (.int p1), .val (.int p2), .val (.int p3), .val (.int ((p1 &&& (2147483647 : Int32)) % (257 : Int32))), .val (.int (p2 &&& (3 : Int32))), .unset, .unset, .unset, .unset, .unset, .unset] [(.ref b1)]))
  refine own_st (fun t k => XS.dup X5.here hx rfl (hb hby at_34) rfl rfl k) ?_
  show own_Fin _ _ _ _ _ _ _ (T5.setTop (mkF m 35 #[.val (.int p1), .val (.int p2), .val (.int p3), .val (.int ((p1 &&& (2147483647 : Int32)) % (257 : Int32))), .val (.int (p2 &&& (3 : Int32))), .unset, .unset, .unset, .unset, .unset, .unset] [(.ref b1), (.ref b1)]))
  refine own_st (fun t k => XS.iconst X5.here hx rfl (hb hby at_35) k) ?_
  show own_Fin _ _ _ _ _ _ _ (T5.setTop (mkF m 36 #[.val (.int p1), .val (.int p2), .val (.int p3), .val (.int ((p1 &&& (2147483647 : Int32)) % (257 : Int32))), .val (.int (p2 &&& (3 : Int32))), .unset, .unset, .unset, .unset, .unset, .unset] [(.int (4 : Int32)), (.ref b1), (.ref b1)]))
  refine own_st (fun t k => XS.iloadN X5.here hx rfl (hb hby at_36) rfl k) ?_
  show own_Fin _ _ _ _ _ _ _ (T5.setTop (mkF m 37 #[.val (.int p1), .val (.int p2), .val (.int p3), .val (.int ((p1 &&& (2147483647 : Int32)) % (257 : Int32))), .val (.int (p2 &&& (3 : Int32))), .unset, .unset, .unset, .unset, .unset, .unset] [(.int p3), (.int (4 : Int32)), (.ref b1), (.ref b1)]))
  obtain ⟨cl6, Ar6, Cq6, Sz6, Mn6, Hs6, Gf6⟩ := id V5
  obtain ⟨T6, h6, X6, e6, W6, st6⟩ := stI X5 hx hZ e5 Ar6 (j := (4 : Int32)) (inb_of Sz6 ⟨by decide, by decide⟩) (g := (mkF m 37 #[.val (.int p1), .val (.int p2), .val (.int p3), .val (.int ((p1 &&& (2147483647 : Int32)) % (257 : Int32))), .val (.int (p2 &&& (3 : Int32))), .unset, .unset, .unset, .unset, .unset, .unset] [(.int p3), (.int (4 : Int32)), (.ref b1), (.ref b1)])) rfl rfl (hb hby at_37)
  have V6 : Arv Z h6 b1 k1 .int (6 : Int32) [(.int p3), (.int p3), (.int p3), (.int p3), (.int p3), (.int (0 : Int32))] (.int (0 : Int32)) := Arv.set Ar6 Cq6 Sz6 Mn6 Hs6 Gf6 rfl W6 4 rfl (Nat.le_of_ble_eq_true rfl)
  have N6 := Fr.snoc X6 N5 ge_b1
  have Z6 : n0 ≤ h6.size := Nat.le_trans Z5 (Keep.of_wr W6).1
  refine own_st st6 ?_
  show own_Fin _ _ _ _ _ _ _ (T6.setTop (mkF m 38 #[.val (.int p1), .val (.int p2), .val (.int p3), .val (.int ((p1 &&& (2147483647 : Int32)) % (257 : Int32))), .val (.int (p2 &&& (3 : Int32))), .unset, .unset, .unset, .unset, .unset, .unset] [(.ref b1)]))
  refine own_st (fun t k => XS.dup X6.here hx rfl (hb hby at_38) rfl rfl k) ?_
  show own_Fin _ _ _ _ _ _ _ (T6.setTop (mkF m 39 #[.val (.int p1), .val (.int p2), .val (.int p3), .val (.int ((p1 &&& (2147483647 : Int32)) % (257 : Int32))), .val (.int (p2 &&& (3 : Int32))), .unset, .unset, .unset, .unset, .unset, .unset] [(.ref b1), (.ref b1)]))
  refine own_st (fun t k => XS.iconst X6.here hx rfl (hb hby at_39) k) ?_
  show own_Fin _ _ _ _ _ _ _ (T6.setTop (mkF m 40 #[.val (.int p1), .val (.int p2), .val (.int p3), .val (.int ((p1 &&& (2147483647 : Int32)) % (257 : Int32))), .val (.int (p2 &&& (3 : Int32))), .unset, .unset, .unset, .unset, .unset, .unset] [(.int (5 : Int32)), (.ref b1), (.ref b1)]))
  refine own_st (fun t k => XS.iloadN X6.here hx rfl (hb hby at_40) rfl k) ?_
  show own_Fin _ _ _ _ _ _ _ (T6.setTop (mkF m 41 #[.val (.int p1), .val (.int p2), .val (.int p3), .val (.int ((p1 &&& (2147483647 : Int32)) % (257 : Int32))), .val (.int (p2 &&& (3 : Int32))), .unset, .unset, .unset, .unset, .unset, .unset] [(.int p3), (.int (5 : Int32)), (.ref b1), (.ref b1)]))
  obtain ⟨cl7, Ar7, Cq7, Sz7, Mn7, Hs7, Gf7⟩ := id V6
  obtain ⟨T7, h7, X7, e7, W7, st7⟩ := stI X6 hx hZ e6 Ar7 (j := (5 : Int32)) (inb_of Sz7 ⟨by decide, by decide⟩) (g := (mkF m 41 #[.val (.int p1), .val (.int p2), .val (.int p3), .val (.int ((p1 &&& (2147483647 : Int32)) % (257 : Int32))), .val (.int (p2 &&& (3 : Int32))), .unset, .unset, .unset, .unset, .unset, .unset] [(.int p3), (.int (5 : Int32)), (.ref b1), (.ref b1)])) rfl rfl (hb hby at_41)
  have V7 : Arv Z h7 b1 k1 .int (6 : Int32) [(.int p3), (.int p3), (.int p3), (.int p3), (.int p3), (.int p3)] (.int (0 : Int32)) := Arv.set Ar7 Cq7 Sz7 Mn7 Hs7 Gf7 rfl W7 5 rfl (Nat.le_of_ble_eq_true rfl)
  have N7 := Fr.snoc X7 N6 ge_b1
  have Z7 : n0 ≤ h7.size := Nat.le_trans Z6 (Keep.of_wr W7).1
  refine own_st st7 ?_
  show own_Fin _ _ _ _ _ _ _ (T7.setTop (mkF m 42 #[.val (.int p1), .val (.int p2), .val (.int p3), .val (.int ((p1 &&& (2147483647 : Int32)) % (257 : Int32))), .val (.int (p2 &&& (3 : Int32))), .unset, .unset, .unset, .unset, .unset, .unset] [(.ref b1)]))
  refine own_st (fun t k => XS.astore X7.here hx rfl (hb hby at_42) rfl rfl (l' := #[.val (.int p1), .val (.int p2), .val (.int p3), .val (.int ((p1 &&& (2147483647 : Int32)) % (257 : Int32))), .val (.int (p2 &&& (3 : Int32))), .val (.ref b1), .unset, .unset, .unset, .unset, .unset]) rfl k) ?_
  show own_Fin _ _ _ _ _ _ _ (T7.setTop (mkF m 44 #[.val (.int p1), .val (.int p2), .val (.int p3), .val (.int ((p1 &&& (2147483647 : Int32)) % (257 : Int32))), .val (.int (p2 &&& (3 : Int32))), .val (.ref b1), .unset, .unset, .unset, .unset, .unset] []))
  obtain ⟨ch, hch⟩ : ∃ z, z = ((p1 &&& (2147483647 : Int32)) % (257 : Int32)) := ⟨_, rfl⟩
  have hc0 := own_c p1
  rw [← hch] at hc0 ⊢
  rcases own_at p2 with hat | hat | hat | hat
  · rw [hat]
    by_cases hA : ch = (256 : Int32)
    · rw [hA]
      show own_Fin _ _ _ _ _ _ _ (T7.setTop (mkF m 44 #[.val (.int p1), .val (.int p2), .val (.int p3), .val (.int (256 : Int32)), .val (.int (0 : Int32)), .val (.ref b1), .unset, .unset, .unset, .unset, .unset] []))
      refine own_st (fun t k => XS.iloadN X7.here hx rfl (hb hby at_44) rfl k) ?_
      show own_Fin _ _ _ _ _ _ _ (T7.setTop (mkF m 45 #[.val (.int p1), .val (.int p2), .val (.int p3), .val (.int (256 : Int32)), .val (.int (0 : Int32)), .val (.ref b1), .unset, .unset, .unset, .unset, .unset] [(.int (256 : Int32))]))
      refine own_st (fun t k => XS.aload X7.here hx rfl (hb hby at_45) rfl rfl k) ?_
      show own_Fin _ _ _ _ _ _ _ (T7.setTop (mkF m 47 #[.val (.int p1), .val (.int p2), .val (.int p3), .val (.int (256 : Int32)), .val (.int (0 : Int32)), .val (.ref b1), .unset, .unset, .unset, .unset, .unset] [(.ref b1), (.int (256 : Int32))]))
      refine own_st (fun t k => XS.iload X7.here hx rfl (hb hby at_47) rfl k) ?_
      show own_Fin _ _ _ _ _ _ _ (T7.setTop (mkF m 49 #[.val (.int p1), .val (.int p2), .val (.int p3), .val (.int (256 : Int32)), .val (.int (0 : Int32)), .val (.ref b1), .unset, .unset, .unset, .unset, .unset] [(.int (0 : Int32)), (.ref b1), (.int (256 : Int32))]))
      obtain ⟨_, _, ⟨T8, L8, k8, n8⟩, -, X8, ⟨Lc8, hQ8, l8, y8, z8⟩, st8⟩ := Jvm.LawKit.callS X7 hx (y := (⟨"com/example/quietzone/quietzone/datamatrix/AsciiEncodation", "write", "(I[II)I"⟩ : MethodName)) hown (mvT hZ (hw _ (List.mem_of_getElem? (i := 2) rfl))) (mvT hZ (hw _ (List.mem_of_getElem? (i := 3) rfl))) (mvT hZ (hw _ (List.mem_of_getElem? (i := 4) rfl))) (mvT hZ (hw _ (List.mem_of_getElem? (i := 5) rfl))) (by decide) (backOf (W := 0) (rm1 l Z a0 hw [] (256 : Int32) b1 (0 : Int32) k1 (6 : Int32) [(.int p3), (.int p3), (.int p3), (.int p3), (.int p3), (.int p3)] h7 n0 Z7 V7 ge_b1 (by decide) (by decide) (by decide) (by decide) (Nat.le_of_ble_eq_true rfl) (Nat.le_of_ble_eq_true rfl)) hZ (hw _ (List.mem_of_getElem? (i := 5) rfl)) (hw _ (List.mem_of_getElem? (i := 4) rfl)) (by decide) (by decide)) (g := (mkF m 49 #[.val (.int p1), .val (.int p2), .val (.int p3), .val (.int (256 : Int32)), .val (.int (0 : Int32)), .val (.ref b1), .unset, .unset, .unset, .unset, .unset] [(.int (0 : Int32)), (.ref b1), (.int (256 : Int32))])) rfl (by rw [hml]; rfl) (argsL := [(.int (256 : Int32)), (.ref b1), (.int (0 : Int32))]) (rest := []) (lenOf pd_0_0 rfl) rfl (by show 2 * 0 + _ ≤ _; exact Nat.le_of_eq rfl) (hb hby at_49) (fun _ _ => ⟨rfl, e7, (by decide : 1 + 0 ≤ _), (by decide : 6 + 0 ≤ _)⟩)
      dsimp only [Pt.U, Pt.locs, Pt.cells, Pt.slots] at X8 l8 y8 z8 st8 hQ8
      subst l8 y8 z8
      obtain ⟨rfl, N8q, K8, o8⟩ := hQ8
      have N8 := Fr.app N7 N8q
      have Z8 : n0 ≤ T8.heap.size := Nat.le_trans Z7 K8.1
      refine own_st st8 ?_
      show own_Fin _ _ _ _ _ _ _ (T8.setTop (mkF m 52 #[.val (.int p1), .val (.int p2), .val (.int p3), .val (.int (256 : Int32)), .val (.int (0 : Int32)), .val (.ref b1), .unset, .unset, .unset, .unset, .unset] [(.int (own_wr (256 : Int32) (0 : Int32)))]))
      have Vx8 : Arv Z T8.heap b1 k1 .int (6 : Int32) [(.int (232 : Int32)), (.int p3), (.int p3), (.int p3), (.int p3), (.int p3)] (.int (0 : Int32)) := by have q := o8; unfold own_wv at q; rw [if_pos (rfl : (256 : Int32) = (256 : Int32))] at q; exact q
      have rx8 : (own_wr (256 : Int32) (0 : Int32)) = (1 : Int32) := by unfold own_wr; rw [if_pos (rfl : (256 : Int32) = (256 : Int32))]; rfl
      rw [rx8]
      show own_Fin _ _ _ _ _ _ _ (T8.setTop (mkF m 52 #[.val (.int p1), .val (.int p2), .val (.int p3), .val (.int (256 : Int32)), .val (.int (0 : Int32)), .val (.ref b1), .unset, .unset, .unset, .unset, .unset] [(.int (1 : Int32))]))
      refine own_st (fun t k => XS.istore X8.here hx rfl (hb hby at_52) rfl (l' := #[.val (.int p1), .val (.int p2), .val (.int p3), .val (.int (256 : Int32)), .val (.int (0 : Int32)), .val (.ref b1), .val (.int (1 : Int32)), .unset, .unset, .unset, .unset]) rfl k) ?_
      show own_Fin _ _ _ _ _ _ _ (T8.setTop (mkF m 54 #[.val (.int p1), .val (.int p2), .val (.int p3), .val (.int (256 : Int32)), .val (.int (0 : Int32)), .val (.ref b1), .val (.int (1 : Int32)), .unset, .unset, .unset, .unset] []))
      refine own_st (fun t k => XS.iload X8.here hx rfl (hb hby at_54) rfl k) ?_
      show own_Fin _ _ _ _ _ _ _ (T8.setTop (mkF m 56 #[.val (.int p1), .val (.int p2), .val (.int p3), .val (.int (256 : Int32)), .val (.int (0 : Int32)), .val (.ref b1), .val (.int (1 : Int32)), .unset, .unset, .unset, .unset] [(.int (1 : Int32))]))
      refine own_st (fun t k => XS.iload X8.here hx rfl (hb hby at_56) rfl k) ?_
      show own_Fin _ _ _ _ _ _ _ (T8.setTop (mkF m 58 #[.val (.int p1), .val (.int p2), .val (.int p3), .val (.int (256 : Int32)), .val (.int (0 : Int32)), .val (.ref b1), .val (.int (1 : Int32)), .unset, .unset, .unset, .unset] [(.int (0 : Int32)), (.int (1 : Int32))]))
      refine own_st (fun t k => XS.isub X8.here hx rfl (hb hby at_58) rfl k) ?_
      show own_Fin _ _ _ _ _ _ _ (T8.setTop (mkF m 59 #[.val (.int p1), .val (.int p2), .val (.int p3), .val (.int (256 : Int32)), .val (.int (0 : Int32)), .val (.ref b1), .val (.int (1 : Int32)), .unset, .unset, .unset, .unset] [(.int (1 : Int32))]))
      refine own_st (fun t k => XS.istore X8.here hx rfl (hb hby at_59) rfl (l' := #[.val (.int p1), .val (.int p2), .val (.int p3), .val (.int (256 : Int32)), .val (.int (0 : Int32)), .val (.ref b1), .val (.int (1 : Int32)), .val (.int (1 : Int32)), .unset, .unset, .unset]) rfl k) ?_
      show own_Fin _ _ _ _ _ _ _ (T8.setTop (mkF m 61 #[.val (.int p1), .val (.int p2), .val (.int p3), .val (.int (256 : Int32)), .val (.int (0 : Int32)), .val (.ref b1), .val (.int (1 : Int32)), .val (.int (1 : Int32)), .unset, .unset, .unset] []))
      refine own_st (fun t k => XS.iload X8.here hx rfl (hb hby at_61) rfl k) ?_
      show own_Fin _ _ _ _ _ _ _ (T8.setTop (mkF m 63 #[.val (.int p1), .val (.int p2), .val (.int p3), .val (.int (256 : Int32)), .val (.int (0 : Int32)), .val (.ref b1), .val (.int (1 : Int32)), .val (.int (1 : Int32)), .unset, .unset, .unset] [(.int (1 : Int32))]))
      refine own_st (fun t k => XS.iconst X8.here hx rfl (hb hby at_63) k) ?_
      show own_Fin _ _ _ _ _ _ _ (T8.setTop (mkF m 64 #[.val (.int p1), .val (.int p2), .val (.int p3), .val (.int (256 : Int32)), .val (.int (0 : Int32)), .val (.ref b1), .val (.int (1 : Int32)), .val (.int (1 : Int32)), .unset, .unset, .unset] [(.int (1 : Int32)), (.int (1 : Int32))]))
      refine own_st (fun t k => XS.icmpNo X8.here hx rfl (hb hby at_64) rfl (flt (by decide : ¬ ((1 : Int32) < (1 : Int32)))).1 k) ?_
      show own_Fin _ _ _ _ _ _ _ (T8.setTop (mkF m 67 #[.val (.int p1), .val (.int p2), .val (.int p3), .val (.int (256 : Int32)), .val (.int (0 : Int32)), .val (.ref b1), .val (.int (1 : Int32)), .val (.int (1 : Int32)), .unset, .unset, .unset] []))
      refine own_st (fun t k => XS.iload X8.here hx rfl (hb hby at_67) rfl k) ?_
      show own_Fin _ _ _ _ _ _ _ (T8.setTop (mkF m 69 #[.val (.int p1), .val (.int p2), .val (.int p3), .val (.int (256 : Int32)), .val (.int (0 : Int32)), .val (.ref b1), .val (.int (1 : Int32)), .val (.int (1 : Int32)), .unset, .unset, .unset] [(.int (1 : Int32))]))
      refine own_st (fun t k => XS.iconst X8.here hx rfl (hb hby at_69) k) ?_
      show own_Fin _ _ _ _ _ _ _ (T8.setTop (mkF m 70 #[.val (.int p1), .val (.int p2), .val (.int p3), .val (.int (256 : Int32)), .val (.int (0 : Int32)), .val (.ref b1), .val (.int (1 : Int32)), .val (.int (1 : Int32)), .unset, .unset, .unset] [(.int (2 : Int32)), (.int (1 : Int32))]))
      refine own_st (fun t k => XS.icmpYes X8.here hx rfl (pc0 := 70) (pc' := 75) rfl (hb hby at_70) rfl (flt (by decide : ¬ ((2 : Int32) < (1 : Int32)))).2.2.2 (by decide) (by decide) k) ?_
      show own_Fin _ _ _ _ _ _ _ (T8.setTop (mkF m 75 #[.val (.int p1), .val (.int p2), .val (.int p3), .val (.int (256 : Int32)), .val (.int (0 : Int32)), .val (.ref b1), .val (.int (1 : Int32)), .val (.int (1 : Int32)), .unset, .unset, .unset] []))
      refine own_st (fun t k => XS.aload X8.here hx rfl (hb hby at_75) rfl rfl k) ?_
      show own_Fin _ _ _ _ _ _ _ (T8.setTop (mkF m 77 #[.val (.int p1), .val (.int p2), .val (.int p3), .val (.int (256 : Int32)), .val (.int (0 : Int32)), .val (.ref b1), .val (.int (1 : Int32)), .val (.int (1 : Int32)), .unset, .unset, .unset] [(.ref b1)]))
      refine own_st (fun t k => XS.iload X8.here hx rfl (hb hby at_77) rfl k) ?_
      show own_Fin _ _ _ _ _ _ _ (T8.setTop (mkF m 79 #[.val (.int p1), .val (.int p2), .val (.int p3), .val (.int (256 : Int32)), .val (.int (0 : Int32)), .val (.ref b1), .val (.int (1 : Int32)), .val (.int (1 : Int32)), .unset, .unset, .unset] [(.int (0 : Int32)), (.ref b1)]))
      obtain ⟨cl9, Ar9, Cq9, Sz9, Mn9, Hs9, Gf9⟩ := id Vx8
      have hin9 := inb_of Sz9 (j := (0 : Int32)) ⟨by decide, by decide⟩
      refine own_st (X8.iaload hx (j := (0 : Int32)) (v := (.int (232 : Int32))) Ar9.1 (State.isArrayOf_alike hZ.alike Ar9.2.1) Ar9.2.2 hin9 (Hs9.at hin9 rfl) (g := (mkF m 79 #[.val (.int p1), .val (.int p2), .val (.int p3), .val (.int (256 : Int32)), .val (.int (0 : Int32)), .val (.ref b1), .val (.int (1 : Int32)), .val (.int (1 : Int32)), .unset, .unset, .unset] [(.int (0 : Int32)), (.ref b1)])) rfl rfl (hb hby at_79)) ?_
      show own_Fin _ _ _ _ _ _ _ (T8.setTop (mkF m 80 #[.val (.int p1), .val (.int p2), .val (.int p3), .val (.int (256 : Int32)), .val (.int (0 : Int32)), .val (.ref b1), .val (.int (1 : Int32)), .val (.int (1 : Int32)), .unset, .unset, .unset] [(.int (232 : Int32))]))
      refine own_st (fun t k => XS.istore X8.here hx rfl (hb hby at_80) rfl (l' := #[.val (.int p1), .val (.int p2), .val (.int p3), .val (.int (256 : Int32)), .val (.int (0 : Int32)), .val (.ref b1), .val (.int (1 : Int32)), .val (.int (1 : Int32)), .val (.int (232 : Int32)), .unset, .unset]) rfl k) ?_
      show own_Fin _ _ _ _ _ _ _ (T8.setTop (mkF m 82 #[.val (.int p1), .val (.int p2), .val (.int p3), .val (.int (256 : Int32)), .val (.int (0 : Int32)), .val (.ref b1), .val (.int (1 : Int32)), .val (.int (1 : Int32)), .val (.int (232 : Int32)), .unset, .unset] []))
      refine own_st (fun t k => XS.iload X8.here hx rfl (hb hby at_82) rfl k) ?_
      show own_Fin _ _ _ _ _ _ _ (T8.setTop (mkF m 84 #[.val (.int p1), .val (.int p2), .val (.int p3), .val (.int (256 : Int32)), .val (.int (0 : Int32)), .val (.ref b1), .val (.int (1 : Int32)), .val (.int (1 : Int32)), .val (.int (232 : Int32)), .unset, .unset] [(.int (232 : Int32))]))
      refine own_st (fun t k => XS.iconst X8.here hx rfl (hb hby at_84) k) ?_
      show own_Fin _ _ _ _ _ _ _ (T8.setTop (mkF m 85 #[.val (.int p1), .val (.int p2), .val (.int p3), .val (.int (256 : Int32)), .val (.int (0 : Int32)), .val (.ref b1), .val (.int (1 : Int32)), .val (.int (1 : Int32)), .val (.int (232 : Int32)), .unset, .unset] [(.int (1 : Int32)), (.int (232 : Int32))]))
      refine own_st (fun t k => XS.icmpNo X8.here hx rfl (hb hby at_85) rfl (flt (by decide : ¬ ((232 : Int32) < (1 : Int32)))).1 k) ?_
      show own_Fin _ _ _ _ _ _ _ (T8.setTop (mkF m 88 #[.val (.int p1), .val (.int p2), .val (.int p3), .val (.int (256 : Int32)), .val (.int (0 : Int32)), .val (.ref b1), .val (.int (1 : Int32)), .val (.int (1 : Int32)), .val (.int (232 : Int32)), .unset, .unset] []))
      refine own_st (fun t k => XS.iload X8.here hx rfl (hb hby at_88) rfl k) ?_
      show own_Fin _ _ _ _ _ _ _ (T8.setTop (mkF m 90 #[.val (.int p1), .val (.int p2), .val (.int p3), .val (.int (256 : Int32)), .val (.int (0 : Int32)), .val (.ref b1), .val (.int (1 : Int32)), .val (.int (1 : Int32)), .val (.int (232 : Int32)), .unset, .unset] [(.int (232 : Int32))]))
      refine own_st (fun t k => XS.sipush X8.here hx rfl (hb hby at_90) k) ?_
      show own_Fin _ _ _ _ _ _ _ (T8.setTop (mkF m 93 #[.val (.int p1), .val (.int p2), .val (.int p3), .val (.int (256 : Int32)), .val (.int (0 : Int32)), .val (.ref b1), .val (.int (1 : Int32)), .val (.int (1 : Int32)), .val (.int (232 : Int32)), .unset, .unset] [(.int (128 : Int32)), (.int (232 : Int32))]))
      refine own_st (fun t k => XS.icmpYes X8.here hx rfl (pc0 := 93) (pc' := 113) rfl (hb hby at_93) rfl (tlt (by decide : (128 : Int32) < (232 : Int32))).2.2.1 (by decide) (by decide) k) ?_
      show own_Fin _ _ _ _ _ _ _ (T8.setTop (mkF m 113 #[.val (.int p1), .val (.int p2), .val (.int p3), .val (.int (256 : Int32)), .val (.int (0 : Int32)), .val (.ref b1), .val (.int (1 : Int32)), .val (.int (1 : Int32)), .val (.int (232 : Int32)), .unset, .unset] []))
      refine own_st (fun t k => XS.iload X8.here hx rfl (hb hby at_113) rfl k) ?_
      show own_Fin _ _ _ _ _ _ _ (T8.setTop (mkF m 115 #[.val (.int p1), .val (.int p2), .val (.int p3), .val (.int (256 : Int32)), .val (.int (0 : Int32)), .val (.ref b1), .val (.int (1 : Int32)), .val (.int (1 : Int32)), .val (.int (232 : Int32)), .unset, .unset] [(.int (232 : Int32))]))
      refine own_st (fun t k => XS.sipush X8.here hx rfl (hb hby at_115) k) ?_
      show own_Fin _ _ _ _ _ _ _ (T8.setTop (mkF m 118 #[.val (.int p1), .val (.int p2), .val (.int p3), .val (.int (256 : Int32)), .val (.int (0 : Int32)), .val (.ref b1), .val (.int (1 : Int32)), .val (.int (1 : Int32)), .val (.int (232 : Int32)), .unset, .unset] [(.int (232 : Int32)), (.int (232 : Int32))]))
      refine own_st (fun t k => XS.icmpNo X8.here hx rfl (hb hby at_118) rfl (teq (by decide : (232 : Int32) = (232 : Int32))).2 k) ?_
      show own_Fin _ _ _ _ _ _ _ (T8.setTop (mkF m 121 #[.val (.int p1), .val (.int p2), .val (.int p3), .val (.int (256 : Int32)), .val (.int (0 : Int32)), .val (.ref b1), .val (.int (1 : Int32)), .val (.int (1 : Int32)), .val (.int (232 : Int32)), .unset, .unset] []))
      refine own_st (fun t k => XS.iload X8.here hx rfl (hb hby at_121) rfl k) ?_
      show own_Fin _ _ _ _ _ _ _ (T8.setTop (mkF m 123 #[.val (.int p1), .val (.int p2), .val (.int p3), .val (.int (256 : Int32)), .val (.int (0 : Int32)), .val (.ref b1), .val (.int (1 : Int32)), .val (.int (1 : Int32)), .val (.int (232 : Int32)), .unset, .unset] [(.int (1 : Int32))]))
      refine own_st (fun t k => XS.iconst X8.here hx rfl (hb hby at_123) k) ?_
      show own_Fin _ _ _ _ _ _ _ (T8.setTop (mkF m 124 #[.val (.int p1), .val (.int p2), .val (.int p3), .val (.int (256 : Int32)), .val (.int (0 : Int32)), .val (.ref b1), .val (.int (1 : Int32)), .val (.int (1 : Int32)), .val (.int (232 : Int32)), .unset, .unset] [(.int (1 : Int32)), (.int (1 : Int32))]))
      refine own_st (fun t k => XS.icmpYes X8.here hx rfl (pc0 := 124) (pc' := 129) rfl (hb hby at_124) rfl (teq (by decide : (1 : Int32) = (1 : Int32))).1 (by decide) (by decide) k) ?_
      show own_Fin _ _ _ _ _ _ _ (T8.setTop (mkF m 129 #[.val (.int p1), .val (.int p2), .val (.int p3), .val (.int (256 : Int32)), .val (.int (0 : Int32)), .val (.ref b1), .val (.int (1 : Int32)), .val (.int (1 : Int32)), .val (.int (232 : Int32)), .unset, .unset] []))
      refine own_st (fun t k => XS.sipush X8.here hx rfl (hb hby at_129) k) ?_
      show own_Fin _ _ _ _ _ _ _ (T8.setTop (mkF m 132 #[.val (.int p1), .val (.int p2), .val (.int p3), .val (.int (256 : Int32)), .val (.int (0 : Int32)), .val (.ref b1), .val (.int (1 : Int32)), .val (.int (1 : Int32)), .val (.int (232 : Int32)), .unset, .unset] [(.int (256 : Int32))]))
      refine own_st (fun t k => XS.istore X8.here hx rfl (hb hby at_132) rfl (l' := #[.val (.int p1), .val (.int p2), .val (.int p3), .val (.int (256 : Int32)), .val (.int (0 : Int32)), .val (.ref b1), .val (.int (1 : Int32)), .val (.int (1 : Int32)), .val (.int (232 : Int32)), .val (.int (256 : Int32)), .unset]) rfl k) ?_
      show own_Fin _ _ _ _ _ _ _ (T8.setTop (mkF m 134 #[.val (.int p1), .val (.int p2), .val (.int p3), .val (.int (256 : Int32)), .val (.int (0 : Int32)), .val (.ref b1), .val (.int (1 : Int32)), .val (.int (1 : Int32)), .val (.int (232 : Int32)), .val (.int (256 : Int32)), .unset] []))
      refine own_st (fun t k => XS.goto X8.here hx rfl (pc0 := 134) (pc' := 193) rfl (hb hby at_134) (by decide) (by decide) k) ?_
      show own_Fin _ _ _ _ _ _ _ (T8.setTop (mkF m 193 #[.val (.int p1), .val (.int p2), .val (.int p3), .val (.int (256 : Int32)), .val (.int (0 : Int32)), .val (.ref b1), .val (.int (1 : Int32)), .val (.int (1 : Int32)), .val (.int (232 : Int32)), .val (.int (256 : Int32)), .unset] []))
      refine own_st (fun t k => XS.iload X8.here hx rfl (hb hby at_193) rfl k) ?_
      show own_Fin _ _ _ _ _ _ _ (T8.setTop (mkF m 195 #[.val (.int p1), .val (.int p2), .val (.int p3), .val (.int (256 : Int32)), .val (.int (0 : Int32)), .val (.ref b1), .val (.int (1 : Int32)), .val (.int (1 : Int32)), .val (.int (232 : Int32)), .val (.int (256 : Int32)), .unset] [(.int (256 : Int32))]))
      refine own_st (fun t k => XS.iloadN X8.here hx rfl (hb hby at_195) rfl k) ?_
      show own_Fin _ _ _ _ _ _ _ (T8.setTop (mkF m 196 #[.val (.int p1), .val (.int p2), .val (.int p3), .val (.int (256 : Int32)), .val (.int (0 : Int32)), .val (.ref b1), .val (.int (1 : Int32)), .val (.int (1 : Int32)), .val (.int (232 : Int32)), .val (.int (256 : Int32)), .unset] [(.int (256 : Int32)), (.int (256 : Int32))]))
      refine own_st (fun t k => XS.icmpNo X8.here hx rfl (hb hby at_196) rfl (teq (by decide : (256 : Int32) = (256 : Int32))).2 k) ?_
      show own_Fin _ _ _ _ _ _ _ (T8.setTop (mkF m 199 #[.val (.int p1), .val (.int p2), .val (.int p3), .val (.int (256 : Int32)), .val (.int (0 : Int32)), .val (.ref b1), .val (.int (1 : Int32)), .val (.int (1 : Int32)), .val (.int (232 : Int32)), .val (.int (256 : Int32)), .unset] []))
      refine own_st (fun t k => XS.aload X8.here hx rfl (hb hby at_199) rfl rfl k) ?_
      show own_Fin _ _ _ _ _ _ _ (T8.setTop (mkF m 201 #[.val (.int p1), .val (.int p2), .val (.int p3), .val (.int (256 : Int32)), .val (.int (0 : Int32)), .val (.ref b1), .val (.int (1 : Int32)), .val (.int (1 : Int32)), .val (.int (232 : Int32)), .val (.int (256 : Int32)), .unset] [(.ref b1)]))
      refine own_st (fun t k => XS.iconst X8.here hx rfl (hb hby at_201) k) ?_
      show own_Fin _ _ _ _ _ _ _ (T8.setTop (mkF m 202 #[.val (.int p1), .val (.int p2), .val (.int p3), .val (.int (256 : Int32)), .val (.int (0 : Int32)), .val (.ref b1), .val (.int (1 : Int32)), .val (.int (1 : Int32)), .val (.int (232 : Int32)), .val (.int (256 : Int32)), .unset] [(.int (0 : Int32)), (.ref b1)]))
      refine own_st (fun t k => XS.iload X8.here hx rfl (hb hby at_202) rfl k) ?_
      show own_Fin _ _ _ _ _ _ _ (T8.setTop (mkF m 204 #[.val (.int p1), .val (.int p2), .val (.int p3), .val (.int (256 : Int32)), .val (.int (0 : Int32)), .val (.ref b1), .val (.int (1 : Int32)), .val (.int (1 : Int32)), .val (.int (232 : Int32)), .val (.int (256 : Int32)), .unset] [(.int (0 : Int32)), (.int (0 : Int32)), (.ref b1)]))
      refine own_st (fun t k => XS.iload X8.here hx rfl (hb hby at_204) rfl k) ?_
      show own_Fin _ _ _ _ _ _ _ (T8.setTop (mkF m 206 #[.val (.int p1), .val (.int p2), .val (.int p3), .val (.int (256 : Int32)), .val (.int (0 : Int32)), .val (.ref b1), .val (.int (1 : Int32)), .val (.int (1 : Int32)), .val (.int (232 : Int32)), .val (.int (256 : Int32)), .unset] [(.int (1 : Int32)), (.int (0 : Int32)), (.int (0 : Int32)), (.ref b1)]))
      refine own_st (fun t k => XS.iloadN X8.here hx rfl (hb hby at_206) rfl k) ?_
      show own_Fin _ _ _ _ _ _ _ (T8.setTop (mkF m 207 #[.val (.int p1), .val (.int p2), .val (.int p3), .val (.int (256 : Int32)), .val (.int (0 : Int32)), .val (.ref b1), .val (.int (1 : Int32)), .val (.int (1 : Int32)), .val (.int (232 : Int32)), .val (.int (256 : Int32)), .unset] [(.int p3), (.int (1 : Int32)), (.int (0 : Int32)), (.int (0 : Int32)), (.ref b1)]))
      obtain ⟨_, _, ⟨T10, L10, k10, n10⟩, -, X10, ⟨Lc10, hQ10, l10, y10, z10⟩, st10⟩ := Jvm.LawKit.callS X8 hx (y := (⟨"com/example/quietzone/quietzone/datamatrix/AsciiEncodationWritePinLaw", "untouched", "([IIIII)Z"⟩ : MethodName)) hown (mvT hZ (hw _ (List.mem_of_getElem? (i := 6) rfl))) (mvT hZ (hw _ (List.mem_of_getElem? (i := 7) rfl))) (mvT hZ (hw _ (List.mem_of_getElem? (i := 8) rfl))) (mvT hZ (hw _ (List.mem_of_getElem? (i := 9) rfl))) (by decide) (backOf (W := 0) (rm2 l Z a0 hw [] b1 (0 : Int32) (0 : Int32) (1 : Int32) p3 k1 (6 : Int32) [(.int (232 : Int32)), (.int p3), (.int p3), (.int p3), (.int p3), (.int p3)] (232 : Int32) T8.heap n0 Z8 Vx8 (by decide) (by decide) rfl) hZ (hw _ (List.mem_of_getElem? (i := 9) rfl)) (hw _ (List.mem_of_getElem? (i := 8) rfl)) (by decide) (by decide)) (g := (mkF m 207 #[.val (.int p1), .val (.int p2), .val (.int p3), .val (.int (256 : Int32)), .val (.int (0 : Int32)), .val (.ref b1), .val (.int (1 : Int32)), .val (.int (1 : Int32)), .val (.int (232 : Int32)), .val (.int (256 : Int32)), .unset] [(.int p3), (.int (1 : Int32)), (.int (0 : Int32)), (.int (0 : Int32)), (.ref b1)])) rfl (by rw [hml]; rfl) (argsL := [(.ref b1), (.int (0 : Int32)), (.int (0 : Int32)), (.int (1 : Int32)), (.int p3)]) (rest := []) (lenOf pd_0_1 rfl) rfl (by show 2 * 0 + _ ≤ _; exact Nat.le_of_eq rfl) (hb hby at_207) (fun _ _ => ⟨rfl, rfl, (by decide : 1 + 0 ≤ _), (by decide : 6 + 0 ≤ _)⟩)
      dsimp only [Pt.U, Pt.locs, Pt.cells, Pt.slots] at X10 l10 y10 z10 st10 hQ10
      subst l10 y10 z10
      obtain ⟨rfl, N10q, e10⟩ := hQ10
      have N10 := Fr.app N8 N10q
      refine own_st st10 ?_
      show own_Fin _ _ _ _ _ _ _ (T10.setTop (mkF m 210 #[.val (.int p1), .val (.int p2), .val (.int p3), .val (.int (256 : Int32)), .val (.int (0 : Int32)), .val (.ref b1), .val (.int (1 : Int32)), .val (.int (1 : Int32)), .val (.int (232 : Int32)), .val (.int (256 : Int32)), .unset] [(.int (own_un (0 : Int32) (0 : Int32) (1 : Int32) p3 (232 : Int32)))]))
      have hd210_11 : ¬ ((own_un (0 : Int32) (0 : Int32) (1 : Int32) p3 (232 : Int32)) = (0 : Int32)) := by unfold own_un; simp
      refine own_st (fun t k => XS.ifNo X10.here hx rfl (hb hby at_210) rfl ((if0 _ _).trans (feq hd210_11).1) k) ?_
      show own_Fin _ _ _ _ _ _ _ (T10.setTop (mkF m 213 #[.val (.int p1), .val (.int p2), .val (.int p3), .val (.int (256 : Int32)), .val (.int (0 : Int32)), .val (.ref b1), .val (.int (1 : Int32)), .val (.int (1 : Int32)), .val (.int (232 : Int32)), .val (.int (256 : Int32)), .unset] []))
      refine own_st (fun t k => XS.aload X10.here hx rfl (hb hby at_213) rfl rfl k) ?_
      show own_Fin _ _ _ _ _ _ _ (T10.setTop (mkF m 215 #[.val (.int p1), .val (.int p2), .val (.int p3), .val (.int (256 : Int32)), .val (.int (0 : Int32)), .val (.ref b1), .val (.int (1 : Int32)), .val (.int (1 : Int32)), .val (.int (232 : Int32)), .val (.int (256 : Int32)), .unset] [(.ref b1)]))
      refine own_st (fun t k => XS.iconst X10.here hx rfl (hb hby at_215) k) ?_
      show own_Fin _ _ _ _ _ _ _ (T10.setTop (mkF m 216 #[.val (.int p1), .val (.int p2), .val (.int p3), .val (.int (256 : Int32)), .val (.int (0 : Int32)), .val (.ref b1), .val (.int (1 : Int32)), .val (.int (1 : Int32)), .val (.int (232 : Int32)), .val (.int (256 : Int32)), .unset] [(.int (1 : Int32)), (.ref b1)]))
      refine own_st (fun t k => XS.iload X10.here hx rfl (hb hby at_216) rfl k) ?_
      show own_Fin _ _ _ _ _ _ _ (T10.setTop (mkF m 218 #[.val (.int p1), .val (.int p2), .val (.int p3), .val (.int (256 : Int32)), .val (.int (0 : Int32)), .val (.ref b1), .val (.int (1 : Int32)), .val (.int (1 : Int32)), .val (.int (232 : Int32)), .val (.int (256 : Int32)), .unset] [(.int (0 : Int32)), (.int (1 : Int32)), (.ref b1)]))
      refine own_st (fun t k => XS.iload X10.here hx rfl (hb hby at_218) rfl k) ?_
      show own_Fin _ _ _ _ _ _ _ (T10.setTop (mkF m 220 #[.val (.int p1), .val (.int p2), .val (.int p3), .val (.int (256 : Int32)), .val (.int (0 : Int32)), .val (.ref b1), .val (.int (1 : Int32)), .val (.int (1 : Int32)), .val (.int (232 : Int32)), .val (.int (256 : Int32)), .unset] [(.int (1 : Int32)), (.int (0 : Int32)), (.int (1 : Int32)), (.ref b1)]))
      refine own_st (fun t k => XS.iloadN X10.here hx rfl (hb hby at_220) rfl k) ?_
      show own_Fin _ _ _ _ _ _ _ (T10.setTop (mkF m 221 #[.val (.int p1), .val (.int p2), .val (.int p3), .val (.int (256 : Int32)), .val (.int (0 : Int32)), .val (.ref b1), .val (.int (1 : Int32)), .val (.int (1 : Int32)), .val (.int (232 : Int32)), .val (.int (256 : Int32)), .unset] [(.int p3), (.int (1 : Int32)), (.int (0 : Int32)), (.int (1 : Int32)), (.ref b1)]))
      obtain ⟨_, _, ⟨T12, L12, k12, n12⟩, -, X12, ⟨Lc12, hQ12, l12, y12, z12⟩, st12⟩ := Jvm.LawKit.callS X10 hx (y := (⟨"com/example/quietzone/quietzone/datamatrix/AsciiEncodationWritePinLaw", "untouched", "([IIIII)Z"⟩ : MethodName)) hown (mvT hZ (hw _ (List.mem_of_getElem? (i := 6) rfl))) (mvT hZ (hw _ (List.mem_of_getElem? (i := 7) rfl))) (mvT hZ (hw _ (List.mem_of_getElem? (i := 8) rfl))) (mvT hZ (hw _ (List.mem_of_getElem? (i := 9) rfl))) (by decide) (backOf (W := 0) (rm2 l Z a0 hw [] b1 (1 : Int32) (0 : Int32) (1 : Int32) p3 k1 (6 : Int32) [(.int (232 : Int32)), (.int p3), (.int p3), (.int p3), (.int p3), (.int p3)] p3 T8.heap n0 Z8 Vx8 (by decide) (by decide) rfl) hZ (hw _ (List.mem_of_getElem? (i := 9) rfl)) (hw _ (List.mem_of_getElem? (i := 8) rfl)) (by decide) (by decide)) (g := (mkF m 221 #[.val (.int p1), .val (.int p2), .val (.int p3), .val (.int (256 : Int32)), .val (.int (0 : Int32)), .val (.ref b1), .val (.int (1 : Int32)), .val (.int (1 : Int32)), .val (.int (232 : Int32)), .val (.int (256 : Int32)), .unset] [(.int p3), (.int (1 : Int32)), (.int (0 : Int32)), (.int (1 : Int32)), (.ref b1)])) rfl (by rw [hml]; rfl) (argsL := [(.ref b1), (.int (1 : Int32)), (.int (0 : Int32)), (.int (1 : Int32)), (.int p3)]) (rest := []) (lenOf pd_0_1 rfl) rfl (by show 2 * 0 + _ ≤ _; exact Nat.le_of_eq rfl) (hb hby at_221) (fun _ _ => ⟨rfl, e10, (by decide : 1 + 0 ≤ _), (by decide : 6 + 0 ≤ _)⟩)
      dsimp only [Pt.U, Pt.locs, Pt.cells, Pt.slots] at X12 l12 y12 z12 st12 hQ12
      subst l12 y12 z12
      obtain ⟨rfl, N12q, e12⟩ := hQ12
      have N12 := Fr.app N10 N12q
      refine own_st st12 ?_
      show own_Fin _ _ _ _ _ _ _ (T12.setTop (mkF m 224 #[.val (.int p1), .val (.int p2), .val (.int p3), .val (.int (256 : Int32)), .val (.int (0 : Int32)), .val (.ref b1), .val (.int (1 : Int32)), .val (.int (1 : Int32)), .val (.int (232 : Int32)), .val (.int (256 : Int32)), .unset] [(.int (own_un (1 : Int32) (0 : Int32) (1 : Int32) p3 p3))]))
      have hd224_13 : ¬ ((own_un (1 : Int32) (0 : Int32) (1 : Int32) p3 p3) = (0 : Int32)) := by unfold own_un; simp
      refine own_st (fun t k => XS.ifNo X12.here hx rfl (hb hby at_224) rfl ((if0 _ _).trans (feq hd224_13).1) k) ?_
      show own_Fin _ _ _ _ _ _ _ (T12.setTop (mkF m 227 #[.val (.int p1), .val (.int p2), .val (.int p3), .val (.int (256 : Int32)), .val (.int (0 : Int32)), .val (.ref b1), .val (.int (1 : Int32)), .val (.int (1 : Int32)), .val (.int (232 : Int32)), .val (.int (256 : Int32)), .unset] []))
      refine own_st (fun t k => XS.aload X12.here hx rfl (hb hby at_227) rfl rfl k) ?_
      show own_Fin _ _ _ _ _ _ _ (T12.setTop (mkF m 229 #[.val (.int p1), .val (.int p2), .val (.int p3), .val (.int (256 : Int32)), .val (.int (0 : Int32)), .val (.ref b1), .val (.int (1 : Int32)), .val (.int (1 : Int32)), .val (.int (232 : Int32)), .val (.int (256 : Int32)), .unset] [(.ref b1)]))
      refine own_st (fun t k => XS.iconst X12.here hx rfl (hb hby at_229) k) ?_
      show own_Fin _ _ _ _ _ _ _ (T12.setTop (mkF m 230 #[.val (.int p1), .val (.int p2), .val (.int p3), .val (.int (256 : Int32)), .val (.int (0 : Int32)), .val (.ref b1), .val (.int (1 : Int32)), .val (.int (1 : Int32)), .val (.int (232 : Int32)), .val (.int (256 : Int32)), .unset] [(.int (2 : Int32)), (.ref b1)]))
      refine own_st (fun t k => XS.iload X12.here hx rfl (hb hby at_230) rfl k) ?_
      show own_Fin _ _ _ _ _ _ _ (T12.setTop (mkF m 232 #[.val (.int p1), .val (.int p2), .val (.int p3), .val (.int (256 : Int32)), .val (.int (0 : Int32)), .val (.ref b1), .val (.int (1 : Int32)), .val (.int (1 : Int32)), .val (.int (232 : Int32)), .val (.int (256 : Int32)), .unset] [(.int (0 : Int32)), (.int (2 : Int32)), (.ref b1)]))
      refine own_st (fun t k => XS.iload X12.here hx rfl (hb hby at_232) rfl k) ?_
      show own_Fin _ _ _ _ _ _ _ (T12.setTop (mkF m 234 #[.val (.int p1), .val (.int p2), .val (.int p3), .val (.int (256 : Int32)), .val (.int (0 : Int32)), .val (.ref b1), .val (.int (1 : Int32)), .val (.int (1 : Int32)), .val (.int (232 : Int32)), .val (.int (256 : Int32)), .unset] [(.int (1 : Int32)), (.int (0 : Int32)), (.int (2 : Int32)), (.ref b1)]))
      refine own_st (fun t k => XS.iloadN X12.here hx rfl (hb hby at_234) rfl k) ?_
      show own_Fin _ _ _ _ _ _ _ (T12.setTop (mkF m 235 #[.val (.int p1), .val (.int p2), .val (.int p3), .val (.int (256 : Int32)), .val (.int (0 : Int32)), .val (.ref b1), .val (.int (1 : Int32)), .val (.int (1 : Int32)), .val (.int (232 : Int32)), .val (.int (256 : Int32)), .unset] [(.int p3), (.int (1 : Int32)), (.int (0 : Int32)), (.int (2 : Int32)), (.ref b1)]))
      obtain ⟨_, _, ⟨T14, L14, k14, n14⟩, -, X14, ⟨Lc14, hQ14, l14, y14, z14⟩, st14⟩ := Jvm.LawKit.callS X12 hx (y := (⟨"com/example/quietzone/quietzone/datamatrix/AsciiEncodationWritePinLaw", "untouched", "([IIIII)Z"⟩ : MethodName)) hown (mvT hZ (hw _ (List.mem_of_getElem? (i := 6) rfl))) (mvT hZ (hw _ (List.mem_of_getElem? (i := 7) rfl))) (mvT hZ (hw _ (List.mem_of_getElem? (i := 8) rfl))) (mvT hZ (hw _ (List.mem_of_getElem? (i := 9) rfl))) (by decide) (backOf (W := 0) (rm2 l Z a0 hw [] b1 (2 : Int32) (0 : Int32) (1 : Int32) p3 k1 (6 : Int32) [(.int (232 : Int32)), (.int p3), (.int p3), (.int p3), (.int p3), (.int p3)] p3 T8.heap n0 Z8 Vx8 (by decide) (by decide) rfl) hZ (hw _ (List.mem_of_getElem? (i := 9) rfl)) (hw _ (List.mem_of_getElem? (i := 8) rfl)) (by decide) (by decide)) (g := (mkF m 235 #[.val (.int p1), .val (.int p2), .val (.int p3), .val (.int (256 : Int32)), .val (.int (0 : Int32)), .val (.ref b1), .val (.int (1 : Int32)), .val (.int (1 : Int32)), .val (.int (232 : Int32)), .val (.int (256 : Int32)), .unset] [(.int p3), (.int (1 : Int32)), (.int (0 : Int32)), (.int (2 : Int32)), (.ref b1)])) rfl (by rw [hml]; rfl) (argsL := [(.ref b1), (.int (2 : Int32)), (.int (0 : Int32)), (.int (1 : Int32)), (.int p3)]) (rest := []) (lenOf pd_0_1 rfl) rfl (by show 2 * 0 + _ ≤ _; exact Nat.le_of_eq rfl) (hb hby at_235) (fun _ _ => ⟨rfl, e12, (by decide : 1 + 0 ≤ _), (by decide : 6 + 0 ≤ _)⟩)
      dsimp only [Pt.U, Pt.locs, Pt.cells, Pt.slots] at X14 l14 y14 z14 st14 hQ14
      subst l14 y14 z14
      obtain ⟨rfl, N14q, e14⟩ := hQ14
      have N14 := Fr.app N12 N14q
      refine own_st st14 ?_
      show own_Fin _ _ _ _ _ _ _ (T14.setTop (mkF m 238 #[.val (.int p1), .val (.int p2), .val (.int p3), .val (.int (256 : Int32)), .val (.int (0 : Int32)), .val (.ref b1), .val (.int (1 : Int32)), .val (.int (1 : Int32)), .val (.int (232 : Int32)), .val (.int (256 : Int32)), .unset] [(.int (own_un (2 : Int32) (0 : Int32) (1 : Int32) p3 p3))]))
      have hd238_15 : ¬ ((own_un (2 : Int32) (0 : Int32) (1 : Int32) p3 p3) = (0 : Int32)) := by unfold own_un; simp
      refine own_st (fun t k => XS.ifNo X14.here hx rfl (hb hby at_238) rfl ((if0 _ _).trans (feq hd238_15).1) k) ?_
      show own_Fin _ _ _ _ _ _ _ (T14.setTop (mkF m 241 #[.val (.int p1), .val (.int p2), .val (.int p3), .val (.int (256 : Int32)), .val (.int (0 : Int32)), .val (.ref b1), .val (.int (1 : Int32)), .val (.int (1 : Int32)), .val (.int (232 : Int32)), .val (.int (256 : Int32)), .unset] []))
      refine own_st (fun t k => XS.aload X14.here hx rfl (hb hby at_241) rfl rfl k) ?_
      show own_Fin _ _ _ _ _ _ _ (T14.setTop (mkF m 243 #[.val (.int p1), .val (.int p2), .val (.int p3), .val (.int (256 : Int32)), .val (.int (0 : Int32)), .val (.ref b1), .val (.int (1 : Int32)), .val (.int (1 : Int32)), .val (.int (232 : Int32)), .val (.int (256 : Int32)), .unset] [(.ref b1)]))
      refine own_st (fun t k => XS.iconst X14.here hx rfl (hb hby at_243) k) ?_
      show own_Fin _ _ _ _ _ _ _ (T14.setTop (mkF m 244 #[.val (.int p1), .val (.int p2), .val (.int p3), .val (.int (256 : Int32)), .val (.int (0 : Int32)), .val (.ref b1), .val (.int (1 : Int32)), .val (.int (1 : Int32)), .val (.int (232 : Int32)), .val (.int (256 : Int32)), .unset] [(.int (3 : Int32)), (.ref b1)]))
      refine own_st (fun t k => XS.iload X14.here hx rfl (hb hby at_244) rfl k) ?_
      show own_Fin _ _ _ _ _ _ _ (T14.setTop (mkF m 246 #[.val (.int p1), .val (.int p2), .val (.int p3), .val (.int (256 : Int32)), .val (.int (0 : Int32)), .val (.ref b1), .val (.int (1 : Int32)), .val (.int (1 : Int32)), .val (.int (232 : Int32)), .val (.int (256 : Int32)), .unset] [(.int (0 : Int32)), (.int (3 : Int32)), (.ref b1)]))
      refine own_st (fun t k => XS.iload X14.here hx rfl (hb hby at_246) rfl k) ?_
      show own_Fin _ _ _ _ _ _ _ (T14.setTop (mkF m 248 #[.val (.int p1), .val (.int p2), .val (.int p3), .val (.int (256 : Int32)), .val (.int (0 : Int32)), .val (.ref b1), .val (.int (1 : Int32)), .val (.int (1 : Int32)), .val (.int (232 : Int32)), .val (.int (256 : Int32)), .unset] [(.int (1 : Int32)), (.int (0 : Int32)), (.int (3 : Int32)), (.ref b1)]))
      refine own_st (fun t k => XS.iloadN X14.here hx rfl (hb hby at_248) rfl k) ?_
      show own_Fin _ _ _ _ _ _ _ (T14.setTop (mkF m 249 #[.val (.int p1), .val (.int p2), .val (.int p3), .val (.int (256 : Int32)), .val (.int (0 : Int32)), .val (.ref b1), .val (.int (1 : Int32)), .val (.int (1 : Int32)), .val (.int (232 : Int32)), .val (.int (256 : Int32)), .unset] [(.int p3), (.int (1 : Int32)), (.int (0 : Int32)), (.int (3 : Int32)), (.ref b1)]))
      obtain ⟨_, _, ⟨T16, L16, k16, n16⟩, -, X16, ⟨Lc16, hQ16, l16, y16, z16⟩, st16⟩ := Jvm.LawKit.callS X14 hx (y := (⟨"com/example/quietzone/quietzone/datamatrix/AsciiEncodationWritePinLaw", "untouched", "([IIIII)Z"⟩ : MethodName)) hown (mvT hZ (hw _ (List.mem_of_getElem? (i := 6) rfl))) (mvT hZ (hw _ (List.mem_of_getElem? (i := 7) rfl))) (mvT hZ (hw _ (List.mem_of_getElem? (i := 8) rfl))) (mvT hZ (hw _ (List.mem_of_getElem? (i := 9) rfl))) (by decide) (backOf (W := 0) (rm2 l Z a0 hw [] b1 (3 : Int32) (0 : Int32) (1 : Int32) p3 k1 (6 : Int32) [(.int (232 : Int32)), (.int p3), (.int p3), (.int p3), (.int p3), (.int p3)] p3 T8.heap n0 Z8 Vx8 (by decide) (by decide) rfl) hZ (hw _ (List.mem_of_getElem? (i := 9) rfl)) (hw _ (List.mem_of_getElem? (i := 8) rfl)) (by decide) (by decide)) (g := (mkF m 249 #[.val (.int p1), .val (.int p2), .val (.int p3), .val (.int (256 : Int32)), .val (.int (0 : Int32)), .val (.ref b1), .val (.int (1 : Int32)), .val (.int (1 : Int32)), .val (.int (232 : Int32)), .val (.int (256 : Int32)), .unset] [(.int p3), (.int (1 : Int32)), (.int (0 : Int32)), (.int (3 : Int32)), (.ref b1)])) rfl (by rw [hml]; rfl) (argsL := [(.ref b1), (.int (3 : Int32)), (.int (0 : Int32)), (.int (1 : Int32)), (.int p3)]) (rest := []) (lenOf pd_0_1 rfl) rfl (by show 2 * 0 + _ ≤ _; exact Nat.le_of_eq rfl) (hb hby at_249) (fun _ _ => ⟨rfl, e14, (by decide : 1 + 0 ≤ _), (by decide : 6 + 0 ≤ _)⟩)
      dsimp only [Pt.U, Pt.locs, Pt.cells, Pt.slots] at X16 l16 y16 z16 st16 hQ16
      subst l16 y16 z16
      obtain ⟨rfl, N16q, e16⟩ := hQ16
      have N16 := Fr.app N14 N16q
      refine own_st st16 ?_
      show own_Fin _ _ _ _ _ _ _ (T16.setTop (mkF m 252 #[.val (.int p1), .val (.int p2), .val (.int p3), .val (.int (256 : Int32)), .val (.int (0 : Int32)), .val (.ref b1), .val (.int (1 : Int32)), .val (.int (1 : Int32)), .val (.int (232 : Int32)), .val (.int (256 : Int32)), .unset] [(.int (own_un (3 : Int32) (0 : Int32) (1 : Int32) p3 p3))]))
      have hd252_17 : ¬ ((own_un (3 : Int32) (0 : Int32) (1 : Int32) p3 p3) = (0 : Int32)) := by unfold own_un; simp
      refine own_st (fun t k => XS.ifNo X16.here hx rfl (hb hby at_252) rfl ((if0 _ _).trans (feq hd252_17).1) k) ?_
      show own_Fin _ _ _ _ _ _ _ (T16.setTop (mkF m 255 #[.val (.int p1), .val (.int p2), .val (.int p3), .val (.int (256 : Int32)), .val (.int (0 : Int32)), .val (.ref b1), .val (.int (1 : Int32)), .val (.int (1 : Int32)), .val (.int (232 : Int32)), .val (.int (256 : Int32)), .unset] []))
      refine own_st (fun t k => XS.aload X16.here hx rfl (hb hby at_255) rfl rfl k) ?_
      show own_Fin _ _ _ _ _ _ _ (T16.setTop (mkF m 257 #[.val (.int p1), .val (.int p2), .val (.int p3), .val (.int (256 : Int32)), .val (.int (0 : Int32)), .val (.ref b1), .val (.int (1 : Int32)), .val (.int (1 : Int32)), .val (.int (232 : Int32)), .val (.int (256 : Int32)), .unset] [(.ref b1)]))
      refine own_st (fun t k => XS.iconst X16.here hx rfl (hb hby at_257) k) ?_
      show own_Fin _ _ _ _ _ _ _ (T16.setTop (mkF m 258 #[.val (.int p1), .val (.int p2), .val (.int p3), .val (.int (256 : Int32)), .val (.int (0 : Int32)), .val (.ref b1), .val (.int (1 : Int32)), .val (.int (1 : Int32)), .val (.int (232 : Int32)), .val (.int (256 : Int32)), .unset] [(.int (4 : Int32)), (.ref b1)]))
      refine own_st (fun t k => XS.iload X16.here hx rfl (hb hby at_258) rfl k) ?_
      show own_Fin _ _ _ _ _ _ _ (T16.setTop (mkF m 260 #[.val (.int p1), .val (.int p2), .val (.int p3), .val (.int (256 : Int32)), .val (.int (0 : Int32)), .val (.ref b1), .val (.int (1 : Int32)), .val (.int (1 : Int32)), .val (.int (232 : Int32)), .val (.int (256 : Int32)), .unset] [(.int (0 : Int32)), (.int (4 : Int32)), (.ref b1)]))
      refine own_st (fun t k => XS.iload X16.here hx rfl (hb hby at_260) rfl k) ?_
      show own_Fin _ _ _ _ _ _ _ (T16.setTop (mkF m 262 #[.val (.int p1), .val (.int p2), .val (.int p3), .val (.int (256 : Int32)), .val (.int (0 : Int32)), .val (.ref b1), .val (.int (1 : Int32)), .val (.int (1 : Int32)), .val (.int (232 : Int32)), .val (.int (256 : Int32)), .unset] [(.int (1 : Int32)), (.int (0 : Int32)), (.int (4 : Int32)), (.ref b1)]))
      refine own_st (fun t k => XS.iloadN X16.here hx rfl (hb hby at_262) rfl k) ?_
      show own_Fin _ _ _ _ _ _ _ (T16.setTop (mkF m 263 #[.val (.int p1), .val (.int p2), .val (.int p3), .val (.int (256 : Int32)), .val (.int (0 : Int32)), .val (.ref b1), .val (.int (1 : Int32)), .val (.int (1 : Int32)), .val (.int (232 : Int32)), .val (.int (256 : Int32)), .unset] [(.int p3), (.int (1 : Int32)), (.int (0 : Int32)), (.int (4 : Int32)), (.ref b1)]))
      obtain ⟨_, _, ⟨T18, L18, k18, n18⟩, -, X18, ⟨Lc18, hQ18, l18, y18, z18⟩, st18⟩ := Jvm.LawKit.callS X16 hx (y := (⟨"com/example/quietzone/quietzone/datamatrix/AsciiEncodationWritePinLaw", "untouched", "([IIIII)Z"⟩ : MethodName)) hown (mvT hZ (hw _ (List.mem_of_getElem? (i := 6) rfl))) (mvT hZ (hw _ (List.mem_of_getElem? (i := 7) rfl))) (mvT hZ (hw _ (List.mem_of_getElem? (i := 8) rfl))) (mvT hZ (hw _ (List.mem_of_getElem? (i := 9) rfl))) (by decide) (backOf (W := 0) (rm2 l Z a0 hw [] b1 (4 : Int32) (0 : Int32) (1 : Int32) p3 k1 (6 : Int32) [(.int (232 : Int32)), (.int p3), (.int p3), (.int p3), (.int p3), (.int p3)] p3 T8.heap n0 Z8 Vx8 (by decide) (by decide) rfl) hZ (hw _ (List.mem_of_getElem? (i := 9) rfl)) (hw _ (List.mem_of_getElem? (i := 8) rfl)) (by decide) (by decide)) (g := (mkF m 263 #[.val (.int p1), .val (.int p2), .val (.int p3), .val (.int (256 : Int32)), .val (.int (0 : Int32)), .val (.ref b1), .val (.int (1 : Int32)), .val (.int (1 : Int32)), .val (.int (232 : Int32)), .val (.int (256 : Int32)), .unset] [(.int p3), (.int (1 : Int32)), (.int (0 : Int32)), (.int (4 : Int32)), (.ref b1)])) rfl (by rw [hml]; rfl) (argsL := [(.ref b1), (.int (4 : Int32)), (.int (0 : Int32)), (.int (1 : Int32)), (.int p3)]) (rest := []) (lenOf pd_0_1 rfl) rfl (by show 2 * 0 + _ ≤ _; exact Nat.le_of_eq rfl) (hb hby at_263) (fun _ _ => ⟨rfl, e16, (by decide : 1 + 0 ≤ _), (by decide : 6 + 0 ≤ _)⟩)
      dsimp only [Pt.U, Pt.locs, Pt.cells, Pt.slots] at X18 l18 y18 z18 st18 hQ18
      subst l18 y18 z18
      obtain ⟨rfl, N18q, e18⟩ := hQ18
      have N18 := Fr.app N16 N18q
      refine own_st st18 ?_
      show own_Fin _ _ _ _ _ _ _ (T18.setTop (mkF m 266 #[.val (.int p1), .val (.int p2), .val (.int p3), .val (.int (256 : Int32)), .val (.int (0 : Int32)), .val (.ref b1), .val (.int (1 : Int32)), .val (.int (1 : Int32)), .val (.int (232 : Int32)), .val (.int (256 : Int32)), .unset] [(.int (own_un (4 : Int32) (0 : Int32) (1 : Int32) p3 p3))]))
      have hd266_19 : ¬ ((own_un (4 : Int32) (0 : Int32) (1 : Int32) p3 p3) = (0 : Int32)) := by unfold own_un; simp
      refine own_st (fun t k => XS.ifNo X18.here hx rfl (hb hby at_266) rfl ((if0 _ _).trans (feq hd266_19).1) k) ?_
      show own_Fin _ _ _ _ _ _ _ (T18.setTop (mkF m 269 #[.val (.int p1), .val (.int p2), .val (.int p3), .val (.int (256 : Int32)), .val (.int (0 : Int32)), .val (.ref b1), .val (.int (1 : Int32)), .val (.int (1 : Int32)), .val (.int (232 : Int32)), .val (.int (256 : Int32)), .unset] []))
      refine own_st (fun t k => XS.aload X18.here hx rfl (hb hby at_269) rfl rfl k) ?_
      show own_Fin _ _ _ _ _ _ _ (T18.setTop (mkF m 271 #[.val (.int p1), .val (.int p2), .val (.int p3), .val (.int (256 : Int32)), .val (.int (0 : Int32)), .val (.ref b1), .val (.int (1 : Int32)), .val (.int (1 : Int32)), .val (.int (232 : Int32)), .val (.int (256 : Int32)), .unset] [(.ref b1)]))
      refine own_st (fun t k => XS.iconst X18.here hx rfl (hb hby at_271) k) ?_
      show own_Fin _ _ _ _ _ _ _ (T18.setTop (mkF m 272 #[.val (.int p1), .val (.int p2), .val (.int p3), .val (.int (256 : Int32)), .val (.int (0 : Int32)), .val (.ref b1), .val (.int (1 : Int32)), .val (.int (1 : Int32)), .val (.int (232 : Int32)), .val (.int (256 : Int32)), .unset] [(.int (5 : Int32)), (.ref b1)]))
      refine own_st (fun t k => XS.iload X18.here hx rfl (hb hby at_272) rfl k) ?_
      show own_Fin _ _ _ _ _ _ _ (T18.setTop (mkF m 274 #[.val (.int p1), .val (.int p2), .val (.int p3), .val (.int (256 : Int32)), .val (.int (0 : Int32)), .val (.ref b1), .val (.int (1 : Int32)), .val (.int (1 : Int32)), .val (.int (232 : Int32)), .val (.int (256 : Int32)), .unset] [(.int (0 : Int32)), (.int (5 : Int32)), (.ref b1)]))
      refine own_st (fun t k => XS.iload X18.here hx rfl (hb hby at_274) rfl k) ?_
      show own_Fin _ _ _ _ _ _ _ (T18.setTop (mkF m 276 #[.val (.int p1), .val (.int p2), .val (.int p3), .val (.int (256 : Int32)), .val (.int (0 : Int32)), .val (.ref b1), .val (.int (1 : Int32)), .val (.int (1 : Int32)), .val (.int (232 : Int32)), .val (.int (256 : Int32)), .unset] [(.int (1 : Int32)), (.int (0 : Int32)), (.int (5 : Int32)), (.ref b1)]))
      refine own_st (fun t k => XS.iloadN X18.here hx rfl (hb hby at_276) rfl k) ?_
      show own_Fin _ _ _ _ _ _ _ (T18.setTop (mkF m 277 #[.val (.int p1), .val (.int p2), .val (.int p3), .val (.int (256 : Int32)), .val (.int (0 : Int32)), .val (.ref b1), .val (.int (1 : Int32)), .val (.int (1 : Int32)), .val (.int (232 : Int32)), .val (.int (256 : Int32)), .unset] [(.int p3), (.int (1 : Int32)), (.int (0 : Int32)), (.int (5 : Int32)), (.ref b1)]))
      obtain ⟨_, _, ⟨T20, L20, k20, n20⟩, -, X20, ⟨Lc20, hQ20, l20, y20, z20⟩, st20⟩ := Jvm.LawKit.callS X18 hx (y := (⟨"com/example/quietzone/quietzone/datamatrix/AsciiEncodationWritePinLaw", "untouched", "([IIIII)Z"⟩ : MethodName)) hown (mvT hZ (hw _ (List.mem_of_getElem? (i := 6) rfl))) (mvT hZ (hw _ (List.mem_of_getElem? (i := 7) rfl))) (mvT hZ (hw _ (List.mem_of_getElem? (i := 8) rfl))) (mvT hZ (hw _ (List.mem_of_getElem? (i := 9) rfl))) (by decide) (backOf (W := 0) (rm2 l Z a0 hw [] b1 (5 : Int32) (0 : Int32) (1 : Int32) p3 k1 (6 : Int32) [(.int (232 : Int32)), (.int p3), (.int p3), (.int p3), (.int p3), (.int p3)] p3 T8.heap n0 Z8 Vx8 (by decide) (by decide) rfl) hZ (hw _ (List.mem_of_getElem? (i := 9) rfl)) (hw _ (List.mem_of_getElem? (i := 8) rfl)) (by decide) (by decide)) (g := (mkF m 277 #[.val (.int p1), .val (.int p2), .val (.int p3), .val (.int (256 : Int32)), .val (.int (0 : Int32)), .val (.ref b1), .val (.int (1 : Int32)), .val (.int (1 : Int32)), .val (.int (232 : Int32)), .val (.int (256 : Int32)), .unset] [(.int p3), (.int (1 : Int32)), (.int (0 : Int32)), (.int (5 : Int32)), (.ref b1)])) rfl (by rw [hml]; rfl) (argsL := [(.ref b1), (.int (5 : Int32)), (.int (0 : Int32)), (.int (1 : Int32)), (.int p3)]) (rest := []) (lenOf pd_0_1 rfl) rfl (by show 2 * 0 + _ ≤ _; exact Nat.le_of_eq rfl) (hb hby at_277) (fun _ _ => ⟨rfl, e18, (by decide : 1 + 0 ≤ _), (by decide : 6 + 0 ≤ _)⟩)
      dsimp only [Pt.U, Pt.locs, Pt.cells, Pt.slots] at X20 l20 y20 z20 st20 hQ20
      subst l20 y20 z20
      obtain ⟨rfl, N20q, e20⟩ := hQ20
      have N20 := Fr.app N18 N20q
      refine own_st st20 ?_
      show own_Fin _ _ _ _ _ _ _ (T20.setTop (mkF m 280 #[.val (.int p1), .val (.int p2), .val (.int p3), .val (.int (256 : Int32)), .val (.int (0 : Int32)), .val (.ref b1), .val (.int (1 : Int32)), .val (.int (1 : Int32)), .val (.int (232 : Int32)), .val (.int (256 : Int32)), .unset] [(.int (own_un (5 : Int32) (0 : Int32) (1 : Int32) p3 p3))]))
      have hd280_21 : ¬ ((own_un (5 : Int32) (0 : Int32) (1 : Int32) p3 p3) = (0 : Int32)) := by unfold own_un; simp
      refine own_st (fun t k => XS.ifNo X20.here hx rfl (hb hby at_280) rfl ((if0 _ _).trans (feq hd280_21).1) k) ?_
      show own_Fin _ _ _ _ _ _ _ (T20.setTop (mkF m 283 #[.val (.int p1), .val (.int p2), .val (.int p3), .val (.int (256 : Int32)), .val (.int (0 : Int32)), .val (.ref b1), .val (.int (1 : Int32)), .val (.int (1 : Int32)), .val (.int (232 : Int32)), .val (.int (256 : Int32)), .unset] []))
      refine own_st (fun t k => XS.iconst X20.here hx rfl (hb hby at_283) k) ?_
      show own_Fin _ _ _ _ _ _ _ (T20.setTop (mkF m 284 #[.val (.int p1), .val (.int p2), .val (.int p3), .val (.int (256 : Int32)), .val (.int (0 : Int32)), .val (.ref b1), .val (.int (1 : Int32)), .val (.int (1 : Int32)), .val (.int (232 : Int32)), .val (.int (256 : Int32)), .unset] [(.int (1 : Int32))]))
      refine own_st (fun t k => XS.goto X20.here hx rfl (pc0 := 284) (pc' := 288) rfl (hb hby at_284) (by decide) (by decide) k) ?_
      show own_Fin _ _ _ _ _ _ _ (T20.setTop (mkF m 288 #[.val (.int p1), .val (.int p2), .val (.int p3), .val (.int (256 : Int32)), .val (.int (0 : Int32)), .val (.ref b1), .val (.int (1 : Int32)), .val (.int (1 : Int32)), .val (.int (232 : Int32)), .val (.int (256 : Int32)), .unset] [(.int (1 : Int32))]))
      exact own_retN X20 hx Bd.notSynchronized (t := .boolean) Bd.returns (by simp) (hb hby at_288) (by decide) (by decide) ⟨rfl, N20, trivial⟩
    · by_cases hB : (127 : Int32) < ch
      · show own_Fin _ _ _ _ _ _ _ (T7.setTop (mkF m 44 #[.val (.int p1), .val (.int p2), .val (.int p3), .val (.int ch), .val (.int (0 : Int32)), .val (.ref b1), .unset, .unset, .unset, .unset, .unset] []))
        refine own_st (fun t k => XS.iloadN X7.here hx rfl (hb hby at_44) rfl k) ?_
        show own_Fin _ _ _ _ _ _ _ (T7.setTop (mkF m 45 #[.val (.int p1), .val (.int p2), .val (.int p3), .val (.int ch), .val (.int (0 : Int32)), .val (.ref b1), .unset, .unset, .unset, .unset, .unset] [(.int ch)]))
        refine own_st (fun t k => XS.aload X7.here hx rfl (hb hby at_45) rfl rfl k) ?_
        show own_Fin _ _ _ _ _ _ _ (T7.setTop (mkF m 47 #[.val (.int p1), .val (.int p2), .val (.int p3), .val (.int ch), .val (.int (0 : Int32)), .val (.ref b1), .unset, .unset, .unset, .unset, .unset] [(.ref b1), (.int ch)]))
        refine own_st (fun t k => XS.iload X7.here hx rfl (hb hby at_47) rfl k) ?_
        show own_Fin _ _ _ _ _ _ _ (T7.setTop (mkF m 49 #[.val (.int p1), .val (.int p2), .val (.int p3), .val (.int ch), .val (.int (0 : Int32)), .val (.ref b1), .unset, .unset, .unset, .unset, .unset] [(.int (0 : Int32)), (.ref b1), (.int ch)]))
        obtain ⟨_, _, ⟨T22, L22, k22, n22⟩, -, X22, ⟨Lc22, hQ22, l22, y22, z22⟩, st22⟩ := Jvm.LawKit.callS X7 hx (y := (⟨"com/example/quietzone/quietzone/datamatrix/AsciiEncodation", "write", "(I[II)I"⟩ : MethodName)) hown (mvT hZ (hw _ (List.mem_of_getElem? (i := 2) rfl))) (mvT hZ (hw _ (List.mem_of_getElem? (i := 3) rfl))) (mvT hZ (hw _ (List.mem_of_getElem? (i := 4) rfl))) (mvT hZ (hw _ (List.mem_of_getElem? (i := 5) rfl))) (by decide) (backOf (W := 0) (rm1 l Z a0 hw [] ch b1 (0 : Int32) k1 (6 : Int32) [(.int p3), (.int p3), (.int p3), (.int p3), (.int p3), (.int p3)] h7 n0 Z7 V7 ge_b1 (by decide) (by decide) (by decide) (by decide) (Nat.le_of_ble_eq_true rfl) (Nat.le_of_ble_eq_true rfl)) hZ (hw _ (List.mem_of_getElem? (i := 5) rfl)) (hw _ (List.mem_of_getElem? (i := 4) rfl)) (by decide) (by decide)) (g := (mkF m 49 #[.val (.int p1), .val (.int p2), .val (.int p3), .val (.int ch), .val (.int (0 : Int32)), .val (.ref b1), .unset, .unset, .unset, .unset, .unset] [(.int (0 : Int32)), (.ref b1), (.int ch)])) rfl (by rw [hml]; rfl) (argsL := [(.int ch), (.ref b1), (.int (0 : Int32))]) (rest := []) (lenOf pd_0_0 rfl) rfl (by show 2 * 0 + _ ≤ _; exact Nat.le_of_eq rfl) (hb hby at_49) (fun _ _ => ⟨rfl, e7, (by decide : 1 + 0 ≤ _), (by decide : 6 + 0 ≤ _)⟩)
        dsimp only [Pt.U, Pt.locs, Pt.cells, Pt.slots] at X22 l22 y22 z22 st22 hQ22
        subst l22 y22 z22
        obtain ⟨rfl, N22q, K22, o22⟩ := hQ22
        have N22 := Fr.app N7 N22q
        have Z22 : n0 ≤ T22.heap.size := Nat.le_trans Z7 K22.1
        refine own_st st22 ?_
        show own_Fin _ _ _ _ _ _ _ (T22.setTop (mkF m 52 #[.val (.int p1), .val (.int p2), .val (.int p3), .val (.int ch), .val (.int (0 : Int32)), .val (.ref b1), .unset, .unset, .unset, .unset, .unset] [(.int (own_wr ch (0 : Int32)))]))
        have Vx22 : Arv Z T22.heap b1 k1 .int (6 : Int32) [(.int (235 : Int32)), (.int (ch - (127 : Int32))), (.int p3), (.int p3), (.int p3), (.int p3)] (.int (0 : Int32)) := by have q := o22; unfold own_wv at q; rw [if_neg hA, if_pos hB] at q; exact q
        have rx22 : (own_wr ch (0 : Int32)) = (2 : Int32) := by unfold own_wr; rw [if_neg hA, if_pos hB]; rfl
        rw [rx22]
        show own_Fin _ _ _ _ _ _ _ (T22.setTop (mkF m 52 #[.val (.int p1), .val (.int p2), .val (.int p3), .val (.int ch), .val (.int (0 : Int32)), .val (.ref b1), .unset, .unset, .unset, .unset, .unset] [(.int (2 : Int32))]))
        refine own_st (fun t k => XS.istore X22.here hx rfl (hb hby at_52) rfl (l' := #[.val (.int p1), .val (.int p2), .val (.int p3), .val (.int ch), .val (.int (0 : Int32)), .val (.ref b1), .val (.int (2 : Int32)), .unset, .unset, .unset, .unset]) rfl k) ?_
        show own_Fin _ _ _ _ _ _ _ (T22.setTop (mkF m 54 #[.val (.int p1), .val (.int p2), .val (.int p3), .val (.int ch), .val (.int (0 : Int32)), .val (.ref b1), .val (.int (2 : Int32)), .unset, .unset, .unset, .unset] []))
        refine own_st (fun t k => XS.iload X22.here hx rfl (hb hby at_54) rfl k) ?_
        show own_Fin _ _ _ _ _ _ _ (T22.setTop (mkF m 56 #[.val (.int p1), .val (.int p2), .val (.int p3), .val (.int ch), .val (.int (0 : Int32)), .val (.ref b1), .val (.int (2 : Int32)), .unset, .unset, .unset, .unset] [(.int (2 : Int32))]))
        refine own_st (fun t k => XS.iload X22.here hx rfl (hb hby at_56) rfl k) ?_
        show own_Fin _ _ _ _ _ _ _ (T22.setTop (mkF m 58 #[.val (.int p1), .val (.int p2), .val (.int p3), .val (.int ch), .val (.int (0 : Int32)), .val (.ref b1), .val (.int (2 : Int32)), .unset, .unset, .unset, .unset] [(.int (0 : Int32)), (.int (2 : Int32))]))
        refine own_st (fun t k => XS.isub X22.here hx rfl (hb hby at_58) rfl k) ?_
        show own_Fin _ _ _ _ _ _ _ (T22.setTop (mkF m 59 #[.val (.int p1), .val (.int p2), .val (.int p3), .val (.int ch), .val (.int (0 : Int32)), .val (.ref b1), .val (.int (2 : Int32)), .unset, .unset, .unset, .unset] [(.int (2 : Int32))]))
        refine own_st (fun t k => XS.istore X22.here hx rfl (hb hby at_59) rfl (l' := #[.val (.int p1), .val (.int p2), .val (.int p3), .val (.int ch), .val (.int (0 : Int32)), .val (.ref b1), .val (.int (2 : Int32)), .val (.int (2 : Int32)), .unset, .unset, .unset]) rfl k) ?_
        show own_Fin _ _ _ _ _ _ _ (T22.setTop (mkF m 61 #[.val (.int p1), .val (.int p2), .val (.int p3), .val (.int ch), .val (.int (0 : Int32)), .val (.ref b1), .val (.int (2 : Int32)), .val (.int (2 : Int32)), .unset, .unset, .unset] []))
        refine own_st (fun t k => XS.iload X22.here hx rfl (hb hby at_61) rfl k) ?_
        show own_Fin _ _ _ _ _ _ _ (T22.setTop (mkF m 63 #[.val (.int p1), .val (.int p2), .val (.int p3), .val (.int ch), .val (.int (0 : Int32)), .val (.ref b1), .val (.int (2 : Int32)), .val (.int (2 : Int32)), .unset, .unset, .unset] [(.int (2 : Int32))]))
        refine own_st (fun t k => XS.iconst X22.here hx rfl (hb hby at_63) k) ?_
        show own_Fin _ _ _ _ _ _ _ (T22.setTop (mkF m 64 #[.val (.int p1), .val (.int p2), .val (.int p3), .val (.int ch), .val (.int (0 : Int32)), .val (.ref b1), .val (.int (2 : Int32)), .val (.int (2 : Int32)), .unset, .unset, .unset] [(.int (1 : Int32)), (.int (2 : Int32))]))
        refine own_st (fun t k => XS.icmpNo X22.here hx rfl (hb hby at_64) rfl (flt (by decide : ¬ ((2 : Int32) < (1 : Int32)))).1 k) ?_
        show own_Fin _ _ _ _ _ _ _ (T22.setTop (mkF m 67 #[.val (.int p1), .val (.int p2), .val (.int p3), .val (.int ch), .val (.int (0 : Int32)), .val (.ref b1), .val (.int (2 : Int32)), .val (.int (2 : Int32)), .unset, .unset, .unset] []))
        refine own_st (fun t k => XS.iload X22.here hx rfl (hb hby at_67) rfl k) ?_
        show own_Fin _ _ _ _ _ _ _ (T22.setTop (mkF m 69 #[.val (.int p1), .val (.int p2), .val (.int p3), .val (.int ch), .val (.int (0 : Int32)), .val (.ref b1), .val (.int (2 : Int32)), .val (.int (2 : Int32)), .unset, .unset, .unset] [(.int (2 : Int32))]))
        refine own_st (fun t k => XS.iconst X22.here hx rfl (hb hby at_69) k) ?_
        show own_Fin _ _ _ _ _ _ _ (T22.setTop (mkF m 70 #[.val (.int p1), .val (.int p2), .val (.int p3), .val (.int ch), .val (.int (0 : Int32)), .val (.ref b1), .val (.int (2 : Int32)), .val (.int (2 : Int32)), .unset, .unset, .unset] [(.int (2 : Int32)), (.int (2 : Int32))]))
        refine own_st (fun t k => XS.icmpYes X22.here hx rfl (pc0 := 70) (pc' := 75) rfl (hb hby at_70) rfl (flt (by decide : ¬ ((2 : Int32) < (2 : Int32)))).2.2.2 (by decide) (by decide) k) ?_
        show own_Fin _ _ _ _ _ _ _ (T22.setTop (mkF m 75 #[.val (.int p1), .val (.int p2), .val (.int p3), .val (.int ch), .val (.int (0 : Int32)), .val (.ref b1), .val (.int (2 : Int32)), .val (.int (2 : Int32)), .unset, .unset, .unset] []))
        refine own_st (fun t k => XS.aload X22.here hx rfl (hb hby at_75) rfl rfl k) ?_
        show own_Fin _ _ _ _ _ _ _ (T22.setTop (mkF m 77 #[.val (.int p1), .val (.int p2), .val (.int p3), .val (.int ch), .val (.int (0 : Int32)), .val (.ref b1), .val (.int (2 : Int32)), .val (.int (2 : Int32)), .unset, .unset, .unset] [(.ref b1)]))
        refine own_st (fun t k => XS.iload X22.here hx rfl (hb hby at_77) rfl k) ?_
        show own_Fin _ _ _ _ _ _ _ (T22.setTop (mkF m 79 #[.val (.int p1), .val (.int p2), .val (.int p3), .val (.int ch), .val (.int (0 : Int32)), .val (.ref b1), .val (.int (2 : Int32)), .val (.int (2 : Int32)), .unset, .unset, .unset] [(.int (0 : Int32)), (.ref b1)]))
        obtain ⟨cl23, Ar23, Cq23, Sz23, Mn23, Hs23, Gf23⟩ := id Vx22
        have hin23 := inb_of Sz23 (j := (0 : Int32)) ⟨by decide, by decide⟩
        refine own_st (X22.iaload hx (j := (0 : Int32)) (v := (.int (235 : Int32))) Ar23.1 (State.isArrayOf_alike hZ.alike Ar23.2.1) Ar23.2.2 hin23 (Hs23.at hin23 rfl) (g := (mkF m 79 #[.val (.int p1), .val (.int p2), .val (.int p3), .val (.int ch), .val (.int (0 : Int32)), .val (.ref b1), .val (.int (2 : Int32)), .val (.int (2 : Int32)), .unset, .unset, .unset] [(.int (0 : Int32)), (.ref b1)])) rfl rfl (hb hby at_79)) ?_
        show own_Fin _ _ _ _ _ _ _ (T22.setTop (mkF m 80 #[.val (.int p1), .val (.int p2), .val (.int p3), .val (.int ch), .val (.int (0 : Int32)), .val (.ref b1), .val (.int (2 : Int32)), .val (.int (2 : Int32)), .unset, .unset, .unset] [(.int (235 : Int32))]))
        refine own_st (fun t k => XS.istore X22.here hx rfl (hb hby at_80) rfl (l' := #[.val (.int p1), .val (.int p2), .val (.int p3), .val (.int ch), .val (.int (0 : Int32)), .val (.ref b1), .val (.int (2 : Int32)), .val (.int (2 : Int32)), .val (.int (235 : Int32)), .unset, .unset]) rfl k) ?_
        show own_Fin _ _ _ _ _ _ _ (T22.setTop (mkF m 82 #[.val (.int p1), .val (.int p2), .val (.int p3), .val (.int ch), .val (.int (0 : Int32)), .val (.ref b1), .val (.int (2 : Int32)), .val (.int (2 : Int32)), .val (.int (235 : Int32)), .unset, .unset] []))
        refine own_st (fun t k => XS.iload X22.here hx rfl (hb hby at_82) rfl k) ?_
        show own_Fin _ _ _ _ _ _ _ (T22.setTop (mkF m 84 #[.val (.int p1), .val (.int p2), .val (.int p3), .val (.int ch), .val (.int (0 : Int32)), .val (.ref b1), .val (.int (2 : Int32)), .val (.int (2 : Int32)), .val (.int (235 : Int32)), .unset, .unset] [(.int (235 : Int32))]))
        refine own_st (fun t k => XS.iconst X22.here hx rfl (hb hby at_84) k) ?_
        show own_Fin _ _ _ _ _ _ _ (T22.setTop (mkF m 85 #[.val (.int p1), .val (.int p2), .val (.int p3), .val (.int ch), .val (.int (0 : Int32)), .val (.ref b1), .val (.int (2 : Int32)), .val (.int (2 : Int32)), .val (.int (235 : Int32)), .unset, .unset] [(.int (1 : Int32)), (.int (235 : Int32))]))
        refine own_st (fun t k => XS.icmpNo X22.here hx rfl (hb hby at_85) rfl (flt (by decide : ¬ ((235 : Int32) < (1 : Int32)))).1 k) ?_
        show own_Fin _ _ _ _ _ _ _ (T22.setTop (mkF m 88 #[.val (.int p1), .val (.int p2), .val (.int p3), .val (.int ch), .val (.int (0 : Int32)), .val (.ref b1), .val (.int (2 : Int32)), .val (.int (2 : Int32)), .val (.int (235 : Int32)), .unset, .unset] []))
        refine own_st (fun t k => XS.iload X22.here hx rfl (hb hby at_88) rfl k) ?_
        show own_Fin _ _ _ _ _ _ _ (T22.setTop (mkF m 90 #[.val (.int p1), .val (.int p2), .val (.int p3), .val (.int ch), .val (.int (0 : Int32)), .val (.ref b1), .val (.int (2 : Int32)), .val (.int (2 : Int32)), .val (.int (235 : Int32)), .unset, .unset] [(.int (235 : Int32))]))
        refine own_st (fun t k => XS.sipush X22.here hx rfl (hb hby at_90) k) ?_
        show own_Fin _ _ _ _ _ _ _ (T22.setTop (mkF m 93 #[.val (.int p1), .val (.int p2), .val (.int p3), .val (.int ch), .val (.int (0 : Int32)), .val (.ref b1), .val (.int (2 : Int32)), .val (.int (2 : Int32)), .val (.int (235 : Int32)), .unset, .unset] [(.int (128 : Int32)), (.int (235 : Int32))]))
        refine own_st (fun t k => XS.icmpYes X22.here hx rfl (pc0 := 93) (pc' := 113) rfl (hb hby at_93) rfl (tlt (by decide : (128 : Int32) < (235 : Int32))).2.2.1 (by decide) (by decide) k) ?_
        show own_Fin _ _ _ _ _ _ _ (T22.setTop (mkF m 113 #[.val (.int p1), .val (.int p2), .val (.int p3), .val (.int ch), .val (.int (0 : Int32)), .val (.ref b1), .val (.int (2 : Int32)), .val (.int (2 : Int32)), .val (.int (235 : Int32)), .unset, .unset] []))
        refine own_st (fun t k => XS.iload X22.here hx rfl (hb hby at_113) rfl k) ?_
        show own_Fin _ _ _ _ _ _ _ (T22.setTop (mkF m 115 #[.val (.int p1), .val (.int p2), .val (.int p3), .val (.int ch), .val (.int (0 : Int32)), .val (.ref b1), .val (.int (2 : Int32)), .val (.int (2 : Int32)), .val (.int (235 : Int32)), .unset, .unset] [(.int (235 : Int32))]))
        refine own_st (fun t k => XS.sipush X22.here hx rfl (hb hby at_115) k) ?_
        show own_Fin _ _ _ _ _ _ _ (T22.setTop (mkF m 118 #[.val (.int p1), .val (.int p2), .val (.int p3), .val (.int ch), .val (.int (0 : Int32)), .val (.ref b1), .val (.int (2 : Int32)), .val (.int (2 : Int32)), .val (.int (235 : Int32)), .unset, .unset] [(.int (232 : Int32)), (.int (235 : Int32))]))
        refine own_st (fun t k => XS.icmpYes X22.here hx rfl (pc0 := 118) (pc' := 137) rfl (hb hby at_118) rfl (feq (by decide : ¬ ((235 : Int32) = (232 : Int32)))).2 (by decide) (by decide) k) ?_
        show own_Fin _ _ _ _ _ _ _ (T22.setTop (mkF m 137 #[.val (.int p1), .val (.int p2), .val (.int p3), .val (.int ch), .val (.int (0 : Int32)), .val (.ref b1), .val (.int (2 : Int32)), .val (.int (2 : Int32)), .val (.int (235 : Int32)), .unset, .unset] []))
        refine own_st (fun t k => XS.iload X22.here hx rfl (hb hby at_137) rfl k) ?_
        show own_Fin _ _ _ _ _ _ _ (T22.setTop (mkF m 139 #[.val (.int p1), .val (.int p2), .val (.int p3), .val (.int ch), .val (.int (0 : Int32)), .val (.ref b1), .val (.int (2 : Int32)), .val (.int (2 : Int32)), .val (.int (235 : Int32)), .unset, .unset] [(.int (235 : Int32))]))
        refine own_st (fun t k => XS.sipush X22.here hx rfl (hb hby at_139) k) ?_
        show own_Fin _ _ _ _ _ _ _ (T22.setTop (mkF m 142 #[.val (.int p1), .val (.int p2), .val (.int p3), .val (.int ch), .val (.int (0 : Int32)), .val (.ref b1), .val (.int (2 : Int32)), .val (.int (2 : Int32)), .val (.int (235 : Int32)), .unset, .unset] [(.int (235 : Int32)), (.int (235 : Int32))]))
        refine own_st (fun t k => XS.icmpNo X22.here hx rfl (hb hby at_142) rfl (teq (by decide : (235 : Int32) = (235 : Int32))).2 k) ?_
        show own_Fin _ _ _ _ _ _ _ (T22.setTop (mkF m 145 #[.val (.int p1), .val (.int p2), .val (.int p3), .val (.int ch), .val (.int (0 : Int32)), .val (.ref b1), .val (.int (2 : Int32)), .val (.int (2 : Int32)), .val (.int (235 : Int32)), .unset, .unset] []))
        refine own_st (fun t k => XS.iload X22.here hx rfl (hb hby at_145) rfl k) ?_
        show own_Fin _ _ _ _ _ _ _ (T22.setTop (mkF m 147 #[.val (.int p1), .val (.int p2), .val (.int p3), .val (.int ch), .val (.int (0 : Int32)), .val (.ref b1), .val (.int (2 : Int32)), .val (.int (2 : Int32)), .val (.int (235 : Int32)), .unset, .unset] [(.int (2 : Int32))]))
        refine own_st (fun t k => XS.iconst X22.here hx rfl (hb hby at_147) k) ?_
        show own_Fin _ _ _ _ _ _ _ (T22.setTop (mkF m 148 #[.val (.int p1), .val (.int p2), .val (.int p3), .val (.int ch), .val (.int (0 : Int32)), .val (.ref b1), .val (.int (2 : Int32)), .val (.int (2 : Int32)), .val (.int (235 : Int32)), .unset, .unset] [(.int (2 : Int32)), (.int (2 : Int32))]))
        refine own_st (fun t k => XS.icmpYes X22.here hx rfl (pc0 := 148) (pc' := 153) rfl (hb hby at_148) rfl (teq (by decide : (2 : Int32) = (2 : Int32))).1 (by decide) (by decide) k) ?_
        show own_Fin _ _ _ _ _ _ _ (T22.setTop (mkF m 153 #[.val (.int p1), .val (.int p2), .val (.int p3), .val (.int ch), .val (.int (0 : Int32)), .val (.ref b1), .val (.int (2 : Int32)), .val (.int (2 : Int32)), .val (.int (235 : Int32)), .unset, .unset] []))
        refine own_st (fun t k => XS.aload X22.here hx rfl (hb hby at_153) rfl rfl k) ?_
        show own_Fin _ _ _ _ _ _ _ (T22.setTop (mkF m 155 #[.val (.int p1), .val (.int p2), .val (.int p3), .val (.int ch), .val (.int (0 : Int32)), .val (.ref b1), .val (.int (2 : Int32)), .val (.int (2 : Int32)), .val (.int (235 : Int32)), .unset, .unset] [(.ref b1)]))
        refine own_st (fun t k => XS.iload X22.here hx rfl (hb hby at_155) rfl k) ?_
        show own_Fin _ _ _ _ _ _ _ (T22.setTop (mkF m 157 #[.val (.int p1), .val (.int p2), .val (.int p3), .val (.int ch), .val (.int (0 : Int32)), .val (.ref b1), .val (.int (2 : Int32)), .val (.int (2 : Int32)), .val (.int (235 : Int32)), .unset, .unset] [(.int (0 : Int32)), (.ref b1)]))
        refine own_st (fun t k => XS.iconst X22.here hx rfl (hb hby at_157) k) ?_
        show own_Fin _ _ _ _ _ _ _ (T22.setTop (mkF m 158 #[.val (.int p1), .val (.int p2), .val (.int p3), .val (.int ch), .val (.int (0 : Int32)), .val (.ref b1), .val (.int (2 : Int32)), .val (.int (2 : Int32)), .val (.int (235 : Int32)), .unset, .unset] [(.int (1 : Int32)), (.int (0 : Int32)), (.ref b1)]))
        refine own_st (fun t k => XS.iadd X22.here hx rfl (hb hby at_158) rfl k) ?_
        show own_Fin _ _ _ _ _ _ _ (T22.setTop (mkF m 159 #[.val (.int p1), .val (.int p2), .val (.int p3), .val (.int ch), .val (.int (0 : Int32)), .val (.ref b1), .val (.int (2 : Int32)), .val (.int (2 : Int32)), .val (.int (235 : Int32)), .unset, .unset] [(.int (1 : Int32)), (.ref b1)]))
        obtain ⟨cl24, Ar24, Cq24, Sz24, Mn24, Hs24, Gf24⟩ := id Vx22
        have hin24 := inb_of Sz24 (j := (1 : Int32)) ⟨by decide, by decide⟩
        refine own_st (X22.iaload hx (j := (1 : Int32)) (v := (.int (ch - (127 : Int32)))) Ar24.1 (State.isArrayOf_alike hZ.alike Ar24.2.1) Ar24.2.2 hin24 (Hs24.at hin24 rfl) (g := (mkF m 159 #[.val (.int p1), .val (.int p2), .val (.int p3), .val (.int ch), .val (.int (0 : Int32)), .val (.ref b1), .val (.int (2 : Int32)), .val (.int (2 : Int32)), .val (.int (235 : Int32)), .unset, .unset] [(.int (1 : Int32)), (.ref b1)])) rfl rfl (hb hby at_159)) ?_
        show own_Fin _ _ _ _ _ _ _ (T22.setTop (mkF m 160 #[.val (.int p1), .val (.int p2), .val (.int p3), .val (.int ch), .val (.int (0 : Int32)), .val (.ref b1), .val (.int (2 : Int32)), .val (.int (2 : Int32)), .val (.int (235 : Int32)), .unset, .unset] [(.int (ch - (127 : Int32)))]))
        refine own_st (fun t k => XS.istore X22.here hx rfl (hb hby at_160) rfl (l' := #[.val (.int p1), .val (.int p2), .val (.int p3), .val (.int ch), .val (.int (0 : Int32)), .val (.ref b1), .val (.int (2 : Int32)), .val (.int (2 : Int32)), .val (.int (235 : Int32)), .unset, .val (.int (ch - (127 : Int32)))]) rfl k) ?_
        show own_Fin _ _ _ _ _ _ _ (T22.setTop (mkF m 162 #[.val (.int p1), .val (.int p2), .val (.int p3), .val (.int ch), .val (.int (0 : Int32)), .val (.ref b1), .val (.int (2 : Int32)), .val (.int (2 : Int32)), .val (.int (235 : Int32)), .unset, .val (.int (ch - (127 : Int32)))] []))
        refine own_st (fun t k => XS.iload X22.here hx rfl (hb hby at_162) rfl k) ?_
        show own_Fin _ _ _ _ _ _ _ (T22.setTop (mkF m 164 #[.val (.int p1), .val (.int p2), .val (.int p3), .val (.int ch), .val (.int (0 : Int32)), .val (.ref b1), .val (.int (2 : Int32)), .val (.int (2 : Int32)), .val (.int (235 : Int32)), .unset, .val (.int (ch - (127 : Int32)))] [(.int (ch - (127 : Int32)))]))
        refine own_st (fun t k => XS.iconst X22.here hx rfl (hb hby at_164) k) ?_
        show own_Fin _ _ _ _ _ _ _ (T22.setTop (mkF m 165 #[.val (.int p1), .val (.int p2), .val (.int p3), .val (.int ch), .val (.int (0 : Int32)), .val (.ref b1), .val (.int (2 : Int32)), .val (.int (2 : Int32)), .val (.int (235 : Int32)), .unset, .val (.int (ch - (127 : Int32)))] [(.int (1 : Int32)), (.int (ch - (127 : Int32)))]))
        have hd165_25 : ¬ ((ch - (127 : Int32)) < (1 : Int32)) := (own_hi hc0.2 hA hB).1
        refine own_st (fun t k => XS.icmpNo X22.here hx rfl (hb hby at_165) rfl (flt hd165_25).1 k) ?_
        show own_Fin _ _ _ _ _ _ _ (T22.setTop (mkF m 168 #[.val (.int p1), .val (.int p2), .val (.int p3), .val (.int ch), .val (.int (0 : Int32)), .val (.ref b1), .val (.int (2 : Int32)), .val (.int (2 : Int32)), .val (.int (235 : Int32)), .unset, .val (.int (ch - (127 : Int32)))] []))
        refine own_st (fun t k => XS.iload X22.here hx rfl (hb hby at_168) rfl k) ?_
        show own_Fin _ _ _ _ _ _ _ (T22.setTop (mkF m 170 #[.val (.int p1), .val (.int p2), .val (.int p3), .val (.int ch), .val (.int (0 : Int32)), .val (.ref b1), .val (.int (2 : Int32)), .val (.int (2 : Int32)), .val (.int (235 : Int32)), .unset, .val (.int (ch - (127 : Int32)))] [(.int (ch - (127 : Int32)))]))
        refine own_st (fun t k => XS.sipush X22.here hx rfl (hb hby at_170) k) ?_
        show own_Fin _ _ _ _ _ _ _ (T22.setTop (mkF m 173 #[.val (.int p1), .val (.int p2), .val (.int p3), .val (.int ch), .val (.int (0 : Int32)), .val (.ref b1), .val (.int (2 : Int32)), .val (.int (2 : Int32)), .val (.int (235 : Int32)), .unset, .val (.int (ch - (127 : Int32)))] [(.int (128 : Int32)), (.int (ch - (127 : Int32)))]))
        have hd173_26 : ¬ ((128 : Int32) < (ch - (127 : Int32))) := (own_hi hc0.2 hA hB).2.1
        refine own_st (fun t k => XS.icmpYes X22.here hx rfl (pc0 := 173) (pc' := 178) rfl (hb hby at_173) rfl (flt hd173_26).2.2.2 (by decide) (by decide) k) ?_
        show own_Fin _ _ _ _ _ _ _ (T22.setTop (mkF m 178 #[.val (.int p1), .val (.int p2), .val (.int p3), .val (.int ch), .val (.int (0 : Int32)), .val (.ref b1), .val (.int (2 : Int32)), .val (.int (2 : Int32)), .val (.int (235 : Int32)), .unset, .val (.int (ch - (127 : Int32)))] []))
        refine own_st (fun t k => XS.iload X22.here hx rfl (hb hby at_178) rfl k) ?_
        show own_Fin _ _ _ _ _ _ _ (T22.setTop (mkF m 180 #[.val (.int p1), .val (.int p2), .val (.int p3), .val (.int ch), .val (.int (0 : Int32)), .val (.ref b1), .val (.int (2 : Int32)), .val (.int (2 : Int32)), .val (.int (235 : Int32)), .unset, .val (.int (ch - (127 : Int32)))] [(.int (ch - (127 : Int32)))]))
        refine own_st (fun t k => XS.iconst X22.here hx rfl (hb hby at_180) k) ?_
        show own_Fin _ _ _ _ _ _ _ (T22.setTop (mkF m 181 #[.val (.int p1), .val (.int p2), .val (.int p3), .val (.int ch), .val (.int (0 : Int32)), .val (.ref b1), .val (.int (2 : Int32)), .val (.int (2 : Int32)), .val (.int (235 : Int32)), .unset, .val (.int (ch - (127 : Int32)))] [(.int (1 : Int32)), (.int (ch - (127 : Int32)))]))
        refine own_st (fun t k => XS.isub X22.here hx rfl (hb hby at_181) rfl k) ?_
        show own_Fin _ _ _ _ _ _ _ (T22.setTop (mkF m 182 #[.val (.int p1), .val (.int p2), .val (.int p3), .val (.int ch), .val (.int (0 : Int32)), .val (.ref b1), .val (.int (2 : Int32)), .val (.int (2 : Int32)), .val (.int (235 : Int32)), .unset, .val (.int (ch - (127 : Int32)))] [(.int ((ch - (127 : Int32)) - (1 : Int32)))]))
        refine own_st (fun t k => XS.sipush X22.here hx rfl (hb hby at_182) k) ?_
        show own_Fin _ _ _ _ _ _ _ (T22.setTop (mkF m 185 #[.val (.int p1), .val (.int p2), .val (.int p3), .val (.int ch), .val (.int (0 : Int32)), .val (.ref b1), .val (.int (2 : Int32)), .val (.int (2 : Int32)), .val (.int (235 : Int32)), .unset, .val (.int (ch - (127 : Int32)))] [(.int (128 : Int32)), (.int ((ch - (127 : Int32)) - (1 : Int32)))]))
        refine own_st (fun t k => XS.iadd X22.here hx rfl (hb hby at_185) rfl k) ?_
        show own_Fin _ _ _ _ _ _ _ (T22.setTop (mkF m 186 #[.val (.int p1), .val (.int p2), .val (.int p3), .val (.int ch), .val (.int (0 : Int32)), .val (.ref b1), .val (.int (2 : Int32)), .val (.int (2 : Int32)), .val (.int (235 : Int32)), .unset, .val (.int (ch - (127 : Int32)))] [(.int (((ch - (127 : Int32)) - (1 : Int32)) + (128 : Int32)))]))
        refine own_st (fun t k => XS.istore X22.here hx rfl (hb hby at_186) rfl (l' := #[.val (.int p1), .val (.int p2), .val (.int p3), .val (.int ch), .val (.int (0 : Int32)), .val (.ref b1), .val (.int (2 : Int32)), .val (.int (2 : Int32)), .val (.int (235 : Int32)), .val (.int (((ch - (127 : Int32)) - (1 : Int32)) + (128 : Int32))), .val (.int (ch - (127 : Int32)))]) rfl k) ?_
        show own_Fin _ _ _ _ _ _ _ (T22.setTop (mkF m 188 #[.val (.int p1), .val (.int p2), .val (.int p3), .val (.int ch), .val (.int (0 : Int32)), .val (.ref b1), .val (.int (2 : Int32)), .val (.int (2 : Int32)), .val (.int (235 : Int32)), .val (.int (((ch - (127 : Int32)) - (1 : Int32)) + (128 : Int32))), .val (.int (ch - (127 : Int32)))] []))
        refine own_st (fun t k => XS.goto X22.here hx rfl (pc0 := 188) (pc' := 193) rfl (hb hby at_188) (by decide) (by decide) k) ?_
        show own_Fin _ _ _ _ _ _ _ (T22.setTop (mkF m 193 #[.val (.int p1), .val (.int p2), .val (.int p3), .val (.int ch), .val (.int (0 : Int32)), .val (.ref b1), .val (.int (2 : Int32)), .val (.int (2 : Int32)), .val (.int (235 : Int32)), .val (.int (((ch - (127 : Int32)) - (1 : Int32)) + (128 : Int32))), .val (.int (ch - (127 : Int32)))] []))
        refine own_st (fun t k => XS.iload X22.here hx rfl (hb hby at_193) rfl k) ?_
        show own_Fin _ _ _ _ _ _ _ (T22.setTop (mkF m 195 #[.val (.int p1), .val (.int p2), .val (.int p3), .val (.int ch), .val (.int (0 : Int32)), .val (.ref b1), .val (.int (2 : Int32)), .val (.int (2 : Int32)), .val (.int (235 : Int32)), .val (.int (((ch - (127 : Int32)) - (1 : Int32)) + (128 : Int32))), .val (.int (ch - (127 : Int32)))] [(.int (((ch - (127 : Int32)) - (1 : Int32)) + (128 : Int32)))]))
        refine own_st (fun t k => XS.iloadN X22.here hx rfl (hb hby at_195) rfl k) ?_
        show own_Fin _ _ _ _ _ _ _ (T22.setTop (mkF m 196 #[.val (.int p1), .val (.int p2), .val (.int p3), .val (.int ch), .val (.int (0 : Int32)), .val (.ref b1), .val (.int (2 : Int32)), .val (.int (2 : Int32)), .val (.int (235 : Int32)), .val (.int (((ch - (127 : Int32)) - (1 : Int32)) + (128 : Int32))), .val (.int (ch - (127 : Int32)))] [(.int ch), (.int (((ch - (127 : Int32)) - (1 : Int32)) + (128 : Int32)))]))
        have hd196_27 : (((ch - (127 : Int32)) - (1 : Int32)) + (128 : Int32)) = ch := (own_hi hc0.2 hA hB).2.2
        refine own_st (fun t k => XS.icmpNo X22.here hx rfl (hb hby at_196) rfl (teq hd196_27).2 k) ?_
        show own_Fin _ _ _ _ _ _ _ (T22.setTop (mkF m 199 #[.val (.int p1), .val (.int p2), .val (.int p3), .val (.int ch), .val (.int (0 : Int32)), .val (.ref b1), .val (.int (2 : Int32)), .val (.int (2 : Int32)), .val (.int (235 : Int32)), .val (.int (((ch - (127 : Int32)) - (1 : Int32)) + (128 : Int32))), .val (.int (ch - (127 : Int32)))] []))
        refine own_st (fun t k => XS.aload X22.here hx rfl (hb hby at_199) rfl rfl k) ?_
        show own_Fin _ _ _ _ _ _ _ (T22.setTop (mkF m 201 #[.val (.int p1), .val (.int p2), .val (.int p3), .val (.int ch), .val (.int (0 : Int32)), .val (.ref b1), .val (.int (2 : Int32)), .val (.int (2 : Int32)), .val (.int (235 : Int32)), .val (.int (((ch - (127 : Int32)) - (1 : Int32)) + (128 : Int32))), .val (.int (ch - (127 : Int32)))] [(.ref b1)]))
        refine own_st (fun t k => XS.iconst X22.here hx rfl (hb hby at_201) k) ?_
        show own_Fin _ _ _ _ _ _ _ (T22.setTop (mkF m 202 #[.val (.int p1), .val (.int p2), .val (.int p3), .val (.int ch), .val (.int (0 : Int32)), .val (.ref b1), .val (.int (2 : Int32)), .val (.int (2 : Int32)), .val (.int (235 : Int32)), .val (.int (((ch - (127 : Int32)) - (1 : Int32)) + (128 : Int32))), .val (.int (ch - (127 : Int32)))] [(.int (0 : Int32)), (.ref b1)]))
        refine own_st (fun t k => XS.iload X22.here hx rfl (hb hby at_202) rfl k) ?_
        show own_Fin _ _ _ _ _ _ _ (T22.setTop (mkF m 204 #[.val (.int p1), .val (.int p2), .val (.int p3), .val (.int ch), .val (.int (0 : Int32)), .val (.ref b1), .val (.int (2 : Int32)), .val (.int (2 : Int32)), .val (.int (235 : Int32)), .val (.int (((ch - (127 : Int32)) - (1 : Int32)) + (128 : Int32))), .val (.int (ch - (127 : Int32)))] [(.int (0 : Int32)), (.int (0 : Int32)), (.ref b1)]))
        refine own_st (fun t k => XS.iload X22.here hx rfl (hb hby at_204) rfl k) ?_
        show own_Fin _ _ _ _ _ _ _ (T22.setTop (mkF m 206 #[.val (.int p1), .val (.int p2), .val (.int p3), .val (.int ch), .val (.int (0 : Int32)), .val (.ref b1), .val (.int (2 : Int32)), .val (.int (2 : Int32)), .val (.int (235 : Int32)), .val (.int (((ch - (127 : Int32)) - (1 : Int32)) + (128 : Int32))), .val (.int (ch - (127 : Int32)))] [(.int (2 : Int32)), (.int (0 : Int32)), (.int (0 : Int32)), (.ref b1)]))
        refine own_st (fun t k => XS.iloadN X22.here hx rfl (hb hby at_206) rfl k) ?_
        show own_Fin _ _ _ _ _ _ _ (T22.setTop (mkF m 207 #[.val (.int p1), .val (.int p2), .val (.int p3), .val (.int ch), .val (.int (0 : Int32)), .val (.ref b1), .val (.int (2 : Int32)), .val (.int (2 : Int32)), .val (.int (235 : Int32)), .val (.int (((ch - (127 : Int32)) - (1 : Int32)) + (128 : Int32))), .val (.int (ch - (127 : Int32)))] [(.int p3), (.int (2 : Int32)), (.int (0 : Int32)), (.int (0 : Int32)), (.ref b1)]))
        obtain ⟨_, _, ⟨T28, L28, k28, n28⟩, -, X28, ⟨Lc28, hQ28, l28, y28, z28⟩, st28⟩ := Jvm.LawKit.callS X22 hx (y := (⟨"com/example/quietzone/quietzone/datamatrix/AsciiEncodationWritePinLaw", "untouched", "([IIIII)Z"⟩ : MethodName)) hown (mvT hZ (hw _ (List.mem_of_getElem? (i := 6) rfl))) (mvT hZ (hw _ (List.mem_of_getElem? (i := 7) rfl))) (mvT hZ (hw _ (List.mem_of_getElem? (i := 8) rfl))) (mvT hZ (hw _ (List.mem_of_getElem? (i := 9) rfl))) (by decide) (backOf (W := 0) (rm2 l Z a0 hw [] b1 (0 : Int32) (0 : Int32) (2 : Int32) p3 k1 (6 : Int32) [(.int (235 : Int32)), (.int (ch - (127 : Int32))), (.int p3), (.int p3), (.int p3), (.int p3)] (235 : Int32) T22.heap n0 Z22 Vx22 (by decide) (by decide) rfl) hZ (hw _ (List.mem_of_getElem? (i := 9) rfl)) (hw _ (List.mem_of_getElem? (i := 8) rfl)) (by decide) (by decide)) (g := (mkF m 207 #[.val (.int p1), .val (.int p2), .val (.int p3), .val (.int ch), .val (.int (0 : Int32)), .val (.ref b1), .val (.int (2 : Int32)), .val (.int (2 : Int32)), .val (.int (235 : Int32)), .val (.int (((ch - (127 : Int32)) - (1 : Int32)) + (128 : Int32))), .val (.int (ch - (127 : Int32)))] [(.int p3), (.int (2 : Int32)), (.int (0 : Int32)), (.int (0 : Int32)), (.ref b1)])) rfl (by rw [hml]; rfl) (argsL := [(.ref b1), (.int (0 : Int32)), (.int (0 : Int32)), (.int (2 : Int32)), (.int p3)]) (rest := []) (lenOf pd_0_1 rfl) rfl (by show 2 * 0 + _ ≤ _; exact Nat.le_of_eq rfl) (hb hby at_207) (fun _ _ => ⟨rfl, rfl, (by decide : 1 + 0 ≤ _), (by decide : 6 + 0 ≤ _)⟩)
        dsimp only [Pt.U, Pt.locs, Pt.cells, Pt.slots] at X28 l28 y28 z28 st28 hQ28
        subst l28 y28 z28
        obtain ⟨rfl, N28q, e28⟩ := hQ28
        have N28 := Fr.app N22 N28q
        refine own_st st28 ?_
        show own_Fin _ _ _ _ _ _ _ (T28.setTop (mkF m 210 #[.val (.int p1), .val (.int p2), .val (.int p3), .val (.int ch), .val (.int (0 : Int32)), .val (.ref b1), .val (.int (2 : Int32)), .val (.int (2 : Int32)), .val (.int (235 : Int32)), .val (.int (((ch - (127 : Int32)) - (1 : Int32)) + (128 : Int32))), .val (.int (ch - (127 : Int32)))] [(.int (own_un (0 : Int32) (0 : Int32) (2 : Int32) p3 (235 : Int32)))]))
        have hd210_29 : ¬ ((own_un (0 : Int32) (0 : Int32) (2 : Int32) p3 (235 : Int32)) = (0 : Int32)) := by unfold own_un; simp
        refine own_st (fun t k => XS.ifNo X28.here hx rfl (hb hby at_210) rfl ((if0 _ _).trans (feq hd210_29).1) k) ?_
        show own_Fin _ _ _ _ _ _ _ (T28.setTop (mkF m 213 #[.val (.int p1), .val (.int p2), .val (.int p3), .val (.int ch), .val (.int (0 : Int32)), .val (.ref b1), .val (.int (2 : Int32)), .val (.int (2 : Int32)), .val (.int (235 : Int32)), .val (.int (((ch - (127 : Int32)) - (1 : Int32)) + (128 : Int32))), .val (.int (ch - (127 : Int32)))] []))
        refine own_st (fun t k => XS.aload X28.here hx rfl (hb hby at_213) rfl rfl k) ?_
        show own_Fin _ _ _ _ _ _ _ (T28.setTop (mkF m 215 #[.val (.int p1), .val (.int p2), .val (.int p3), .val (.int ch), .val (.int (0 : Int32)), .val (.ref b1), .val (.int (2 : Int32)), .val (.int (2 : Int32)), .val (.int (235 : Int32)), .val (.int (((ch - (127 : Int32)) - (1 : Int32)) + (128 : Int32))), .val (.int (ch - (127 : Int32)))] [(.ref b1)]))
        refine own_st (fun t k => XS.iconst X28.here hx rfl (hb hby at_215) k) ?_
        show own_Fin _ _ _ _ _ _ _ (T28.setTop (mkF m 216 #[.val (.int p1), .val (.int p2), .val (.int p3), .val (.int ch), .val (.int (0 : Int32)), .val (.ref b1), .val (.int (2 : Int32)), .val (.int (2 : Int32)), .val (.int (235 : Int32)), .val (.int (((ch - (127 : Int32)) - (1 : Int32)) + (128 : Int32))), .val (.int (ch - (127 : Int32)))] [(.int (1 : Int32)), (.ref b1)]))
        refine own_st (fun t k => XS.iload X28.here hx rfl (hb hby at_216) rfl k) ?_
        show own_Fin _ _ _ _ _ _ _ (T28.setTop (mkF m 218 #[.val (.int p1), .val (.int p2), .val (.int p3), .val (.int ch), .val (.int (0 : Int32)), .val (.ref b1), .val (.int (2 : Int32)), .val (.int (2 : Int32)), .val (.int (235 : Int32)), .val (.int (((ch - (127 : Int32)) - (1 : Int32)) + (128 : Int32))), .val (.int (ch - (127 : Int32)))] [(.int (0 : Int32)), (.int (1 : Int32)), (.ref b1)]))
        refine own_st (fun t k => XS.iload X28.here hx rfl (hb hby at_218) rfl k) ?_
        show own_Fin _ _ _ _ _ _ _ (T28.setTop (mkF m 220 #[.val (.int p1), .val (.int p2), .val (.int p3), .val (.int ch), .val (.int (0 : Int32)), .val (.ref b1), .val (.int (2 : Int32)), .val (.int (2 : Int32)), .val (.int (235 : Int32)), .val (.int (((ch - (127 : Int32)) - (1 : Int32)) + (128 : Int32))), .val (.int (ch - (127 : Int32)))] [(.int (2 : Int32)), (.int (0 : Int32)), (.int (1 : Int32)), (.ref b1)]))
        refine own_st (fun t k => XS.iloadN X28.here hx rfl (hb hby at_220) rfl k) ?_
        show own_Fin _ _ _ _ _ _ _ (T28.setTop (mkF m 221 #[.val (.int p1), .val (.int p2), .val (.int p3), .val (.int ch), .val (.int (0 : Int32)), .val (.ref b1), .val (.int (2 : Int32)), .val (.int (2 : Int32)), .val (.int (235 : Int32)), .val (.int (((ch - (127 : Int32)) - (1 : Int32)) + (128 : Int32))), .val (.int (ch - (127 : Int32)))] [(.int p3), (.int (2 : Int32)), (.int (0 : Int32)), (.int (1 : Int32)), (.ref b1)]))
        obtain ⟨_, _, ⟨T30, L30, k30, n30⟩, -, X30, ⟨Lc30, hQ30, l30, y30, z30⟩, st30⟩ := Jvm.LawKit.callS X28 hx (y := (⟨"com/example/quietzone/quietzone/datamatrix/AsciiEncodationWritePinLaw", "untouched", "([IIIII)Z"⟩ : MethodName)) hown (mvT hZ (hw _ (List.mem_of_getElem? (i := 6) rfl))) (mvT hZ (hw _ (List.mem_of_getElem? (i := 7) rfl))) (mvT hZ (hw _ (List.mem_of_getElem? (i := 8) rfl))) (mvT hZ (hw _ (List.mem_of_getElem? (i := 9) rfl))) (by decide) (backOf (W := 0) (rm2 l Z a0 hw [] b1 (1 : Int32) (0 : Int32) (2 : Int32) p3 k1 (6 : Int32) [(.int (235 : Int32)), (.int (ch - (127 : Int32))), (.int p3), (.int p3), (.int p3), (.int p3)] (ch - (127 : Int32)) T22.heap n0 Z22 Vx22 (by decide) (by decide) rfl) hZ (hw _ (List.mem_of_getElem? (i := 9) rfl)) (hw _ (List.mem_of_getElem? (i := 8) rfl)) (by decide) (by decide)) (g := (mkF m 221 #[.val (.int p1), .val (.int p2), .val (.int p3), .val (.int ch), .val (.int (0 : Int32)), .val (.ref b1), .val (.int (2 : Int32)), .val (.int (2 : Int32)), .val (.int (235 : Int32)), .val (.int (((ch - (127 : Int32)) - (1 : Int32)) + (128 : Int32))), .val (.int (ch - (127 : Int32)))] [(.int p3), (.int (2 : Int32)), (.int (0 : Int32)), (.int (1 : Int32)), (.ref b1)])) rfl (by rw [hml]; rfl) (argsL := [(.ref b1), (.int (1 : Int32)), (.int (0 : Int32)), (.int (2 : Int32)), (.int p3)]) (rest := []) (lenOf pd_0_1 rfl) rfl (by show 2 * 0 + _ ≤ _; exact Nat.le_of_eq rfl) (hb hby at_221) (fun _ _ => ⟨rfl, e28, (by decide : 1 + 0 ≤ _), (by decide : 6 + 0 ≤ _)⟩)
        dsimp only [Pt.U, Pt.locs, Pt.cells, Pt.slots] at X30 l30 y30 z30 st30 hQ30
        subst l30 y30 z30
        obtain ⟨rfl, N30q, e30⟩ := hQ30
        have N30 := Fr.app N28 N30q
        refine own_st st30 ?_
        show own_Fin _ _ _ _ _ _ _ (T30.setTop (mkF m 224 #[.val (.int p1), .val (.int p2), .val (.int p3), .val (.int ch), .val (.int (0 : Int32)), .val (.ref b1), .val (.int (2 : Int32)), .val (.int (2 : Int32)), .val (.int (235 : Int32)), .val (.int (((ch - (127 : Int32)) - (1 : Int32)) + (128 : Int32))), .val (.int (ch - (127 : Int32)))] [(.int (own_un (1 : Int32) (0 : Int32) (2 : Int32) p3 (ch - (127 : Int32))))]))
        have hd224_31 : ¬ ((own_un (1 : Int32) (0 : Int32) (2 : Int32) p3 (ch - (127 : Int32))) = (0 : Int32)) := by unfold own_un; simp
        refine own_st (fun t k => XS.ifNo X30.here hx rfl (hb hby at_224) rfl ((if0 _ _).trans (feq hd224_31).1) k) ?_
        show own_Fin _ _ _ _ _ _ _ (T30.setTop (mkF m 227 #[.val (.int p1), .val (.int p2), .val (.int p3), .val (.int ch), .val (.int (0 : Int32)), .val (.ref b1), .val (.int (2 : Int32)), .val (.int (2 : Int32)), .val (.int (235 : Int32)), .val (.int (((ch - (127 : Int32)) - (1 : Int32)) + (128 : Int32))), .val (.int (ch - (127 : Int32)))] []))
        refine own_st (fun t k => XS.aload X30.here hx rfl (hb hby at_227) rfl rfl k) ?_
        show own_Fin _ _ _ _ _ _ _ (T30.setTop (mkF m 229 #[.val (.int p1), .val (.int p2), .val (.int p3), .val (.int ch), .val (.int (0 : Int32)), .val (.ref b1), .val (.int (2 : Int32)), .val (.int (2 : Int32)), .val (.int (235 : Int32)), .val (.int (((ch - (127 : Int32)) - (1 : Int32)) + (128 : Int32))), .val (.int (ch - (127 : Int32)))] [(.ref b1)]))
        refine own_st (fun t k => XS.iconst X30.here hx rfl (hb hby at_229) k) ?_
        show own_Fin _ _ _ _ _ _ _ (T30.setTop (mkF m 230 #[.val (.int p1), .val (.int p2), .val (.int p3), .val (.int ch), .val (.int (0 : Int32)), .val (.ref b1), .val (.int (2 : Int32)), .val (.int (2 : Int32)), .val (.int (235 : Int32)), .val (.int (((ch - (127 : Int32)) - (1 : Int32)) + (128 : Int32))), .val (.int (ch - (127 : Int32)))] [(.int (2 : Int32)), (.ref b1)]))
        refine own_st (fun t k => XS.iload X30.here hx rfl (hb hby at_230) rfl k) ?_
        show own_Fin _ _ _ _ _ _ _ (T30.setTop (mkF m 232 #[.val (.int p1), .val (.int p2), .val (.int p3), .val (.int ch), .val (.int (0 : Int32)), .val (.ref b1), .val (.int (2 : Int32)), .val (.int (2 : Int32)), .val (.int (235 : Int32)), .val (.int (((ch - (127 : Int32)) - (1 : Int32)) + (128 : Int32))), .val (.int (ch - (127 : Int32)))] [(.int (0 : Int32)), (.int (2 : Int32)), (.ref b1)]))
        refine own_st (fun t k => XS.iload X30.here hx rfl (hb hby at_232) rfl k) ?_
        show own_Fin _ _ _ _ _ _ _ (T30.setTop (mkF m 234 #[.val (.int p1), .val (.int p2), .val (.int p3), .val (.int ch), .val (.int (0 : Int32)), .val (.ref b1), .val (.int (2 : Int32)), .val (.int (2 : Int32)), .val (.int (235 : Int32)), .val (.int (((ch - (127 : Int32)) - (1 : Int32)) + (128 : Int32))), .val (.int (ch - (127 : Int32)))] [(.int (2 : Int32)), (.int (0 : Int32)), (.int (2 : Int32)), (.ref b1)]))
        refine own_st (fun t k => XS.iloadN X30.here hx rfl (hb hby at_234) rfl k) ?_
        show own_Fin _ _ _ _ _ _ _ (T30.setTop (mkF m 235 #[.val (.int p1), .val (.int p2), .val (.int p3), .val (.int ch), .val (.int (0 : Int32)), .val (.ref b1), .val (.int (2 : Int32)), .val (.int (2 : Int32)), .val (.int (235 : Int32)), .val (.int (((ch - (127 : Int32)) - (1 : Int32)) + (128 : Int32))), .val (.int (ch - (127 : Int32)))] [(.int p3), (.int (2 : Int32)), (.int (0 : Int32)), (.int (2 : Int32)), (.ref b1)]))
        obtain ⟨_, _, ⟨T32, L32, k32, n32⟩, -, X32, ⟨Lc32, hQ32, l32, y32, z32⟩, st32⟩ := Jvm.LawKit.callS X30 hx (y := (⟨"com/example/quietzone/quietzone/datamatrix/AsciiEncodationWritePinLaw", "untouched", "([IIIII)Z"⟩ : MethodName)) hown (mvT hZ (hw _ (List.mem_of_getElem? (i := 6) rfl))) (mvT hZ (hw _ (List.mem_of_getElem? (i := 7) rfl))) (mvT hZ (hw _ (List.mem_of_getElem? (i := 8) rfl))) (mvT hZ (hw _ (List.mem_of_getElem? (i := 9) rfl))) (by decide) (backOf (W := 0) (rm2 l Z a0 hw [] b1 (2 : Int32) (0 : Int32) (2 : Int32) p3 k1 (6 : Int32) [(.int (235 : Int32)), (.int (ch - (127 : Int32))), (.int p3), (.int p3), (.int p3), (.int p3)] p3 T22.heap n0 Z22 Vx22 (by decide) (by decide) rfl) hZ (hw _ (List.mem_of_getElem? (i := 9) rfl)) (hw _ (List.mem_of_getElem? (i := 8) rfl)) (by decide) (by decide)) (g := (mkF m 235 #[.val (.int p1), .val (.int p2), .val (.int p3), .val (.int ch), .val (.int (0 : Int32)), .val (.ref b1), .val (.int (2 : Int32)), .val (.int (2 : Int32)), .val (.int (235 : Int32)), .val (.int (((ch - (127 : Int32)) - (1 : Int32)) + (128 : Int32))), .val (.int (ch - (127 : Int32)))] [(.int p3), (.int (2 : Int32)), (.int (0 : Int32)), (.int (2 : Int32)), (.ref b1)])) rfl (by rw [hml]; rfl) (argsL := [(.ref b1), (.int (2 : Int32)), (.int (0 : Int32)), (.int (2 : Int32)), (.int p3)]) (rest := []) (lenOf pd_0_1 rfl) rfl (by show 2 * 0 + _ ≤ _; exact Nat.le_of_eq rfl) (hb hby at_235) (fun _ _ => ⟨rfl, e30, (by decide : 1 + 0 ≤ _), (by decide : 6 + 0 ≤ _)⟩)
        dsimp only [Pt.U, Pt.locs, Pt.cells, Pt.slots] at X32 l32 y32 z32 st32 hQ32
        subst l32 y32 z32
        obtain ⟨rfl, N32q, e32⟩ := hQ32
        have N32 := Fr.app N30 N32q
        refine own_st st32 ?_
        show own_Fin _ _ _ _ _ _ _ (T32.setTop (mkF m 238 #[.val (.int p1), .val (.int p2), .val (.int p3), .val (.int ch), .val (.int (0 : Int32)), .val (.ref b1), .val (.int (2 : Int32)), .val (.int (2 : Int32)), .val (.int (235 : Int32)), .val (.int (((ch - (127 : Int32)) - (1 : Int32)) + (128 : Int32))), .val (.int (ch - (127 : Int32)))] [(.int (own_un (2 : Int32) (0 : Int32) (2 : Int32) p3 p3))]))
        have hd238_33 : ¬ ((own_un (2 : Int32) (0 : Int32) (2 : Int32) p3 p3) = (0 : Int32)) := by unfold own_un; simp
        refine own_st (fun t k => XS.ifNo X32.here hx rfl (hb hby at_238) rfl ((if0 _ _).trans (feq hd238_33).1) k) ?_
        show own_Fin _ _ _ _ _ _ _ (T32.setTop (mkF m 241 #[.val (.int p1), .val (.int p2), .val (.int p3), .val (.int ch), .val (.int (0 : Int32)), .val (.ref b1), .val (.int (2 : Int32)), .val (.int (2 : Int32)), .val (.int (235 : Int32)), .val (.int (((ch - (127 : Int32)) - (1 : Int32)) + (128 : Int32))), .val (.int (ch - (127 : Int32)))] []))
        refine own_st (fun t k => XS.aload X32.here hx rfl (hb hby at_241) rfl rfl k) ?_
        show own_Fin _ _ _ _ _ _ _ (T32.setTop (mkF m 243 #[.val (.int p1), .val (.int p2), .val (.int p3), .val (.int ch), .val (.int (0 : Int32)), .val (.ref b1), .val (.int (2 : Int32)), .val (.int (2 : Int32)), .val (.int (235 : Int32)), .val (.int (((ch - (127 : Int32)) - (1 : Int32)) + (128 : Int32))), .val (.int (ch - (127 : Int32)))] [(.ref b1)]))
        refine own_st (fun t k => XS.iconst X32.here hx rfl (hb hby at_243) k) ?_
        show own_Fin _ _ _ _ _ _ _ (T32.setTop (mkF m 244 #[.val (.int p1), .val (.int p2), .val (.int p3), .val (.int ch), .val (.int (0 : Int32)), .val (.ref b1), .val (.int (2 : Int32)), .val (.int (2 : Int32)), .val (.int (235 : Int32)), .val (.int (((ch - (127 : Int32)) - (1 : Int32)) + (128 : Int32))), .val (.int (ch - (127 : Int32)))] [(.int (3 : Int32)), (.ref b1)]))
        refine own_st (fun t k => XS.iload X32.here hx rfl (hb hby at_244) rfl k) ?_
        show own_Fin _ _ _ _ _ _ _ (T32.setTop (mkF m 246 #[.val (.int p1), .val (.int p2), .val (.int p3), .val (.int ch), .val (.int (0 : Int32)), .val (.ref b1), .val (.int (2 : Int32)), .val (.int (2 : Int32)), .val (.int (235 : Int32)), .val (.int (((ch - (127 : Int32)) - (1 : Int32)) + (128 : Int32))), .val (.int (ch - (127 : Int32)))] [(.int (0 : Int32)), (.int (3 : Int32)), (.ref b1)]))
        refine own_st (fun t k => XS.iload X32.here hx rfl (hb hby at_246) rfl k) ?_
        show own_Fin _ _ _ _ _ _ _ (T32.setTop (mkF m 248 #[.val (.int p1), .val (.int p2), .val (.int p3), .val (.int ch), .val (.int (0 : Int32)), .val (.ref b1), .val (.int (2 : Int32)), .val (.int (2 : Int32)), .val (.int (235 : Int32)), .val (.int (((ch - (127 : Int32)) - (1 : Int32)) + (128 : Int32))), .val (.int (ch - (127 : Int32)))] [(.int (2 : Int32)), (.int (0 : Int32)), (.int (3 : Int32)), (.ref b1)]))
        refine own_st (fun t k => XS.iloadN X32.here hx rfl (hb hby at_248) rfl k) ?_
        show own_Fin _ _ _ _ _ _ _ (T32.setTop (mkF m 249 #[.val (.int p1), .val (.int p2), .val (.int p3), .val (.int ch), .val (.int (0 : Int32)), .val (.ref b1), .val (.int (2 : Int32)), .val (.int (2 : Int32)), .val (.int (235 : Int32)), .val (.int (((ch - (127 : Int32)) - (1 : Int32)) + (128 : Int32))), .val (.int (ch - (127 : Int32)))] [(.int p3), (.int (2 : Int32)), (.int (0 : Int32)), (.int (3 : Int32)), (.ref b1)]))
        obtain ⟨_, _, ⟨T34, L34, k34, n34⟩, -, X34, ⟨Lc34, hQ34, l34, y34, z34⟩, st34⟩ := Jvm.LawKit.callS X32 hx (y := (⟨"com/example/quietzone/quietzone/datamatrix/AsciiEncodationWritePinLaw", "untouched", "([IIIII)Z"⟩ : MethodName)) hown (mvT hZ (hw _ (List.mem_of_getElem? (i := 6) rfl))) (mvT hZ (hw _ (List.mem_of_getElem? (i := 7) rfl))) (mvT hZ (hw _ (List.mem_of_getElem? (i := 8) rfl))) (mvT hZ (hw _ (List.mem_of_getElem? (i := 9) rfl))) (by decide) (backOf (W := 0) (rm2 l Z a0 hw [] b1 (3 : Int32) (0 : Int32) (2 : Int32) p3 k1 (6 : Int32) [(.int (235 : Int32)), (.int (ch - (127 : Int32))), (.int p3), (.int p3), (.int p3), (.int p3)] p3 T22.heap n0 Z22 Vx22 (by decide) (by decide) rfl) hZ (hw _ (List.mem_of_getElem? (i := 9) rfl)) (hw _ (List.mem_of_getElem? (i := 8) rfl)) (by decide) (by decide)) (g := (mkF m 249 #[.val (.int p1), .val (.int p2), .val (.int p3), .val (.int ch), .val (.int (0 : Int32)), .val (.ref b1), .val (.int (2 : Int32)), .val (.int (2 : Int32)), .val (.int (235 : Int32)), .val (.int (((ch - (127 : Int32)) - (1 : Int32)) + (128 : Int32))), .val (.int (ch - (127 : Int32)))] [(.int p3), (.int (2 : Int32)), (.int (0 : Int32)), (.int (3 : Int32)), (.ref b1)])) rfl (by rw [hml]; rfl) (argsL := [(.ref b1), (.int (3 : Int32)), (.int (0 : Int32)), (.int (2 : Int32)), (.int p3)]) (rest := []) (lenOf pd_0_1 rfl) rfl (by show 2 * 0 + _ ≤ _; exact Nat.le_of_eq rfl) (hb hby at_249) (fun _ _ => ⟨rfl, e32, (by decide : 1 + 0 ≤ _), (by decide : 6 + 0 ≤ _)⟩)
        dsimp only [Pt.U, Pt.locs, Pt.cells, Pt.slots] at X34 l34 y34 z34 st34 hQ34
        subst l34 y34 z34
        obtain ⟨rfl, N34q, e34⟩ := hQ34
        have N34 := Fr.app N32 N34q
        refine own_st st34 ?_
        show own_Fin _ _ _ _ _ _ _ (T34.setTop (mkF m 252 #[.val (.int p1), .val (.int p2), .val (.int p3), .val (.int ch), .val (.int (0 : Int32)), .val (.ref b1), .val (.int (2 : Int32)), .val (.int (2 : Int32)), .val (.int (235 : Int32)), .val (.int (((ch - (127 : Int32)) - (1 : Int32)) + (128 : Int32))), .val (.int (ch - (127 : Int32)))] [(.int (own_un (3 : Int32) (0 : Int32) (2 : Int32) p3 p3))]))
        have hd252_35 : ¬ ((own_un (3 : Int32) (0 : Int32) (2 : Int32) p3 p3) = (0 : Int32)) := by unfold own_un; simp
        refine own_st (fun t k => XS.ifNo X34.here hx rfl (hb hby at_252) rfl ((if0 _ _).trans (feq hd252_35).1) k) ?_
        show own_Fin _ _ _ _ _ _ _ (T34.setTop (mkF m 255 #[.val (.int p1), .val (.int p2), .val (.int p3), .val (.int ch), .val (.int (0 : Int32)), .val (.ref b1), .val (.int (2 : Int32)), .val (.int (2 : Int32)), .val (.int (235 : Int32)), .val (.int (((ch - (127 : Int32)) - (1 : Int32)) + (128 : Int32))), .val (.int (ch - (127 : Int32)))] []))
        refine own_st (fun t k => XS.aload X34.here hx rfl (hb hby at_255) rfl rfl k) ?_
        show own_Fin _ _ _ _ _ _ _ (T34.setTop (mkF m 257 #[.val (.int p1), .val (.int p2), .val (.int p3), .val (.int ch), .val (.int (0 : Int32)), .val (.ref b1), .val (.int (2 : Int32)), .val (.int (2 : Int32)), .val (.int (235 : Int32)), .val (.int (((ch - (127 : Int32)) - (1 : Int32)) + (128 : Int32))), .val (.int (ch - (127 : Int32)))] [(.ref b1)]))
        refine own_st (fun t k => XS.iconst X34.here hx rfl (hb hby at_257) k) ?_
        show own_Fin _ _ _ _ _ _ _ (T34.setTop (mkF m 258 #[.val (.int p1), .val (.int p2), .val (.int p3), .val (.int ch), .val (.int (0 : Int32)), .val (.ref b1), .val (.int (2 : Int32)), .val (.int (2 : Int32)), .val (.int (235 : Int32)), .val (.int (((ch - (127 : Int32)) - (1 : Int32)) + (128 : Int32))), .val (.int (ch - (127 : Int32)))] [(.int (4 : Int32)), (.ref b1)]))
        refine own_st (fun t k => XS.iload X34.here hx rfl (hb hby at_258) rfl k) ?_
        show own_Fin _ _ _ _ _ _ _ (T34.setTop (mkF m 260 #[.val (.int p1), .val (.int p2), .val (.int p3), .val (.int ch), .val (.int (0 : Int32)), .val (.ref b1), .val (.int (2 : Int32)), .val (.int (2 : Int32)), .val (.int (235 : Int32)), .val (.int (((ch - (127 : Int32)) - (1 : Int32)) + (128 : Int32))), .val (.int (ch - (127 : Int32)))] [(.int (0 : Int32)), (.int (4 : Int32)), (.ref b1)]))
        refine own_st (fun t k => XS.iload X34.here hx rfl (hb hby at_260) rfl k) ?_
        show own_Fin _ _ _ _ _ _ _ (T34.setTop (mkF m 262 #[.val (.int p1), .val (.int p2), .val (.int p3), .val (.int ch), .val (.int (0 : Int32)), .val (.ref b1), .val (.int (2 : Int32)), .val (.int (2 : Int32)), .val (.int (235 : Int32)), .val (.int (((ch - (127 : Int32)) - (1 : Int32)) + (128 : Int32))), .val (.int (ch - (127 : Int32)))] [(.int (2 : Int32)), (.int (0 : Int32)), (.int (4 : Int32)), (.ref b1)]))
        refine own_st (fun t k => XS.iloadN X34.here hx rfl (hb hby at_262) rfl k) ?_
        show own_Fin _ _ _ _ _ _ _ (T34.setTop (mkF m 263 #[.val (.int p1), .val (.int p2), .val (.int p3), .val (.int ch), .val (.int (0 : Int32)), .val (.ref b1), .val (.int (2 : Int32)), .val (.int (2 : Int32)), .val (.int (235 : Int32)), .val (.int (((ch - (127 : Int32)) - (1 : Int32)) + (128 : Int32))), .val (.int (ch - (127 : Int32)))] [(.int p3), (.int (2 : Int32)), (.int (0 : Int32)), (.int (4 : Int32)), (.ref b1)]))
        obtain ⟨_, _, ⟨T36, L36, k36, n36⟩, -, X36, ⟨Lc36, hQ36, l36, y36, z36⟩, st36⟩ := Jvm.LawKit.callS X34 hx (y := (⟨"com/example/quietzone/quietzone/datamatrix/AsciiEncodationWritePinLaw", "untouched", "([IIIII)Z"⟩ : MethodName)) hown (mvT hZ (hw _ (List.mem_of_getElem? (i := 6) rfl))) (mvT hZ (hw _ (List.mem_of_getElem? (i := 7) rfl))) (mvT hZ (hw _ (List.mem_of_getElem? (i := 8) rfl))) (mvT hZ (hw _ (List.mem_of_getElem? (i := 9) rfl))) (by decide) (backOf (W := 0) (rm2 l Z a0 hw [] b1 (4 : Int32) (0 : Int32) (2 : Int32) p3 k1 (6 : Int32) [(.int (235 : Int32)), (.int (ch - (127 : Int32))), (.int p3), (.int p3), (.int p3), (.int p3)] p3 T22.heap n0 Z22 Vx22 (by decide) (by decide) rfl) hZ (hw _ (List.mem_of_getElem? (i := 9) rfl)) (hw _ (List.mem_of_getElem? (i := 8) rfl)) (by decide) (by decide)) (g := (mkF m 263 #[.val (.int p1), .val (.int p2), .val (.int p3), .val (.int ch), .val (.int (0 : Int32)), .val (.ref b1), .val (.int (2 : Int32)), .val (.int (2 : Int32)), .val (.int (235 : Int32)), .val (.int (((ch - (127 : Int32)) - (1 : Int32)) + (128 : Int32))), .val (.int (ch - (127 : Int32)))] [(.int p3), (.int (2 : Int32)), (.int (0 : Int32)), (.int (4 : Int32)), (.ref b1)])) rfl (by rw [hml]; rfl) (argsL := [(.ref b1), (.int (4 : Int32)), (.int (0 : Int32)), (.int (2 : Int32)), (.int p3)]) (rest := []) (lenOf pd_0_1 rfl) rfl (by show 2 * 0 + _ ≤ _; exact Nat.le_of_eq rfl) (hb hby at_263) (fun _ _ => ⟨rfl, e34, (by decide : 1 + 0 ≤ _), (by decide : 6 + 0 ≤ _)⟩)
        dsimp only [Pt.U, Pt.locs, Pt.cells, Pt.slots] at X36 l36 y36 z36 st36 hQ36
        subst l36 y36 z36
        obtain ⟨rfl, N36q, e36⟩ := hQ36
        have N36 := Fr.app N34 N36q
        refine own_st st36 ?_
        show own_Fin _ _ _ _ _ _ _ (T36.setTop (mkF m 266 #[.val (.int p1), .val (.int p2), .val (.int p3), .val (.int ch), .val (.int (0 : Int32)), .val (.ref b1), .val (.int (2 : Int32)), .val (.int (2 : Int32)), .val (.int (235 : Int32)), .val (.int (((ch - (127 : Int32)) - (1 : Int32)) + (128 : Int32))), .val (.int (ch - (127 : Int32)))] [(.int (own_un (4 : Int32) (0 : Int32) (2 : Int32) p3 p3))]))
        have hd266_37 : ¬ ((own_un (4 : Int32) (0 : Int32) (2 : Int32) p3 p3) = (0 : Int32)) := by unfold own_un; simp
        refine own_st (fun t k => XS.ifNo X36.here hx rfl (hb hby at_266) rfl ((if0 _ _).trans (feq hd266_37).1) k) ?_
        show own_Fin _ _ _ _ _ _ _ (T36.setTop (mkF m 269 #[.val (.int p1), .val (.int p2), .val (.int p3), .val (.int ch), .val (.int (0 : Int32)), .val (.ref b1), .val (.int (2 : Int32)), .val (.int (2 : Int32)), .val (.int (235 : Int32)), .val (.int (((ch - (127 : Int32)) - (1 : Int32)) + (128 : Int32))), .val (.int (ch - (127 : Int32)))] []))
        refine own_st (fun t k => XS.aload X36.here hx rfl (hb hby at_269) rfl rfl k) ?_
        show own_Fin _ _ _ _ _ _ _ (T36.setTop (mkF m 271 #[.val (.int p1), .val (.int p2), .val (.int p3), .val (.int ch), .val (.int (0 : Int32)), .val (.ref b1), .val (.int (2 : Int32)), .val (.int (2 : Int32)), .val (.int (235 : Int32)), .val (.int (((ch - (127 : Int32)) - (1 : Int32)) + (128 : Int32))), .val (.int (ch - (127 : Int32)))] [(.ref b1)]))
        refine own_st (fun t k => XS.iconst X36.here hx rfl (hb hby at_271) k) ?_
        show own_Fin _ _ _ _ _ _ _ (T36.setTop (mkF m 272 #[.val (.int p1), .val (.int p2), .val (.int p3), .val (.int ch), .val (.int (0 : Int32)), .val (.ref b1), .val (.int (2 : Int32)), .val (.int (2 : Int32)), .val (.int (235 : Int32)), .val (.int (((ch - (127 : Int32)) - (1 : Int32)) + (128 : Int32))), .val (.int (ch - (127 : Int32)))] [(.int (5 : Int32)), (.ref b1)]))
        refine own_st (fun t k => XS.iload X36.here hx rfl (hb hby at_272) rfl k) ?_
        show own_Fin _ _ _ _ _ _ _ (T36.setTop (mkF m 274 #[.val (.int p1), .val (.int p2), .val (.int p3), .val (.int ch), .val (.int (0 : Int32)), .val (.ref b1), .val (.int (2 : Int32)), .val (.int (2 : Int32)), .val (.int (235 : Int32)), .val (.int (((ch - (127 : Int32)) - (1 : Int32)) + (128 : Int32))), .val (.int (ch - (127 : Int32)))] [(.int (0 : Int32)), (.int (5 : Int32)), (.ref b1)]))
        refine own_st (fun t k => XS.iload X36.here hx rfl (hb hby at_274) rfl k) ?_
        show own_Fin _ _ _ _ _ _ _ (T36.setTop (mkF m 276 #[.val (.int p1), .val (.int p2), .val (.int p3), .val (.int ch), .val (.int (0 : Int32)), .val (.ref b1), .val (.int (2 : Int32)), .val (.int (2 : Int32)), .val (.int (235 : Int32)), .val (.int (((ch - (127 : Int32)) - (1 : Int32)) + (128 : Int32))), .val (.int (ch - (127 : Int32)))] [(.int (2 : Int32)), (.int (0 : Int32)), (.int (5 : Int32)), (.ref b1)]))
        refine own_st (fun t k => XS.iloadN X36.here hx rfl (hb hby at_276) rfl k) ?_
        show own_Fin _ _ _ _ _ _ _ (T36.setTop (mkF m 277 #[.val (.int p1), .val (.int p2), .val (.int p3), .val (.int ch), .val (.int (0 : Int32)), .val (.ref b1), .val (.int (2 : Int32)), .val (.int (2 : Int32)), .val (.int (235 : Int32)), .val (.int (((ch - (127 : Int32)) - (1 : Int32)) + (128 : Int32))), .val (.int (ch - (127 : Int32)))] [(.int p3), (.int (2 : Int32)), (.int (0 : Int32)), (.int (5 : Int32)), (.ref b1)]))
        obtain ⟨_, _, ⟨T38, L38, k38, n38⟩, -, X38, ⟨Lc38, hQ38, l38, y38, z38⟩, st38⟩ := Jvm.LawKit.callS X36 hx (y := (⟨"com/example/quietzone/quietzone/datamatrix/AsciiEncodationWritePinLaw", "untouched", "([IIIII)Z"⟩ : MethodName)) hown (mvT hZ (hw _ (List.mem_of_getElem? (i := 6) rfl))) (mvT hZ (hw _ (List.mem_of_getElem? (i := 7) rfl))) (mvT hZ (hw _ (List.mem_of_getElem? (i := 8) rfl))) (mvT hZ (hw _ (List.mem_of_getElem? (i := 9) rfl))) (by decide) (backOf (W := 0) (rm2 l Z a0 hw [] b1 (5 : Int32) (0 : Int32) (2 : Int32) p3 k1 (6 : Int32) [(.int (235 : Int32)), (.int (ch - (127 : Int32))), (.int p3), (.int p3), (.int p3), (.int p3)] p3 T22.heap n0 Z22 Vx22 (by decide) (by decide) rfl) hZ (hw _ (List.mem_of_getElem? (i := 9) rfl)) (hw _ (List.mem_of_getElem? (i := 8) rfl)) (by decide) (by decide)) (g := (mkF m 277 #[.val (.int p1), .val (.int p2), .val (.int p3), .val (.int ch), .val (.int (0 : Int32)), .val (.ref b1), .val (.int (2 : Int32)), .val (.int (2 : Int32)), .val (.int (235 : Int32)), .val (.int (((ch - (127 : Int32)) - (1 : Int32)) + (128 : Int32))), .val (.int (ch - (127 : Int32)))] [(.int p3), (.int (2 : Int32)), (.int (0 : Int32)), (.int (5 : Int32)), (.ref b1)])) rfl (by rw [hml]; rfl) (argsL := [(.ref b1), (.int (5 : Int32)), (.int (0 : Int32)), (.int (2 : Int32)), (.int p3)]) (rest := []) (lenOf pd_0_1 rfl) rfl (by show 2 * 0 + _ ≤ _; exact Nat.le_of_eq rfl) (hb hby at_277) (fun _ _ => ⟨rfl, e36, (by decide : 1 + 0 ≤ _), (by decide : 6 + 0 ≤ _)⟩)
        dsimp only [Pt.U, Pt.locs, Pt.cells, Pt.slots] at X38 l38 y38 z38 st38 hQ38
        subst l38 y38 z38
        obtain ⟨rfl, N38q, e38⟩ := hQ38
        have N38 := Fr.app N36 N38q
        refine own_st st38 ?_
        show own_Fin _ _ _ _ _ _ _ (T38.setTop (mkF m 280 #[.val (.int p1), .val (.int p2), .val (.int p3), .val (.int ch), .val (.int (0 : Int32)), .val (.ref b1), .val (.int (2 : Int32)), .val (.int (2 : Int32)), .val (.int (235 : Int32)), .val (.int (((ch - (127 : Int32)) - (1 : Int32)) + (128 : Int32))), .val (.int (ch - (127 : Int32)))] [(.int (own_un (5 : Int32) (0 : Int32) (2 : Int32) p3 p3))]))
        have hd280_39 : ¬ ((own_un (5 : Int32) (0 : Int32) (2 : Int32) p3 p3) = (0 : Int32)) := by unfold own_un; simp
        refine own_st (fun t k => XS.ifNo X38.here hx rfl (hb hby at_280) rfl ((if0 _ _).trans (feq hd280_39).1) k) ?_
        show own_Fin _ _ _ _ _ _ _ (T38.setTop (mkF m 283 #[.val (.int p1), .val (.int p2), .val (.int p3), .val (.int ch), .val (.int (0 : Int32)), .val (.ref b1), .val (.int (2 : Int32)), .val (.int (2 : Int32)), .val (.int (235 : Int32)), .val (.int (((ch - (127 : Int32)) - (1 : Int32)) + (128 : Int32))), .val (.int (ch - (127 : Int32)))] []))
        refine own_st (fun t k => XS.iconst X38.here hx rfl (hb hby at_283) k) ?_
        show own_Fin _ _ _ _ _ _ _ (T38.setTop (mkF m 284 #[.val (.int p1), .val (.int p2), .val (.int p3), .val (.int ch), .val (.int (0 : Int32)), .val (.ref b1), .val (.int (2 : Int32)), .val (.int (2 : Int32)), .val (.int (235 : Int32)), .val (.int (((ch - (127 : Int32)) - (1 : Int32)) + (128 : Int32))), .val (.int (ch - (127 : Int32)))] [(.int (1 : Int32))]))
        refine own_st (fun t k => XS.goto X38.here hx rfl (pc0 := 284) (pc' := 288) rfl (hb hby at_284) (by decide) (by decide) k) ?_
        show own_Fin _ _ _ _ _ _ _ (T38.setTop (mkF m 288 #[.val (.int p1), .val (.int p2), .val (.int p3), .val (.int ch), .val (.int (0 : Int32)), .val (.ref b1), .val (.int (2 : Int32)), .val (.int (2 : Int32)), .val (.int (235 : Int32)), .val (.int (((ch - (127 : Int32)) - (1 : Int32)) + (128 : Int32))), .val (.int (ch - (127 : Int32)))] [(.int (1 : Int32))]))
        exact own_retN X38 hx Bd.notSynchronized (t := .boolean) Bd.returns (by simp) (hb hby at_288) (by decide) (by decide) ⟨rfl, N38, trivial⟩
      · show own_Fin _ _ _ _ _ _ _ (T7.setTop (mkF m 44 #[.val (.int p1), .val (.int p2), .val (.int p3), .val (.int ch), .val (.int (0 : Int32)), .val (.ref b1), .unset, .unset, .unset, .unset, .unset] []))
        refine own_st (fun t k => XS.iloadN X7.here hx rfl (hb hby at_44) rfl k) ?_
        show own_Fin _ _ _ _ _ _ _ (T7.setTop (mkF m 45 #[.val (.int p1), .val (.int p2), .val (.int p3), .val (.int ch), .val (.int (0 : Int32)), .val (.ref b1), .unset, .unset, .unset, .unset, .unset] [(.int ch)]))
        refine own_st (fun t k => XS.aload X7.here hx rfl (hb hby at_45) rfl rfl k) ?_
        show own_Fin _ _ _ _ _ _ _ (T7.setTop (mkF m 47 #[.val (.int p1), .val (.int p2), .val (.int p3), .val (.int ch), .val (.int (0 : Int32)), .val (.ref b1), .unset, .unset, .unset, .unset, .unset] [(.ref b1), (.int ch)]))
        refine own_st (fun t k => XS.iload X7.here hx rfl (hb hby at_47) rfl k) ?_
        show own_Fin _ _ _ _ _ _ _ (T7.setTop (mkF m 49 #[.val (.int p1), .val (.int p2), .val (.int p3), .val (.int ch), .val (.int (0 : Int32)), .val (.ref b1), .unset, .unset, .unset, .unset, .unset] [(.int (0 : Int32)), (.ref b1), (.int ch)]))
        obtain ⟨_, _, ⟨T40, L40, k40, n40⟩, -, X40, ⟨Lc40, hQ40, l40, y40, z40⟩, st40⟩ := Jvm.LawKit.callS X7 hx (y := (⟨"com/example/quietzone/quietzone/datamatrix/AsciiEncodation", "write", "(I[II)I"⟩ : MethodName)) hown (mvT hZ (hw _ (List.mem_of_getElem? (i := 2) rfl))) (mvT hZ (hw _ (List.mem_of_getElem? (i := 3) rfl))) (mvT hZ (hw _ (List.mem_of_getElem? (i := 4) rfl))) (mvT hZ (hw _ (List.mem_of_getElem? (i := 5) rfl))) (by decide) (backOf (W := 0) (rm1 l Z a0 hw [] ch b1 (0 : Int32) k1 (6 : Int32) [(.int p3), (.int p3), (.int p3), (.int p3), (.int p3), (.int p3)] h7 n0 Z7 V7 ge_b1 (by decide) (by decide) (by decide) (by decide) (Nat.le_of_ble_eq_true rfl) (Nat.le_of_ble_eq_true rfl)) hZ (hw _ (List.mem_of_getElem? (i := 5) rfl)) (hw _ (List.mem_of_getElem? (i := 4) rfl)) (by decide) (by decide)) (g := (mkF m 49 #[.val (.int p1), .val (.int p2), .val (.int p3), .val (.int ch), .val (.int (0 : Int32)), .val (.ref b1), .unset, .unset, .unset, .unset, .unset] [(.int (0 : Int32)), (.ref b1), (.int ch)])) rfl (by rw [hml]; rfl) (argsL := [(.int ch), (.ref b1), (.int (0 : Int32))]) (rest := []) (lenOf pd_0_0 rfl) rfl (by show 2 * 0 + _ ≤ _; exact Nat.le_of_eq rfl) (hb hby at_49) (fun _ _ => ⟨rfl, e7, (by decide : 1 + 0 ≤ _), (by decide : 6 + 0 ≤ _)⟩)
        dsimp only [Pt.U, Pt.locs, Pt.cells, Pt.slots] at X40 l40 y40 z40 st40 hQ40
        subst l40 y40 z40
        obtain ⟨rfl, N40q, K40, o40⟩ := hQ40
        have N40 := Fr.app N7 N40q
        have Z40 : n0 ≤ T40.heap.size := Nat.le_trans Z7 K40.1
        refine own_st st40 ?_
        show own_Fin _ _ _ _ _ _ _ (T40.setTop (mkF m 52 #[.val (.int p1), .val (.int p2), .val (.int p3), .val (.int ch), .val (.int (0 : Int32)), .val (.ref b1), .unset, .unset, .unset, .unset, .unset] [(.int (own_wr ch (0 : Int32)))]))
        have Vx40 : Arv Z T40.heap b1 k1 .int (6 : Int32) [(.int (ch + (1 : Int32))), (.int p3), (.int p3), (.int p3), (.int p3), (.int p3)] (.int (0 : Int32)) := by have q := o40; unfold own_wv at q; rw [if_neg hA, if_neg hB] at q; exact q
        have rx40 : (own_wr ch (0 : Int32)) = (1 : Int32) := by unfold own_wr; rw [if_neg hA, if_neg hB]; rfl
        rw [rx40]
        show own_Fin _ _ _ _ _ _ _ (T40.setTop (mkF m 52 #[.val (.int p1), .val (.int p2), .val (.int p3), .val (.int ch), .val (.int (0 : Int32)), .val (.ref b1), .unset, .unset, .unset, .unset, .unset] [(.int (1 : Int32))]))
        refine own_st (fun t k => XS.istore X40.here hx rfl (hb hby at_52) rfl (l' := #[.val (.int p1), .val (.int p2), .val (.int p3), .val (.int ch), .val (.int (0 : Int32)), .val (.ref b1), .val (.int (1 : Int32)), .unset, .unset, .unset, .unset]) rfl k) ?_
        show own_Fin _ _ _ _ _ _ _ (T40.setTop (mkF m 54 #[.val (.int p1), .val (.int p2), .val (.int p3), .val (.int ch), .val (.int (0 : Int32)), .val (.ref b1), .val (.int (1 : Int32)), .unset, .unset, .unset, .unset] []))
        refine own_st (fun t k => XS.iload X40.here hx rfl (hb hby at_54) rfl k) ?_
        show own_Fin _ _ _ _ _ _ _ (T40.setTop (mkF m 56 #[.val (.int p1), .val (.int p2), .val (.int p3), .val (.int ch), .val (.int (0 : Int32)), .val (.ref b1), .val (.int (1 : Int32)), .unset, .unset, .unset, .unset] [(.int (1 : Int32))]))
        refine own_st (fun t k => XS.iload X40.here hx rfl (hb hby at_56) rfl k) ?_
        show own_Fin _ _ _ _ _ _ _ (T40.setTop (mkF m 58 #[.val (.int p1), .val (.int p2), .val (.int p3), .val (.int ch), .val (.int (0 : Int32)), .val (.ref b1), .val (.int (1 : Int32)), .unset, .unset, .unset, .unset] [(.int (0 : Int32)), (.int (1 : Int32))]))
        refine own_st (fun t k => XS.isub X40.here hx rfl (hb hby at_58) rfl k) ?_
        show own_Fin _ _ _ _ _ _ _ (T40.setTop (mkF m 59 #[.val (.int p1), .val (.int p2), .val (.int p3), .val (.int ch), .val (.int (0 : Int32)), .val (.ref b1), .val (.int (1 : Int32)), .unset, .unset, .unset, .unset] [(.int (1 : Int32))]))
        refine own_st (fun t k => XS.istore X40.here hx rfl (hb hby at_59) rfl (l' := #[.val (.int p1), .val (.int p2), .val (.int p3), .val (.int ch), .val (.int (0 : Int32)), .val (.ref b1), .val (.int (1 : Int32)), .val (.int (1 : Int32)), .unset, .unset, .unset]) rfl k) ?_
        show own_Fin _ _ _ _ _ _ _ (T40.setTop (mkF m 61 #[.val (.int p1), .val (.int p2), .val (.int p3), .val (.int ch), .val (.int (0 : Int32)), .val (.ref b1), .val (.int (1 : Int32)), .val (.int (1 : Int32)), .unset, .unset, .unset] []))
        refine own_st (fun t k => XS.iload X40.here hx rfl (hb hby at_61) rfl k) ?_
        show own_Fin _ _ _ _ _ _ _ (T40.setTop (mkF m 63 #[.val (.int p1), .val (.int p2), .val (.int p3), .val (.int ch), .val (.int (0 : Int32)), .val (.ref b1), .val (.int (1 : Int32)), .val (.int (1 : Int32)), .unset, .unset, .unset] [(.int (1 : Int32))]))
        refine own_st (fun t k => XS.iconst X40.here hx rfl (hb hby at_63) k) ?_
        show own_Fin _ _ _ _ _ _ _ (T40.setTop (mkF m 64 #[.val (.int p1), .val (.int p2), .val (.int p3), .val (.int ch), .val (.int (0 : Int32)), .val (.ref b1), .val (.int (1 : Int32)), .val (.int (1 : Int32)), .unset, .unset, .unset] [(.int (1 : Int32)), (.int (1 : Int32))]))
        refine own_st (fun t k => XS.icmpNo X40.here hx rfl (hb hby at_64) rfl (flt (by decide : ¬ ((1 : Int32) < (1 : Int32)))).1 k) ?_
        show own_Fin _ _ _ _ _ _ _ (T40.setTop (mkF m 67 #[.val (.int p1), .val (.int p2), .val (.int p3), .val (.int ch), .val (.int (0 : Int32)), .val (.ref b1), .val (.int (1 : Int32)), .val (.int (1 : Int32)), .unset, .unset, .unset] []))
        refine own_st (fun t k => XS.iload X40.here hx rfl (hb hby at_67) rfl k) ?_
        show own_Fin _ _ _ _ _ _ _ (T40.setTop (mkF m 69 #[.val (.int p1), .val (.int p2), .val (.int p3), .val (.int ch), .val (.int (0 : Int32)), .val (.ref b1), .val (.int (1 : Int32)), .val (.int (1 : Int32)), .unset, .unset, .unset] [(.int (1 : Int32))]))
        refine own_st (fun t k => XS.iconst X40.here hx rfl (hb hby at_69) k) ?_
        show own_Fin _ _ _ _ _ _ _ (T40.setTop (mkF m 70 #[.val (.int p1), .val (.int p2), .val (.int p3), .val (.int ch), .val (.int (0 : Int32)), .val (.ref b1), .val (.int (1 : Int32)), .val (.int (1 : Int32)), .unset, .unset, .unset] [(.int (2 : Int32)), (.int (1 : Int32))]))
        refine own_st (fun t k => XS.icmpYes X40.here hx rfl (pc0 := 70) (pc' := 75) rfl (hb hby at_70) rfl (flt (by decide : ¬ ((2 : Int32) < (1 : Int32)))).2.2.2 (by decide) (by decide) k) ?_
        show own_Fin _ _ _ _ _ _ _ (T40.setTop (mkF m 75 #[.val (.int p1), .val (.int p2), .val (.int p3), .val (.int ch), .val (.int (0 : Int32)), .val (.ref b1), .val (.int (1 : Int32)), .val (.int (1 : Int32)), .unset, .unset, .unset] []))
        refine own_st (fun t k => XS.aload X40.here hx rfl (hb hby at_75) rfl rfl k) ?_
        show own_Fin _ _ _ _ _ _ _ (T40.setTop (mkF m 77 #[.val (.int p1), .val (.int p2), .val (.int p3), .val (.int ch), .val (.int (0 : Int32)), .val (.ref b1), .val (.int (1 : Int32)), .val (.int (1 : Int32)), .unset, .unset, .unset] [(.ref b1)]))
        refine own_st (fun t k => XS.iload X40.here hx rfl (hb hby at_77) rfl k) ?_
        show own_Fin _ _ _ _ _ _ _ (T40.setTop (mkF m 79 #[.val (.int p1), .val (.int p2), .val (.int p3), .val (.int ch), .val (.int (0 : Int32)), .val (.ref b1), .val (.int (1 : Int32)), .val (.int (1 : Int32)), .unset, .unset, .unset] [(.int (0 : Int32)), (.ref b1)]))
        obtain ⟨cl41, Ar41, Cq41, Sz41, Mn41, Hs41, Gf41⟩ := id Vx40
        have hin41 := inb_of Sz41 (j := (0 : Int32)) ⟨by decide, by decide⟩
        refine own_st (X40.iaload hx (j := (0 : Int32)) (v := (.int (ch + (1 : Int32)))) Ar41.1 (State.isArrayOf_alike hZ.alike Ar41.2.1) Ar41.2.2 hin41 (Hs41.at hin41 rfl) (g := (mkF m 79 #[.val (.int p1), .val (.int p2), .val (.int p3), .val (.int ch), .val (.int (0 : Int32)), .val (.ref b1), .val (.int (1 : Int32)), .val (.int (1 : Int32)), .unset, .unset, .unset] [(.int (0 : Int32)), (.ref b1)])) rfl rfl (hb hby at_79)) ?_
        show own_Fin _ _ _ _ _ _ _ (T40.setTop (mkF m 80 #[.val (.int p1), .val (.int p2), .val (.int p3), .val (.int ch), .val (.int (0 : Int32)), .val (.ref b1), .val (.int (1 : Int32)), .val (.int (1 : Int32)), .unset, .unset, .unset] [(.int (ch + (1 : Int32)))]))
        refine own_st (fun t k => XS.istore X40.here hx rfl (hb hby at_80) rfl (l' := #[.val (.int p1), .val (.int p2), .val (.int p3), .val (.int ch), .val (.int (0 : Int32)), .val (.ref b1), .val (.int (1 : Int32)), .val (.int (1 : Int32)), .val (.int (ch + (1 : Int32))), .unset, .unset]) rfl k) ?_
        show own_Fin _ _ _ _ _ _ _ (T40.setTop (mkF m 82 #[.val (.int p1), .val (.int p2), .val (.int p3), .val (.int ch), .val (.int (0 : Int32)), .val (.ref b1), .val (.int (1 : Int32)), .val (.int (1 : Int32)), .val (.int (ch + (1 : Int32))), .unset, .unset] []))
        refine own_st (fun t k => XS.iload X40.here hx rfl (hb hby at_82) rfl k) ?_
        show own_Fin _ _ _ _ _ _ _ (T40.setTop (mkF m 84 #[.val (.int p1), .val (.int p2), .val (.int p3), .val (.int ch), .val (.int (0 : Int32)), .val (.ref b1), .val (.int (1 : Int32)), .val (.int (1 : Int32)), .val (.int (ch + (1 : Int32))), .unset, .unset] [(.int (ch + (1 : Int32)))]))
        refine own_st (fun t k => XS.iconst X40.here hx rfl (hb hby at_84) k) ?_
        show own_Fin _ _ _ _ _ _ _ (T40.setTop (mkF m 85 #[.val (.int p1), .val (.int p2), .val (.int p3), .val (.int ch), .val (.int (0 : Int32)), .val (.ref b1), .val (.int (1 : Int32)), .val (.int (1 : Int32)), .val (.int (ch + (1 : Int32))), .unset, .unset] [(.int (1 : Int32)), (.int (ch + (1 : Int32)))]))
        have hd85_42 : ¬ ((ch + (1 : Int32)) < (1 : Int32)) := (own_lo hc0.1 hB).1
        refine own_st (fun t k => XS.icmpNo X40.here hx rfl (hb hby at_85) rfl (flt hd85_42).1 k) ?_
        show own_Fin _ _ _ _ _ _ _ (T40.setTop (mkF m 88 #[.val (.int p1), .val (.int p2), .val (.int p3), .val (.int ch), .val (.int (0 : Int32)), .val (.ref b1), .val (.int (1 : Int32)), .val (.int (1 : Int32)), .val (.int (ch + (1 : Int32))), .unset, .unset] []))
        refine own_st (fun t k => XS.iload X40.here hx rfl (hb hby at_88) rfl k) ?_
        show own_Fin _ _ _ _ _ _ _ (T40.setTop (mkF m 90 #[.val (.int p1), .val (.int p2), .val (.int p3), .val (.int ch), .val (.int (0 : Int32)), .val (.ref b1), .val (.int (1 : Int32)), .val (.int (1 : Int32)), .val (.int (ch + (1 : Int32))), .unset, .unset] [(.int (ch + (1 : Int32)))]))
        refine own_st (fun t k => XS.sipush X40.here hx rfl (hb hby at_90) k) ?_
        show own_Fin _ _ _ _ _ _ _ (T40.setTop (mkF m 93 #[.val (.int p1), .val (.int p2), .val (.int p3), .val (.int ch), .val (.int (0 : Int32)), .val (.ref b1), .val (.int (1 : Int32)), .val (.int (1 : Int32)), .val (.int (ch + (1 : Int32))), .unset, .unset] [(.int (128 : Int32)), (.int (ch + (1 : Int32)))]))
        have hd93_43 : ¬ ((128 : Int32) < (ch + (1 : Int32))) := (own_lo hc0.1 hB).2.1
        refine own_st (fun t k => XS.icmpNo X40.here hx rfl (hb hby at_93) rfl (flt hd93_43).2.2.1 k) ?_
        show own_Fin _ _ _ _ _ _ _ (T40.setTop (mkF m 96 #[.val (.int p1), .val (.int p2), .val (.int p3), .val (.int ch), .val (.int (0 : Int32)), .val (.ref b1), .val (.int (1 : Int32)), .val (.int (1 : Int32)), .val (.int (ch + (1 : Int32))), .unset, .unset] []))
        refine own_st (fun t k => XS.iload X40.here hx rfl (hb hby at_96) rfl k) ?_
        show own_Fin _ _ _ _ _ _ _ (T40.setTop (mkF m 98 #[.val (.int p1), .val (.int p2), .val (.int p3), .val (.int ch), .val (.int (0 : Int32)), .val (.ref b1), .val (.int (1 : Int32)), .val (.int (1 : Int32)), .val (.int (ch + (1 : Int32))), .unset, .unset] [(.int (1 : Int32))]))
        refine own_st (fun t k => XS.iconst X40.here hx rfl (hb hby at_98) k) ?_
        show own_Fin _ _ _ _ _ _ _ (T40.setTop (mkF m 99 #[.val (.int p1), .val (.int p2), .val (.int p3), .val (.int ch), .val (.int (0 : Int32)), .val (.ref b1), .val (.int (1 : Int32)), .val (.int (1 : Int32)), .val (.int (ch + (1 : Int32))), .unset, .unset] [(.int (1 : Int32)), (.int (1 : Int32))]))
        refine own_st (fun t k => XS.icmpYes X40.here hx rfl (pc0 := 99) (pc' := 104) rfl (hb hby at_99) rfl (teq (by decide : (1 : Int32) = (1 : Int32))).1 (by decide) (by decide) k) ?_
        show own_Fin _ _ _ _ _ _ _ (T40.setTop (mkF m 104 #[.val (.int p1), .val (.int p2), .val (.int p3), .val (.int ch), .val (.int (0 : Int32)), .val (.ref b1), .val (.int (1 : Int32)), .val (.int (1 : Int32)), .val (.int (ch + (1 : Int32))), .unset, .unset] []))
        refine own_st (fun t k => XS.iload X40.here hx rfl (hb hby at_104) rfl k) ?_
        show own_Fin _ _ _ _ _ _ _ (T40.setTop (mkF m 106 #[.val (.int p1), .val (.int p2), .val (.int p3), .val (.int ch), .val (.int (0 : Int32)), .val (.ref b1), .val (.int (1 : Int32)), .val (.int (1 : Int32)), .val (.int (ch + (1 : Int32))), .unset, .unset] [(.int (ch + (1 : Int32)))]))
        refine own_st (fun t k => XS.iconst X40.here hx rfl (hb hby at_106) k) ?_
        show own_Fin _ _ _ _ _ _ _ (T40.setTop (mkF m 107 #[.val (.int p1), .val (.int p2), .val (.int p3), .val (.int ch), .val (.int (0 : Int32)), .val (.ref b1), .val (.int (1 : Int32)), .val (.int (1 : Int32)), .val (.int (ch + (1 : Int32))), .unset, .unset] [(.int (1 : Int32)), (.int (ch + (1 : Int32)))]))
        refine own_st (fun t k => XS.isub X40.here hx rfl (hb hby at_107) rfl k) ?_
        show own_Fin _ _ _ _ _ _ _ (T40.setTop (mkF m 108 #[.val (.int p1), .val (.int p2), .val (.int p3), .val (.int ch), .val (.int (0 : Int32)), .val (.ref b1), .val (.int (1 : Int32)), .val (.int (1 : Int32)), .val (.int (ch + (1 : Int32))), .unset, .unset] [(.int ((ch + (1 : Int32)) - (1 : Int32)))]))
        refine own_st (fun t k => XS.istore X40.here hx rfl (hb hby at_108) rfl (l' := #[.val (.int p1), .val (.int p2), .val (.int p3), .val (.int ch), .val (.int (0 : Int32)), .val (.ref b1), .val (.int (1 : Int32)), .val (.int (1 : Int32)), .val (.int (ch + (1 : Int32))), .val (.int ((ch + (1 : Int32)) - (1 : Int32))), .unset]) rfl k) ?_
        show own_Fin _ _ _ _ _ _ _ (T40.setTop (mkF m 110 #[.val (.int p1), .val (.int p2), .val (.int p3), .val (.int ch), .val (.int (0 : Int32)), .val (.ref b1), .val (.int (1 : Int32)), .val (.int (1 : Int32)), .val (.int (ch + (1 : Int32))), .val (.int ((ch + (1 : Int32)) - (1 : Int32))), .unset] []))
        refine own_st (fun t k => XS.goto X40.here hx rfl (pc0 := 110) (pc' := 193) rfl (hb hby at_110) (by decide) (by decide) k) ?_
        show own_Fin _ _ _ _ _ _ _ (T40.setTop (mkF m 193 #[.val (.int p1), .val (.int p2), .val (.int p3), .val (.int ch), .val (.int (0 : Int32)), .val (.ref b1), .val (.int (1 : Int32)), .val (.int (1 : Int32)), .val (.int (ch + (1 : Int32))), .val (.int ((ch + (1 : Int32)) - (1 : Int32))), .unset] []))
        refine own_st (fun t k => XS.iload X40.here hx rfl (hb hby at_193) rfl k) ?_
        show own_Fin _ _ _ _ _ _ _ (T40.setTop (mkF m 195 #[.val (.int p1), .val (.int p2), .val (.int p3), .val (.int ch), .val (.int (0 : Int32)), .val (.ref b1), .val (.int (1 : Int32)), .val (.int (1 : Int32)), .val (.int (ch + (1 : Int32))), .val (.int ((ch + (1 : Int32)) - (1 : Int32))), .unset] [(.int ((ch + (1 : Int32)) - (1 : Int32)))]))
        refine own_st (fun t k => XS.iloadN X40.here hx rfl (hb hby at_195) rfl k) ?_
        show own_Fin _ _ _ _ _ _ _ (T40.setTop (mkF m 196 #[.val (.int p1), .val (.int p2), .val (.int p3), .val (.int ch), .val (.int (0 : Int32)), .val (.ref b1), .val (.int (1 : Int32)), .val (.int (1 : Int32)), .val (.int (ch + (1 : Int32))), .val (.int ((ch + (1 : Int32)) - (1 : Int32))), .unset] [(.int ch), (.int ((ch + (1 : Int32)) - (1 : Int32)))]))
        have hd196_44 : ((ch + (1 : Int32)) - (1 : Int32)) = ch := (own_lo hc0.1 hB).2.2
        refine own_st (fun t k => XS.icmpNo X40.here hx rfl (hb hby at_196) rfl (teq hd196_44).2 k) ?_
        show own_Fin _ _ _ _ _ _ _ (T40.setTop (mkF m 199 #[.val (.int p1), .val (.int p2), .val (.int p3), .val (.int ch), .val (.int (0 : Int32)), .val (.ref b1), .val (.int (1 : Int32)), .val (.int (1 : Int32)), .val (.int (ch + (1 : Int32))), .val (.int ((ch + (1 : Int32)) - (1 : Int32))), .unset] []))
        refine own_st (fun t k => XS.aload X40.here hx rfl (hb hby at_199) rfl rfl k) ?_
        show own_Fin _ _ _ _ _ _ _ (T40.setTop (mkF m 201 #[.val (.int p1), .val (.int p2), .val (.int p3), .val (.int ch), .val (.int (0 : Int32)), .val (.ref b1), .val (.int (1 : Int32)), .val (.int (1 : Int32)), .val (.int (ch + (1 : Int32))), .val (.int ((ch + (1 : Int32)) - (1 : Int32))), .unset] [(.ref b1)]))
        refine own_st (fun t k => XS.iconst X40.here hx rfl (hb hby at_201) k) ?_
        show own_Fin _ _ _ _ _ _ _ (T40.setTop (mkF m 202 #[.val (.int p1), .val (.int p2), .val (.int p3), .val (.int ch), .val (.int (0 : Int32)), .val (.ref b1), .val (.int (1 : Int32)), .val (.int (1 : Int32)), .val (.int (ch + (1 : Int32))), .val (.int ((ch + (1 : Int32)) - (1 : Int32))), .unset] [(.int (0 : Int32)), (.ref b1)]))
        refine own_st (fun t k => XS.iload X40.here hx rfl (hb hby at_202) rfl k) ?_
        show own_Fin _ _ _ _ _ _ _ (T40.setTop (mkF m 204 #[.val (.int p1), .val (.int p2), .val (.int p3), .val (.int ch), .val (.int (0 : Int32)), .val (.ref b1), .val (.int (1 : Int32)), .val (.int (1 : Int32)), .val (.int (ch + (1 : Int32))), .val (.int ((ch + (1 : Int32)) - (1 : Int32))), .unset] [(.int (0 : Int32)), (.int (0 : Int32)), (.ref b1)]))
        refine own_st (fun t k => XS.iload X40.here hx rfl (hb hby at_204) rfl k) ?_
        show own_Fin _ _ _ _ _ _ _ (T40.setTop (mkF m 206 #[.val (.int p1), .val (.int p2), .val (.int p3), .val (.int ch), .val (.int (0 : Int32)), .val (.ref b1), .val (.int (1 : Int32)), .val (.int (1 : Int32)), .val (.int (ch + (1 : Int32))), .val (.int ((ch + (1 : Int32)) - (1 : Int32))), .unset] [(.int (1 : Int32)), (.int (0 : Int32)), (.int (0 : Int32)), (.ref b1)]))
        refine own_st (fun t k => XS.iloadN X40.here hx rfl (hb hby at_206) rfl k) ?_
        show own_Fin _ _ _ _ _ _ _ (T40.setTop (mkF m 207 #[.val (.int p1), .val (.int p2), .val (.int p3), .val (.int ch), .val (.int (0 : Int32)), .val (.ref b1), .val (.int (1 : Int32)), .val (.int (1 : Int32)), .val (.int (ch + (1 : Int32))), .val (.int ((ch + (1 : Int32)) - (1 : Int32))), .unset] [(.int p3), (.int (1 : Int32)), (.int (0 : Int32)), (.int (0 : Int32)), (.ref b1)]))
        obtain ⟨_, _, ⟨T45, L45, k45, n45⟩, -, X45, ⟨Lc45, hQ45, l45, y45, z45⟩, st45⟩ := Jvm.LawKit.callS X40 hx (y := (⟨"com/example/quietzone/quietzone/datamatrix/AsciiEncodationWritePinLaw", "untouched", "([IIIII)Z"⟩ : MethodName)) hown (mvT hZ (hw _ (List.mem_of_getElem? (i := 6) rfl))) (mvT hZ (hw _ (List.mem_of_getElem? (i := 7) rfl))) (mvT hZ (hw _ (List.mem_of_getElem? (i := 8) rfl))) (mvT hZ (hw _ (List.mem_of_getElem? (i := 9) rfl))) (by decide) (backOf (W := 0) (rm2 l Z a0 hw [] b1 (0 : Int32) (0 : Int32) (1 : Int32) p3 k1 (6 : Int32) [(.int (ch + (1 : Int32))), (.int p3), (.int p3), (.int p3), (.int p3), (.int p3)] (ch + (1 : Int32)) T40.heap n0 Z40 Vx40 (by decide) (by decide) rfl) hZ (hw _ (List.mem_of_getElem? (i := 9) rfl)) (hw _ (List.mem_of_getElem? (i := 8) rfl)) (by decide) (by decide)) (g := (mkF m 207 #[.val (.int p1), .val (.int p2), .val (.int p3), .val (.int ch), .val (.int (0 : Int32)), .val (.ref b1), .val (.int (1 : Int32)), .val (.int (1 : Int32)), .val (.int (ch + (1 : Int32))), .val (.int ((ch + (1 : Int32)) - (1 : Int32))), .unset] [(.int p3), (.int (1 : Int32)), (.int (0 : Int32)), (.int (0 : Int32)), (.ref b1)])) rfl (by rw [hml]; rfl) (argsL := [(.ref b1), (.int (0 : Int32)), (.int (0 : Int32)), (.int (1 : Int32)), (.int p3)]) (rest := []) (lenOf pd_0_1 rfl) rfl (by show 2 * 0 + _ ≤ _; exact Nat.le_of_eq rfl) (hb hby at_207) (fun _ _ => ⟨rfl, rfl, (by decide : 1 + 0 ≤ _), (by decide : 6 + 0 ≤ _)⟩)
        dsimp only [Pt.U, Pt.locs, Pt.cells, Pt.slots] at X45 l45 y45 z45 st45 hQ45
        subst l45 y45 z45
        obtain ⟨rfl, N45q, e45⟩ := hQ45
        have N45 := Fr.app N40 N45q
        refine own_st st45 ?_
        show own_Fin _ _ _ _ _ _ _ (T45.setTop (mkF m 210 #[.val (.int p1), .val (.int p2), .val (.int p3), .val (.int ch), .val (.int (0 : Int32)), .val (.ref b1), .val (.int (1 : Int32)), .val (.int (1 : Int32)), .val (.int (ch + (1 : Int32))), .val (.int ((ch + (1 : Int32)) - (1 : Int32))), .unset] [(.int (own_un (0 : Int32) (0 : Int32) (1 : Int32) p3 (ch + (1 : Int32))))]))
        have hd210_46 : ¬ ((own_un (0 : Int32) (0 : Int32) (1 : Int32) p3 (ch + (1 : Int32))) = (0 : Int32)) := by unfold own_un; simp
        refine own_st (fun t k => XS.ifNo X45.here hx rfl (hb hby at_210) rfl ((if0 _ _).trans (feq hd210_46).1) k) ?_
        show own_Fin _ _ _ _ _ _ _ (T45.setTop (mkF m 213 #[.val (.int p1), .val (.int p2), .val (.int p3), .val (.int ch), .val (.int (0 : Int32)), .val (.ref b1), .val (.int (1 : Int32)), .val (.int (1 : Int32)), .val (.int (ch + (1 : Int32))), .val (.int ((ch + (1 : Int32)) - (1 : Int32))), .unset] []))
        refine own_st (fun t k => XS.aload X45.here hx rfl (hb hby at_213) rfl rfl k) ?_
        show own_Fin _ _ _ _ _ _ _ (T45.setTop (mkF m 215 #[.val (.int p1), .val (.int p2), .val (.int p3), .val (.int ch), .val (.int (0 : Int32)), .val (.ref b1), .val (.int (1 : Int32)), .val (.int (1 : Int32)), .val (.int (ch + (1 : Int32))), .val (.int ((ch + (1 : Int32)) - (1 : Int32))), .unset] [(.ref b1)]))
        refine own_st (fun t k => XS.iconst X45.here hx rfl (hb hby at_215) k) ?_
        show own_Fin _ _ _ _ _ _ _ (T45.setTop (mkF m 216 #[.val (.int p1), .val (.int p2), .val (.int p3), .val (.int ch), .val (.int (0 : Int32)), .val (.ref b1), .val (.int (1 : Int32)), .val (.int (1 : Int32)), .val (.int (ch + (1 : Int32))), .val (.int ((ch + (1 : Int32)) - (1 : Int32))), .unset] [(.int (1 : Int32)), (.ref b1)]))
        refine own_st (fun t k => XS.iload X45.here hx rfl (hb hby at_216) rfl k) ?_
        show own_Fin _ _ _ _ _ _ _ (T45.setTop (mkF m 218 #[.val (.int p1), .val (.int p2), .val (.int p3), .val (.int ch), .val (.int (0 : Int32)), .val (.ref b1), .val (.int (1 : Int32)), .val (.int (1 : Int32)), .val (.int (ch + (1 : Int32))), .val (.int ((ch + (1 : Int32)) - (1 : Int32))), .unset] [(.int (0 : Int32)), (.int (1 : Int32)), (.ref b1)]))
        refine own_st (fun t k => XS.iload X45.here hx rfl (hb hby at_218) rfl k) ?_
        show own_Fin _ _ _ _ _ _ _ (T45.setTop (mkF m 220 #[.val (.int p1), .val (.int p2), .val (.int p3), .val (.int ch), .val (.int (0 : Int32)), .val (.ref b1), .val (.int (1 : Int32)), .val (.int (1 : Int32)), .val (.int (ch + (1 : Int32))), .val (.int ((ch + (1 : Int32)) - (1 : Int32))), .unset] [(.int (1 : Int32)), (.int (0 : Int32)), (.int (1 : Int32)), (.ref b1)]))
        refine own_st (fun t k => XS.iloadN X45.here hx rfl (hb hby at_220) rfl k) ?_
        show own_Fin _ _ _ _ _ _ _ (T45.setTop (mkF m 221 #[.val (.int p1), .val (.int p2), .val (.int p3), .val (.int ch), .val (.int (0 : Int32)), .val (.ref b1), .val (.int (1 : Int32)), .val (.int (1 : Int32)), .val (.int (ch + (1 : Int32))), .val (.int ((ch + (1 : Int32)) - (1 : Int32))), .unset] [(.int p3), (.int (1 : Int32)), (.int (0 : Int32)), (.int (1 : Int32)), (.ref b1)]))
        obtain ⟨_, _, ⟨T47, L47, k47, n47⟩, -, X47, ⟨Lc47, hQ47, l47, y47, z47⟩, st47⟩ := Jvm.LawKit.callS X45 hx (y := (⟨"com/example/quietzone/quietzone/datamatrix/AsciiEncodationWritePinLaw", "untouched", "([IIIII)Z"⟩ : MethodName)) hown (mvT hZ (hw _ (List.mem_of_getElem? (i := 6) rfl))) (mvT hZ (hw _ (List.mem_of_getElem? (i := 7) rfl))) (mvT hZ (hw _ (List.mem_of_getElem? (i := 8) rfl))) (mvT hZ (hw _ (List.mem_of_getElem? (i := 9) rfl))) (by decide) (backOf (W := 0) (rm2 l Z a0 hw [] b1 (1 : Int32) (0 : Int32) (1 : Int32) p3 k1 (6 : Int32) [(.int (ch + (1 : Int32))), (.int p3), (.int p3), (.int p3), (.int p3), (.int p3)] p3 T40.heap n0 Z40 Vx40 (by decide) (by decide) rfl) hZ (hw _ (List.mem_of_getElem? (i := 9) rfl)) (hw _ (List.mem_of_getElem? (i := 8) rfl)) (by decide) (by decide)) (g := (mkF m 221 #[.val (.int p1), .val (.int p2), .val (.int p3), .val (.int ch), .val (.int (0 : Int32)), .val (.ref b1), .val (.int (1 : Int32)), .val (.int (1 : Int32)), .val (.int (ch + (1 : Int32))), .val (.int ((ch + (1 : Int32)) - (1 : Int32))), .unset] [(.int p3), (.int (1 : Int32)), (.int (0 : Int32)), (.int (1 : Int32)), (.ref b1)])) rfl (by rw [hml]; rfl) (argsL := [(.ref b1), (.int (1 : Int32)), (.int (0 : Int32)), (.int (1 : Int32)), (.int p3)]) (rest := []) (lenOf pd_0_1 rfl) rfl (by show 2 * 0 + _ ≤ _; exact Nat.le_of_eq rfl) (hb hby at_221) (fun _ _ => ⟨rfl, e45, (by decide : 1 + 0 ≤ _), (by decide : 6 + 0 ≤ _)⟩)
        dsimp only [Pt.U, Pt.locs, Pt.cells, Pt.slots] at X47 l47 y47 z47 st47 hQ47
        subst l47 y47 z47
        obtain ⟨rfl, N47q, e47⟩ := hQ47
        have N47 := Fr.app N45 N47q
        refine own_st st47 ?_
        show own_Fin _ _ _ _ _ _ _ (T47.setTop (mkF m 224 #[.val (.int p1), .val (.int p2), .val (.int p3), .val (.int ch), .val (.int (0 : Int32)), .val (.ref b1), .val (.int (1 : Int32)), .val (.int (1 : Int32)), .val (.int (ch + (1 : Int32))), .val (.int ((ch + (1 : Int32)) - (1 : Int32))), .unset] [(.int (own_un (1 : Int32) (0 : Int32) (1 : Int32) p3 p3))]))
        have hd224_48 : ¬ ((own_un (1 : Int32) (0 : Int32) (1 : Int32) p3 p3) = (0 : Int32)) := by unfold own_un; simp
        refine own_st (fun t k => XS.ifNo X47.here hx rfl (hb hby at_224) rfl ((if0 _ _).trans (feq hd224_48).1) k) ?_
        show own_Fin _ _ _ _ _ _ _ (T47.setTop (mkF m 227 #[.val (.int p1), .val (.int p2), .val (.int p3), .val (.int ch), .val (.int (0 : Int32)), .val (.ref b1), .val (.int (1 : Int32)), .val (.int (1 : Int32)), .val (.int (ch + (1 : Int32))), .val (.int ((ch + (1 : Int32)) - (1 : Int32))), .unset] []))
        refine own_st (fun t k => XS.aload X47.here hx rfl (hb hby at_227) rfl rfl k) ?_
        show own_Fin _ _ _ _ _ _ _ (T47.setTop (mkF m 229 #[.val (.int p1), .val (.int p2), .val (.int p3), .val (.int ch), .val (.int (0 : Int32)), .val (.ref b1), .val (.int (1 : Int32)), .val (.int (1 : Int32)), .val (.int (ch + (1 : Int32))), .val (.int ((ch + (1 : Int32)) - (1 : Int32))), .unset] [(.ref b1)]))
        refine own_st (fun t k => XS.iconst X47.here hx rfl (hb hby at_229) k) ?_
        show own_Fin _ _ _ _ _ _ _ (T47.setTop (mkF m 230 #[.val (.int p1), .val (.int p2), .val (.int p3), .val (.int ch), .val (.int (0 : Int32)), .val (.ref b1), .val (.int (1 : Int32)), .val (.int (1 : Int32)), .val (.int (ch + (1 : Int32))), .val (.int ((ch + (1 : Int32)) - (1 : Int32))), .unset] [(.int (2 : Int32)), (.ref b1)]))
        refine own_st (fun t k => XS.iload X47.here hx rfl (hb hby at_230) rfl k) ?_
        show own_Fin _ _ _ _ _ _ _ (T47.setTop (mkF m 232 #[.val (.int p1), .val (.int p2), .val (.int p3), .val (.int ch), .val (.int (0 : Int32)), .val (.ref b1), .val (.int (1 : Int32)), .val (.int (1 : Int32)), .val (.int (ch + (1 : Int32))), .val (.int ((ch + (1 : Int32)) - (1 : Int32))), .unset] [(.int (0 : Int32)), (.int (2 : Int32)), (.ref b1)]))
        refine own_st (fun t k => XS.iload X47.here hx rfl (hb hby at_232) rfl k) ?_
        show own_Fin _ _ _ _ _ _ _ (T47.setTop (mkF m 234 #[.val (.int p1), .val (.int p2), .val (.int p3), .val (.int ch), .val (.int (0 : Int32)), .val (.ref b1), .val (.int (1 : Int32)), .val (.int (1 : Int32)), .val (.int (ch + (1 : Int32))), .val (.int ((ch + (1 : Int32)) - (1 : Int32))), .unset] [(.int (1 : Int32)), (.int (0 : Int32)), (.int (2 : Int32)), (.ref b1)]))
        refine own_st (fun t k => XS.iloadN X47.here hx rfl (hb hby at_234) rfl k) ?_
        show own_Fin _ _ _ _ _ _ _ (T47.setTop (mkF m 235 #[.val (.int p1), .val (.int p2), .val (.int p3), .val (.int ch), .val (.int (0 : Int32)), .val (.ref b1), .val (.int (1 : Int32)), .val (.int (1 : Int32)), .val (.int (ch + (1 : Int32))), .val (.int ((ch + (1 : Int32)) - (1 : Int32))), .unset] [(.int p3), (.int (1 : Int32)), (.int (0 : Int32)), (.int (2 : Int32)), (.ref b1)]))
        obtain ⟨_, _, ⟨T49, L49, k49, n49⟩, -, X49, ⟨Lc49, hQ49, l49, y49, z49⟩, st49⟩ := Jvm.LawKit.callS X47 hx (y := (⟨"com/example/quietzone/quietzone/datamatrix/AsciiEncodationWritePinLaw", "untouched", "([IIIII)Z"⟩ : MethodName)) hown (mvT hZ (hw _ (List.mem_of_getElem? (i := 6) rfl))) (mvT hZ (hw _ (List.mem_of_getElem? (i := 7) rfl))) (mvT hZ (hw _ (List.mem_of_getElem? (i := 8) rfl))) (mvT hZ (hw _ (List.mem_of_getElem? (i := 9) rfl))) (by decide) (backOf (W := 0) (rm2 l Z a0 hw [] b1 (2 : Int32) (0 : Int32) (1 : Int32) p3 k1 (6 : Int32) [(.int (ch + (1 : Int32))), (.int p3), (.int p3), (.int p3), (.int p3), (.int p3)] p3 T40.heap n0 Z40 Vx40 (by decide) (by decide) rfl) hZ (hw _ (List.mem_of_getElem? (i := 9) rfl)) (hw _ (List.mem_of_getElem? (i := 8) rfl)) (by decide) (by decide)) (g := (mkF m 235 #[.val (.int p1), .val (.int p2), .val (.int p3), .val (.int ch), .val (.int (0 : Int32)), .val (.ref b1), .val (.int (1 : Int32)), .val (.int (1 : Int32)), .val (.int (ch + (1 : Int32))), .val (.int ((ch + (1 : Int32)) - (1 : Int32))), .unset] [(.int p3), (.int (1 : Int32)), (.int (0 : Int32)), (.int (2 : Int32)), (.ref b1)])) rfl (by rw [hml]; rfl) (argsL := [(.ref b1), (.int (2 : Int32)), (.int (0 : Int32)), (.int (1 : Int32)), (.int p3)]) (rest := []) (lenOf pd_0_1 rfl) rfl (by show 2 * 0 + _ ≤ _; exact Nat.le_of_eq rfl) (hb hby at_235) (fun _ _ => ⟨rfl, e47, (by decide : 1 + 0 ≤ _), (by decide : 6 + 0 ≤ _)⟩)
        dsimp only [Pt.U, Pt.locs, Pt.cells, Pt.slots] at X49 l49 y49 z49 st49 hQ49
        subst l49 y49 z49
        obtain ⟨rfl, N49q, e49⟩ := hQ49
        have N49 := Fr.app N47 N49q
        refine own_st st49 ?_
        show own_Fin _ _ _ _ _ _ _ (T49.setTop (mkF m 238 #[.val (.int p1), .val (.int p2), .val (.int p3), .val (.int ch), .val (.int (0 : Int32)), .val (.ref b1), .val (.int (1 : Int32)), .val (.int (1 : Int32)), .val (.int (ch + (1 : Int32))), .val (.int ((ch + (1 : Int32)) - (1 : Int32))), .unset] [(.int (own_un (2 : Int32) (0 : Int32) (1 : Int32) p3 p3))]))
        have hd238_50 : ¬ ((own_un (2 : Int32) (0 : Int32) (1 : Int32) p3 p3) = (0 : Int32)) := by unfold own_un; simp
        refine own_st (fun t k => XS.ifNo X49.here hx rfl (hb hby at_238) rfl ((if0 _ _).trans (feq hd238_50).1) k) ?_
        show own_Fin _ _ _ _ _ _ _ (T49.setTop (mkF m 241 #[.val (.int p1), .val (.int p2), .val (.int p3), .val (.int ch), .val (.int (0 : Int32)), .val (.ref b1), .val (.int (1 : Int32)), .val (.int (1 : Int32)), .val (.int (ch + (1 : Int32))), .val (.int ((ch + (1 : Int32)) - (1 : Int32))), .unset] []))
        refine own_st (fun t k => XS.aload X49.here hx rfl (hb hby at_241) rfl rfl k) ?_
        show own_Fin _ _ _ _ _ _ _ (T49.setTop (mkF m 243 #[.val (.int p1), .val (.int p2), .val (.int p3), .val (.int ch), .val (.int (0 : Int32)), .val (.ref b1), .val (.int (1 : Int32)), .val (.int (1 : Int32)), .val (.int (ch + (1 : Int32))), .val (.int ((ch + (1 : Int32)) - (1 : Int32))), .unset] [(.ref b1)]))
        refine own_st (fun t k => XS.iconst X49.here hx rfl (hb hby at_243) k) ?_
        show own_Fin _ _ _ _ _ _ _ (T49.setTop (mkF m 244 #[.val (.int p1), .val (.int p2), .val (.int p3), .val (.int ch), .val (.int (0 : Int32)), .val (.ref b1), .val (.int (1 : Int32)), .val (.int (1 : Int32)), .val (.int (ch + (1 : Int32))), .val (.int ((ch + (1 : Int32)) - (1 : Int32))), .unset] [(.int (3 : Int32)), (.ref b1)]))
        refine own_st (fun t k => XS.iload X49.here hx rfl (hb hby at_244) rfl k) ?_
        show own_Fin _ _ _ _ _ _ _ (T49.setTop (mkF m 246 #[.val (.int p1), .val (.int p2), .val (.int p3), .val (.int ch), .val (.int (0 : Int32)), .val (.ref b1), .val (.int (1 : Int32)), .val (.int (1 : Int32)), .val (.int (ch + (1 : Int32))), .val (.int ((ch + (1 : Int32)) - (1 : Int32))), .unset] [(.int (0 : Int32)), (.int (3 : Int32)), (.ref b1)]))
        refine own_st (fun t k => XS.iload X49.here hx rfl (hb hby at_246) rfl k) ?_
        show own_Fin _ _ _ _ _ _ _ (T49.setTop (mkF m 248 #[.val (.int p1), .val (.int p2), .val (.int p3), .val (.int ch), .val (.int (0 : Int32)), .val (.ref b1), .val (.int (1 : Int32)), .val (.int (1 : Int32)), .val (.int (ch + (1 : Int32))), .val (.int ((ch + (1 : Int32)) - (1 : Int32))), .unset] [(.int (1 : Int32)), (.int (0 : Int32)), (.int (3 : Int32)), (.ref b1)]))
        refine own_st (fun t k => XS.iloadN X49.here hx rfl (hb hby at_248) rfl k) ?_
        show own_Fin _ _ _ _ _ _ _ (T49.setTop (mkF m 249 #[.val (.int p1), .val (.int p2), .val (.int p3), .val (.int ch), .val (.int (0 : Int32)), .val (.ref b1), .val (.int (1 : Int32)), .val (.int (1 : Int32)), .val (.int (ch + (1 : Int32))), .val (.int ((ch + (1 : Int32)) - (1 : Int32))), .unset] [(.int p3), (.int (1 : Int32)), (.int (0 : Int32)), (.int (3 : Int32)), (.ref b1)]))
        obtain ⟨_, _, ⟨T51, L51, k51, n51⟩, -, X51, ⟨Lc51, hQ51, l51, y51, z51⟩, st51⟩ := Jvm.LawKit.callS X49 hx (y := (⟨"com/example/quietzone/quietzone/datamatrix/AsciiEncodationWritePinLaw", "untouched", "([IIIII)Z"⟩ : MethodName)) hown (mvT hZ (hw _ (List.mem_of_getElem? (i := 6) rfl))) (mvT hZ (hw _ (List.mem_of_getElem? (i := 7) rfl))) (mvT hZ (hw _ (List.mem_of_getElem? (i := 8) rfl))) (mvT hZ (hw _ (List.mem_of_getElem? (i := 9) rfl))) (by decide) (backOf (W := 0) (rm2 l Z a0 hw [] b1 (3 : Int32) (0 : Int32) (1 : Int32) p3 k1 (6 : Int32) [(.int (ch + (1 : Int32))), (.int p3), (.int p3), (.int p3), (.int p3), (.int p3)] p3 T40.heap n0 Z40 Vx40 (by decide) (by decide) rfl) hZ (hw _ (List.mem_of_getElem? (i := 9) rfl)) (hw _ (List.mem_of_getElem? (i := 8) rfl)) (by decide) (by decide)) (g := (mkF m 249 #[.val (.int p1), .val (.int p2), .val (.int p3), .val (.int ch), .val (.int (0 : Int32)), .val (.ref b1), .val (.int (1 : Int32)), .val (.int (1 : Int32)), .val (.int (ch + (1 : Int32))), .val (.int ((ch + (1 : Int32)) - (1 : Int32))), .unset] [(.int p3), (.int (1 : Int32)), (.int (0 : Int32)), (.int (3 : Int32)), (.ref b1)])) rfl (by rw [hml]; rfl) (argsL := [(.ref b1), (.int (3 : Int32)), (.int (0 : Int32)), (.int (1 : Int32)), (.int p3)]) (rest := []) (lenOf pd_0_1 rfl) rfl (by show 2 * 0 + _ ≤ _; exact Nat.le_of_eq rfl) (hb hby at_249) (fun _ _ => ⟨rfl, e49, (by decide : 1 + 0 ≤ _), (by decide : 6 + 0 ≤ _)⟩)
        dsimp only [Pt.U, Pt.locs, Pt.cells, Pt.slots] at X51 l51 y51 z51 st51 hQ51
        subst l51 y51 z51
        obtain ⟨rfl, N51q, e51⟩ := hQ51
        have N51 := Fr.app N49 N51q
        refine own_st st51 ?_
        show own_Fin _ _ _ _ _ _ _ (T51.setTop (mkF m 252 #[.val (.int p1), .val (.int p2), .val (.int p3), .val (.int ch), .val (.int (0 : Int32)), .val (.ref b1), .val (.int (1 : Int32)), .val (.int (1 : Int32)), .val (.int (ch + (1 : Int32))), .val (.int ((ch + (1 : Int32)) - (1 : Int32))), .unset] [(.int (own_un (3 : Int32) (0 : Int32) (1 : Int32) p3 p3))]))
        have hd252_52 : ¬ ((own_un (3 : Int32) (0 : Int32) (1 : Int32) p3 p3) = (0 : Int32)) := by unfold own_un; simp
        refine own_st (fun t k => XS.ifNo X51.here hx rfl (hb hby at_252) rfl ((if0 _ _).trans (feq hd252_52).1) k) ?_
        show own_Fin _ _ _ _ _ _ _ (T51.setTop (mkF m 255 #[.val (.int p1), .val (.int p2), .val (.int p3), .val (.int ch), .val (.int (0 : Int32)), .val (.ref b1), .val (.int (1 : Int32)), .val (.int (1 : Int32)), .val (.int (ch + (1 : Int32))), .val (.int ((ch + (1 : Int32)) - (1 : Int32))), .unset] []))
        refine own_st (fun t k => XS.aload X51.here hx rfl (hb hby at_255) rfl rfl k) ?_
        show own_Fin _ _ _ _ _ _ _ (T51.setTop (mkF m 257 #[.val (.int p1), .val (.int p2), .val (.int p3), .val (.int ch), .val (.int (0 : Int32)), .val (.ref b1), .val (.int (1 : Int32)), .val (.int (1 : Int32)), .val (.int (ch + (1 : Int32))), .val (.int ((ch + (1 : Int32)) - (1 : Int32))), .unset] [(.ref b1)]))
        refine own_st (fun t k => XS.iconst X51.here hx rfl (hb hby at_257) k) ?_
        show own_Fin _ _ _ _ _ _ _ (T51.setTop (mkF m 258 #[.val (.int p1), .val (.int p2), .val (.int p3), .val (.int ch), .val (.int (0 : Int32)), .val (.ref b1), .val (.int (1 : Int32)), .val (.int (1 : Int32)), .val (.int (ch + (1 : Int32))), .val (.int ((ch + (1 : Int32)) - (1 : Int32))), .unset] [(.int (4 : Int32)), (.ref b1)]))
        refine own_st (fun t k => XS.iload X51.here hx rfl (hb hby at_258) rfl k) ?_
        show own_Fin _ _ _ _ _ _ _ (T51.setTop (mkF m 260 #[.val (.int p1), .val (.int p2), .val (.int p3), .val (.int ch), .val (.int (0 : Int32)), .val (.ref b1), .val (.int (1 : Int32)), .val (.int (1 : Int32)), .val (.int (ch + (1 : Int32))), .val (.int ((ch + (1 : Int32)) - (1 : Int32))), .unset] [(.int (0 : Int32)), (.int (4 : Int32)), (.ref b1)]))
        refine own_st (fun t k => XS.iload X51.here hx rfl (hb hby at_260) rfl k) ?_
        show own_Fin _ _ _ _ _ _ _ (T51.setTop (mkF m 262 #[.val (.int p1), .val (.int p2), .val (.int p3), .val (.int ch), .val (.int (0 : Int32)), .val (.ref b1), .val (.int (1 : Int32)), .val (.int (1 : Int32)), .val (.int (ch + (1 : Int32))), .val (.int ((ch + (1 : Int32)) - (1 : Int32))), .unset] [(.int (1 : Int32)), (.int (0 : Int32)), (.int (4 : Int32)), (.ref b1)]))
        refine own_st (fun t k => XS.iloadN X51.here hx rfl (hb hby at_262) rfl k) ?_
        show own_Fin _ _ _ _ _ _ _ (T51.setTop (mkF m 263 #[.val (.int p1), .val (.int p2), .val (.int p3), .val (.int ch), .val (.int (0 : Int32)), .val (.ref b1), .val (.int (1 : Int32)), .val (.int (1 : Int32)), .val (.int (ch + (1 : Int32))), .val (.int ((ch + (1 : Int32)) - (1 : Int32))), .unset] [(.int p3), (.int (1 : Int32)), (.int (0 : Int32)), (.int (4 : Int32)), (.ref b1)]))
        obtain ⟨_, _, ⟨T53, L53, k53, n53⟩, -, X53, ⟨Lc53, hQ53, l53, y53, z53⟩, st53⟩ := Jvm.LawKit.callS X51 hx (y := (⟨"com/example/quietzone/quietzone/datamatrix/AsciiEncodationWritePinLaw", "untouched", "([IIIII)Z"⟩ : MethodName)) hown (mvT hZ (hw _ (List.mem_of_getElem? (i := 6) rfl))) (mvT hZ (hw _ (List.mem_of_getElem? (i := 7) rfl))) (mvT hZ (hw _ (List.mem_of_getElem? (i := 8) rfl))) (mvT hZ (hw _ (List.mem_of_getElem? (i := 9) rfl))) (by decide) (backOf (W := 0) (rm2 l Z a0 hw [] b1 (4 : Int32) (0 : Int32) (1 : Int32) p3 k1 (6 : Int32) [(.int (ch + (1 : Int32))), (.int p3), (.int p3), (.int p3), (.int p3), (.int p3)] p3 T40.heap n0 Z40 Vx40 (by decide) (by decide) rfl) hZ (hw _ (List.mem_of_getElem? (i := 9) rfl)) (hw _ (List.mem_of_getElem? (i := 8) rfl)) (by decide) (by decide)) (g := (mkF m 263 #[.val (.int p1), .val (.int p2), .val (.int p3), .val (.int ch), .val (.int (0 : Int32)), .val (.ref b1), .val (.int (1 : Int32)), .val (.int (1 : Int32)), .val (.int (ch + (1 : Int32))), .val (.int ((ch + (1 : Int32)) - (1 : Int32))), .unset] [(.int p3), (.int (1 : Int32)), (.int (0 : Int32)), (.int (4 : Int32)), (.ref b1)])) rfl (by rw [hml]; rfl) (argsL := [(.ref b1), (.int (4 : Int32)), (.int (0 : Int32)), (.int (1 : Int32)), (.int p3)]) (rest := []) (lenOf pd_0_1 rfl) rfl (by show 2 * 0 + _ ≤ _; exact Nat.le_of_eq rfl) (hb hby at_263) (fun _ _ => ⟨rfl, e51, (by decide : 1 + 0 ≤ _), (by decide : 6 + 0 ≤ _)⟩)
        dsimp only [Pt.U, Pt.locs, Pt.cells, Pt.slots] at X53 l53 y53 z53 st53 hQ53
        subst l53 y53 z53
        obtain ⟨rfl, N53q, e53⟩ := hQ53
        have N53 := Fr.app N51 N53q
        refine own_st st53 ?_
        show own_Fin _ _ _ _ _ _ _ (T53.setTop (mkF m 266 #[.val (.int p1), .val (.int p2), .val (.int p3), .val (.int ch), .val (.int (0 : Int32)), .val (.ref b1), .val (.int (1 : Int32)), .val (.int (1 : Int32)), .val (.int (ch + (1 : Int32))), .val (.int ((ch + (1 : Int32)) - (1 : Int32))), .unset] [(.int (own_un (4 : Int32) (0 : Int32) (1 : Int32) p3 p3))]))
        have hd266_54 : ¬ ((own_un (4 : Int32) (0 : Int32) (1 : Int32) p3 p3) = (0 : Int32)) := by unfold own_un; simp
        refine own_st (fun t k => XS.ifNo X53.here hx rfl (hb hby at_266) rfl ((if0 _ _).trans (feq hd266_54).1) k) ?_
        show own_Fin _ _ _ _ _ _ _ (T53.setTop (mkF m 269 #[.val (.int p1), .val (.int p2), .val (.int p3), .val (.int ch), .val (.int (0 : Int32)), .val (.ref b1), .val (.int (1 : Int32)), .val (.int (1 : Int32)), .val (.int (ch + (1 : Int32))), .val (.int ((ch + (1 : Int32)) - (1 : Int32))), .unset] []))
        refine own_st (fun t k => XS.aload X53.here hx rfl (hb hby at_269) rfl rfl k) ?_
        show own_Fin _ _ _ _ _ _ _ (T53.setTop (mkF m 271 #[.val (.int p1), .val (.int p2), .val (.int p3), .val (.int ch), .val (.int (0 : Int32)), .val (.ref b1), .val (.int (1 : Int32)), .val (.int (1 : Int32)), .val (.int (ch + (1 : Int32))), .val (.int ((ch + (1 : Int32)) - (1 : Int32))), .unset] [(.ref b1)]))
        refine own_st (fun t k => XS.iconst X53.here hx rfl (hb hby at_271) k) ?_
        show own_Fin _ _ _ _ _ _ _ (T53.setTop (mkF m 272 #[.val (.int p1), .val (.int p2), .val (.int p3), .val (.int ch), .val (.int (0 : Int32)), .val (.ref b1), .val (.int (1 : Int32)), .val (.int (1 : Int32)), .val (.int (ch + (1 : Int32))), .val (.int ((ch + (1 : Int32)) - (1 : Int32))), .unset] [(.int (5 : Int32)), (.ref b1)]))
        refine own_st (fun t k => XS.iload X53.here hx rfl (hb hby at_272) rfl k) ?_
        show own_Fin _ _ _ _ _ _ _ (T53.setTop (mkF m 274 #[.val (.int p1), .val (.int p2), .val (.int p3), .val (.int ch), .val (.int (0 : Int32)), .val (.ref b1), .val (.int (1 : Int32)), .val (.int (1 : Int32)), .val (.int (ch + (1 : Int32))), .val (.int ((ch + (1 : Int32)) - (1 : Int32))), .unset] [(.int (0 : Int32)), (.int (5 : Int32)), (.ref b1)]))
        refine own_st (fun t k => XS.iload X53.here hx rfl (hb hby at_274) rfl k) ?_
        show own_Fin _ _ _ _ _ _ _ (T53.setTop (mkF m 276 #[.val (.int p1), .val (.int p2), .val (.int p3), .val (.int ch), .val (.int (0 : Int32)), .val (.ref b1), .val (.int (1 : Int32)), .val (.int (1 : Int32)), .val (.int (ch + (1 : Int32))), .val (.int ((ch + (1 : Int32)) - (1 : Int32))), .unset] [(.int (1 : Int32)), (.int (0 : Int32)), (.int (5 : Int32)), (.ref b1)]))
        refine own_st (fun t k => XS.iloadN X53.here hx rfl (hb hby at_276) rfl k) ?_
        show own_Fin _ _ _ _ _ _ _ (T53.setTop (mkF m 277 #[.val (.int p1), .val (.int p2), .val (.int p3), .val (.int ch), .val (.int (0 : Int32)), .val (.ref b1), .val (.int (1 : Int32)), .val (.int (1 : Int32)), .val (.int (ch + (1 : Int32))), .val (.int ((ch + (1 : Int32)) - (1 : Int32))), .unset] [(.int p3), (.int (1 : Int32)), (.int (0 : Int32)), (.int (5 : Int32)), (.ref b1)]))
        obtain ⟨_, _, ⟨T55, L55, k55, n55⟩, -, X55, ⟨Lc55, hQ55, l55, y55, z55⟩, st55⟩ := Jvm.LawKit.callS X53 hx (y := (⟨"com/example/quietzone/quietzone/datamatrix/AsciiEncodationWritePinLaw", "untouched", "([IIIII)Z"⟩ : MethodName)) hown (mvT hZ (hw _ (List.mem_of_getElem? (i := 6) rfl))) (mvT hZ (hw _ (List.mem_of_getElem? (i := 7) rfl))) (mvT hZ (hw _ (List.mem_of_getElem? (i := 8) rfl))) (mvT hZ (hw _ (List.mem_of_getElem? (i := 9) rfl))) (by decide) (backOf (W := 0) (rm2 l Z a0 hw [] b1 (5 : Int32) (0 : Int32) (1 : Int32) p3 k1 (6 : Int32) [(.int (ch + (1 : Int32))), (.int p3), (.int p3), (.int p3), (.int p3), (.int p3)] p3 T40.heap n0 Z40 Vx40 (by decide) (by decide) rfl) hZ (hw _ (List.mem_of_getElem? (i := 9) rfl)) (hw _ (List.mem_of_getElem? (i := 8) rfl)) (by decide) (by decide)) (g := (mkF m 277 #[.val (.int p1), .val (.int p2), .val (.int p3), .val (.int ch), .val (.int (0 : Int32)), .val (.ref b1), .val (.int (1 : Int32)), .val (.int (1 : Int32)), .val (.int (ch + (1 : Int32))), .val (.int ((ch + (1 : Int32)) - (1 : Int32))), .unset] [(.int p3), (.int (1 : Int32)), (.int (0 : Int32)), (.int (5 : Int32)), (.ref b1)])) rfl (by rw [hml]; rfl) (argsL := [(.ref b1), (.int (5 : Int32)), (.int (0 : Int32)), (.int (1 : Int32)), (.int p3)]) (rest := []) (lenOf pd_0_1 rfl) rfl (by show 2 * 0 + _ ≤ _; exact Nat.le_of_eq rfl) (hb hby at_277) (fun _ _ => ⟨rfl, e53, (by decide : 1 + 0 ≤ _), (by decide : 6 + 0 ≤ _)⟩)
        dsimp only [Pt.U, Pt.locs, Pt.cells, Pt.slots] at X55 l55 y55 z55 st55 hQ55
        subst l55 y55 z55
        obtain ⟨rfl, N55q, e55⟩ := hQ55
        have N55 := Fr.app N53 N55q
        refine own_st st55 ?_
        show own_Fin _ _ _ _ _ _ _ (T55.setTop (mkF m 280 #[.val (.int p1), .val (.int p2), .val (.int p3), .val (.int ch), .val (.int (0 : Int32)), .val (.ref b1), .val (.int (1 : Int32)), .val (.int (1 : Int32)), .val (.int (ch + (1 : Int32))), .val (.int ((ch + (1 : Int32)) - (1 : Int32))), .unset] [(.int (own_un (5 : Int32) (0 : Int32) (1 : Int32) p3 p3))]))
        have hd280_56 : ¬ ((own_un (5 : Int32) (0 : Int32) (1 : Int32) p3 p3) = (0 : Int32)) := by unfold own_un; simp
        refine own_st (fun t k => XS.ifNo X55.here hx rfl (hb hby at_280) rfl ((if0 _ _).trans (feq hd280_56).1) k) ?_
        show own_Fin _ _ _ _ _ _ _ (T55.setTop (mkF m 283 #[.val (.int p1), .val (.int p2), .val (.int p3), .val (.int ch), .val (.int (0 : Int32)), .val (.ref b1), .val (.int (1 : Int32)), .val (.int (1 : Int32)), .val (.int (ch + (1 : Int32))), .val (.int ((ch + (1 : Int32)) - (1 : Int32))), .unset] []))
        refine own_st (fun t k => XS.iconst X55.here hx rfl (hb hby at_283) k) ?_
        show own_Fin _ _ _ _ _ _ _ (T55.setTop (mkF m 284 #[.val (.int p1), .val (.int p2), .val (.int p3), .val (.int ch), .val (.int (0 : Int32)), .val (.ref b1), .val (.int (1 : Int32)), .val (.int (1 : Int32)), .val (.int (ch + (1 : Int32))), .val (.int ((ch + (1 : Int32)) - (1 : Int32))), .unset] [(.int (1 : Int32))]))
        refine own_st (fun t k => XS.goto X55.here hx rfl (pc0 := 284) (pc' := 288) rfl (hb hby at_284) (by decide) (by decide) k) ?_
        show own_Fin _ _ _ _ _ _ _ (T55.setTop (mkF m 288 #[.val (.int p1), .val (.int p2), .val (.int p3), .val (.int ch), .val (.int (0 : Int32)), .val (.ref b1), .val (.int (1 : Int32)), .val (.int (1 : Int32)), .val (.int (ch + (1 : Int32))), .val (.int ((ch + (1 : Int32)) - (1 : Int32))), .unset] [(.int (1 : Int32))]))
        exact own_retN X55 hx Bd.notSynchronized (t := .boolean) Bd.returns (by simp) (hb hby at_288) (by decide) (by decide) ⟨rfl, N55, trivial⟩
  · rw [hat]
    by_cases hA : ch = (256 : Int32)
    · rw [hA]
      show own_Fin _ _ _ _ _ _ _ (T7.setTop (mkF m 44 #[.val (.int p1), .val (.int p2), .val (.int p3), .val (.int (256 : Int32)), .val (.int (1 : Int32)), .val (.ref b1), .unset, .unset, .unset, .unset, .unset] []))
      refine own_st (fun t k => XS.iloadN X7.here hx rfl (hb hby at_44) rfl k) ?_
      show own_Fin _ _ _ _ _ _ _ (T7.setTop (mkF m 45 #[.val (.int p1), .val (.int p2), .val (.int p3), .val (.int (256 : Int32)), .val (.int (1 : Int32)), .val (.ref b1), .unset, .unset, .unset, .unset, .unset] [(.int (256 : Int32))]))
      refine own_st (fun t k => XS.aload X7.here hx rfl (hb hby at_45) rfl rfl k) ?_
      show own_Fin _ _ _ _ _ _ _ (T7.setTop (mkF m 47 #[.val (.int p1), .val (.int p2), .val (.int p3), .val (.int (256 : Int32)), .val (.int (1 : Int32)), .val (.ref b1), .unset, .unset, .unset, .unset, .unset] [(.ref b1), (.int (256 : Int32))]))
      refine own_st (fun t k => XS.iload X7.here hx rfl (hb hby at_47) rfl k) ?_
      show own_Fin _ _ _ _ _ _ _ (T7.setTop (mkF m 49 #[.val (.int p1), .val (.int p2), .val (.int p3), .val (.int (256 : Int32)), .val (.int (1 : Int32)), .val (.ref b1), .unset, .unset, .unset, .unset, .unset] [(.int (1 : Int32)), (.ref b1), (.int (256 : Int32))]))
      obtain ⟨_, _, ⟨T57, L57, k57, n57⟩, -, X57, ⟨Lc57, hQ57, l57, y57, z57⟩, st57⟩ := Jvm.LawKit.callS X7 hx (y := (⟨"com/example/quietzone/quietzone/datamatrix/AsciiEncodation", "write", "(I[II)I"⟩ : MethodName)) hown (mvT hZ (hw _ (List.mem_of_getElem? (i := 2) rfl))) (mvT hZ (hw _ (List.mem_of_getElem? (i := 3) rfl))) (mvT hZ (hw _ (List.mem_of_getElem? (i := 4) rfl))) (mvT hZ (hw _ (List.mem_of_getElem? (i := 5) rfl))) (by decide) (backOf (W := 0) (rm1 l Z a0 hw [] (256 : Int32) b1 (1 : Int32) k1 (6 : Int32) [(.int p3), (.int p3), (.int p3), (.int p3), (.int p3), (.int p3)] h7 n0 Z7 V7 ge_b1 (by decide) (by decide) (by decide) (by decide) (Nat.le_of_ble_eq_true rfl) (Nat.le_of_ble_eq_true rfl)) hZ (hw _ (List.mem_of_getElem? (i := 5) rfl)) (hw _ (List.mem_of_getElem? (i := 4) rfl)) (by decide) (by decide)) (g := (mkF m 49 #[.val (.int p1), .val (.int p2), .val (.int p3), .val (.int (256 : Int32)), .val (.int (1 : Int32)), .val (.ref b1), .unset, .unset, .unset, .unset, .unset] [(.int (1 : Int32)), (.ref b1), (.int (256 : Int32))])) rfl (by rw [hml]; rfl) (argsL := [(.int (256 : Int32)), (.ref b1), (.int (1 : Int32))]) (rest := []) (lenOf pd_0_0 rfl) rfl (by show 2 * 0 + _ ≤ _; exact Nat.le_of_eq rfl) (hb hby at_49) (fun _ _ => ⟨rfl, e7, (by decide : 1 + 0 ≤ _), (by decide : 6 + 0 ≤ _)⟩)
      dsimp only [Pt.U, Pt.locs, Pt.cells, Pt.slots] at X57 l57 y57 z57 st57 hQ57
      subst l57 y57 z57
      obtain ⟨rfl, N57q, K57, o57⟩ := hQ57
      have N57 := Fr.app N7 N57q
      have Z57 : n0 ≤ T57.heap.size := Nat.le_trans Z7 K57.1
      refine own_st st57 ?_
      show own_Fin _ _ _ _ _ _ _ (T57.setTop (mkF m 52 #[.val (.int p1), .val (.int p2), .val (.int p3), .val (.int (256 : Int32)), .val (.int (1 : Int32)), .val (.ref b1), .unset, .unset, .unset, .unset, .unset] [(.int (own_wr (256 : Int32) (1 : Int32)))]))
      have Vx57 : Arv Z T57.heap b1 k1 .int (6 : Int32) [(.int p3), (.int (232 : Int32)), (.int p3), (.int p3), (.int p3), (.int p3)] (.int (0 : Int32)) := by have q := o57; unfold own_wv at q; rw [if_pos (rfl : (256 : Int32) = (256 : Int32))] at q; exact q
      have rx57 : (own_wr (256 : Int32) (1 : Int32)) = (2 : Int32) := by unfold own_wr; rw [if_pos (rfl : (256 : Int32) = (256 : Int32))]; rfl
      rw [rx57]
      show own_Fin _ _ _ _ _ _ _ (T57.setTop (mkF m 52 #[.val (.int p1), .val (.int p2), .val (.int p3), .val (.int (256 : Int32)), .val (.int (1 : Int32)), .val (.ref b1), .unset, .unset, .unset, .unset, .unset] [(.int (2 : Int32))]))
      refine own_st (fun t k => XS.istore X57.here hx rfl (hb hby at_52) rfl (l' := #[.val (.int p1), .val (.int p2), .val (.int p3), .val (.int (256 : Int32)), .val (.int (1 : Int32)), .val (.ref b1), .val (.int (2 : Int32)), .unset, .unset, .unset, .unset]) rfl k) ?_
      show own_Fin _ _ _ _ _ _ _ (T57.setTop (mkF m 54 #[.val (.int p1), .val (.int p2), .val (.int p3), .val (.int (256 : Int32)), .val (.int (1 : Int32)), .val (.ref b1), .val (.int (2 : Int32)), .unset, .unset, .unset, .unset] []))
      refine own_st (fun t k => XS.iload X57.here hx rfl (hb hby at_54) rfl k) ?_
      show own_Fin _ _ _ _ _ _ _ (T57.setTop (mkF m 56 #[.val (.int p1), .val (.int p2), .val (.int p3), .val (.int (256 : Int32)), .val (.int (1 : Int32)), .val (.ref b1), .val (.int (2 : Int32)), .unset, .unset, .unset, .unset] [(.int (2 : Int32))]))
      refine own_st (fun t k => XS.iload X57.here hx rfl (hb hby at_56) rfl k) ?_
      show own_Fin _ _ _ _ _ _ _ (T57.setTop (mkF m 58 #[.val (.int p1), .val (.int p2), .val (.int p3), .val (.int (256 : Int32)), .val (.int (1 : Int32)), .val (.ref b1), .val (.int (2 : Int32)), .unset, .unset, .unset, .unset] [(.int (1 : Int32)), (.int (2 : Int32))]))
      refine own_st (fun t k => XS.isub X57.here hx rfl (hb hby at_58) rfl k) ?_
      show own_Fin _ _ _ _ _ _ _ (T57.setTop (mkF m 59 #[.val (.int p1), .val (.int p2), .val (.int p3), .val (.int (256 : Int32)), .val (.int (1 : Int32)), .val (.ref b1), .val (.int (2 : Int32)), .unset, .unset, .unset, .unset] [(.int (1 : Int32))]))
      refine own_st (fun t k => XS.istore X57.here hx rfl (hb hby at_59) rfl (l' := #[.val (.int p1), .val (.int p2), .val (.int p3), .val (.int (256 : Int32)), .val (.int (1 : Int32)), .val (.ref b1), .val (.int (2 : Int32)), .val (.int (1 : Int32)), .unset, .unset, .unset]) rfl k) ?_
      show own_Fin _ _ _ _ _ _ _ (T57.setTop (mkF m 61 #[.val (.int p1), .val (.int p2), .val (.int p3), .val (.int (256 : Int32)), .val (.int (1 : Int32)), .val (.ref b1), .val (.int (2 : Int32)), .val (.int (1 : Int32)), .unset, .unset, .unset] []))
      refine own_st (fun t k => XS.iload X57.here hx rfl (hb hby at_61) rfl k) ?_
      show own_Fin _ _ _ _ _ _ _ (T57.setTop (mkF m 63 #[.val (.int p1), .val (.int p2), .val (.int p3), .val (.int (256 : Int32)), .val (.int (1 : Int32)), .val (.ref b1), .val (.int (2 : Int32)), .val (.int (1 : Int32)), .unset, .unset, .unset] [(.int (1 : Int32))]))
      refine own_st (fun t k => XS.iconst X57.here hx rfl (hb hby at_63) k) ?_
      show own_Fin _ _ _ _ _ _ _ (T57.setTop (mkF m 64 #[.val (.int p1), .val (.int p2), .val (.int p3), .val (.int (256 : Int32)), .val (.int (1 : Int32)), .val (.ref b1), .val (.int (2 : Int32)), .val (.int (1 : Int32)), .unset, .unset, .unset] [(.int (1 : Int32)), (.int (1 : Int32))]))
      refine own_st (fun t k => XS.icmpNo X57.here hx rfl (hb hby at_64) rfl (flt (by decide : ¬ ((1 : Int32) < (1 : Int32)))).1 k) ?_
      show own_Fin _ _ _ _ _ _ _ (T57.setTop (mkF m 67 #[.val (.int p1), .val (.int p2), .val (.int p3), .val (.int (256 : Int32)), .val (.int (1 : Int32)), .val (.ref b1), .val (.int (2 : Int32)), .val (.int (1 : Int32)), .unset, .unset, .unset] []))
      refine own_st (fun t k => XS.iload X57.here hx rfl (hb hby at_67) rfl k) ?_
      show own_Fin _ _ _ _ _ _ _ (T57.setTop (mkF m 69 #[.val (.int p1), .val (.int p2), .val (.int p3), .val (.int (256 : Int32)), .val (.int (1 : Int32)), .val (.ref b1), .val (.int (2 : Int32)), .val (.int (1 : Int32)), .unset, .unset, .unset] [(.int (1 : Int32))]))
      refine own_st (fun t k => XS.iconst X57.here hx rfl (hb hby at_69) k) ?_
      show own_Fin _ _ _ _ _ _ _ (T57.setTop (mkF m 70 #[.val (.int p1), .val (.int p2), .val (.int p3), .val (.int (256 : Int32)), .val (.int (1 : Int32)), .val (.ref b1), .val (.int (2 : Int32)), .val (.int (1 : Int32)), .unset, .unset, .unset] [(.int (2 : Int32)), (.int (1 : Int32))]))
      refine own_st (fun t k => XS.icmpYes X57.here hx rfl (pc0 := 70) (pc' := 75) rfl (hb hby at_70) rfl (flt (by decide : ¬ ((2 : Int32) < (1 : Int32)))).2.2.2 (by decide) (by decide) k) ?_
      show own_Fin _ _ _ _ _ _ _ (T57.setTop (mkF m 75 #[.val (.int p1), .val (.int p2), .val (.int p3), .val (.int (256 : Int32)), .val (.int (1 : Int32)), .val (.ref b1), .val (.int (2 : Int32)), .val (.int (1 : Int32)), .unset, .unset, .unset] []))
      refine own_st (fun t k => XS.aload X57.here hx rfl (hb hby at_75) rfl rfl k) ?_
      show own_Fin _ _ _ _ _ _ _ (T57.setTop (mkF m 77 #[.val (.int p1), .val (.int p2), .val (.int p3), .val (.int (256 : Int32)), .val (.int (1 : Int32)), .val (.ref b1), .val (.int (2 : Int32)), .val (.int (1 : Int32)), .unset, .unset, .unset] [(.ref b1)]))
      refine own_st (fun t k => XS.iload X57.here hx rfl (hb hby at_77) rfl k) ?_
      show own_Fin _ _ _ _ _ _ _ (T57.setTop (mkF m 79 #[.val (.int p1), .val (.int p2), .val (.int p3), .val (.int (256 : Int32)), .val (.int (1 : Int32)), .val (.ref b1), .val (.int (2 : Int32)), .val (.int (1 : Int32)), .unset, .unset, .unset] [(.int (1 : Int32)), (.ref b1)]))
      obtain ⟨cl58, Ar58, Cq58, Sz58, Mn58, Hs58, Gf58⟩ := id Vx57
      have hin58 := inb_of Sz58 (j := (1 : Int32)) ⟨by decide, by decide⟩
      refine own_st (X57.iaload hx (j := (1 : Int32)) (v := (.int (232 : Int32))) Ar58.1 (State.isArrayOf_alike hZ.alike Ar58.2.1) Ar58.2.2 hin58 (Hs58.at hin58 rfl) (g := (mkF m 79 #[.val (.int p1), .val (.int p2), .val (.int p3), .val (.int (256 : Int32)), .val (.int (1 : Int32)), .val (.ref b1), .val (.int (2 : Int32)), .val (.int (1 : Int32)), .unset, .unset, .unset] [(.int (1 : Int32)), (.ref b1)])) rfl rfl (hb hby at_79)) ?_
      show own_Fin _ _ _ _ _ _ _ (T57.setTop (mkF m 80 #[.val (.int p1), .val (.int p2), .val (.int p3), .val (.int (256 : Int32)), .val (.int (1 : Int32)), .val (.ref b1), .val (.int (2 : Int32)), .val (.int (1 : Int32)), .unset, .unset, .unset] [(.int (232 : Int32))]))
      refine own_st (fun t k => XS.istore X57.here hx rfl (hb hby at_80) rfl (l' := #[.val (.int p1), .val (.int p2), .val (.int p3), .val (.int (256 : Int32)), .val (.int (1 : Int32)), .val (.ref b1), .val (.int (2 : Int32)), .val (.int (1 : Int32)), .val (.int (232 : Int32)), .unset, .unset]) rfl k) ?_
      show own_Fin _ _ _ _ _ _ _ (T57.setTop (mkF m 82 #[.val (.int p1), .val (.int p2), .val (.int p3), .val (.int (256 : Int32)), .val (.int (1 : Int32)), .val (.ref b1), .val (.int (2 : Int32)), .val (.int (1 : Int32)), .val (.int (232 : Int32)), .unset, .unset] []))
      refine own_st (fun t k => XS.iload X57.here hx rfl (hb hby at_82) rfl k) ?_
      show own_Fin _ _ _ _ _ _ _ (T57.setTop (mkF m 84 #[.val (.int p1), .val (.int p2), .val (.int p3), .val (.int (256 : Int32)), .val (.int (1 : Int32)), .val (.ref b1), .val (.int (2 : Int32)), .val (.int (1 : Int32)), .val (.int (232 : Int32)), .unset, .unset] [(.int (232 : Int32))]))
      refine own_st (fun t k => XS.iconst X57.here hx rfl (hb hby at_84) k) ?_
      show own_Fin _ _ _ _ _ _ _ (T57.setTop (mkF m 85 #[.val (.int p1), .val (.int p2), .val (.int p3), .val (.int (256 : Int32)), .val (.int (1 : Int32)), .val (.ref b1), .val (.int (2 : Int32)), .val (.int (1 : Int32)), .val (.int (232 : Int32)), .unset, .unset] [(.int (1 : Int32)), (.int (232 : Int32))]))
      refine own_st (fun t k => XS.icmpNo X57.here hx rfl (hb hby at_85) rfl (flt (by decide : ¬ ((232 : Int32) < (1 : Int32)))).1 k) ?_
      show own_Fin _ _ _ _ _ _ _ (T57.setTop (mkF m 88 #[.val (.int p1), .val (.int p2), .val (.int p3), .val (.int (256 : Int32)), .val (.int (1 : Int32)), .val (.ref b1), .val (.int (2 : Int32)), .val (.int (1 : Int32)), .val (.int (232 : Int32)), .unset, .unset] []))
      refine own_st (fun t k => XS.iload X57.here hx rfl (hb hby at_88) rfl k) ?_
      show own_Fin _ _ _ _ _ _ _ (T57.setTop (mkF m 90 #[.val (.int p1), .val (.int p2), .val (.int p3), .val (.int (256 : Int32)), .val (.int (1 : Int32)), .val (.ref b1), .val (.int (2 : Int32)), .val (.int (1 : Int32)), .val (.int (232 : Int32)), .unset, .unset] [(.int (232 : Int32))]))
      refine own_st (fun t k => XS.sipush X57.here hx rfl (hb hby at_90) k) ?_
      show own_Fin _ _ _ _ _ _ _ (T57.setTop (mkF m 93 #[.val (.int p1), .val (.int p2), .val (.int p3), .val (.int (256 : Int32)), .val (.int (1 : Int32)), .val (.ref b1), .val (.int (2 : Int32)), .val (.int (1 : Int32)), .val (.int (232 : Int32)), .unset, .unset] [(.int (128 : Int32)), (.int (232 : Int32))]))
      refine own_st (fun t k => XS.icmpYes X57.here hx rfl (pc0 := 93) (pc' := 113) rfl (hb hby at_93) rfl (tlt (by decide : (128 : Int32) < (232 : Int32))).2.2.1 (by decide) (by decide) k) ?_
      show own_Fin _ _ _ _ _ _ _ (T57.setTop (mkF m 113 #[.val (.int p1), .val (.int p2), .val (.int p3), .val (.int (256 : Int32)), .val (.int (1 : Int32)), .val (.ref b1), .val (.int (2 : Int32)), .val (.int (1 : Int32)), .val (.int (232 : Int32)), .unset, .unset] []))
      refine own_st (fun t k => XS.iload X57.here hx rfl (hb hby at_113) rfl k) ?_
      show own_Fin _ _ _ _ _ _ _ (T57.setTop (mkF m 115 #[.val (.int p1), .val (.int p2), .val (.int p3), .val (.int (256 : Int32)), .val (.int (1 : Int32)), .val (.ref b1), .val (.int (2 : Int32)), .val (.int (1 : Int32)), .val (.int (232 : Int32)), .unset, .unset] [(.int (232 : Int32))]))
      refine own_st (fun t k => XS.sipush X57.here hx rfl (hb hby at_115) k) ?_
      show own_Fin _ _ _ _ _ _ _ (T57.setTop (mkF m 118 #[.val (.int p1), .val (.int p2), .val (.int p3), .val (.int (256 : Int32)), .val (.int (1 : Int32)), .val (.ref b1), .val (.int (2 : Int32)), .val (.int (1 : Int32)), .val (.int (232 : Int32)), .unset, .unset] [(.int (232 : Int32)), (.int (232 : Int32))]))
      refine own_st (fun t k => XS.icmpNo X57.here hx rfl (hb hby at_118) rfl (teq (by decide : (232 : Int32) = (232 : Int32))).2 k) ?_
      show own_Fin _ _ _ _ _ _ _ (T57.setTop (mkF m 121 #[.val (.int p1), .val (.int p2), .val (.int p3), .val (.int (256 : Int32)), .val (.int (1 : Int32)), .val (.ref b1), .val (.int (2 : Int32)), .val (.int (1 : Int32)), .val (.int (232 : Int32)), .unset, .unset] []))
      refine own_st (fun t k => XS.iload X57.here hx rfl (hb hby at_121) rfl k) ?_
      show own_Fin _ _ _ _ _ _ _ (T57.setTop (mkF m 123 #[.val (.int p1), .val (.int p2), .val (.int p3), .val (.int (256 : Int32)), .val (.int (1 : Int32)), .val (.ref b1), .val (.int (2 : Int32)), .val (.int (1 : Int32)), .val (.int (232 : Int32)), .unset, .unset] [(.int (1 : Int32))]))
      refine own_st (fun t k => XS.iconst X57.here hx rfl (hb hby at_123) k) ?_
      show own_Fin _ _ _ _ _ _ _ (T57.setTop (mkF m 124 #[.val (.int p1), .val (.int p2), .val (.int p3), .val (.int (256 : Int32)), .val (.int (1 : Int32)), .val (.ref b1), .val (.int (2 : Int32)), .val (.int (1 : Int32)), .val (.int (232 : Int32)), .unset, .unset] [(.int (1 : Int32)), (.int (1 : Int32))]))
      refine own_st (fun t k => XS.icmpYes X57.here hx rfl (pc0 := 124) (pc' := 129) rfl (hb hby at_124) rfl (teq (by decide : (1 : Int32) = (1 : Int32))).1 (by decide) (by decide) k) ?_
      show own_Fin _ _ _ _ _ _ _ (T57.setTop (mkF m 129 #[.val (.int p1), .val (.int p2), .val (.int p3), .val (.int (256 : Int32)), .val (.int (1 : Int32)), .val (.ref b1), .val (.int (2 : Int32)), .val (.int (1 : Int32)), .val (.int (232 : Int32)), .unset, .unset] []))
      refine own_st (fun t k => XS.sipush X57.here hx rfl (hb hby at_129) k) ?_
      show own_Fin _ _ _ _ _ _ _ (T57.setTop (mkF m 132 #[.val (.int p1), .val (.int p2), .val (.int p3), .val (.int (256 : Int32)), .val (.int (1 : Int32)), .val (.ref b1), .val (.int (2 : Int32)), .val (.int (1 : Int32)), .val (.int (232 : Int32)), .unset, .unset] [(.int (256 : Int32))]))
      refine own_st (fun t k => XS.istore X57.here hx rfl (hb hby at_132) rfl (l' := #[.val (.int p1), .val (.int p2), .val (.int p3), .val (.int (256 : Int32)), .val (.int (1 : Int32)), .val (.ref b1), .val (.int (2 : Int32)), .val (.int (1 : Int32)), .val (.int (232 : Int32)), .val (.int (256 : Int32)), .unset]) rfl k) ?_
      show own_Fin _ _ _ _ _ _ _ (T57.setTop (mkF m 134 #[.val (.int p1), .val (.int p2), .val (.int p3), .val (.int (256 : Int32)), .val (.int (1 : Int32)), .val (.ref b1), .val (.int (2 : Int32)), .val (.int (1 : Int32)), .val (.int (232 : Int32)), .val (.int (256 : Int32)), .unset] []))
      refine own_st (fun t k => XS.goto X57.here hx rfl (pc0 := 134) (pc' := 193) rfl (hb hby at_134) (by decide) (by decide) k) ?_
      show own_Fin _ _ _ _ _ _ _ (T57.setTop (mkF m 193 #[.val (.int p1), .val (.int p2), .val (.int p3), .val (.int (256 : Int32)), .val (.int (1 : Int32)), .val (.ref b1), .val (.int (2 : Int32)), .val (.int (1 : Int32)), .val (.int (232 : Int32)), .val (.int (256 : Int32)), .unset] []))
      refine own_st (fun t k => XS.iload X57.here hx rfl (hb hby at_193) rfl k) ?_
      show own_Fin _ _ _ _ _ _ _ (T57.setTop (mkF m 195 #[.val (.int p1), .val (.int p2), .val (.int p3), .val (.int (256 : Int32)), .val (.int (1 : Int32)), .val (.ref b1), .val (.int (2 : Int32)), .val (.int (1 : Int32)), .val (.int (232 : Int32)), .val (.int (256 : Int32)), .unset] [(.int (256 : Int32))]))
      refine own_st (fun t k => XS.iloadN X57.here hx rfl (hb hby at_195) rfl k) ?_
      show own_Fin _ _ _ _ _ _ _ (T57.setTop (mkF m 196 #[.val (.int p1), .val (.int p2), .val (.int p3), .val (.int (256 : Int32)), .val (.int (1 : Int32)), .val (.ref b1), .val (.int (2 : Int32)), .val (.int (1 : Int32)), .val (.int (232 : Int32)), .val (.int (256 : Int32)), .unset] [(.int (256 : Int32)), (.int (256 : Int32))]))
      refine own_st (fun t k => XS.icmpNo X57.here hx rfl (hb hby at_196) rfl (teq (by decide : (256 : Int32) = (256 : Int32))).2 k) ?_
      show own_Fin _ _ _ _ _ _ _ (T57.setTop (mkF m 199 #[.val (.int p1), .val (.int p2), .val (.int p3), .val (.int (256 : Int32)), .val (.int (1 : Int32)), .val (.ref b1), .val (.int (2 : Int32)), .val (.int (1 : Int32)), .val (.int (232 : Int32)), .val (.int (256 : Int32)), .unset] []))
      refine own_st (fun t k => XS.aload X57.here hx rfl (hb hby at_199) rfl rfl k) ?_
      show own_Fin _ _ _ _ _ _ _ (T57.setTop (mkF m 201 #[.val (.int p1), .val (.int p2), .val (.int p3), .val (.int (256 : Int32)), .val (.int (1 : Int32)), .val (.ref b1), .val (.int (2 : Int32)), .val (.int (1 : Int32)), .val (.int (232 : Int32)), .val (.int (256 : Int32)), .unset] [(.ref b1)]))
      refine own_st (fun t k => XS.iconst X57.here hx rfl (hb hby at_201) k) ?_
      show own_Fin _ _ _ _ _ _ _ (T57.setTop (mkF m 202 #[.val (.int p1), .val (.int p2), .val (.int p3), .val (.int (256 : Int32)), .val (.int (1 : Int32)), .val (.ref b1), .val (.int (2 : Int32)), .val (.int (1 : Int32)), .val (.int (232 : Int32)), .val (.int (256 : Int32)), .unset] [(.int (0 : Int32)), (.ref b1)]))
      refine own_st (fun t k => XS.iload X57.here hx rfl (hb hby at_202) rfl k) ?_
      show own_Fin _ _ _ _ _ _ _ (T57.setTop (mkF m 204 #[.val (.int p1), .val (.int p2), .val (.int p3), .val (.int (256 : Int32)), .val (.int (1 : Int32)), .val (.ref b1), .val (.int (2 : Int32)), .val (.int (1 : Int32)), .val (.int (232 : Int32)), .val (.int (256 : Int32)), .unset] [(.int (1 : Int32)), (.int (0 : Int32)), (.ref b1)]))
      refine own_st (fun t k => XS.iload X57.here hx rfl (hb hby at_204) rfl k) ?_
      show own_Fin _ _ _ _ _ _ _ (T57.setTop (mkF m 206 #[.val (.int p1), .val (.int p2), .val (.int p3), .val (.int (256 : Int32)), .val (.int (1 : Int32)), .val (.ref b1), .val (.int (2 : Int32)), .val (.int (1 : Int32)), .val (.int (232 : Int32)), .val (.int (256 : Int32)), .unset] [(.int (2 : Int32)), (.int (1 : Int32)), (.int (0 : Int32)), (.ref b1)]))
      refine own_st (fun t k => XS.iloadN X57.here hx rfl (hb hby at_206) rfl k) ?_
      show own_Fin _ _ _ _ _ _ _ (T57.setTop (mkF m 207 #[.val (.int p1), .val (.int p2), .val (.int p3), .val (.int (256 : Int32)), .val (.int (1 : Int32)), .val (.ref b1), .val (.int (2 : Int32)), .val (.int (1 : Int32)), .val (.int (232 : Int32)), .val (.int (256 : Int32)), .unset] [(.int p3), (.int (2 : Int32)), (.int (1 : Int32)), (.int (0 : Int32)), (.ref b1)]))
      obtain ⟨_, _, ⟨T59, L59, k59, n59⟩, -, X59, ⟨Lc59, hQ59, l59, y59, z59⟩, st59⟩ := Jvm.LawKit.callS X57 hx (y := (⟨"com/example/quietzone/quietzone/datamatrix/AsciiEncodationWritePinLaw", "untouched", "([IIIII)Z"⟩ : MethodName)) hown (mvT hZ (hw _ (List.mem_of_getElem? (i := 6) rfl))) (mvT hZ (hw _ (List.mem_of_getElem? (i := 7) rfl))) (mvT hZ (hw _ (List.mem_of_getElem? (i := 8) rfl))) (mvT hZ (hw _ (List.mem_of_getElem? (i := 9) rfl))) (by decide) (backOf (W := 0) (rm2 l Z a0 hw [] b1 (0 : Int32) (1 : Int32) (2 : Int32) p3 k1 (6 : Int32) [(.int p3), (.int (232 : Int32)), (.int p3), (.int p3), (.int p3), (.int p3)] p3 T57.heap n0 Z57 Vx57 (by decide) (by decide) rfl) hZ (hw _ (List.mem_of_getElem? (i := 9) rfl)) (hw _ (List.mem_of_getElem? (i := 8) rfl)) (by decide) (by decide)) (g := (mkF m 207 #[.val (.int p1), .val (.int p2), .val (.int p3), .val (.int (256 : Int32)), .val (.int (1 : Int32)), .val (.ref b1), .val (.int (2 : Int32)), .val (.int (1 : Int32)), .val (.int (232 : Int32)), .val (.int (256 : Int32)), .unset] [(.int p3), (.int (2 : Int32)), (.int (1 : Int32)), (.int (0 : Int32)), (.ref b1)])) rfl (by rw [hml]; rfl) (argsL := [(.ref b1), (.int (0 : Int32)), (.int (1 : Int32)), (.int (2 : Int32)), (.int p3)]) (rest := []) (lenOf pd_0_1 rfl) rfl (by show 2 * 0 + _ ≤ _; exact Nat.le_of_eq rfl) (hb hby at_207) (fun _ _ => ⟨rfl, rfl, (by decide : 1 + 0 ≤ _), (by decide : 6 + 0 ≤ _)⟩)
      dsimp only [Pt.U, Pt.locs, Pt.cells, Pt.slots] at X59 l59 y59 z59 st59 hQ59
      subst l59 y59 z59
      obtain ⟨rfl, N59q, e59⟩ := hQ59
      have N59 := Fr.app N57 N59q
      refine own_st st59 ?_
      show own_Fin _ _ _ _ _ _ _ (T59.setTop (mkF m 210 #[.val (.int p1), .val (.int p2), .val (.int p3), .val (.int (256 : Int32)), .val (.int (1 : Int32)), .val (.ref b1), .val (.int (2 : Int32)), .val (.int (1 : Int32)), .val (.int (232 : Int32)), .val (.int (256 : Int32)), .unset] [(.int (own_un (0 : Int32) (1 : Int32) (2 : Int32) p3 p3))]))
      have hd210_60 : ¬ ((own_un (0 : Int32) (1 : Int32) (2 : Int32) p3 p3) = (0 : Int32)) := by unfold own_un; simp
      refine own_st (fun t k => XS.ifNo X59.here hx rfl (hb hby at_210) rfl ((if0 _ _).trans (feq hd210_60).1) k) ?_
      show own_Fin _ _ _ _ _ _ _ (T59.setTop (mkF m 213 #[.val (.int p1), .val (.int p2), .val (.int p3), .val (.int (256 : Int32)), .val (.int (1 : Int32)), .val (.ref b1), .val (.int (2 : Int32)), .val (.int (1 : Int32)), .val (.int (232 : Int32)), .val (.int (256 : Int32)), .unset] []))
      refine own_st (fun t k => XS.aload X59.here hx rfl (hb hby at_213) rfl rfl k) ?_
      show own_Fin _ _ _ _ _ _ _ (T59.setTop (mkF m 215 #[.val (.int p1), .val (.int p2), .val (.int p3), .val (.int (256 : Int32)), .val (.int (1 : Int32)), .val (.ref b1), .val (.int (2 : Int32)), .val (.int (1 : Int32)), .val (.int (232 : Int32)), .val (.int (256 : Int32)), .unset] [(.ref b1)]))
      refine own_st (fun t k => XS.iconst X59.here hx rfl (hb hby at_215) k) ?_
      show own_Fin _ _ _ _ _ _ _ (T59.setTop (mkF m 216 #[.val (.int p1), .val (.int p2), .val (.int p3), .val (.int (256 : Int32)), .val (.int (1 : Int32)), .val (.ref b1), .val (.int (2 : Int32)), .val (.int (1 : Int32)), .val (.int (232 : Int32)), .val (.int (256 : Int32)), .unset] [(.int (1 : Int32)), (.ref b1)]))
      refine own_st (fun t k => XS.iload X59.here hx rfl (hb hby at_216) rfl k) ?_
      show own_Fin _ _ _ _ _ _ _ (T59.setTop (mkF m 218 #[.val (.int p1), .val (.int p2), .val (.int p3), .val (.int (256 : Int32)), .val (.int (1 : Int32)), .val (.ref b1), .val (.int (2 : Int32)), .val (.int (1 : Int32)), .val (.int (232 : Int32)), .val (.int (256 : Int32)), .unset] [(.int (1 : Int32)), (.int (1 : Int32)), (.ref b1)]))
      refine own_st (fun t k => XS.iload X59.here hx rfl (hb hby at_218) rfl k) ?_
      show own_Fin _ _ _ _ _ _ _ (T59.setTop (mkF m 220 #[.val (.int p1), .val (.int p2), .val (.int p3), .val (.int (256 : Int32)), .val (.int (1 : Int32)), .val (.ref b1), .val (.int (2 : Int32)), .val (.int (1 : Int32)), .val (.int (232 : Int32)), .val (.int (256 : Int32)), .unset] [(.int (2 : Int32)), (.int (1 : Int32)), (.int (1 : Int32)), (.ref b1)]))
      refine own_st (fun t k => XS.iloadN X59.here hx rfl (hb hby at_220) rfl k) ?_
      show own_Fin _ _ _ _ _ _ _ (T59.setTop (mkF m 221 #[.val (.int p1), .val (.int p2), .val (.int p3), .val (.int (256 : Int32)), .val (.int (1 : Int32)), .val (.ref b1), .val (.int (2 : Int32)), .val (.int (1 : Int32)), .val (.int (232 : Int32)), .val (.int (256 : Int32)), .unset] [(.int p3), (.int (2 : Int32)), (.int (1 : Int32)), (.int (1 : Int32)), (.ref b1)]))
      obtain ⟨_, _, ⟨T61, L61, k61, n61⟩, -, X61, ⟨Lc61, hQ61, l61, y61, z61⟩, st61⟩ := Jvm.LawKit.callS X59 hx (y := (⟨"com/example/quietzone/quietzone/datamatrix/AsciiEncodationWritePinLaw", "untouched", "([IIIII)Z"⟩ : MethodName)) hown (mvT hZ (hw _ (List.mem_of_getElem? (i := 6) rfl))) (mvT hZ (hw _ (List.mem_of_getElem? (i := 7) rfl))) (mvT hZ (hw _ (List.mem_of_getElem? (i := 8) rfl))) (mvT hZ (hw _ (List.mem_of_getElem? (i := 9) rfl))) (by decide) (backOf (W := 0) (rm2 l Z a0 hw [] b1 (1 : Int32) (1 : Int32) (2 : Int32) p3 k1 (6 : Int32) [(.int p3), (.int (232 : Int32)), (.int p3), (.int p3), (.int p3), (.int p3)] (232 : Int32) T57.heap n0 Z57 Vx57 (by decide) (by decide) rfl) hZ (hw _ (List.mem_of_getElem? (i := 9) rfl)) (hw _ (List.mem_of_getElem? (i := 8) rfl)) (by decide) (by decide)) (g := (mkF m 221 #[.val (.int p1), .val (.int p2), .val (.int p3), .val (.int (256 : Int32)), .val (.int (1 : Int32)), .val (.ref b1), .val (.int (2 : Int32)), .val (.int (1 : Int32)), .val (.int (232 : Int32)), .val (.int (256 : Int32)), .unset] [(.int p3), (.int (2 : Int32)), (.int (1 : Int32)), (.int (1 : Int32)), (.ref b1)])) rfl (by rw [hml]; rfl) (argsL := [(.ref b1), (.int (1 : Int32)), (.int (1 : Int32)), (.int (2 : Int32)), (.int p3)]) (rest := []) (lenOf pd_0_1 rfl) rfl (by show 2 * 0 + _ ≤ _; exact Nat.le_of_eq rfl) (hb hby at_221) (fun _ _ => ⟨rfl, e59, (by decide : 1 + 0 ≤ _), (by decide : 6 + 0 ≤ _)⟩)
      dsimp only [Pt.U, Pt.locs, Pt.cells, Pt.slots] at X61 l61 y61 z61 st61 hQ61
      subst l61 y61 z61
      obtain ⟨rfl, N61q, e61⟩ := hQ61
      have N61 := Fr.app N59 N61q
      refine own_st st61 ?_
      show own_Fin _ _ _ _ _ _ _ (T61.setTop (mkF m 224 #[.val (.int p1), .val (.int p2), .val (.int p3), .val (.int (256 : Int32)), .val (.int (1 : Int32)), .val (.ref b1), .val (.int (2 : Int32)), .val (.int (1 : Int32)), .val (.int (232 : Int32)), .val (.int (256 : Int32)), .unset] [(.int (own_un (1 : Int32) (1 : Int32) (2 : Int32) p3 (232 : Int32)))]))
      have hd224_62 : ¬ ((own_un (1 : Int32) (1 : Int32) (2 : Int32) p3 (232 : Int32)) = (0 : Int32)) := by unfold own_un; simp
      refine own_st (fun t k => XS.ifNo X61.here hx rfl (hb hby at_224) rfl ((if0 _ _).trans (feq hd224_62).1) k) ?_
      show own_Fin _ _ _ _ _ _ _ (T61.setTop (mkF m 227 #[.val (.int p1), .val (.int p2), .val (.int p3), .val (.int (256 : Int32)), .val (.int (1 : Int32)), .val (.ref b1), .val (.int (2 : Int32)), .val (.int (1 : Int32)), .val (.int (232 : Int32)), .val (.int (256 : Int32)), .unset] []))
      refine own_st (fun t k => XS.aload X61.here hx rfl (hb hby at_227) rfl rfl k) ?_
      show own_Fin _ _ _ _ _ _ _ (T61.setTop (mkF m 229 #[.val (.int p1), .val (.int p2), .val (.int p3), .val (.int (256 : Int32)), .val (.int (1 : Int32)), .val (.ref b1), .val (.int (2 : Int32)), .val (.int (1 : Int32)), .val (.int (232 : Int32)), .val (.int (256 : Int32)), .unset] [(.ref b1)]))
      refine own_st (fun t k => XS.iconst X61.here hx rfl (hb hby at_229) k) ?_
      show own_Fin _ _ _ _ _ _ _ (T61.setTop (mkF m 230 #[.val (.int p1), .val (.int p2), .val (.int p3), .val (.int (256 : Int32)), .val (.int (1 : Int32)), .val (.ref b1), .val (.int (2 : Int32)), .val (.int (1 : Int32)), .val (.int (232 : Int32)), .val (.int (256 : Int32)), .unset] [(.int (2 : Int32)), (.ref b1)]))
      refine own_st (fun t k => XS.iload X61.here hx rfl (hb hby at_230) rfl k) ?_
      show own_Fin _ _ _ _ _ _ _ (T61.setTop (mkF m 232 #[.val (.int p1), .val (.int p2), .val (.int p3), .val (.int (256 : Int32)), .val (.int (1 : Int32)), .val (.ref b1), .val (.int (2 : Int32)), .val (.int (1 : Int32)), .val (.int (232 : Int32)), .val (.int (256 : Int32)), .unset] [(.int (1 : Int32)), (.int (2 : Int32)), (.ref b1)]))
      refine own_st (fun t k => XS.iload X61.here hx rfl (hb hby at_232) rfl k) ?_
      show own_Fin _ _ _ _ _ _ _ (T61.setTop (mkF m 234 #[.val (.int p1), .val (.int p2), .val (.int p3), .val (.int (256 : Int32)), .val (.int (1 : Int32)), .val (.ref b1), .val (.int (2 : Int32)), .val (.int (1 : Int32)), .val (.int (232 : Int32)), .val (.int (256 : Int32)), .unset] [(.int (2 : Int32)), (.int (1 : Int32)), (.int (2 : Int32)), (.ref b1)]))
      refine own_st (fun t k => XS.iloadN X61.here hx rfl (hb hby at_234) rfl k) ?_
      show own_Fin _ _ _ _ _ _ _ (T61.setTop (mkF m 235 #[.val (.int p1), .val (.int p2), .val (.int p3), .val (.int (256 : Int32)), .val (.int (1 : Int32)), .val (.ref b1), .val (.int (2 : Int32)), .val (.int (1 : Int32)), .val (.int (232 : Int32)), .val (.int (256 : Int32)), .unset] [(.int p3), (.int (2 : Int32)), (.int (1 : Int32)), (.int (2 : Int32)), (.ref b1)]))
      obtain ⟨_, _, ⟨T63, L63, k63, n63⟩, -, X63, ⟨Lc63, hQ63, l63, y63, z63⟩, st63⟩ := Jvm.LawKit.callS X61 hx (y := (⟨"com/example/quietzone/quietzone/datamatrix/AsciiEncodationWritePinLaw", "untouched", "([IIIII)Z"⟩ : MethodName)) hown (mvT hZ (hw _ (List.mem_of_getElem? (i := 6) rfl))) (mvT hZ (hw _ (List.mem_of_getElem? (i := 7) rfl))) (mvT hZ (hw _ (List.mem_of_getElem? (i := 8) rfl))) (mvT hZ (hw _ (List.mem_of_getElem? (i := 9) rfl))) (by decide) (backOf (W := 0) (rm2 l Z a0 hw [] b1 (2 : Int32) (1 : Int32) (2 : Int32) p3 k1 (6 : Int32) [(.int p3), (.int (232 : Int32)), (.int p3), (.int p3), (.int p3), (.int p3)] p3 T57.heap n0 Z57 Vx57 (by decide) (by decide) rfl) hZ (hw _ (List.mem_of_getElem? (i := 9) rfl)) (hw _ (List.mem_of_getElem? (i := 8) rfl)) (by decide) (by decide)) (g := (mkF m 235 #[.val (.int p1), .val (.int p2), .val (.int p3), .val (.int (256 : Int32)), .val (.int (1 : Int32)), .val (.ref b1), .val (.int (2 : Int32)), .val (.int (1 : Int32)), .val (.int (232 : Int32)), .val (.int (256 : Int32)), .unset] [(.int p3), (.int (2 : Int32)), (.int (1 : Int32)), (.int (2 : Int32)), (.ref b1)])) rfl (by rw [hml]; rfl) (argsL := [(.ref b1), (.int (2 : Int32)), (.int (1 : Int32)), (.int (2 : Int32)), (.int p3)]) (rest := []) (lenOf pd_0_1 rfl) rfl (by show 2 * 0 + _ ≤ _; exact Nat.le_of_eq rfl) (hb hby at_235) (fun _ _ => ⟨rfl, e61, (by decide : 1 + 0 ≤ _), (by decide : 6 + 0 ≤ _)⟩)
      dsimp only [Pt.U, Pt.locs, Pt.cells, Pt.slots] at X63 l63 y63 z63 st63 hQ63
      subst l63 y63 z63
      obtain ⟨rfl, N63q, e63⟩ := hQ63
      have N63 := Fr.app N61 N63q
      refine own_st st63 ?_
      show own_Fin _ _ _ _ _ _ _ (T63.setTop (mkF m 238 #[.val (.int p1), .val (.int p2), .val (.int p3), .val (.int (256 : Int32)), .val (.int (1 : Int32)), .val (.ref b1), .val (.int (2 : Int32)), .val (.int (1 : Int32)), .val (.int (232 : Int32)), .val (.int (256 : Int32)), .unset] [(.int (own_un (2 : Int32) (1 : Int32) (2 : Int32) p3 p3))]))
      have hd238_64 : ¬ ((own_un (2 : Int32) (1 : Int32) (2 : Int32) p3 p3) = (0 : Int32)) := by unfold own_un; simp
      refine own_st (fun t k => XS.ifNo X63.here hx rfl (hb hby at_238) rfl ((if0 _ _).trans (feq hd238_64).1) k) ?_
      show own_Fin _ _ _ _ _ _ _ (T63.setTop (mkF m 241 #[.val (.int p1), .val (.int p2), .val (.int p3), .val (.int (256 : Int32)), .val (.int (1 : Int32)), .val (.ref b1), .val (.int (2 : Int32)), .val (.int (1 : Int32)), .val (.int (232 : Int32)), .val (.int (256 : Int32)), .unset] []))
      refine own_st (fun t k => XS.aload X63.here hx rfl (hb hby at_241) rfl rfl k) ?_
      show own_Fin _ _ _ _ _ _ _ (T63.setTop (mkF m 243 #[.val (.int p1), .val (.int p2), .val (.int p3), .val (.int (256 : Int32)), .val (.int (1 : Int32)), .val (.ref b1), .val (.int (2 : Int32)), .val (.int (1 : Int32)), .val (.int (232 : Int32)), .val (.int (256 : Int32)), .unset] [(.ref b1)]))
      refine own_st (fun t k => XS.iconst X63.here hx rfl (hb hby at_243) k) ?_
      show own_Fin _ _ _ _ _ _ _ (T63.setTop (mkF m 244 #[.val (.int p1), .val (.int p2), .val (.int p3), .val (.int (256 : Int32)), .val (.int (1 : Int32)), .val (.ref b1), .val (.int (2 : Int32)), .val (.int (1 : Int32)), .val (.int (232 : Int32)), .val (.int (256 : Int32)), .unset] [(.int (3 : Int32)), (.ref b1)]))
      refine own_st (fun t k => XS.iload X63.here hx rfl (hb hby at_244) rfl k) ?_
      show own_Fin _ _ _ _ _ _ _ (T63.setTop (mkF m 246 #[.val (.int p1), .val (.int p2), .val (.int p3), .val (.int (256 : Int32)), .val (.int (1 : Int32)), .val (.ref b1), .val (.int (2 : Int32)), .val (.int (1 : Int32)), .val (.int (232 : Int32)), .val (.int (256 : Int32)), .unset] [(.int (1 : Int32)), (.int (3 : Int32)), (.ref b1)]))
      refine own_st (fun t k => XS.iload X63.here hx rfl (hb hby at_246) rfl k) ?_
      show own_Fin _ _ _ _ _ _ _ (T63.setTop (mkF m 248 #[.val (.int p1), .val (.int p2), .val (.int p3), .val (.int (256 : Int32)), .val (.int (1 : Int32)), .val (.ref b1), .val (.int (2 : Int32)), .val (.int (1 : Int32)), .val (.int (232 : Int32)), .val (.int (256 : Int32)), .unset] [(.int (2 : Int32)), (.int (1 : Int32)), (.int (3 : Int32)), (.ref b1)]))
      refine own_st (fun t k => XS.iloadN X63.here hx rfl (hb hby at_248) rfl k) ?_
      show own_Fin _ _ _ _ _ _ _ (T63.setTop (mkF m 249 #[.val (.int p1), .val (.int p2), .val (.int p3), .val (.int (256 : Int32)), .val (.int (1 : Int32)), .val (.ref b1), .val (.int (2 : Int32)), .val (.int (1 : Int32)), .val (.int (232 : Int32)), .val (.int (256 : Int32)), .unset] [(.int p3), (.int (2 : Int32)), (.int (1 : Int32)), (.int (3 : Int32)), (.ref b1)]))
      obtain ⟨_, _, ⟨T65, L65, k65, n65⟩, -, X65, ⟨Lc65, hQ65, l65, y65, z65⟩, st65⟩ := Jvm.LawKit.callS X63 hx (y := (⟨"com/example/quietzone/quietzone/datamatrix/AsciiEncodationWritePinLaw", "untouched", "([IIIII)Z"⟩ : MethodName)) hown (mvT hZ (hw _ (List.mem_of_getElem? (i := 6) rfl))) (mvT hZ (hw _ (List.mem_of_getElem? (i := 7) rfl))) (mvT hZ (hw _ (List.mem_of_getElem? (i := 8) rfl))) (mvT hZ (hw _ (List.mem_of_getElem? (i := 9) rfl))) (by decide) (backOf (W := 0) (rm2 l Z a0 hw [] b1 (3 : Int32) (1 : Int32) (2 : Int32) p3 k1 (6 : Int32) [(.int p3), (.int (232 : Int32)), (.int p3), (.int p3), (.int p3), (.int p3)] p3 T57.heap n0 Z57 Vx57 (by decide) (by decide) rfl) hZ (hw _ (List.mem_of_getElem? (i := 9) rfl)) (hw _ (List.mem_of_getElem? (i := 8) rfl)) (by decide) (by decide)) (g := (mkF m 249 #[.val (.int p1), .val (.int p2), .val (.int p3), .val (.int (256 : Int32)), .val (.int (1 : Int32)), .val (.ref b1), .val (.int (2 : Int32)), .val (.int (1 : Int32)), .val (.int (232 : Int32)), .val (.int (256 : Int32)), .unset] [(.int p3), (.int (2 : Int32)), (.int (1 : Int32)), (.int (3 : Int32)), (.ref b1)])) rfl (by rw [hml]; rfl) (argsL := [(.ref b1), (.int (3 : Int32)), (.int (1 : Int32)), (.int (2 : Int32)), (.int p3)]) (rest := []) (lenOf pd_0_1 rfl) rfl (by show 2 * 0 + _ ≤ _; exact Nat.le_of_eq rfl) (hb hby at_249) (fun _ _ => ⟨rfl, e63, (by decide : 1 + 0 ≤ _), (by decide : 6 + 0 ≤ _)⟩)
      dsimp only [Pt.U, Pt.locs, Pt.cells, Pt.slots] at X65 l65 y65 z65 st65 hQ65
      subst l65 y65 z65
      obtain ⟨rfl, N65q, e65⟩ := hQ65
      have N65 := Fr.app N63 N65q
      refine own_st st65 ?_
      show own_Fin _ _ _ _ _ _ _ (T65.setTop (mkF m 252 #[.val (.int p1), .val (.int p2), .val (.int p3), .val (.int (256 : Int32)), .val (.int (1 : Int32)), .val (.ref b1), .val (.int (2 : Int32)), .val (.int (1 : Int32)), .val (.int (232 : Int32)), .val (.int (256 : Int32)), .unset] [(.int (own_un (3 : Int32) (1 : Int32) (2 : Int32) p3 p3))]))
      have hd252_66 : ¬ ((own_un (3 : Int32) (1 : Int32) (2 : Int32) p3 p3) = (0 : Int32)) := by unfold own_un; simp
      refine own_st (fun t k => XS.ifNo X65.here hx rfl (hb hby at_252) rfl ((if0 _ _).trans (feq hd252_66).1) k) ?_
      show own_Fin _ _ _ _ _ _ _ (T65.setTop (mkF m 255 #[.val (.int p1), .val (.int p2), .val (.int p3), .val (.int (256 : Int32)), .val (.int (1 : Int32)), .val (.ref b1), .val (.int (2 : Int32)), .val (.int (1 : Int32)), .val (.int (232 : Int32)), .val (.int (256 : Int32)), .unset] []))
      refine own_st (fun t k => XS.aload X65.here hx rfl (hb hby at_255) rfl rfl k) ?_
      show own_Fin _ _ _ _ _ _ _ (T65.setTop (mkF m 257 #[.val (.int p1), .val (.int p2), .val (.int p3), .val (.int (256 : Int32)), .val (.int (1 : Int32)), .val (.ref b1), .val (.int (2 : Int32)), .val (.int (1 : Int32)), .val (.int (232 : Int32)), .val (.int (256 : Int32)), .unset] [(.ref b1)]))
      refine own_st (fun t k => XS.iconst X65.here hx rfl (hb hby at_257) k) ?_
      show own_Fin _ _ _ _ _ _ _ (T65.setTop (mkF m 258 #[.val (.int p1), .val (.int p2), .val (.int p3), .val (.int (256 : Int32)), .val (.int (1 : Int32)), .val (.ref b1), .val (.int (2 : Int32)), .val (.int (1 : Int32)), .val (.int (232 : Int32)), .val (.int (256 : Int32)), .unset] [(.int (4 : Int32)), (.ref b1)]))
      refine own_st (fun t k => XS.iload X65.here hx rfl (hb hby at_258) rfl k) ?_
      show own_Fin _ _ _ _ _ _ _ (T65.setTop (mkF m 260 #[.val (.int p1), .val (.int p2), .val (.int p3), .val (.int (256 : Int32)), .val (.int (1 : Int32)), .val (.ref b1), .val (.int (2 : Int32)), .val (.int (1 : Int32)), .val (.int (232 : Int32)), .val (.int (256 : Int32)), .unset] [(.int (1 : Int32)), (.int (4 : Int32)), (.ref b1)]))
      refine own_st (fun t k => XS.iload X65.here hx rfl (hb hby at_260) rfl k) ?_
      show own_Fin _ _ _ _ _ _ _ (T65.setTop (mkF m 262 #[.val (.int p1), .val (.int p2), .val (.int p3), .val (.int (256 : Int32)), .val (.int (1 : Int32)), .val (.ref b1), .val (.int (2 : Int32)), .val (.int (1 : Int32)), .val (.int (232 : Int32)), .val (.int (256 : Int32)), .unset] [(.int (2 : Int32)), (.int (1 : Int32)), (.int (4 : Int32)), (.ref b1)]))
      refine own_st (fun t k => XS.iloadN X65.here hx rfl (hb hby at_262) rfl k) ?_
      show own_Fin _ _ _ _ _ _ _ (T65.setTop (mkF m 263 #[.val (.int p1), .val (.int p2), .val (.int p3), .val (.int (256 : Int32)), .val (.int (1 : Int32)), .val (.ref b1), .val (.int (2 : Int32)), .val (.int (1 : Int32)), .val (.int (232 : Int32)), .val (.int (256 : Int32)), .unset] [(.int p3), (.int (2 : Int32)), (.int (1 : Int32)), (.int (4 : Int32)), (.ref b1)]))
      obtain ⟨_, _, ⟨T67, L67, k67, n67⟩, -, X67, ⟨Lc67, hQ67, l67, y67, z67⟩, st67⟩ := Jvm.LawKit.callS X65 hx (y := (⟨"com/example/quietzone/quietzone/datamatrix/AsciiEncodationWritePinLaw", "untouched", "([IIIII)Z"⟩ : MethodName)) hown (mvT hZ (hw _ (List.mem_of_getElem? (i := 6) rfl))) (mvT hZ (hw _ (List.mem_of_getElem? (i := 7) rfl))) (mvT hZ (hw _ (List.mem_of_getElem? (i := 8) rfl))) (mvT hZ (hw _ (List.mem_of_getElem? (i := 9) rfl))) (by decide) (backOf (W := 0) (rm2 l Z a0 hw [] b1 (4 : Int32) (1 : Int32) (2 : Int32) p3 k1 (6 : Int32) [(.int p3), (.int (232 : Int32)), (.int p3), (.int p3), (.int p3), (.int p3)] p3 T57.heap n0 Z57 Vx57 (by decide) (by decide) rfl) hZ (hw _ (List.mem_of_getElem? (i := 9) rfl)) (hw _ (List.mem_of_getElem? (i := 8) rfl)) (by decide) (by decide)) (g := (mkF m 263 #[.val (.int p1), .val (.int p2), .val (.int p3), .val (.int (256 : Int32)), .val (.int (1 : Int32)), .val (.ref b1), .val (.int (2 : Int32)), .val (.int (1 : Int32)), .val (.int (232 : Int32)), .val (.int (256 : Int32)), .unset] [(.int p3), (.int (2 : Int32)), (.int (1 : Int32)), (.int (4 : Int32)), (.ref b1)])) rfl (by rw [hml]; rfl) (argsL := [(.ref b1), (.int (4 : Int32)), (.int (1 : Int32)), (.int (2 : Int32)), (.int p3)]) (rest := []) (lenOf pd_0_1 rfl) rfl (by show 2 * 0 + _ ≤ _; exact Nat.le_of_eq rfl) (hb hby at_263) (fun _ _ => ⟨rfl, e65, (by decide : 1 + 0 ≤ _), (by decide : 6 + 0 ≤ _)⟩)
      dsimp only [Pt.U, Pt.locs, Pt.cells, Pt.slots] at X67 l67 y67 z67 st67 hQ67
      subst l67 y67 z67
      obtain ⟨rfl, N67q, e67⟩ := hQ67
      have N67 := Fr.app N65 N67q
      refine own_st st67 ?_
      show own_Fin _ _ _ _ _ _ _ (T67.setTop (mkF m 266 #[.val (.int p1), .val (.int p2), .val (.int p3), .val (.int (256 : Int32)), .val (.int (1 : Int32)), .val (.ref b1), .val (.int (2 : Int32)), .val (.int (1 : Int32)), .val (.int (232 : Int32)), .val (.int (256 : Int32)), .unset] [(.int (own_un (4 : Int32) (1 : Int32) (2 : Int32) p3 p3))]))
      have hd266_68 : ¬ ((own_un (4 : Int32) (1 : Int32) (2 : Int32) p3 p3) = (0 : Int32)) := by unfold own_un; simp
      refine own_st (fun t k => XS.ifNo X67.here hx rfl (hb hby at_266) rfl ((if0 _ _).trans (feq hd266_68).1) k) ?_
      show own_Fin _ _ _ _ _ _ _ (T67.setTop (mkF m 269 #[.val (.int p1), .val (.int p2), .val (.int p3), .val (.int (256 : Int32)), .val (.int (1 : Int32)), .val (.ref b1), .val (.int (2 : Int32)), .val (.int (1 : Int32)), .val (.int (232 : Int32)), .val (.int (256 : Int32)), .unset] []))
      refine own_st (fun t k => XS.aload X67.here hx rfl (hb hby at_269) rfl rfl k) ?_
      show own_Fin _ _ _ _ _ _ _ (T67.setTop (mkF m 271 #[.val (.int p1), .val (.int p2), .val (.int p3), .val (.int (256 : Int32)), .val (.int (1 : Int32)), .val (.ref b1), .val (.int (2 : Int32)), .val (.int (1 : Int32)), .val (.int (232 : Int32)), .val (.int (256 : Int32)), .unset] [(.ref b1)]))
      refine own_st (fun t k => XS.iconst X67.here hx rfl (hb hby at_271) k) ?_
      show own_Fin _ _ _ _ _ _ _ (T67.setTop (mkF m 272 #[.val (.int p1), .val (.int p2), .val (.int p3), .val (.int (256 : Int32)), .val (.int (1 : Int32)), .val (.ref b1), .val (.int (2 : Int32)), .val (.int (1 : Int32)), .val (.int (232 : Int32)), .val (.int (256 : Int32)), .unset] [(.int (5 : Int32)), (.ref b1)]))
      refine own_st (fun t k => XS.iload X67.here hx rfl (hb hby at_272) rfl k) ?_
      show own_Fin _ _ _ _ _ _ _ (T67.setTop (mkF m 274 #[.val (.int p1), .val (.int p2), .val (.int p3), .val (.int (256 : Int32)), .val (.int (1 : Int32)), .val (.ref b1), .val (.int (2 : Int32)), .val (.int (1 : Int32)), .val (.int (232 : Int32)), .val (.int (256 : Int32)), .unset] [(.int (1 : Int32)), (.int (5 : Int32)), (.ref b1)]))
      refine own_st (fun t k => XS.iload X67.here hx rfl (hb hby at_274) rfl k) ?_
      show own_Fin _ _ _ _ _ _ _ (T67.setTop (mkF m 276 #[.val (.int p1), .val (.int p2), .val (.int p3), .val (.int (256 : Int32)), .val (.int (1 : Int32)), .val (.ref b1), .val (.int (2 : Int32)), .val (.int (1 : Int32)), .val (.int (232 : Int32)), .val (.int (256 : Int32)), .unset] [(.int (2 : Int32)), (.int (1 : Int32)), (.int (5 : Int32)), (.ref b1)]))
      refine own_st (fun t k => XS.iloadN X67.here hx rfl (hb hby at_276) rfl k) ?_
      show own_Fin _ _ _ _ _ _ _ (T67.setTop (mkF m 277 #[.val (.int p1), .val (.int p2), .val (.int p3), .val (.int (256 : Int32)), .val (.int (1 : Int32)), .val (.ref b1), .val (.int (2 : Int32)), .val (.int (1 : Int32)), .val (.int (232 : Int32)), .val (.int (256 : Int32)), .unset] [(.int p3), (.int (2 : Int32)), (.int (1 : Int32)), (.int (5 : Int32)), (.ref b1)]))
      obtain ⟨_, _, ⟨T69, L69, k69, n69⟩, -, X69, ⟨Lc69, hQ69, l69, y69, z69⟩, st69⟩ := Jvm.LawKit.callS X67 hx (y := (⟨"com/example/quietzone/quietzone/datamatrix/AsciiEncodationWritePinLaw", "untouched", "([IIIII)Z"⟩ : MethodName)) hown (mvT hZ (hw _ (List.mem_of_getElem? (i := 6) rfl))) (mvT hZ (hw _ (List.mem_of_getElem? (i := 7) rfl))) (mvT hZ (hw _ (List.mem_of_getElem? (i := 8) rfl))) (mvT hZ (hw _ (List.mem_of_getElem? (i := 9) rfl))) (by decide) (backOf (W := 0) (rm2 l Z a0 hw [] b1 (5 : Int32) (1 : Int32) (2 : Int32) p3 k1 (6 : Int32) [(.int p3), (.int (232 : Int32)), (.int p3), (.int p3), (.int p3), (.int p3)] p3 T57.heap n0 Z57 Vx57 (by decide) (by decide) rfl) hZ (hw _ (List.mem_of_getElem? (i := 9) rfl)) (hw _ (List.mem_of_getElem? (i := 8) rfl)) (by decide) (by decide)) (g := (mkF m 277 #[.val (.int p1), .val (.int p2), .val (.int p3), .val (.int (256 : Int32)), .val (.int (1 : Int32)), .val (.ref b1), .val (.int (2 : Int32)), .val (.int (1 : Int32)), .val (.int (232 : Int32)), .val (.int (256 : Int32)), .unset] [(.int p3), (.int (2 : Int32)), (.int (1 : Int32)), (.int (5 : Int32)), (.ref b1)])) rfl (by rw [hml]; rfl) (argsL := [(.ref b1), (.int (5 : Int32)), (.int (1 : Int32)), (.int (2 : Int32)), (.int p3)]) (rest := []) (lenOf pd_0_1 rfl) rfl (by show 2 * 0 + _ ≤ _; exact Nat.le_of_eq rfl) (hb hby at_277) (fun _ _ => ⟨rfl, e67, (by decide : 1 + 0 ≤ _), (by decide : 6 + 0 ≤ _)⟩)
      dsimp only [Pt.U, Pt.locs, Pt.cells, Pt.slots] at X69 l69 y69 z69 st69 hQ69
      subst l69 y69 z69
      obtain ⟨rfl, N69q, e69⟩ := hQ69
      have N69 := Fr.app N67 N69q
      refine own_st st69 ?_
      show own_Fin _ _ _ _ _ _ _ (T69.setTop (mkF m 280 #[.val (.int p1), .val (.int p2), .val (.int p3), .val (.int (256 : Int32)), .val (.int (1 : Int32)), .val (.ref b1), .val (.int (2 : Int32)), .val (.int (1 : Int32)), .val (.int (232 : Int32)), .val (.int (256 : Int32)), .unset] [(.int (own_un (5 : Int32) (1 : Int32) (2 : Int32) p3 p3))]))
      have hd280_70 : ¬ ((own_un (5 : Int32) (1 : Int32) (2 : Int32) p3 p3) = (0 : Int32)) := by unfold own_un; simp
      refine own_st (fun t k => XS.ifNo X69.here hx rfl (hb hby at_280) rfl ((if0 _ _).trans (feq hd280_70).1) k) ?_
      show own_Fin _ _ _ _ _ _ _ (T69.setTop (mkF m 283 #[.val (.int p1), .val (.int p2), .val (.int p3), .val (.int (256 : Int32)), .val (.int (1 : Int32)), .val (.ref b1), .val (.int (2 : Int32)), .val (.int (1 : Int32)), .val (.int (232 : Int32)), .val (.int (256 : Int32)), .unset] []))
      refine own_st (fun t k => XS.iconst X69.here hx rfl (hb hby at_283) k) ?_
      show own_Fin _ _ _ _ _ _ _ (T69.setTop (mkF m 284 #[.val (.int p1), .val (.int p2), .val (.int p3), .val (.int (256 : Int32)), .val (.int (1 : Int32)), .val (.ref b1), .val (.int (2 : Int32)), .val (.int (1 : Int32)), .val (.int (232 : Int32)), .val (.int (256 : Int32)), .unset] [(.int (1 : Int32))]))
      refine own_st (fun t k => XS.goto X69.here hx rfl (pc0 := 284) (pc' := 288) rfl (hb hby at_284) (by decide) (by decide) k) ?_
      show own_Fin _ _ _ _ _ _ _ (T69.setTop (mkF m 288 #[.val (.int p1), .val (.int p2), .val (.int p3), .val (.int (256 : Int32)), .val (.int (1 : Int32)), .val (.ref b1), .val (.int (2 : Int32)), .val (.int (1 : Int32)), .val (.int (232 : Int32)), .val (.int (256 : Int32)), .unset] [(.int (1 : Int32))]))
      exact own_retN X69 hx Bd.notSynchronized (t := .boolean) Bd.returns (by simp) (hb hby at_288) (by decide) (by decide) ⟨rfl, N69, trivial⟩
    · by_cases hB : (127 : Int32) < ch
      · show own_Fin _ _ _ _ _ _ _ (T7.setTop (mkF m 44 #[.val (.int p1), .val (.int p2), .val (.int p3), .val (.int ch), .val (.int (1 : Int32)), .val (.ref b1), .unset, .unset, .unset, .unset, .unset] []))
        refine own_st (fun t k => XS.iloadN X7.here hx rfl (hb hby at_44) rfl k) ?_
        show own_Fin _ _ _ _ _ _ _ (T7.setTop (mkF m 45 #[.val (.int p1), .val (.int p2), .val (.int p3), .val (.int ch), .val (.int (1 : Int32)), .val (.ref b1), .unset, .unset, .unset, .unset, .unset] [(.int ch)]))
        refine own_st (fun t k => XS.aload X7.here hx rfl (hb hby at_45) rfl rfl k) ?_
        show own_Fin _ _ _ _ _ _ _ (T7.setTop (mkF m 47 #[.val (.int p1), .val (.int p2), .val (.int p3), .val (.int ch), .val (.int (1 : Int32)), .val (.ref b1), .unset, .unset, .unset, .unset, .unset] [(.ref b1), (.int ch)]))
        refine own_st (fun t k => XS.iload X7.here hx rfl (hb hby at_47) rfl k) ?_
        show own_Fin _ _ _ _ _ _ _ (T7.setTop (mkF m 49 #[.val (.int p1), .val (.int p2), .val (.int p3), .val (.int ch), .val (.int (1 : Int32)), .val (.ref b1), .unset, .unset, .unset, .unset, .unset] [(.int (1 : Int32)), (.ref b1), (.int ch)]))
        obtain ⟨_, _, ⟨T71, L71, k71, n71⟩, -, X71, ⟨Lc71, hQ71, l71, y71, z71⟩, st71⟩ := Jvm.LawKit.callS X7 hx (y := (⟨"com/example/quietzone/quietzone/datamatrix/AsciiEncodation", "write", "(I[II)I"⟩ : MethodName)) hown (mvT hZ (hw _ (List.mem_of_getElem? (i := 2) rfl))) (mvT hZ (hw _ (List.mem_of_getElem? (i := 3) rfl))) (mvT hZ (hw _ (List.mem_of_getElem? (i := 4) rfl))) (mvT hZ (hw _ (List.mem_of_getElem? (i := 5) rfl))) (by decide) (backOf (W := 0) (rm1 l Z a0 hw [] ch b1 (1 : Int32) k1 (6 : Int32) [(.int p3), (.int p3), (.int p3), (.int p3), (.int p3), (.int p3)] h7 n0 Z7 V7 ge_b1 (by decide) (by decide) (by decide) (by decide) (Nat.le_of_ble_eq_true rfl) (Nat.le_of_ble_eq_true rfl)) hZ (hw _ (List.mem_of_getElem? (i := 5) rfl)) (hw _ (List.mem_of_getElem? (i := 4) rfl)) (by decide) (by decide)) (g := (mkF m 49 #[.val (.int p1), .val (.int p2), .val (.int p3), .val (.int ch), .val (.int (1 : Int32)), .val (.ref b1), .unset, .unset, .unset, .unset, .unset] [(.int (1 : Int32)), (.ref b1), (.int ch)])) rfl (by rw [hml]; rfl) (argsL := [(.int ch), (.ref b1), (.int (1 : Int32))]) (rest := []) (lenOf pd_0_0 rfl) rfl (by show 2 * 0 + _ ≤ _; exact Nat.le_of_eq rfl) (hb hby at_49) (fun _ _ => ⟨rfl, e7, (by decide : 1 + 0 ≤ _), (by decide : 6 + 0 ≤ _)⟩)
        dsimp only [Pt.U, Pt.locs, Pt.cells, Pt.slots] at X71 l71 y71 z71 st71 hQ71
        subst l71 y71 z71
        obtain ⟨rfl, N71q, K71, o71⟩ := hQ71
        have N71 := Fr.app N7 N71q
        have Z71 : n0 ≤ T71.heap.size := Nat.le_trans Z7 K71.1
        refine own_st st71 ?_
        show own_Fin _ _ _ _ _ _ _ (T71.setTop (mkF m 52 #[.val (.int p1), .val (.int p2), .val (.int p3), .val (.int ch), .val (.int (1 : Int32)), .val (.ref b1), .unset, .unset, .unset, .unset, .unset] [(.int (own_wr ch (1 : Int32)))]))
        have Vx71 : Arv Z T71.heap b1 k1 .int (6 : Int32) [(.int p3), (.int (235 : Int32)), (.int (ch - (127 : Int32))), (.int p3), (.int p3), (.int p3)] (.int (0 : Int32)) := by have q := o71; unfold own_wv at q; rw [if_neg hA, if_pos hB] at q; exact q
        have rx71 : (own_wr ch (1 : Int32)) = (3 : Int32) := by unfold own_wr; rw [if_neg hA, if_pos hB]; rfl
        rw [rx71]
        show own_Fin _ _ _ _ _ _ _ (T71.setTop (mkF m 52 #[.val (.int p1), .val (.int p2), .val (.int p3), .val (.int ch), .val (.int (1 : Int32)), .val (.ref b1), .unset, .unset, .unset, .unset, .unset] [(.int (3 : Int32))]))
        refine own_st (fun t k => XS.istore X71.here hx rfl (hb hby at_52) rfl (l' := #[.val (.int p1), .val (.int p2), .val (.int p3), .val (.int ch), .val (.int (1 : Int32)), .val (.ref b1), .val (.int (3 : Int32)), .unset, .unset, .unset, .unset]) rfl k) ?_
        show own_Fin _ _ _ _ _ _ _ (T71.setTop (mkF m 54 #[.val (.int p1), .val (.int p2), .val (.int p3), .val (.int ch), .val (.int (1 : Int32)), .val (.ref b1), .val (.int (3 : Int32)), .unset, .unset, .unset, .unset] []))
        refine own_st (fun t k => XS.iload X71.here hx rfl (hb hby at_54) rfl k) ?_
        show own_Fin _ _ _ _ _ _ _ (T71.setTop (mkF m 56 #[.val (.int p1), .val (.int p2), .val (.int p3), .val (.int ch), .val (.int (1 : Int32)), .val (.ref b1), .val (.int (3 : Int32)), .unset, .unset, .unset, .unset] [(.int (3 : Int32))]))
        refine own_st (fun t k => XS.iload X71.here hx rfl (hb hby at_56) rfl k) ?_
        show own_Fin _ _ _ _ _ _ _ (T71.setTop (mkF m 58 #[.val (.int p1), .val (.int p2), .val (.int p3), .val (.int ch), .val (.int (1 : Int32)), .val (.ref b1), .val (.int (3 : Int32)), .unset, .unset, .unset, .unset] [(.int (1 : Int32)), (.int (3 : Int32))]))
        refine own_st (fun t k => XS.isub X71.here hx rfl (hb hby at_58) rfl k) ?_
        show own_Fin _ _ _ _ _ _ _ (T71.setTop (mkF m 59 #[.val (.int p1), .val (.int p2), .val (.int p3), .val (.int ch), .val (.int (1 : Int32)), .val (.ref b1), .val (.int (3 : Int32)), .unset, .unset, .unset, .unset] [(.int (2 : Int32))]))
        refine own_st (fun t k => XS.istore X71.here hx rfl (hb hby at_59) rfl (l' := #[.val (.int p1), .val (.int p2), .val (.int p3), .val (.int ch), .val (.int (1 : Int32)), .val (.ref b1), .val (.int (3 : Int32)), .val (.int (2 : Int32)), .unset, .unset, .unset]) rfl k) ?_
        show own_Fin _ _ _ _ _ _ _ (T71.setTop (mkF m 61 #[.val (.int p1), .val (.int p2), .val (.int p3), .val (.int ch), .val (.int (1 : Int32)), .val (.ref b1), .val (.int (3 : Int32)), .val (.int (2 : Int32)), .unset, .unset, .unset] []))
        refine own_st (fun t k => XS.iload X71.here hx rfl (hb hby at_61) rfl k) ?_
        show own_Fin _ _ _ _ _ _ _ (T71.setTop (mkF m 63 #[.val (.int p1), .val (.int p2), .val (.int p3), .val (.int ch), .val (.int (1 : Int32)), .val (.ref b1), .val (.int (3 : Int32)), .val (.int (2 : Int32)), .unset, .unset, .unset] [(.int (2 : Int32))]))
        refine own_st (fun t k => XS.iconst X71.here hx rfl (hb hby at_63) k) ?_
        show own_Fin _ _ _ _ _ _ _ (T71.setTop (mkF m 64 #[.val (.int p1), .val (.int p2), .val (.int p3), .val (.int ch), .val (.int (1 : Int32)), .val (.ref b1), .val (.int (3 : Int32)), .val (.int (2 : Int32)), .unset, .unset, .unset] [(.int (1 : Int32)), (.int (2 : Int32))]))
        refine own_st (fun t k => XS.icmpNo X71.here hx rfl (hb hby at_64) rfl (flt (by decide : ¬ ((2 : Int32) < (1 : Int32)))).1 k) ?_
        show own_Fin _ _ _ _ _ _ _ (T71.setTop (mkF m 67 #[.val (.int p1), .val (.int p2), .val (.int p3), .val (.int ch), .val (.int (1 : Int32)), .val (.ref b1), .val (.int (3 : Int32)), .val (.int (2 : Int32)), .unset, .unset, .unset] []))
        refine own_st (fun t k => XS.iload X71.here hx rfl (hb hby at_67) rfl k) ?_
        show own_Fin _ _ _ _ _ _ _ (T71.setTop (mkF m 69 #[.val (.int p1), .val (.int p2), .val (.int p3), .val (.int ch), .val (.int (1 : Int32)), .val (.ref b1), .val (.int (3 : Int32)), .val (.int (2 : Int32)), .unset, .unset, .unset] [(.int (2 : Int32))]))
        refine own_st (fun t k => XS.iconst X71.here hx rfl (hb hby at_69) k) ?_
        show own_Fin _ _ _ _ _ _ _ (T71.setTop (mkF m 70 #[.val (.int p1), .val (.int p2), .val (.int p3), .val (.int ch), .val (.int (1 : Int32)), .val (.ref b1), .val (.int (3 : Int32)), .val (.int (2 : Int32)), .unset, .unset, .unset] [(.int (2 : Int32)), (.int (2 : Int32))]))
        refine own_st (fun t k => XS.icmpYes X71.here hx rfl (pc0 := 70) (pc' := 75) rfl (hb hby at_70) rfl (flt (by decide : ¬ ((2 : Int32) < (2 : Int32)))).2.2.2 (by decide) (by decide) k) ?_
        show own_Fin _ _ _ _ _ _ _ (T71.setTop (mkF m 75 #[.val (.int p1), .val (.int p2), .val (.int p3), .val (.int ch), .val (.int (1 : Int32)), .val (.ref b1), .val (.int (3 : Int32)), .val (.int (2 : Int32)), .unset, .unset, .unset] []))
        refine own_st (fun t k => XS.aload X71.here hx rfl (hb hby at_75) rfl rfl k) ?_
        show own_Fin _ _ _ _ _ _ _ (T71.setTop (mkF m 77 #[.val (.int p1), .val (.int p2), .val (.int p3), .val (.int ch), .val (.int (1 : Int32)), .val (.ref b1), .val (.int (3 : Int32)), .val (.int (2 : Int32)), .unset, .unset, .unset] [(.ref b1)]))
        refine own_st (fun t k => XS.iload X71.here hx rfl (hb hby at_77) rfl k) ?_
        show own_Fin _ _ _ _ _ _ _ (T71.setTop (mkF m 79 #[.val (.int p1), .val (.int p2), .val (.int p3), .val (.int ch), .val (.int (1 : Int32)), .val (.ref b1), .val (.int (3 : Int32)), .val (.int (2 : Int32)), .unset, .unset, .unset] [(.int (1 : Int32)), (.ref b1)]))
        obtain ⟨cl72, Ar72, Cq72, Sz72, Mn72, Hs72, Gf72⟩ := id Vx71
        have hin72 := inb_of Sz72 (j := (1 : Int32)) ⟨by decide, by decide⟩
        refine own_st (X71.iaload hx (j := (1 : Int32)) (v := (.int (235 : Int32))) Ar72.1 (State.isArrayOf_alike hZ.alike Ar72.2.1) Ar72.2.2 hin72 (Hs72.at hin72 rfl) (g := (mkF m 79 #[.val (.int p1), .val (.int p2), .val (.int p3), .val (.int ch), .val (.int (1 : Int32)), .val (.ref b1), .val (.int (3 : Int32)), .val (.int (2 : Int32)), .unset, .unset, .unset] [(.int (1 : Int32)), (.ref b1)])) rfl rfl (hb hby at_79)) ?_
        show own_Fin _ _ _ _ _ _ _ (T71.setTop (mkF m 80 #[.val (.int p1), .val (.int p2), .val (.int p3), .val (.int ch), .val (.int (1 : Int32)), .val (.ref b1), .val (.int (3 : Int32)), .val (.int (2 : Int32)), .unset, .unset, .unset] [(.int (235 : Int32))]))
        refine own_st (fun t k => XS.istore X71.here hx rfl (hb hby at_80) rfl (l' := #[.val (.int p1), .val (.int p2), .val (.int p3), .val (.int ch), .val (.int (1 : Int32)), .val (.ref b1), .val (.int (3 : Int32)), .val (.int (2 : Int32)), .val (.int (235 : Int32)), .unset, .unset]) rfl k) ?_
        show own_Fin _ _ _ _ _ _ _ (T71.setTop (mkF m 82 #[.val (.int p1), .val (.int p2), .val (.int p3), .val (.int ch), .val (.int (1 : Int32)), .val (.ref b1), .val (.int (3 : Int32)), .val (.int (2 : Int32)), .val (.int (235 : Int32)), .unset, .unset] []))
        refine own_st (fun t k => XS.iload X71.here hx rfl (hb hby at_82) rfl k) ?_
        show own_Fin _ _ _ _ _ _ _ (T71.setTop (mkF m 84 #[.val (.int p1), .val (.int p2), .val (.int p3), .val (.int ch), .val (.int (1 : Int32)), .val (.ref b1), .val (.int (3 : Int32)), .val (.int (2 : Int32)), .val (.int (235 : Int32)), .unset, .unset] [(.int (235 : Int32))]))
        refine own_st (fun t k => XS.iconst X71.here hx rfl (hb hby at_84) k) ?_
        show own_Fin _ _ _ _ _ _ _ (T71.setTop (mkF m 85 #[.val (.int p1), .val (.int p2), .val (.int p3), .val (.int ch), .val (.int (1 : Int32)), .val (.ref b1), .val (.int (3 : Int32)), .val (.int (2 : Int32)), .val (.int (235 : Int32)), .unset, .unset] [(.int (1 : Int32)), (.int (235 : Int32))]))
        refine own_st (fun t k => XS.icmpNo X71.here hx rfl (hb hby at_85) rfl (flt (by decide : ¬ ((235 : Int32) < (1 : Int32)))).1 k) ?_
        show own_Fin _ _ _ _ _ _ _ (T71.setTop (mkF m 88 #[.val (.int p1), .val (.int p2), .val (.int p3), .val (.int ch), .val (.int (1 : Int32)), .val (.ref b1), .val (.int (3 : Int32)), .val (.int (2 : Int32)), .val (.int (235 : Int32)), .unset, .unset] []))
        refine own_st (fun t k => XS.iload X71.here hx rfl (hb hby at_88) rfl k) ?_
        show own_Fin _ _ _ _ _ _ _ (T71.setTop (mkF m 90 #[.val (.int p1), .val (.int p2), .val (.int p3), .val (.int ch), .val (.int (1 : Int32)), .val (.ref b1), .val (.int (3 : Int32)), .val (.int (2 : Int32)), .val (.int (235 : Int32)), .unset, .unset] [(.int (235 : Int32))]))
        refine own_st (fun t k => XS.sipush X71.here hx rfl (hb hby at_90) k) ?_
        show own_Fin _ _ _ _ _ _ _ (T71.setTop (mkF m 93 #[.val (.int p1), .val (.int p2), .val (.int p3), .val (.int ch), .val (.int (1 : Int32)), .val (.ref b1), .val (.int (3 : Int32)), .val (.int (2 : Int32)), .val (.int (235 : Int32)), .unset, .unset] [(.int (128 : Int32)), (.int (235 : Int32))]))
        refine own_st (fun t k => XS.icmpYes X71.here hx rfl (pc0 := 93) (pc' := 113) rfl (hb hby at_93) rfl (tlt (by decide : (128 : Int32) < (235 : Int32))).2.2.1 (by decide) (by decide) k) ?_
        show own_Fin _ _ _ _ _ _ _ (T71.setTop (mkF m 113 #[.val (.int p1), .val (.int p2), .val (.int p3), .val (.int ch), .val (.int (1 : Int32)), .val (.ref b1), .val (.int (3 : Int32)), .val (.int (2 : Int32)), .val (.int (235 : Int32)), .unset, .unset] []))
        refine own_st (fun t k => XS.iload X71.here hx rfl (hb hby at_113) rfl k) ?_
        show own_Fin _ _ _ _ _ _ _ (T71.setTop (mkF m 115 #[.val (.int p1), .val (.int p2), .val (.int p3), .val (.int ch), .val (.int (1 : Int32)), .val (.ref b1), .val (.int (3 : Int32)), .val (.int (2 : Int32)), .val (.int (235 : Int32)), .unset, .unset] [(.int (235 : Int32))]))
        refine own_st (fun t k => XS.sipush X71.here hx rfl (hb hby at_115) k) ?_
        show own_Fin _ _ _ _ _ _ _ (T71.setTop (mkF m 118 #[.val (.int p1), .val (.int p2), .val (.int p3), .val (.int ch), .val (.int (1 : Int32)), .val (.ref b1), .val (.int (3 : Int32)), .val (.int (2 : Int32)), .val (.int (235 : Int32)), .unset, .unset] [(.int (232 : Int32)), (.int (235 : Int32))]))
        refine own_st (fun t k => XS.icmpYes X71.here hx rfl (pc0 := 118) (pc' := 137) rfl (hb hby at_118) rfl (feq (by decide : ¬ ((235 : Int32) = (232 : Int32)))).2 (by decide) (by decide) k) ?_
        show own_Fin _ _ _ _ _ _ _ (T71.setTop (mkF m 137 #[.val (.int p1), .val (.int p2), .val (.int p3), .val (.int ch), .val (.int (1 : Int32)), .val (.ref b1), .val (.int (3 : Int32)), .val (.int (2 : Int32)), .val (.int (235 : Int32)), .unset, .unset] []))
        refine own_st (fun t k => XS.iload X71.here hx rfl (hb hby at_137) rfl k) ?_
        show own_Fin _ _ _ _ _ _ _ (T71.setTop (mkF m 139 #[.val (.int p1), .val (.int p2), .val (.int p3), .val (.int ch), .val (.int (1 : Int32)), .val (.ref b1), .val (.int (3 : Int32)), .val (.int (2 : Int32)), .val (.int (235 : Int32)), .unset, .unset] [(.int (235 : Int32))]))
        refine own_st (fun t k => XS.sipush X71.here hx rfl (hb hby at_139) k) ?_
        show own_Fin _ _ _ _ _ _ _ (T71.setTop (mkF m 142 #[.val (.int p1), .val (.int p2), .val (.int p3), .val (.int ch), .val (.int (1 : Int32)), .val (.ref b1), .val (.int (3 : Int32)), .val (.int (2 : Int32)), .val (.int (235 : Int32)), .unset, .unset] [(.int (235 : Int32)), (.int (235 : Int32))]))
        refine own_st (fun t k => XS.icmpNo X71.here hx rfl (hb hby at_142) rfl (teq (by decide : (235 : Int32) = (235 : Int32))).2 k) ?_
        show own_Fin _ _ _ _ _ _ _ (T71.setTop (mkF m 145 #[.val (.int p1), .val (.int p2), .val (.int p3), .val (.int ch), .val (.int (1 : Int32)), .val (.ref b1), .val (.int (3 : Int32)), .val (.int (2 : Int32)), .val (.int (235 : Int32)), .unset, .unset] []))
        refine own_st (fun t k => XS.iload X71.here hx rfl (hb hby at_145) rfl k) ?_
        show own_Fin _ _ _ _ _ _ _ (T71.setTop (mkF m 147 #[.val (.int p1), .val (.int p2), .val (.int p3), .val (.int ch), .val (.int (1 : Int32)), .val (.ref b1), .val (.int (3 : Int32)), .val (.int (2 : Int32)), .val (.int (235 : Int32)), .unset, .unset] [(.int (2 : Int32))]))
        refine own_st (fun t k => XS.iconst X71.here hx rfl (hb hby at_147) k) ?_
        show own_Fin _ _ _ _ _ _ _ (T71.setTop (mkF m 148 #[.val (.int p1), .val (.int p2), .val (.int p3), .val (.int ch), .val (.int (1 : Int32)), .val (.ref b1), .val (.int (3 : Int32)), .val (.int (2 : Int32)), .val (.int (235 : Int32)), .unset, .unset] [(.int (2 : Int32)), (.int (2 : Int32))]))
        refine own_st (fun t k => XS.icmpYes X71.here hx rfl (pc0 := 148) (pc' := 153) rfl (hb hby at_148) rfl (teq (by decide : (2 : Int32) = (2 : Int32))).1 (by decide) (by decide) k) ?_
        show own_Fin _ _ _ _ _ _ _ (T71.setTop (mkF m 153 #[.val (.int p1), .val (.int p2), .val (.int p3), .val (.int ch), .val (.int (1 : Int32)), .val (.ref b1), .val (.int (3 : Int32)), .val (.int (2 : Int32)), .val (.int (235 : Int32)), .unset, .unset] []))
        refine own_st (fun t k => XS.aload X71.here hx rfl (hb hby at_153) rfl rfl k) ?_
        show own_Fin _ _ _ _ _ _ _ (T71.setTop (mkF m 155 #[.val (.int p1), .val (.int p2), .val (.int p3), .val (.int ch), .val (.int (1 : Int32)), .val (.ref b1), .val (.int (3 : Int32)), .val (.int (2 : Int32)), .val (.int (235 : Int32)), .unset, .unset] [(.ref b1)]))
        refine own_st (fun t k => XS.iload X71.here hx rfl (hb hby at_155) rfl k) ?_
        show own_Fin _ _ _ _ _ _ _ (T71.setTop (mkF m 157 #[.val (.int p1), .val (.int p2), .val (.int p3), .val (.int ch), .val (.int (1 : Int32)), .val (.ref b1), .val (.int (3 : Int32)), .val (.int (2 : Int32)), .val (.int (235 : Int32)), .unset, .unset] [(.int (1 : Int32)), (.ref b1)]))
        refine own_st (fun t k => XS.iconst X71.here hx rfl (hb hby at_157) k) ?_
        show own_Fin _ _ _ _ _ _ _ (T71.setTop (mkF m 158 #[.val (.int p1), .val (.int p2), .val (.int p3), .val (.int ch), .val (.int (1 : Int32)), .val (.ref b1), .val (.int (3 : Int32)), .val (.int (2 : Int32)), .val (.int (235 : Int32)), .unset, .unset] [(.int (1 : Int32)), (.int (1 : Int32)), (.ref b1)]))
        refine own_st (fun t k => XS.iadd X71.here hx rfl (hb hby at_158) rfl k) ?_
        show own_Fin _ _ _ _ _ _ _ (T71.setTop (mkF m 159 #[.val (.int p1), .val (.int p2), .val (.int p3), .val (.int ch), .val (.int (1 : Int32)), .val (.ref b1), .val (.int (3 : Int32)), .val (.int (2 : Int32)), .val (.int (235 : Int32)), .unset, .unset] [(.int (2 : Int32)), (.ref b1)]))
        obtain ⟨cl73, Ar73, Cq73, Sz73, Mn73, Hs73, Gf73⟩ := id Vx71
        have hin73 := inb_of Sz73 (j := (2 : Int32)) ⟨by decide, by decide⟩
        refine own_st (X71.iaload hx (j := (2 : Int32)) (v := (.int (ch - (127 : Int32)))) Ar73.1 (State.isArrayOf_alike hZ.alike Ar73.2.1) Ar73.2.2 hin73 (Hs73.at hin73 rfl) (g := (mkF m 159 #[.val (.int p1), .val (.int p2), .val (.int p3), .val (.int ch), .val (.int (1 : Int32)), .val (.ref b1), .val (.int (3 : Int32)), .val (.int (2 : Int32)), .val (.int (235 : Int32)), .unset, .unset] [(.int (2 : Int32)), (.ref b1)])) rfl rfl (hb hby at_159)) ?_
        show own_Fin _ _ _ _ _ _ _ (T71.setTop (mkF m 160 #[.val (.int p1), .val (.int p2), .val (.int p3), .val (.int ch), .val (.int (1 : Int32)), .val (.ref b1), .val (.int (3 : Int32)), .val (.int (2 : Int32)), .val (.int (235 : Int32)), .unset, .unset] [(.int (ch - (127 : Int32)))]))
        refine own_st (fun t k => XS.istore X71.here hx rfl (hb hby at_160) rfl (l' := #[.val (.int p1), .val (.int p2), .val (.int p3), .val (.int ch), .val (.int (1 : Int32)), .val (.ref b1), .val (.int (3 : Int32)), .val (.int (2 : Int32)), .val (.int (235 : Int32)), .unset, .val (.int (ch - (127 : Int32)))]) rfl k) ?_
        show own_Fin _ _ _ _ _ _ _ (T71.setTop (mkF m 162 #[.val (.int p1), .val (.int p2), .val (.int p3), .val (.int ch), .val (.int (1 : Int32)), .val (.ref b1), .val (.int (3 : Int32)), .val (.int (2 : Int32)), .val (.int (235 : Int32)), .unset, .val (.int (ch - (127 : Int32)))] []))
        refine own_st (fun t k => XS.iload X71.here hx rfl (hb hby at_162) rfl k) ?_
        show own_Fin _ _ _ _ _ _ _ (T71.setTop (mkF m 164 #[.val (.int p1), .val (.int p2), .val (.int p3), .val (.int ch), .val (.int (1 : Int32)), .val (.ref b1), .val (.int (3 : Int32)), .val (.int (2 : Int32)), .val (.int (235 : Int32)), .unset, .val (.int (ch - (127 : Int32)))] [(.int (ch - (127 : Int32)))]))
        refine own_st (fun t k => XS.iconst X71.here hx rfl (hb hby at_164) k) ?_
        show own_Fin _ _ _ _ _ _ _ (T71.setTop (mkF m 165 #[.val (.int p1), .val (.int p2), .val (.int p3), .val (.int ch), .val (.int (1 : Int32)), .val (.ref b1), .val (.int (3 : Int32)), .val (.int (2 : Int32)), .val (.int (235 : Int32)), .unset, .val (.int (ch - (127 : Int32)))] [(.int (1 : Int32)), (.int (ch - (127 : Int32)))]))
        have hd165_74 : ¬ ((ch - (127 : Int32)) < (1 : Int32)) := (own_hi hc0.2 hA hB).1
        refine own_st (fun t k => XS.icmpNo X71.here hx rfl (hb hby at_165) rfl (flt hd165_74).1 k) ?_
        show own_Fin _ _ _ _ _ _ _ (T71.setTop (mkF m 168 #[.val (.int p1), .val (.int p2), .val (.int p3), .val (.int ch), .val (.int (1 : Int32)), .val (.ref b1), .val (.int (3 : Int32)), .val (.int (2 : Int32)), .val (.int (235 : Int32)), .unset, .val (.int (ch - (127 : Int32)))] []))
        refine own_st (fun t k => XS.iload X71.here hx rfl (hb hby at_168) rfl k) ?_
        show own_Fin _ _ _ _ _ _ _ (T71.setTop (mkF m 170 #[.val (.int p1), .val (.int p2), .val (.int p3), .val (.int ch), .val (.int (1 : Int32)), .val (.ref b1), .val (.int (3 : Int32)), .val (.int (2 : Int32)), .val (.int (235 : Int32)), .unset, .val (.int (ch - (127 : Int32)))] [(.int (ch - (127 : Int32)))]))
        refine own_st (fun t k => XS.sipush X71.here hx rfl (hb hby at_170) k) ?_
        show own_Fin _ _ _ _ _ _ _ (T71.setTop (mkF m 173 #[.val (.int p1), .val (.int p2), .val (.int p3), .val (.int ch), .val (.int (1 : Int32)), .val (.ref b1), .val (.int (3 : Int32)), .val (.int (2 : Int32)), .val (.int (235 : Int32)), .unset, .val (.int (ch - (127 : Int32)))] [(.int (128 : Int32)), (.int (ch - (127 : Int32)))]))
        have hd173_75 : ¬ ((128 : Int32) < (ch - (127 : Int32))) := (own_hi hc0.2 hA hB).2.1
        refine own_st (fun t k => XS.icmpYes X71.here hx rfl (pc0 := 173) (pc' := 178) rfl (hb hby at_173) rfl (flt hd173_75).2.2.2 (by decide) (by decide) k) ?_
        show own_Fin _ _ _ _ _ _ _ (T71.setTop (mkF m 178 #[.val (.int p1), .val (.int p2), .val (.int p3), .val (.int ch), .val (.int (1 : Int32)), .val (.ref b1), .val (.int (3 : Int32)), .val (.int (2 : Int32)), .val (.int (235 : Int32)), .unset, .val (.int (ch - (127 : Int32)))] []))
        refine own_st (fun t k => XS.iload X71.here hx rfl (hb hby at_178) rfl k) ?_
        show own_Fin _ _ _ _ _ _ _ (T71.setTop (mkF m 180 #[.val (.int p1), .val (.int p2), .val (.int p3), .val (.int ch), .val (.int (1 : Int32)), .val (.ref b1), .val (.int (3 : Int32)), .val (.int (2 : Int32)), .val (.int (235 : Int32)), .unset, .val (.int (ch - (127 : Int32)))] [(.int (ch - (127 : Int32)))]))
        refine own_st (fun t k => XS.iconst X71.here hx rfl (hb hby at_180) k) ?_
        show own_Fin _ _ _ _ _ _ _ (T71.setTop (mkF m 181 #[.val (.int p1), .val (.int p2), .val (.int p3), .val (.int ch), .val (.int (1 : Int32)), .val (.ref b1), .val (.int (3 : Int32)), .val (.int (2 : Int32)), .val (.int (235 : Int32)), .unset, .val (.int (ch - (127 : Int32)))] [(.int (1 : Int32)), (.int (ch - (127 : Int32)))]))
        refine own_st (fun t k => XS.isub X71.here hx rfl (hb hby at_181) rfl k) ?_
        show own_Fin _ _ _ _ _ _ _ (T71.setTop (mkF m 182 #[.val (.int p1), .val (.int p2), .val (.int p3), .val (.int ch), .val (.int (1 : Int32)), .val (.ref b1), .val (.int (3 : Int32)), .val (.int (2 : Int32)), .val (.int (235 : Int32)), .unset, .val (.int (ch - (127 : Int32)))] [(.int ((ch - (127 : Int32)) - (1 : Int32)))]))
        refine own_st (fun t k => XS.sipush X71.here hx rfl (hb hby at_182) k) ?_
        show own_Fin _ _ _ _ _ _ _ (T71.setTop (mkF m 185 #[.val (.int p1), .val (.int p2), .val (.int p3), .val (.int ch), .val (.int (1 : Int32)), .val (.ref b1), .val (.int (3 : Int32)), .val (.int (2 : Int32)), .val (.int (235 : Int32)), .unset, .val (.int (ch - (127 : Int32)))] [(.int (128 : Int32)), (.int ((ch - (127 : Int32)) - (1 : Int32)))]))
        refine own_st (fun t k => XS.iadd X71.here hx rfl (hb hby at_185) rfl k) ?_
        show own_Fin _ _ _ _ _ _ _ (T71.setTop (mkF m 186 #[.val (.int p1), .val (.int p2), .val (.int p3), .val (.int ch), .val (.int (1 : Int32)), .val (.ref b1), .val (.int (3 : Int32)), .val (.int (2 : Int32)), .val (.int (235 : Int32)), .unset, .val (.int (ch - (127 : Int32)))] [(.int (((ch - (127 : Int32)) - (1 : Int32)) + (128 : Int32)))]))
        refine own_st (fun t k => XS.istore X71.here hx rfl (hb hby at_186) rfl (l' := #[.val (.int p1), .val (.int p2), .val (.int p3), .val (.int ch), .val (.int (1 : Int32)), .val (.ref b1), .val (.int (3 : Int32)), .val (.int (2 : Int32)), .val (.int (235 : Int32)), .val (.int (((ch - (127 : Int32)) - (1 : Int32)) + (128 : Int32))), .val (.int (ch - (127 : Int32)))]) rfl k) ?_
        show own_Fin _ _ _ _ _ _ _ (T71.setTop (mkF m 188 #[.val (.int p1), .val (.int p2), .val (.int p3), .val (.int ch), .val (.int (1 : Int32)), .val (.ref b1), .val (.int (3 : Int32)), .val (.int (2 : Int32)), .val (.int (235 : Int32)), .val (.int (((ch - (127 : Int32)) - (1 : Int32)) + (128 : Int32))), .val (.int (ch - (127 : Int32)))] []))
        refine own_st (fun t k => XS.goto X71.here hx rfl (pc0 := 188) (pc' := 193) rfl (hb hby at_188) (by decide) (by decide) k) ?_
        show own_Fin _ _ _ _ _ _ _ (T71.setTop (mkF m 193 #[.val (.int p1), .val (.int p2), .val (.int p3), .val (.int ch), .val (.int (1 : Int32)), .val (.ref b1), .val (.int (3 : Int32)), .val (.int (2 : Int32)), .val (.int (235 : Int32)), .val (.int (((ch - (127 : Int32)) - (1 : Int32)) + (128 : Int32))), .val (.int (ch - (127 : Int32)))] []))
        refine own_st (fun t k => XS.iload X71.here hx rfl (hb hby at_193) rfl k) ?_
        show own_Fin _ _ _ _ _ _ _ (T71.setTop (mkF m 195 #[.val (.int p1), .val (.int p2), .val (.int p3), .val (.int ch), .val (.int (1 : Int32)), .val (.ref b1), .val (.int (3 : Int32)), .val (.int (2 : Int32)), .val (.int (235 : Int32)), .val (.int (((ch - (127 : Int32)) - (1 : Int32)) + (128 : Int32))), .val (.int (ch - (127 : Int32)))] [(.int (((ch - (127 : Int32)) - (1 : Int32)) + (128 : Int32)))]))
        refine own_st (fun t k => XS.iloadN X71.here hx rfl (hb hby at_195) rfl k) ?_
        show own_Fin _ _ _ _ _ _ _ (T71.setTop (mkF m 196 #[.val (.int p1), .val (.int p2), .val (.int p3), .val (.int ch), .val (.int (1 : Int32)), .val (.ref b1), .val (.int (3 : Int32)), .val (.int (2 : Int32)), .val (.int (235 : Int32)), .val (.int (((ch - (127 : Int32)) - (1 : Int32)) + (128 : Int32))), .val (.int (ch - (127 : Int32)))] [(.int ch), (.int (((ch - (127 : Int32)) - (1 : Int32)) + (128 : Int32)))]))
        have hd196_76 : (((ch - (127 : Int32)) - (1 : Int32)) + (128 : Int32)) = ch := (own_hi hc0.2 hA hB).2.2
        refine own_st (fun t k => XS.icmpNo X71.here hx rfl (hb hby at_196) rfl (teq hd196_76).2 k) ?_
        show own_Fin _ _ _ _ _ _ _ (T71.setTop (mkF m 199 #[.val (.int p1), .val (.int p2), .val (.int p3), .val (.int ch), .val (.int (1 : Int32)), .val (.ref b1), .val (.int (3 : Int32)), .val (.int (2 : Int32)), .val (.int (235 : Int32)), .val (.int (((ch - (127 : Int32)) - (1 : Int32)) + (128 : Int32))), .val (.int (ch - (127 : Int32)))] []))
        refine own_st (fun t k => XS.aload X71.here hx rfl (hb hby at_199) rfl rfl k) ?_
        show own_Fin _ _ _ _ _ _ _ (T71.setTop (mkF m 201 #[.val (.int p1), .val (.int p2), .val (.int p3), .val (.int ch), .val (.int (1 : Int32)), .val (.ref b1), .val (.int (3 : Int32)), .val (.int (2 : Int32)), .val (.int (235 : Int32)), .val (.int (((ch - (127 : Int32)) - (1 : Int32)) + (128 : Int32))), .val (.int (ch - (127 : Int32)))] [(.ref b1)]))
        refine own_st (fun t k => XS.iconst X71.here hx rfl (hb hby at_201) k) ?_
        show own_Fin _ _ _ _ _ _ _ (T71.setTop (mkF m 202 #[.val (.int p1), .val (.int p2), .val (.int p3), .val (.int ch), .val (.int (1 : Int32)), .val (.ref b1), .val (.int (3 : Int32)), .val (.int (2 : Int32)), .val (.int (235 : Int32)), .val (.int (((ch - (127 : Int32)) - (1 : Int32)) + (128 : Int32))), .val (.int (ch - (127 : Int32)))] [(.int (0 : Int32)), (.ref b1)]))
        refine own_st (fun t k => XS.iload X71.here hx rfl (hb hby at_202) rfl k) ?_
        show own_Fin _ _ _ _ _ _ _ (T71.setTop (mkF m 204 #[.val (.int p1), .val (.int p2), .val (.int p3), .val (.int ch), .val (.int (1 : Int32)), .val (.ref b1), .val (.int (3 : Int32)), .val (.int (2 : Int32)), .val (.int (235 : Int32)), .val (.int (((ch - (127 : Int32)) - (1 : Int32)) + (128 : Int32))), .val (.int (ch - (127 : Int32)))] [(.int (1 : Int32)), (.int (0 : Int32)), (.ref b1)]))
        refine own_st (fun t k => XS.iload X71.here hx rfl (hb hby at_204) rfl k) ?_
        show own_Fin _ _ _ _ _ _ _ (T71.setTop (mkF m 206 #[.val (.int p1), .val (.int p2), .val (.int p3), .val (.int ch), .val (.int (1 : Int32)), .val (.ref b1), .val (.int (3 : Int32)), .val (.int (2 : Int32)), .val (.int (235 : Int32)), .val (.int (((ch - (127 : Int32)) - (1 : Int32)) + (128 : Int32))), .val (.int (ch - (127 : Int32)))] [(.int (3 : Int32)), (.int (1 : Int32)), (.int (0 : Int32)), (.ref b1)]))
        refine own_st (fun t k => XS.iloadN X71.here hx rfl (hb hby at_206) rfl k) ?_
        show own_Fin _ _ _ _ _ _ _ (T71.setTop (mkF m 207 #[.val (.int p1), .val (.int p2), .val (.int p3), .val (.int ch), .val (.int (1 : Int32)), .val (.ref b1), .val (.int (3 : Int32)), .val (.int (2 : Int32)), .val (.int (235 : Int32)), .val (.int (((ch - (127 : Int32)) - (1 : Int32)) + (128 : Int32))), .val (.int (ch - (127 : Int32)))] [(.int p3), (.int (3 : Int32)), (.int (1 : Int32)), (.int (0 : Int32)), (.ref b1)]))
        obtain ⟨_, _, ⟨T77, L77, k77, n77⟩, -, X77, ⟨Lc77, hQ77, l77, y77, z77⟩, st77⟩ := Jvm.LawKit.callS X71 hx (y := (⟨"com/example/quietzone/quietzone/datamatrix/AsciiEncodationWritePinLaw", "untouched", "([IIIII)Z"⟩ : MethodName)) hown (mvT hZ (hw _ (List.mem_of_getElem? (i := 6) rfl))) (mvT hZ (hw _ (List.mem_of_getElem? (i := 7) rfl))) (mvT hZ (hw _ (List.mem_of_getElem? (i := 8) rfl))) (mvT hZ (hw _ (List.mem_of_getElem? (i := 9) rfl))) (by decide) (backOf (W := 0) (rm2 l Z a0 hw [] b1 (0 : Int32) (1 : Int32) (3 : Int32) p3 k1 (6 : Int32) [(.int p3), (.int (235 : Int32)), (.int (ch - (127 : Int32))), (.int p3), (.int p3), (.int p3)] p3 T71.heap n0 Z71 Vx71 (by decide) (by decide) rfl) hZ (hw _ (List.mem_of_getElem? (i := 9) rfl)) (hw _ (List.mem_of_getElem? (i := 8) rfl)) (by decide) (by decide)) (g := (mkF m 207 #[.val (.int p1), .val (.int p2), .val (.int p3), .val (.int ch), .val (.int (1 : Int32)), .val (.ref b1), .val (.int (3 : Int32)), .val (.int (2 : Int32)), .val (.int (235 : Int32)), .val (.int (((ch - (127 : Int32)) - (1 : Int32)) + (128 : Int32))), .val (.int (ch - (127 : Int32)))] [(.int p3), (.int (3 : Int32)), (.int (1 : Int32)), (.int (0 : Int32)), (.ref b1)])) rfl (by rw [hml]; rfl) (argsL := [(.ref b1), (.int (0 : Int32)), (.int (1 : Int32)), (.int (3 : Int32)), (.int p3)]) (rest := []) (lenOf pd_0_1 rfl) rfl (by show 2 * 0 + _ ≤ _; exact Nat.le_of_eq rfl) (hb hby at_207) (fun _ _ => ⟨rfl, rfl, (by decide : 1 + 0 ≤ _), (by decide : 6 + 0 ≤ _)⟩)
        dsimp only [Pt.U, Pt.locs, Pt.cells, Pt.slots] at X77 l77 y77 z77 st77 hQ77
        subst l77 y77 z77
        obtain ⟨rfl, N77q, e77⟩ := hQ77
        have N77 := Fr.app N71 N77q
        refine own_st st77 ?_
        show own_Fin _ _ _ _ _ _ _ (T77.setTop (mkF m 210 #[.val (.int p1), .val (.int p2), .val (.int p3), .val (.int ch), .val (.int (1 : Int32)), .val (.ref b1), .val (.int (3 : Int32)), .val (.int (2 : Int32)), .val (.int (235 : Int32)), .val (.int (((ch - (127 : Int32)) - (1 : Int32)) + (128 : Int32))), .val (.int (ch - (127 : Int32)))] [(.int (own_un (0 : Int32) (1 : Int32) (3 : Int32) p3 p3))]))
        have hd210_78 : ¬ ((own_un (0 : Int32) (1 : Int32) (3 : Int32) p3 p3) = (0 : Int32)) := by unfold own_un; simp
        refine own_st (fun t k => XS.ifNo X77.here hx rfl (hb hby at_210) rfl ((if0 _ _).trans (feq hd210_78).1) k) ?_
        show own_Fin _ _ _ _ _ _ _ (T77.setTop (mkF m 213 #[.val (.int p1), .val (.int p2), .val (.int p3), .val (.int ch), .val (.int (1 : Int32)), .val (.ref b1), .val (.int (3 : Int32)), .val (.int (2 : Int32)), .val (.int (235 : Int32)), .val (.int (((ch - (127 : Int32)) - (1 : Int32)) + (128 : Int32))), .val (.int (ch - (127 : Int32)))] []))
        refine own_st (fun t k => XS.aload X77.here hx rfl (hb hby at_213) rfl rfl k) ?_
        show own_Fin _ _ _ _ _ _ _ (T77.setTop (mkF m 215 #[.val (.int p1), .val (.int p2), .val (.int p3), .val (.int ch), .val (.int (1 : Int32)), .val (.ref b1), .val (.int (3 : Int32)), .val (.int (2 : Int32)), .val (.int (235 : Int32)), .val (.int (((ch - (127 : Int32)) - (1 : Int32)) + (128 : Int32))), .val (.int (ch - (127 : Int32)))] [(.ref b1)]))
        refine own_st (fun t k => XS.iconst X77.here hx rfl (hb hby at_215) k) ?_
        show own_Fin _ _ _ _ _ _ _ (T77.setTop (mkF m 216 #[.val (.int p1), .val (.int p2), .val (.int p3), .val (.int ch), .val (.int (1 : Int32)), .val (.ref b1), .val (.int (3 : Int32)), .val (.int (2 : Int32)), .val (.int (235 : Int32)), .val (.int (((ch - (127 : Int32)) - (1 : Int32)) + (128 : Int32))), .val (.int (ch - (127 : Int32)))] [(.int (1 : Int32)), (.ref b1)]))
        refine own_st (fun t k => XS.iload X77.here hx rfl (hb hby at_216) rfl k) ?_
        show own_Fin _ _ _ _ _ _ _ (T77.setTop (mkF m 218 #[.val (.int p1), .val (.int p2), .val (.int p3), .val (.int ch), .val (.int (1 : Int32)), .val (.ref b1), .val (.int (3 : Int32)), .val (.int (2 : Int32)), .val (.int (235 : Int32)), .val (.int (((ch - (127 : Int32)) - (1 : Int32)) + (128 : Int32))), .val (.int (ch - (127 : Int32)))] [(.int (1 : Int32)), (.int (1 : Int32)), (.ref b1)]))
        refine own_st (fun t k => XS.iload X77.here hx rfl (hb hby at_218) rfl k) ?_
        show own_Fin _ _ _ _ _ _ _ (T77.setTop (mkF m 220 #[.val (.int p1), .val (.int p2), .val (.int p3), .val (.int ch), .val (.int (1 : Int32)), .val (.ref b1), .val (.int (3 : Int32)), .val (.int (2 : Int32)), .val (.int (235 : Int32)), .val (.int (((ch - (127 : Int32)) - (1 : Int32)) + (128 : Int32))), .val (.int (ch - (127 : Int32)))] [(.int (3 : Int32)), (.int (1 : Int32)), (.int (1 : Int32)), (.ref b1)]))
        refine own_st (fun t k => XS.iloadN X77.here hx rfl (hb hby at_220) rfl k) ?_
        show own_Fin _ _ _ _ _ _ _ (T77.setTop (mkF m 221 #[.val (.int p1), .val (.int p2), .val (.int p3), .val (.int ch), .val (.int (1 : Int32)), .val (.ref b1), .val (.int (3 : Int32)), .val (.int (2 : Int32)), .val (.int (235 : Int32)), .val (.int (((ch - (127 : Int32)) - (1 : Int32)) + (128 : Int32))), .val (.int (ch - (127 : Int32)))] [(.int p3), (.int (3 : Int32)), (.int (1 : Int32)), (.int (1 : Int32)), (.ref b1)]))
        obtain ⟨_, _, ⟨T79, L79, k79, n79⟩, -, X79, ⟨Lc79, hQ79, l79, y79, z79⟩, st79⟩ := Jvm.LawKit.callS X77 hx (y := (⟨"com/example/quietzone/quietzone/datamatrix/AsciiEncodationWritePinLaw", "untouched", "([IIIII)Z"⟩ : MethodName)) hown (mvT hZ (hw _ (List.mem_of_getElem? (i := 6) rfl))) (mvT hZ (hw _ (List.mem_of_getElem? (i := 7) rfl))) (mvT hZ (hw _ (List.mem_of_getElem? (i := 8) rfl))) (mvT hZ (hw _ (List.mem_of_getElem? (i := 9) rfl))) (by decide) (backOf (W := 0) (rm2 l Z a0 hw [] b1 (1 : Int32) (1 : Int32) (3 : Int32) p3 k1 (6 : Int32) [(.int p3), (.int (235 : Int32)), (.int (ch - (127 : Int32))), (.int p3), (.int p3), (.int p3)] (235 : Int32) T71.heap n0 Z71 Vx71 (by decide) (by decide) rfl) hZ (hw _ (List.mem_of_getElem? (i := 9) rfl)) (hw _ (List.mem_of_getElem? (i := 8) rfl)) (by decide) (by decide)) (g := (mkF m 221 #[.val (.int p1), .val (.int p2), .val (.int p3), .val (.int ch), .val (.int (1 : Int32)), .val (.ref b1), .val (.int (3 : Int32)), .val (.int (2 : Int32)), .val (.int (235 : Int32)), .val (.int (((ch - (127 : Int32)) - (1 : Int32)) + (128 : Int32))), .val (.int (ch - (127 : Int32)))] [(.int p3), (.int (3 : Int32)), (.int (1 : Int32)), (.int (1 : Int32)), (.ref b1)])) rfl (by rw [hml]; rfl) (argsL := [(.ref b1), (.int (1 : Int32)), (.int (1 : Int32)), (.int (3 : Int32)), (.int p3)]) (rest := []) (lenOf pd_0_1 rfl) rfl (by show 2 * 0 + _ ≤ _; exact Nat.le_of_eq rfl) (hb hby at_221) (fun _ _ => ⟨rfl, e77, (by decide : 1 + 0 ≤ _), (by decide : 6 + 0 ≤ _)⟩)
        dsimp only [Pt.U, Pt.locs, Pt.cells, Pt.slots] at X79 l79 y79 z79 st79 hQ79
        subst l79 y79 z79
        obtain ⟨rfl, N79q, e79⟩ := hQ79
        have N79 := Fr.app N77 N79q
        refine own_st st79 ?_
        show own_Fin _ _ _ _ _ _ _ (T79.setTop (mkF m 224 #[.val (.int p1), .val (.int p2), .val (.int p3), .val (.int ch), .val (.int (1 : Int32)), .val (.ref b1), .val (.int (3 : Int32)), .val (.int (2 : Int32)), .val (.int (235 : Int32)), .val (.int (((ch - (127 : Int32)) - (1 : Int32)) + (128 : Int32))), .val (.int (ch - (127 : Int32)))] [(.int (own_un (1 : Int32) (1 : Int32) (3 : Int32) p3 (235 : Int32)))]))
        have hd224_80 : ¬ ((own_un (1 : Int32) (1 : Int32) (3 : Int32) p3 (235 : Int32)) = (0 : Int32)) := by unfold own_un; simp
        refine own_st (fun t k => XS.ifNo X79.here hx rfl (hb hby at_224) rfl ((if0 _ _).trans (feq hd224_80).1) k) ?_
        show own_Fin _ _ _ _ _ _ _ (T79.setTop (mkF m 227 #[.val (.int p1), .val (.int p2), .val (.int p3), .val (.int ch), .val (.int (1 : Int32)), .val (.ref b1), .val (.int (3 : Int32)), .val (.int (2 : Int32)), .val (.int (235 : Int32)), .val (.int (((ch - (127 : Int32)) - (1 : Int32)) + (128 : Int32))), .val (.int (ch - (127 : Int32)))] []))
        refine own_st (fun t k => XS.aload X79.here hx rfl (hb hby at_227) rfl rfl k) ?_
        show own_Fin _ _ _ _ _ _ _ (T79.setTop (mkF m 229 #[.val (.int p1), .val (.int p2), .val (.int p3), .val (.int ch), .val (.int (1 : Int32)), .val (.ref b1), .val (.int (3 : Int32)), .val (.int (2 : Int32)), .val (.int (235 : Int32)), .val (.int (((ch - (127 : Int32)) - (1 : Int32)) + (128 : Int32))), .val (.int (ch - (127 : Int32)))] [(.ref b1)]))
        refine own_st (fun t k => XS.iconst X79.here hx rfl (hb hby at_229) k) ?_
        show own_Fin _ _ _ _ _ _ _ (T79.setTop (mkF m 230 #[.val (.int p1), .val (.int p2), .val (.int p3), .val (.int ch), .val (.int (1 : Int32)), .val (.ref b1), .val (.int (3 : Int32)), .val (.int (2 : Int32)), .val (.int (235 : Int32)), .val (.int (((ch - (127 : Int32)) - (1 : Int32)) + (128 : Int32))), .val (.int (ch - (127 : Int32)))] [(.int (2 : Int32)), (.ref b1)]))
        refine own_st (fun t k => XS.iload X79.here hx rfl (hb hby at_230) rfl k) ?_
        show own_Fin _ _ _ _ _ _ _ (T79.setTop (mkF m 232 #[.val (.int p1), .val (.int p2), .val (.int p3), .val (.int ch), .val (.int (1 : Int32)), .val (.ref b1), .val (.int (3 : Int32)), .val (.int (2 : Int32)), .val (.int (235 : Int32)), .val (.int (((ch - (127 : Int32)) - (1 : Int32)) + (128 : Int32))), .val (.int (ch - (127 : Int32)))] [(.int (1 : Int32)), (.int (2 : Int32)), (.ref b1)]))
        refine own_st (fun t k => XS.iload X79.here hx rfl (hb hby at_232) rfl k) ?_
        show own_Fin _ _ _ _ _ _ _ (T79.setTop (mkF m 234 #[.val (.int p1), .val (.int p2), .val (.int p3), .val (.int ch), .val (.int (1 : Int32)), .val (.ref b1), .val (.int (3 : Int32)), .val (.int (2 : Int32)), .val (.int (235 : Int32)), .val (.int (((ch - (127 : Int32)) - (1 : Int32)) + (128 : Int32))), .val (.int (ch - (127 : Int32)))] [(.int (3 : Int32)), (.int (1 : Int32)), (.int (2 : Int32)), (.ref b1)]))
        refine own_st (fun t k => XS.iloadN X79.here hx rfl (hb hby at_234) rfl k) ?_
        show own_Fin _ _ _ _ _ _ _ (T79.setTop (mkF m 235 #[.val (.int p1), .val (.int p2), .val (.int p3), .val (.int ch), .val (.int (1 : Int32)), .val (.ref b1), .val (.int (3 : Int32)), .val (.int (2 : Int32)), .val (.int (235 : Int32)), .val (.int (((ch - (127 : Int32)) - (1 : Int32)) + (128 : Int32))), .val (.int (ch - (127 : Int32)))] [(.int p3), (.int (3 : Int32)), (.int (1 : Int32)), (.int (2 : Int32)), (.ref b1)]))
        obtain ⟨_, _, ⟨T81, L81, k81, n81⟩, -, X81, ⟨Lc81, hQ81, l81, y81, z81⟩, st81⟩ := Jvm.LawKit.callS X79 hx (y := (⟨"com/example/quietzone/quietzone/datamatrix/AsciiEncodationWritePinLaw", "untouched", "([IIIII)Z"⟩ : MethodName)) hown (mvT hZ (hw _ (List.mem_of_getElem? (i := 6) rfl))) (mvT hZ (hw _ (List.mem_of_getElem? (i := 7) rfl))) (mvT hZ (hw _ (List.mem_of_getElem? (i := 8) rfl))) (mvT hZ (hw _ (List.mem_of_getElem? (i := 9) rfl))) (by decide) (backOf (W := 0) (rm2 l Z a0 hw [] b1 (2 : Int32) (1 : Int32) (3 : Int32) p3 k1 (6 : Int32) [(.int p3), (.int (235 : Int32)), (.int (ch - (127 : Int32))), (.int p3), (.int p3), (.int p3)] (ch - (127 : Int32)) T71.heap n0 Z71 Vx71 (by decide) (by decide) rfl) hZ (hw _ (List.mem_of_getElem? (i := 9) rfl)) (hw _ (List.mem_of_getElem? (i := 8) rfl)) (by decide) (by decide)) (g := (mkF m 235 #[.val (.int p1), .val (.int p2), .val (.int p3), .val (.int ch), .val (.int (1 : Int32)), .val (.ref b1), .val (.int (3 : Int32)), .val (.int (2 : Int32)), .val (.int (235 : Int32)), .val (.int (((ch - (127 : Int32)) - (1 : Int32)) + (128 : Int32))), .val (.int (ch - (127 : Int32)))] [(.int p3), (.int (3 : Int32)), (.int (1 : Int32)), (.int (2 : Int32)), (.ref b1)])) rfl (by rw [hml]; rfl) (argsL := [(.ref b1), (.int (2 : Int32)), (.int (1 : Int32)), (.int (3 : Int32)), (.int p3)]) (rest := []) (lenOf pd_0_1 rfl) rfl (by show 2 * 0 + _ ≤ _; exact Nat.le_of_eq rfl) (hb hby at_235) (fun _ _ => ⟨rfl, e79, (by decide : 1 + 0 ≤ _), (by decide : 6 + 0 ≤ _)⟩)
        dsimp only [Pt.U, Pt.locs, Pt.cells, Pt.slots] at X81 l81 y81 z81 st81 hQ81
        subst l81 y81 z81
        obtain ⟨rfl, N81q, e81⟩ := hQ81
        have N81 := Fr.app N79 N81q
        refine own_st st81 ?_
        show own_Fin _ _ _ _ _ _ _ (T81.setTop (mkF m 238 #[.val (.int p1), .val (.int p2), .val (.int p3), .val (.int ch), .val (.int (1 : Int32)), .val (.ref b1), .val (.int (3 : Int32)), .val (.int (2 : Int32)), .val (.int (235 : Int32)), .val (.int (((ch - (127 : Int32)) - (1 : Int32)) + (128 : Int32))), .val (.int (ch - (127 : Int32)))] [(.int (own_un (2 : Int32) (1 : Int32) (3 : Int32) p3 (ch - (127 : Int32))))]))
        have hd238_82 : ¬ ((own_un (2 : Int32) (1 : Int32) (3 : Int32) p3 (ch - (127 : Int32))) = (0 : Int32)) := by unfold own_un; simp
        refine own_st (fun t k => XS.ifNo X81.here hx rfl (hb hby at_238) rfl ((if0 _ _).trans (feq hd238_82).1) k) ?_
        show own_Fin _ _ _ _ _ _ _ (T81.setTop (mkF m 241 #[.val (.int p1), .val (.int p2), .val (.int p3), .val (.int ch), .val (.int (1 : Int32)), .val (.ref b1), .val (.int (3 : Int32)), .val (.int (2 : Int32)), .val (.int (235 : Int32)), .val (.int (((ch - (127 : Int32)) - (1 : Int32)) + (128 : Int32))), .val (.int (ch - (127 : Int32)))] []))
        refine own_st (fun t k => XS.aload X81.here hx rfl (hb hby at_241) rfl rfl k) ?_
        show own_Fin _ _ _ _ _ _ _ (T81.setTop (mkF m 243 #[.val (.int p1), .val (.int p2), .val (.int p3), .val (.int ch), .val (.int (1 : Int32)), .val (.ref b1), .val (.int (3 : Int32)), .val (.int (2 : Int32)), .val (.int (235 : Int32)), .val (.int (((ch - (127 : Int32)) - (1 : Int32)) + (128 : Int32))), .val (.int (ch - (127 : Int32)))] [(.ref b1)]))
        refine own_st (fun t k => XS.iconst X81.here hx rfl (hb hby at_243) k) ?_
        show own_Fin _ _ _ _ _ _ _ (T81.setTop (mkF m 244 #[.val (.int p1), .val (.int p2), .val (.int p3), .val (.int ch), .val (.int (1 : Int32)), .val (.ref b1), .val (.int (3 : Int32)), .val (.int (2 : Int32)), .val (.int (235 : Int32)), .val (.int (((ch - (127 : Int32)) - (1 : Int32)) + (128 : Int32))), .val (.int (ch - (127 : Int32)))] [(.int (3 : Int32)), (.ref b1)]))
        refine own_st (fun t k => XS.iload X81.here hx rfl (hb hby at_244) rfl k) ?_
        show own_Fin _ _ _ _ _ _ _ (T81.setTop (mkF m 246 #[.val (.int p1), .val (.int p2), .val (.int p3), .val (.int ch), .val (.int (1 : Int32)), .val (.ref b1), .val (.int (3 : Int32)), .val (.int (2 : Int32)), .val (.int (235 : Int32)), .val (.int (((ch - (127 : Int32)) - (1 : Int32)) + (128 : Int32))), .val (.int (ch - (127 : Int32)))] [(.int (1 : Int32)), (.int (3 : Int32)), (.ref b1)]))
        refine own_st (fun t k => XS.iload X81.here hx rfl (hb hby at_246) rfl k) ?_
        show own_Fin _ _ _ _ _ _ _ (T81.setTop (mkF m 248 #[.val (.int p1), .val (.int p2), .val (.int p3), .val (.int ch), .val (.int (1 : Int32)), .val (.ref b1), .val (.int (3 : Int32)), .val (.int (2 : Int32)), .val (.int (235 : Int32)), .val (.int (((ch - (127 : Int32)) - (1 : Int32)) + (128 : Int32))), .val (.int (ch - (127 : Int32)))] [(.int (3 : Int32)), (.int (1 : Int32)), (.int (3 : Int32)), (.ref b1)]))
        refine own_st (fun t k => XS.iloadN X81.here hx rfl (hb hby at_248) rfl k) ?_
        show own_Fin _ _ _ _ _ _ _ (T81.setTop (mkF m 249 #[.val (.int p1), .val (.int p2), .val (.int p3), .val (.int ch), .val (.int (1 : Int32)), .val (.ref b1), .val (.int (3 : Int32)), .val (.int (2 : Int32)), .val (.int (235 : Int32)), .val (.int (((ch - (127 : Int32)) - (1 : Int32)) + (128 : Int32))), .val (.int (ch - (127 : Int32)))] [(.int p3), (.int (3 : Int32)), (.int (1 : Int32)), (.int (3 : Int32)), (.ref b1)]))
        obtain ⟨_, _, ⟨T83, L83, k83, n83⟩, -, X83, ⟨Lc83, hQ83, l83, y83, z83⟩, st83⟩ := Jvm.LawKit.callS X81 hx (y := (⟨"com/example/quietzone/quietzone/datamatrix/AsciiEncodationWritePinLaw", "untouched", "([IIIII)Z"⟩ : MethodName)) hown (mvT hZ (hw _ (List.mem_of_getElem? (i := 6) rfl))) (mvT hZ (hw _ (List.mem_of_getElem? (i := 7) rfl))) (mvT hZ (hw _ (List.mem_of_getElem? (i := 8) rfl))) (mvT hZ (hw _ (List.mem_of_getElem? (i := 9) rfl))) (by decide) (backOf (W := 0) (rm2 l Z a0 hw [] b1 (3 : Int32) (1 : Int32) (3 : Int32) p3 k1 (6 : Int32) [(.int p3), (.int (235 : Int32)), (.int (ch - (127 : Int32))), (.int p3), (.int p3), (.int p3)] p3 T71.heap n0 Z71 Vx71 (by decide) (by decide) rfl) hZ (hw _ (List.mem_of_getElem? (i := 9) rfl)) (hw _ (List.mem_of_getElem? (i := 8) rfl)) (by decide) (by decide)) (g := (mkF m 249 #[.val (.int p1), .val (.int p2), .val (.int p3), .val (.int ch), .val (.int (1 : Int32)), .val (.ref b1), .val (.int (3 : Int32)), .val (.int (2 : Int32)), .val (.int (235 : Int32)), .val (.int (((ch - (127 : Int32)) - (1 : Int32)) + (128 : Int32))), .val (.int (ch - (127 : Int32)))] [(.int p3), (.int (3 : Int32)), (.int (1 : Int32)), (.int (3 : Int32)), (.ref b1)])) rfl (by rw [hml]; rfl) (argsL := [(.ref b1), (.int (3 : Int32)), (.int (1 : Int32)), (.int (3 : Int32)), (.int p3)]) (rest := []) (lenOf pd_0_1 rfl) rfl (by show 2 * 0 + _ ≤ _; exact Nat.le_of_eq rfl) (hb hby at_249) (fun _ _ => ⟨rfl, e81, (by decide : 1 + 0 ≤ _), (by decide : 6 + 0 ≤ _)⟩)
        dsimp only [Pt.U, Pt.locs, Pt.cells, Pt.slots] at X83 l83 y83 z83 st83 hQ83
        subst l83 y83 z83
        obtain ⟨rfl, N83q, e83⟩ := hQ83
        have N83 := Fr.app N81 N83q
        refine own_st st83 ?_
        show own_Fin _ _ _ _ _ _ _ (T83.setTop (mkF m 252 #[.val (.int p1), .val (.int p2), .val (.int p3), .val (.int ch), .val (.int (1 : Int32)), .val (.ref b1), .val (.int (3 : Int32)), .val (.int (2 : Int32)), .val (.int (235 : Int32)), .val (.int (((ch - (127 : Int32)) - (1 : Int32)) + (128 : Int32))), .val (.int (ch - (127 : Int32)))] [(.int (own_un (3 : Int32) (1 : Int32) (3 : Int32) p3 p3))]))
        have hd252_84 : ¬ ((own_un (3 : Int32) (1 : Int32) (3 : Int32) p3 p3) = (0 : Int32)) := by unfold own_un; simp
        refine own_st (fun t k => XS.ifNo X83.here hx rfl (hb hby at_252) rfl ((if0 _ _).trans (feq hd252_84).1) k) ?_
        show own_Fin _ _ _ _ _ _ _ (T83.setTop (mkF m 255 #[.val (.int p1), .val (.int p2), .val (.int p3), .val (.int ch), .val (.int (1 : Int32)), .val (.ref b1), .val (.int (3 : Int32)), .val (.int (2 : Int32)), .val (.int (235 : Int32)), .val (.int (((ch - (127 : Int32)) - (1 : Int32)) + (128 : Int32))), .val (.int (ch - (127 : Int32)))] []))
        refine own_st (fun t k => XS.aload X83.here hx rfl (hb hby at_255) rfl rfl k) ?_
        show own_Fin _ _ _ _ _ _ _ (T83.setTop (mkF m 257 #[.val (.int p1), .val (.int p2), .val (.int p3), .val (.int ch), .val (.int (1 : Int32)), .val (.ref b1), .val (.int (3 : Int32)), .val (.int (2 : Int32)), .val (.int (235 : Int32)), .val (.int (((ch - (127 : Int32)) - (1 : Int32)) + (128 : Int32))), .val (.int (ch - (127 : Int32)))] [(.ref b1)]))
        refine own_st (fun t k => XS.iconst X83.here hx rfl (hb hby at_257) k) ?_
        show own_Fin _ _ _ _ _ _ _ (T83.setTop (mkF m 258 #[.val (.int p1), .val (.int p2), .val (.int p3), .val (.int ch), .val (.int (1 : Int32)), .val (.ref b1), .val (.int (3 : Int32)), .val (.int (2 : Int32)), .val (.int (235 : Int32)), .val (.int (((ch - (127 : Int32)) - (1 : Int32)) + (128 : Int32))), .val (.int (ch - (127 : Int32)))] [(.int (4 : Int32)), (.ref b1)]))
        refine own_st (fun t k => XS.iload X83.here hx rfl (hb hby at_258) rfl k) ?_
        show own_Fin _ _ _ _ _ _ _ (T83.setTop (mkF m 260 #[.val (.int p1), .val (.int p2), .val (.int p3), .val (.int ch), .val (.int (1 : Int32)), .val (.ref b1), .val (.int (3 : Int32)), .val (.int (2 : Int32)), .val (.int (235 : Int32)), .val (.int (((ch - (127 : Int32)) - (1 : Int32)) + (128 : Int32))), .val (.int (ch - (127 : Int32)))] [(.int (1 : Int32)), (.int (4 : Int32)), (.ref b1)]))
        refine own_st (fun t k => XS.iload X83.here hx rfl (hb hby at_260) rfl k) ?_
        show own_Fin _ _ _ _ _ _ _ (T83.setTop (mkF m 262 #[.val (.int p1), .val (.int p2), .val (.int p3), .val (.int ch), .val (.int (1 : Int32)), .val (.ref b1), .val (.int (3 : Int32)), .val (.int (2 : Int32)), .val (.int (235 : Int32)), .val (.int (((ch - (127 : Int32)) - (1 : Int32)) + (128 : Int32))), .val (.int (ch - (127 : Int32)))] [(.int (3 : Int32)), (.int (1 : Int32)), (.int (4 : Int32)), (.ref b1)]))
        refine own_st (fun t k => XS.iloadN X83.here hx rfl (hb hby at_262) rfl k) ?_
        show own_Fin _ _ _ _ _ _ _ (T83.setTop (mkF m 263 #[.val (.int p1), .val (.int p2), .val (.int p3), .val (.int ch), .val (.int (1 : Int32)), .val (.ref b1), .val (.int (3 : Int32)), .val (.int (2 : Int32)), .val (.int (235 : Int32)), .val (.int (((ch - (127 : Int32)) - (1 : Int32)) + (128 : Int32))), .val (.int (ch - (127 : Int32)))] [(.int p3), (.int (3 : Int32)), (.int (1 : Int32)), (.int (4 : Int32)), (.ref b1)]))
        obtain ⟨_, _, ⟨T85, L85, k85, n85⟩, -, X85, ⟨Lc85, hQ85, l85, y85, z85⟩, st85⟩ := Jvm.LawKit.callS X83 hx (y := (⟨"com/example/quietzone/quietzone/datamatrix/AsciiEncodationWritePinLaw", "untouched", "([IIIII)Z"⟩ : MethodName)) hown (mvT hZ (hw _ (List.mem_of_getElem? (i := 6) rfl))) (mvT hZ (hw _ (List.mem_of_getElem? (i := 7) rfl))) (mvT hZ (hw _ (List.mem_of_getElem? (i := 8) rfl))) (mvT hZ (hw _ (List.mem_of_getElem? (i := 9) rfl))) (by decide) (backOf (W := 0) (rm2 l Z a0 hw [] b1 (4 : Int32) (1 : Int32) (3 : Int32) p3 k1 (6 : Int32) [(.int p3), (.int (235 : Int32)), (.int (ch - (127 : Int32))), (.int p3), (.int p3), (.int p3)] p3 T71.heap n0 Z71 Vx71 (by decide) (by decide) rfl) hZ (hw _ (List.mem_of_getElem? (i := 9) rfl)) (hw _ (List.mem_of_getElem? (i := 8) rfl)) (by decide) (by decide)) (g := (mkF m 263 #[.val (.int p1), .val (.int p2), .val (.int p3), .val (.int ch), .val (.int (1 : Int32)), .val (.ref b1), .val (.int (3 : Int32)), .val (.int (2 : Int32)), .val (.int (235 : Int32)), .val (.int (((ch - (127 : Int32)) - (1 : Int32)) + (128 : Int32))), .val (.int (ch - (127 : Int32)))] [(.int p3), (.int (3 : Int32)), (.int (1 : Int32)), (.int (4 : Int32)), (.ref b1)])) rfl (by rw [hml]; rfl) (argsL := [(.ref b1), (.int (4 : Int32)), (.int (1 : Int32)), (.int (3 : Int32)), (.int p3)]) (rest := []) (lenOf pd_0_1 rfl) rfl (by show 2 * 0 + _ ≤ _; exact Nat.le_of_eq rfl) (hb hby at_263) (fun _ _ => ⟨rfl, e83, (by decide : 1 + 0 ≤ _), (by decide : 6 + 0 ≤ _)⟩)
        dsimp only [Pt.U, Pt.locs, Pt.cells, Pt.slots] at X85 l85 y85 z85 st85 hQ85
        subst l85 y85 z85
        obtain ⟨rfl, N85q, e85⟩ := hQ85
        have N85 := Fr.app N83 N85q
        refine own_st st85 ?_
        show own_Fin _ _ _ _ _ _ _ (T85.setTop (mkF m 266 #[.val (.int p1), .val (.int p2), .val (.int p3), .val (.int ch), .val (.int (1 : Int32)), .val (.ref b1), .val (.int (3 : Int32)), .val (.int (2 : Int32)), .val (.int (235 : Int32)), .val (.int (((ch - (127 : Int32)) - (1 : Int32)) + (128 : Int32))), .val (.int (ch - (127 : Int32)))] [(.int (own_un (4 : Int32) (1 : Int32) (3 : Int32) p3 p3))]))
        have hd266_86 : ¬ ((own_un (4 : Int32) (1 : Int32) (3 : Int32) p3 p3) = (0 : Int32)) := by unfold own_un; simp
        refine own_st (fun t k => XS.ifNo X85.here hx rfl (hb hby at_266) rfl ((if0 _ _).trans (feq hd266_86).1) k) ?_
        show own_Fin _ _ _ _ _ _ _ (T85.setTop (mkF m 269 #[.val (.int p1), .val (.int p2), .val (.int p3), .val (.int ch), .val (.int (1 : Int32)), .val (.ref b1), .val (.int (3 : Int32)), .val (.int (2 : Int32)), .val (.int (235 : Int32)), .val (.int (((ch - (127 : Int32)) - (1 : Int32)) + (128 : Int32))), .val (.int (ch - (127 : Int32)))] []))
        refine own_st (fun t k => XS.aload X85.here hx rfl (hb hby at_269) rfl rfl k) ?_
        show own_Fin _ _ _ _ _ _ _ (T85.setTop (mkF m 271 #[.val (.int p1), .val (.int p2), .val (.int p3), .val (.int ch), .val (.int (1 : Int32)), .val (.ref b1), .val (.int (3 : Int32)), .val (.int (2 : Int32)), .val (.int (235 : Int32)), .val (.int (((ch - (127 : Int32)) - (1 : Int32)) + (128 : Int32))), .val (.int (ch - (127 : Int32)))] [(.ref b1)]))
        refine own_st (fun t k => XS.iconst X85.here hx rfl (hb hby at_271) k) ?_
        show own_Fin _ _ _ _ _ _ _ (T85.setTop (mkF m 272 #[.val (.int p1), .val (.int p2), .val (.int p3), .val (.int ch), .val (.int (1 : Int32)), .val (.ref b1), .val (.int (3 : Int32)), .val (.int (2 : Int32)), .val (.int (235 : Int32)), .val (.int (((ch - (127 : Int32)) - (1 : Int32)) + (128 : Int32))), .val (.int (ch - (127 : Int32)))] [(.int (5 : Int32)), (.ref b1)]))
        refine own_st (fun t k => XS.iload X85.here hx rfl (hb hby at_272) rfl k) ?_
        show own_Fin _ _ _ _ _ _ _ (T85.setTop (mkF m 274 #[.val (.int p1), .val (.int p2), .val (.int p3), .val (.int ch), .val (.int (1 : Int32)), .val (.ref b1), .val (.int (3 : Int32)), .val (.int (2 : Int32)), .val (.int (235 : Int32)), .val (.int (((ch - (127 : Int32)) - (1 : Int32)) + (128 : Int32))), .val (.int (ch - (127 : Int32)))] [(.int (1 : Int32)), (.int (5 : Int32)), (.ref b1)]))
        refine own_st (fun t k => XS.iload X85.here hx rfl (hb hby at_274) rfl k) ?_
        show own_Fin _ _ _ _ _ _ _ (T85.setTop (mkF m 276 #[.val (.int p1), .val (.int p2), .val (.int p3), .val (.int ch), .val (.int (1 : Int32)), .val (.ref b1), .val (.int (3 : Int32)), .val (.int (2 : Int32)), .val (.int (235 : Int32)), .val (.int (((ch - (127 : Int32)) - (1 : Int32)) + (128 : Int32))), .val (.int (ch - (127 : Int32)))] [(.int (3 : Int32)), (.int (1 : Int32)), (.int (5 : Int32)), (.ref b1)]))
        refine own_st (fun t k => XS.iloadN X85.here hx rfl (hb hby at_276) rfl k) ?_
        show own_Fin _ _ _ _ _ _ _ (T85.setTop (mkF m 277 #[.val (.int p1), .val (.int p2), .val (.int p3), .val (.int ch), .val (.int (1 : Int32)), .val (.ref b1), .val (.int (3 : Int32)), .val (.int (2 : Int32)), .val (.int (235 : Int32)), .val (.int (((ch - (127 : Int32)) - (1 : Int32)) + (128 : Int32))), .val (.int (ch - (127 : Int32)))] [(.int p3), (.int (3 : Int32)), (.int (1 : Int32)), (.int (5 : Int32)), (.ref b1)]))
        obtain ⟨_, _, ⟨T87, L87, k87, n87⟩, -, X87, ⟨Lc87, hQ87, l87, y87, z87⟩, st87⟩ := Jvm.LawKit.callS X85 hx (y := (⟨"com/example/quietzone/quietzone/datamatrix/AsciiEncodationWritePinLaw", "untouched", "([IIIII)Z"⟩ : MethodName)) hown (mvT hZ (hw _ (List.mem_of_getElem? (i := 6) rfl))) (mvT hZ (hw _ (List.mem_of_getElem? (i := 7) rfl))) (mvT hZ (hw _ (List.mem_of_getElem? (i := 8) rfl))) (mvT hZ (hw _ (List.mem_of_getElem? (i := 9) rfl))) (by decide) (backOf (W := 0) (rm2 l Z a0 hw [] b1 (5 : Int32) (1 : Int32) (3 : Int32) p3 k1 (6 : Int32) [(.int p3), (.int (235 : Int32)), (.int (ch - (127 : Int32))), (.int p3), (.int p3), (.int p3)] p3 T71.heap n0 Z71 Vx71 (by decide) (by decide) rfl) hZ (hw _ (List.mem_of_getElem? (i := 9) rfl)) (hw _ (List.mem_of_getElem? (i := 8) rfl)) (by decide) (by decide)) (g := (mkF m 277 #[.val (.int p1), .val (.int p2), .val (.int p3), .val (.int ch), .val (.int (1 : Int32)), .val (.ref b1), .val (.int (3 : Int32)), .val (.int (2 : Int32)), .val (.int (235 : Int32)), .val (.int (((ch - (127 : Int32)) - (1 : Int32)) + (128 : Int32))), .val (.int (ch - (127 : Int32)))] [(.int p3), (.int (3 : Int32)), (.int (1 : Int32)), (.int (5 : Int32)), (.ref b1)])) rfl (by rw [hml]; rfl) (argsL := [(.ref b1), (.int (5 : Int32)), (.int (1 : Int32)), (.int (3 : Int32)), (.int p3)]) (rest := []) (lenOf pd_0_1 rfl) rfl (by show 2 * 0 + _ ≤ _; exact Nat.le_of_eq rfl) (hb hby at_277) (fun _ _ => ⟨rfl, e85, (by decide : 1 + 0 ≤ _), (by decide : 6 + 0 ≤ _)⟩)
        dsimp only [Pt.U, Pt.locs, Pt.cells, Pt.slots] at X87 l87 y87 z87 st87 hQ87
        subst l87 y87 z87
        obtain ⟨rfl, N87q, e87⟩ := hQ87
        have N87 := Fr.app N85 N87q
        refine own_st st87 ?_
        show own_Fin _ _ _ _ _ _ _ (T87.setTop (mkF m 280 #[.val (.int p1), .val (.int p2), .val (.int p3), .val (.int ch), .val (.int (1 : Int32)), .val (.ref b1), .val (.int (3 : Int32)), .val (.int (2 : Int32)), .val (.int (235 : Int32)), .val (.int (((ch - (127 : Int32)) - (1 : Int32)) + (128 : Int32))), .val (.int (ch - (127 : Int32)))] [(.int (own_un (5 : Int32) (1 : Int32) (3 : Int32) p3 p3))]))
        have hd280_88 : ¬ ((own_un (5 : Int32) (1 : Int32) (3 : Int32) p3 p3) = (0 : Int32)) := by unfold own_un; simp
        refine own_st (fun t k => XS.ifNo X87.here hx rfl (hb hby at_280) rfl ((if0 _ _).trans (feq hd280_88).1) k) ?_
        show own_Fin _ _ _ _ _ _ _ (T87.setTop (mkF m 283 #[.val (.int p1), .val (.int p2), .val (.int p3), .val (.int ch), .val (.int (1 : Int32)), .val (.ref b1), .val (.int (3 : Int32)), .val (.int (2 : Int32)), .val (.int (235 : Int32)), .val (.int (((ch - (127 : Int32)) - (1 : Int32)) + (128 : Int32))), .val (.int (ch - (127 : Int32)))] []))
        refine own_st (fun t k => XS.iconst X87.here hx rfl (hb hby at_283) k) ?_
        show own_Fin _ _ _ _ _ _ _ (T87.setTop (mkF m 284 #[.val (.int p1), .val (.int p2), .val (.int p3), .val (.int ch), .val (.int (1 : Int32)), .val (.ref b1), .val (.int (3 : Int32)), .val (.int (2 : Int32)), .val (.int (235 : Int32)), .val (.int (((ch - (127 : Int32)) - (1 : Int32)) + (128 : Int32))), .val (.int (ch - (127 : Int32)))] [(.int (1 : Int32))]))
        refine own_st (fun t k => XS.goto X87.here hx rfl (pc0 := 284) (pc' := 288) rfl (hb hby at_284) (by decide) (by decide) k) ?_
        show own_Fin _ _ _ _ _ _ _ (T87.setTop (mkF m 288 #[.val (.int p1), .val (.int p2), .val (.int p3), .val (.int ch), .val (.int (1 : Int32)), .val (.ref b1), .val (.int (3 : Int32)), .val (.int (2 : Int32)), .val (.int (235 : Int32)), .val (.int (((ch - (127 : Int32)) - (1 : Int32)) + (128 : Int32))), .val (.int (ch - (127 : Int32)))] [(.int (1 : Int32))]))
        exact own_retN X87 hx Bd.notSynchronized (t := .boolean) Bd.returns (by simp) (hb hby at_288) (by decide) (by decide) ⟨rfl, N87, trivial⟩
      · show own_Fin _ _ _ _ _ _ _ (T7.setTop (mkF m 44 #[.val (.int p1), .val (.int p2), .val (.int p3), .val (.int ch), .val (.int (1 : Int32)), .val (.ref b1), .unset, .unset, .unset, .unset, .unset] []))
        refine own_st (fun t k => XS.iloadN X7.here hx rfl (hb hby at_44) rfl k) ?_
        show own_Fin _ _ _ _ _ _ _ (T7.setTop (mkF m 45 #[.val (.int p1), .val (.int p2), .val (.int p3), .val (.int ch), .val (.int (1 : Int32)), .val (.ref b1), .unset, .unset, .unset, .unset, .unset] [(.int ch)]))
        refine own_st (fun t k => XS.aload X7.here hx rfl (hb hby at_45) rfl rfl k) ?_
        show own_Fin _ _ _ _ _ _ _ (T7.setTop (mkF m 47 #[.val (.int p1), .val (.int p2), .val (.int p3), .val (.int ch), .val (.int (1 : Int32)), .val (.ref b1), .unset, .unset, .unset, .unset, .unset] [(.ref b1), (.int ch)]))
        refine own_st (fun t k => XS.iload X7.here hx rfl (hb hby at_47) rfl k) ?_
        show own_Fin _ _ _ _ _ _ _ (T7.setTop (mkF m 49 #[.val (.int p1), .val (.int p2), .val (.int p3), .val (.int ch), .val (.int (1 : Int32)), .val (.ref b1), .unset, .unset, .unset, .unset, .unset] [(.int (1 : Int32)), (.ref b1), (.int ch)]))
        obtain ⟨_, _, ⟨T89, L89, k89, n89⟩, -, X89, ⟨Lc89, hQ89, l89, y89, z89⟩, st89⟩ := Jvm.LawKit.callS X7 hx (y := (⟨"com/example/quietzone/quietzone/datamatrix/AsciiEncodation", "write", "(I[II)I"⟩ : MethodName)) hown (mvT hZ (hw _ (List.mem_of_getElem? (i := 2) rfl))) (mvT hZ (hw _ (List.mem_of_getElem? (i := 3) rfl))) (mvT hZ (hw _ (List.mem_of_getElem? (i := 4) rfl))) (mvT hZ (hw _ (List.mem_of_getElem? (i := 5) rfl))) (by decide) (backOf (W := 0) (rm1 l Z a0 hw [] ch b1 (1 : Int32) k1 (6 : Int32) [(.int p3), (.int p3), (.int p3), (.int p3), (.int p3), (.int p3)] h7 n0 Z7 V7 ge_b1 (by decide) (by decide) (by decide) (by decide) (Nat.le_of_ble_eq_true rfl) (Nat.le_of_ble_eq_true rfl)) hZ (hw _ (List.mem_of_getElem? (i := 5) rfl)) (hw _ (List.mem_of_getElem? (i := 4) rfl)) (by decide) (by decide)) (g := (mkF m 49 #[.val (.int p1), .val (.int p2), .val (.int p3), .val (.int ch), .val (.int (1 : Int32)), .val (.ref b1), .unset, .unset, .unset, .unset, .unset] [(.int (1 : Int32)), (.ref b1), (.int ch)])) rfl (by rw [hml]; rfl) (argsL := [(.int ch), (.ref b1), (.int (1 : Int32))]) (rest := []) (lenOf pd_0_0 rfl) rfl (by show 2 * 0 + _ ≤ _; exact Nat.le_of_eq rfl) (hb hby at_49) (fun _ _ => ⟨rfl, e7, (by decide : 1 + 0 ≤ _), (by decide : 6 + 0 ≤ _)⟩)
        dsimp only [Pt.U, Pt.locs, Pt.cells, Pt.slots] at X89 l89 y89 z89 st89 hQ89
        subst l89 y89 z89
        obtain ⟨rfl, N89q, K89, o89⟩ := hQ89
        have N89 := Fr.app N7 N89q
        have Z89 : n0 ≤ T89.heap.size := Nat.le_trans Z7 K89.1
        refine own_st st89 ?_
        show own_Fin _ _ _ _ _ _ _ (T89.setTop (mkF m 52 #[.val (.int p1), .val (.int p2), .val (.int p3), .val (.int ch), .val (.int (1 : Int32)), .val (.ref b1), .unset, .unset, .unset, .unset, .unset] [(.int (own_wr ch (1 : Int32)))]))
        have Vx89 : Arv Z T89.heap b1 k1 .int (6 : Int32) [(.int p3), (.int (ch + (1 : Int32))), (.int p3), (.int p3), (.int p3), (.int p3)] (.int (0 : Int32)) := by have q := o89; unfold own_wv at q; rw [if_neg hA, if_neg hB] at q; exact q
        have rx89 : (own_wr ch (1 : Int32)) = (2 : Int32) := by unfold own_wr; rw [if_neg hA, if_neg hB]; rfl
        rw [rx89]
        show own_Fin _ _ _ _ _ _ _ (T89.setTop (mkF m 52 #[.val (.int p1), .val (.int p2), .val (.int p3), .val (.int ch), .val (.int (1 : Int32)), .val (.ref b1), .unset, .unset, .unset, .unset, .unset] [(.int (2 : Int32))]))
        refine own_st (fun t k => XS.istore X89.here hx rfl (hb hby at_52) rfl (l' := #[.val (.int p1), .val (.int p2), .val (.int p3), .val (.int ch), .val (.int (1 : Int32)), .val (.ref b1), .val (.int (2 : Int32)), .unset, .unset, .unset, .unset]) rfl k) ?_
        show own_Fin _ _ _ _ _ _ _ (T89.setTop (mkF m 54 #[.val (.int p1), .val (.int p2), .val (.int p3), .val (.int ch), .val (.int (1 : Int32)), .val (.ref b1), .val (.int (2 : Int32)), .unset, .unset, .unset, .unset] []))
        refine own_st (fun t k => XS.iload X89.here hx rfl (hb hby at_54) rfl k) ?_
        show own_Fin _ _ _ _ _ _ _ (T89.setTop (mkF m 56 #[.val (.int p1), .val (.int p2), .val (.int p3), .val (.int ch), .val (.int (1 : Int32)), .val (.ref b1), .val (.int (2 : Int32)), .unset, .unset, .unset, .unset] [(.int (2 : Int32))]))
        refine own_st (fun t k => XS.iload X89.here hx rfl (hb hby at_56) rfl k) ?_
        show own_Fin _ _ _ _ _ _ _ (T89.setTop (mkF m 58 #[.val (.int p1), .val (.int p2), .val (.int p3), .val (.int ch), .val (.int (1 : Int32)), .val (.ref b1), .val (.int (2 : Int32)), .unset, .unset, .unset, .unset] [(.int (1 : Int32)), (.int (2 : Int32))]))
        refine own_st (fun t k => XS.isub X89.here hx rfl (hb hby at_58) rfl k) ?_
        show own_Fin _ _ _ _ _ _ _ (T89.setTop (mkF m 59 #[.val (.int p1), .val (.int p2), .val (.int p3), .val (.int ch), .val (.int (1 : Int32)), .val (.ref b1), .val (.int (2 : Int32)), .unset, .unset, .unset, .unset] [(.int (1 : Int32))]))
        refine own_st (fun t k => XS.istore X89.here hx rfl (hb hby at_59) rfl (l' := #[.val (.int p1), .val (.int p2), .val (.int p3), .val (.int ch), .val (.int (1 : Int32)), .val (.ref b1), .val (.int (2 : Int32)), .val (.int (1 : Int32)), .unset, .unset, .unset]) rfl k) ?_
        show own_Fin _ _ _ _ _ _ _ (T89.setTop (mkF m 61 #[.val (.int p1), .val (.int p2), .val (.int p3), .val (.int ch), .val (.int (1 : Int32)), .val (.ref b1), .val (.int (2 : Int32)), .val (.int (1 : Int32)), .unset, .unset, .unset] []))
        refine own_st (fun t k => XS.iload X89.here hx rfl (hb hby at_61) rfl k) ?_
        show own_Fin _ _ _ _ _ _ _ (T89.setTop (mkF m 63 #[.val (.int p1), .val (.int p2), .val (.int p3), .val (.int ch), .val (.int (1 : Int32)), .val (.ref b1), .val (.int (2 : Int32)), .val (.int (1 : Int32)), .unset, .unset, .unset] [(.int (1 : Int32))]))
        refine own_st (fun t k => XS.iconst X89.here hx rfl (hb hby at_63) k) ?_
        show own_Fin _ _ _ _ _ _ _ (T89.setTop (mkF m 64 #[.val (.int p1), .val (.int p2), .val (.int p3), .val (.int ch), .val (.int (1 : Int32)), .val (.ref b1), .val (.int (2 : Int32)), .val (.int (1 : Int32)), .unset, .unset, .unset] [(.int (1 : Int32)), (.int (1 : Int32))]))
        refine own_st (fun t k => XS.icmpNo X89.here hx rfl (hb hby at_64) rfl (flt (by decide : ¬ ((1 : Int32) < (1 : Int32)))).1 k) ?_
        show own_Fin _ _ _ _ _ _ _ (T89.setTop (mkF m 67 #[.val (.int p1), .val (.int p2), .val (.int p3), .val (.int ch), .val (.int (1 : Int32)), .val (.ref b1), .val (.int (2 : Int32)), .val (.int (1 : Int32)), .unset, .unset, .unset] []))
        refine own_st (fun t k => XS.iload X89.here hx rfl (hb hby at_67) rfl k) ?_
        show own_Fin _ _ _ _ _ _ _ (T89.setTop (mkF m 69 #[.val (.int p1), .val (.int p2), .val (.int p3), .val (.int ch), .val (.int (1 : Int32)), .val (.ref b1), .val (.int (2 : Int32)), .val (.int (1 : Int32)), .unset, .unset, .unset] [(.int (1 : Int32))]))
        refine own_st (fun t k => XS.iconst X89.here hx rfl (hb hby at_69) k) ?_
        show own_Fin _ _ _ _ _ _ _ (T89.setTop (mkF m 70 #[.val (.int p1), .val (.int p2), .val (.int p3), .val (.int ch), .val (.int (1 : Int32)), .val (.ref b1), .val (.int (2 : Int32)), .val (.int (1 : Int32)), .unset, .unset, .unset] [(.int (2 : Int32)), (.int (1 : Int32))]))
        refine own_st (fun t k => XS.icmpYes X89.here hx rfl (pc0 := 70) (pc' := 75) rfl (hb hby at_70) rfl (flt (by decide : ¬ ((2 : Int32) < (1 : Int32)))).2.2.2 (by decide) (by decide) k) ?_
        show own_Fin _ _ _ _ _ _ _ (T89.setTop (mkF m 75 #[.val (.int p1), .val (.int p2), .val (.int p3), .val (.int ch), .val (.int (1 : Int32)), .val (.ref b1), .val (.int (2 : Int32)), .val (.int (1 : Int32)), .unset, .unset, .unset] []))
        refine own_st (fun t k => XS.aload X89.here hx rfl (hb hby at_75) rfl rfl k) ?_
        show own_Fin _ _ _ _ _ _ _ (T89.setTop (mkF m 77 #[.val (.int p1), .val (.int p2), .val (.int p3), .val (.int ch), .val (.int (1 : Int32)), .val (.ref b1), .val (.int (2 : Int32)), .val (.int (1 : Int32)), .unset, .unset, .unset] [(.ref b1)]))
        refine own_st (fun t k => XS.iload X89.here hx rfl (hb hby at_77) rfl k) ?_
        show own_Fin _ _ _ _ _ _ _ (T89.setTop (mkF m 79 #[.val (.int p1), .val (.int p2), .val (.int p3), .val (.int ch), .val (.int (1 : Int32)), .val (.ref b1), .val (.int (2 : Int32)), .val (.int (1 : Int32)), .unset, .unset, .unset] [(.int (1 : Int32)), (.ref b1)]))
        obtain ⟨cl90, Ar90, Cq90, Sz90, Mn90, Hs90, Gf90⟩ := id Vx89
        have hin90 := inb_of Sz90 (j := (1 : Int32)) ⟨by decide, by decide⟩
        refine own_st (X89.iaload hx (j := (1 : Int32)) (v := (.int (ch + (1 : Int32)))) Ar90.1 (State.isArrayOf_alike hZ.alike Ar90.2.1) Ar90.2.2 hin90 (Hs90.at hin90 rfl) (g := (mkF m 79 #[.val (.int p1), .val (.int p2), .val (.int p3), .val (.int ch), .val (.int (1 : Int32)), .val (.ref b1), .val (.int (2 : Int32)), .val (.int (1 : Int32)), .unset, .unset, .unset] [(.int (1 : Int32)), (.ref b1)])) rfl rfl (hb hby at_79)) ?_
        show own_Fin _ _ _ _ _ _ _ (T89.setTop (mkF m 80 #[.val (.int p1), .val (.int p2), .val (.int p3), .val (.int ch), .val (.int (1 : Int32)), .val (.ref b1), .val (.int (2 : Int32)), .val (.int (1 : Int32)), .unset, .unset, .unset] [(.int (ch + (1 : Int32)))]))
        refine own_st (fun t k => XS.istore X89.here hx rfl (hb hby at_80) rfl (l' := #[.val (.int p1), .val (.int p2), .val (.int p3), .val (.int ch), .val (.int (1 : Int32)), .val (.ref b1), .val (.int (2 : Int32)), .val (.int (1 : Int32)), .val (.int (ch + (1 : Int32))), .unset, .unset]) rfl k) ?_
        show own_Fin _ _ _ _ _ _ _ (T89.setTop (mkF m 82 #[.val (.int p1), .val (.int p2), .val (.int p3), .val (.int ch), .val (.int (1 : Int32)), .val (.ref b1), .val (.int (2 : Int32)), .val (.int (1 : Int32)), .val (.int (ch + (1 : Int32))), .unset, .unset] []))
        refine own_st (fun t k => XS.iload X89.here hx rfl (hb hby at_82) rfl k) ?_
        show own_Fin _ _ _ _ _ _ _ (T89.setTop (mkF m 84 #[.val (.int p1), .val (.int p2), .val (.int p3), .val (.int ch), .val (.int (1 : Int32)), .val (.ref b1), .val (.int (2 : Int32)), .val (.int (1 : Int32)), .val (.int (ch + (1 : Int32))), .unset, .unset] [(.int (ch + (1 : Int32)))]))
        refine own_st (fun t k => XS.iconst X89.here hx rfl (hb hby at_84) k) ?_
        show own_Fin _ _ _ _ _ _ _ (T89.setTop (mkF m 85 #[.val (.int p1), .val (.int p2), .val (.int p3), .val (.int ch), .val (.int (1 : Int32)), .val (.ref b1), .val (.int (2 : Int32)), .val (.int (1 : Int32)), .val (.int (ch + (1 : Int32))), .unset, .unset] [(.int (1 : Int32)), (.int (ch + (1 : Int32)))]))
        have hd85_91 : ¬ ((ch + (1 : Int32)) < (1 : Int32)) := (own_lo hc0.1 hB).1
        refine own_st (fun t k => XS.icmpNo X89.here hx rfl (hb hby at_85) rfl (flt hd85_91).1 k) ?_
        show own_Fin _ _ _ _ _ _ _ (T89.setTop (mkF m 88 #[.val (.int p1), .val (.int p2), .val (.int p3), .val (.int ch), .val (.int (1 : Int32)), .val (.ref b1), .val (.int (2 : Int32)), .val (.int (1 : Int32)), .val (.int (ch + (1 : Int32))), .unset, .unset] []))
        refine own_st (fun t k => XS.iload X89.here hx rfl (hb hby at_88) rfl k) ?_
        show own_Fin _ _ _ _ _ _ _ (T89.setTop (mkF m 90 #[.val (.int p1), .val (.int p2), .val (.int p3), .val (.int ch), .val (.int (1 : Int32)), .val (.ref b1), .val (.int (2 : Int32)), .val (.int (1 : Int32)), .val (.int (ch + (1 : Int32))), .unset, .unset] [(.int (ch + (1 : Int32)))]))
        refine own_st (fun t k => XS.sipush X89.here hx rfl (hb hby at_90) k) ?_
        show own_Fin _ _ _ _ _ _ _ (T89.setTop (mkF m 93 #[.val (.int p1), .val (.int p2), .val (.int p3), .val (.int ch), .val (.int (1 : Int32)), .val (.ref b1), .val (.int (2 : Int32)), .val (.int (1 : Int32)), .val (.int (ch + (1 : Int32))), .unset, .unset] [(.int (128 : Int32)), (.int (ch + (1 : Int32)))]))
        have hd93_92 : ¬ ((128 : Int32) < (ch + (1 : Int32))) := (own_lo hc0.1 hB).2.1
        refine own_st (fun t k => XS.icmpNo X89.here hx rfl (hb hby at_93) rfl (flt hd93_92).2.2.1 k) ?_
        show own_Fin _ _ _ _ _ _ _ (T89.setTop (mkF m 96 #[.val (.int p1), .val (.int p2), .val (.int p3), .val (.int ch), .val (.int (1 : Int32)), .val (.ref b1), .val (.int (2 : Int32)), .val (.int (1 : Int32)), .val (.int (ch + (1 : Int32))), .unset, .unset] []))
        refine own_st (fun t k => XS.iload X89.here hx rfl (hb hby at_96) rfl k) ?_
        show own_Fin _ _ _ _ _ _ _ (T89.setTop (mkF m 98 #[.val (.int p1), .val (.int p2), .val (.int p3), .val (.int ch), .val (.int (1 : Int32)), .val (.ref b1), .val (.int (2 : Int32)), .val (.int (1 : Int32)), .val (.int (ch + (1 : Int32))), .unset, .unset] [(.int (1 : Int32))]))
        refine own_st (fun t k => XS.iconst X89.here hx rfl (hb hby at_98) k) ?_
        show own_Fin _ _ _ _ _ _ _ (T89.setTop (mkF m 99 #[.val (.int p1), .val (.int p2), .val (.int p3), .val (.int ch), .val (.int (1 : Int32)), .val (.ref b1), .val (.int (2 : Int32)), .val (.int (1 : Int32)), .val (.int (ch + (1 : Int32))), .unset, .unset] [(.int (1 : Int32)), (.int (1 : Int32))]))
        refine own_st (fun t k => XS.icmpYes X89.here hx rfl (pc0 := 99) (pc' := 104) rfl (hb hby at_99) rfl (teq (by decide : (1 : Int32) = (1 : Int32))).1 (by decide) (by decide) k) ?_
        show own_Fin _ _ _ _ _ _ _ (T89.setTop (mkF m 104 #[.val (.int p1), .val (.int p2), .val (.int p3), .val (.int ch), .val (.int (1 : Int32)), .val (.ref b1), .val (.int (2 : Int32)), .val (.int (1 : Int32)), .val (.int (ch + (1 : Int32))), .unset, .unset] []))
        refine own_st (fun t k => XS.iload X89.here hx rfl (hb hby at_104) rfl k) ?_
        show own_Fin _ _ _ _ _ _ _ (T89.setTop (mkF m 106 #[.val (.int p1), .val (.int p2), .val (.int p3), .val (.int ch), .val (.int (1 : Int32)), .val (.ref b1), .val (.int (2 : Int32)), .val (.int (1 : Int32)), .val (.int (ch + (1 : Int32))), .unset, .unset] [(.int (ch + (1 : Int32)))]))
        refine own_st (fun t k => XS.iconst X89.here hx rfl (hb hby at_106) k) ?_
        show own_Fin _ _ _ _ _ _ _ (T89.setTop (mkF m 107 #[.val (.int p1), .val (.int p2), .val (.int p3), .val (.int ch), .val (.int (1 : Int32)), .val (.ref b1), .val (.int (2 : Int32)), .val (.int (1 : Int32)), .val (.int (ch + (1 : Int32))), .unset, .unset] [(.int (1 : Int32)), (.int (ch + (1 : Int32)))]))
        refine own_st (fun t k => XS.isub X89.here hx rfl (hb hby at_107) rfl k) ?_
        show own_Fin _ _ _ _ _ _ _ (T89.setTop (mkF m 108 #[.val (.int p1), .val (.int p2), .val (.int p3), .val (.int ch), .val (.int (1 : Int32)), .val (.ref b1), .val (.int (2 : Int32)), .val (.int (1 : Int32)), .val (.int (ch + (1 : Int32))), .unset, .unset] [(.int ((ch + (1 : Int32)) - (1 : Int32)))]))
        refine own_st (fun t k => XS.istore X89.here hx rfl (hb hby at_108) rfl (l' := #[.val (.int p1), .val (.int p2), .val (.int p3), .val (.int ch), .val (.int (1 : Int32)), .val (.ref b1), .val (.int (2 : Int32)), .val (.int (1 : Int32)), .val (.int (ch + (1 : Int32))), .val (.int ((ch + (1 : Int32)) - (1 : Int32))), .unset]) rfl k) ?_
        show own_Fin _ _ _ _ _ _ _ (T89.setTop (mkF m 110 #[.val (.int p1), .val (.int p2), .val (.int p3), .val (.int ch), .val (.int (1 : Int32)), .val (.ref b1), .val (.int (2 : Int32)), .val (.int (1 : Int32)), .val (.int (ch + (1 : Int32))), .val (.int ((ch + (1 : Int32)) - (1 : Int32))), .unset] []))
        refine own_st (fun t k => XS.goto X89.here hx rfl (pc0 := 110) (pc' := 193) rfl (hb hby at_110) (by decide) (by decide) k) ?_
        show own_Fin _ _ _ _ _ _ _ (T89.setTop (mkF m 193 #[.val (.int p1), .val (.int p2), .val (.int p3), .val (.int ch), .val (.int (1 : Int32)), .val (.ref b1), .val (.int (2 : Int32)), .val (.int (1 : Int32)), .val (.int (ch + (1 : Int32))), .val (.int ((ch + (1 : Int32)) - (1 : Int32))), .unset] []))
        refine own_st (fun t k => XS.iload X89.here hx rfl (hb hby at_193) rfl k) ?_
        show own_Fin _ _ _ _ _ _ _ (T89.setTop (mkF m 195 #[.val (.int p1), .val (.int p2), .val (.int p3), .val (.int ch), .val (.int (1 : Int32)), .val (.ref b1), .val (.int (2 : Int32)), .val (.int (1 : Int32)), .val (.int (ch + (1 : Int32))), .val (.int ((ch + (1 : Int32)) - (1 : Int32))), .unset] [(.int ((ch + (1 : Int32)) - (1 : Int32)))]))
        refine own_st (fun t k => XS.iloadN X89.here hx rfl (hb hby at_195) rfl k) ?_
        show own_Fin _ _ _ _ _ _ _ (T89.setTop (mkF m 196 #[.val (.int p1), .val (.int p2), .val (.int p3), .val (.int ch), .val (.int (1 : Int32)), .val (.ref b1), .val (.int (2 : Int32)), .val (.int (1 : Int32)), .val (.int (ch + (1 : Int32))), .val (.int ((ch + (1 : Int32)) - (1 : Int32))), .unset] [(.int ch), (.int ((ch + (1 : Int32)) - (1 : Int32)))]))
        have hd196_93 : ((ch + (1 : Int32)) - (1 : Int32)) = ch := (own_lo hc0.1 hB).2.2
        refine own_st (fun t k => XS.icmpNo X89.here hx rfl (hb hby at_196) rfl (teq hd196_93).2 k) ?_
        show own_Fin _ _ _ _ _ _ _ (T89.setTop (mkF m 199 #[.val (.int p1), .val (.int p2), .val (.int p3), .val (.int ch), .val (.int (1 : Int32)), .val (.ref b1), .val (.int (2 : Int32)), .val (.int (1 : Int32)), .val (.int (ch + (1 : Int32))), .val (.int ((ch + (1 : Int32)) - (1 : Int32))), .unset] []))
        refine own_st (fun t k => XS.aload X89.here hx rfl (hb hby at_199) rfl rfl k) ?_
        show own_Fin _ _ _ _ _ _ _ (T89.setTop (mkF m 201 #[.val (.int p1), .val (.int p2), .val (.int p3), .val (.int ch), .val (.int (1 : Int32)), .val (.ref b1), .val (.int (2 : Int32)), .val (.int (1 : Int32)), .val (.int (ch + (1 : Int32))), .val (.int ((ch + (1 : Int32)) - (1 : Int32))), .unset] [(.ref b1)]))
        refine own_st (fun t k => XS.iconst X89.here hx rfl (hb hby at_201) k) ?_
        show own_Fin _ _ _ _ _ _ _ (T89.setTop (mkF m 202 #[.val (.int p1), .val (.int p2), .val (.int p3), .val (.int ch), .val (.int (1 : Int32)), .val (.ref b1), .val (.int (2 : Int32)), .val (.int (1 : Int32)), .val (.int (ch + (1 : Int32))), .val (.int ((ch + (1 : Int32)) - (1 : Int32))), .unset] [(.int (0 : Int32)), (.ref b1)]))
        refine own_st (fun t k => XS.iload X89.here hx rfl (hb hby at_202) rfl k) ?_
        show own_Fin _ _ _ _ _ _ _ (T89.setTop (mkF m 204 #[.val (.int p1), .val (.int p2), .val (.int p3), .val (.int ch), .val (.int (1 : Int32)), .val (.ref b1), .val (.int (2 : Int32)), .val (.int (1 : Int32)), .val (.int (ch + (1 : Int32))), .val (.int ((ch + (1 : Int32)) - (1 : Int32))), .unset] [(.int (1 : Int32)), (.int (0 : Int32)), (.ref b1)]))
        refine own_st (fun t k => XS.iload X89.here hx rfl (hb hby at_204) rfl k) ?_
        show own_Fin _ _ _ _ _ _ _ (T89.setTop (mkF m 206 #[.val (.int p1), .val (.int p2), .val (.int p3), .val (.int ch), .val (.int (1 : Int32)), .val (.ref b1), .val (.int (2 : Int32)), .val (.int (1 : Int32)), .val (.int (ch + (1 : Int32))), .val (.int ((ch + (1 : Int32)) - (1 : Int32))), .unset] [(.int (2 : Int32)), (.int (1 : Int32)), (.int (0 : Int32)), (.ref b1)]))
        refine own_st (fun t k => XS.iloadN X89.here hx rfl (hb hby at_206) rfl k) ?_
        show own_Fin _ _ _ _ _ _ _ (T89.setTop (mkF m 207 #[.val (.int p1), .val (.int p2), .val (.int p3), .val (.int ch), .val (.int (1 : Int32)), .val (.ref b1), .val (.int (2 : Int32)), .val (.int (1 : Int32)), .val (.int (ch + (1 : Int32))), .val (.int ((ch + (1 : Int32)) - (1 : Int32))), .unset] [(.int p3), (.int (2 : Int32)), (.int (1 : Int32)), (.int (0 : Int32)), (.ref b1)]))
        obtain ⟨_, _, ⟨T94, L94, k94, n94⟩, -, X94, ⟨Lc94, hQ94, l94, y94, z94⟩, st94⟩ := Jvm.LawKit.callS X89 hx (y := (⟨"com/example/quietzone/quietzone/datamatrix/AsciiEncodationWritePinLaw", "untouched", "([IIIII)Z"⟩ : MethodName)) hown (mvT hZ (hw _ (List.mem_of_getElem? (i := 6) rfl))) (mvT hZ (hw _ (List.mem_of_getElem? (i := 7) rfl))) (mvT hZ (hw _ (List.mem_of_getElem? (i := 8) rfl))) (mvT hZ (hw _ (List.mem_of_getElem? (i := 9) rfl))) (by decide) (backOf (W := 0) (rm2 l Z a0 hw [] b1 (0 : Int32) (1 : Int32) (2 : Int32) p3 k1 (6 : Int32) [(.int p3), (.int (ch + (1 : Int32))), (.int p3), (.int p3), (.int p3), (.int p3)] p3 T89.heap n0 Z89 Vx89 (by decide) (by decide) rfl) hZ (hw _ (List.mem_of_getElem? (i := 9) rfl)) (hw _ (List.mem_of_getElem? (i := 8) rfl)) (by decide) (by decide)) (g := (mkF m 207 #[.val (.int p1), .val (.int p2), .val (.int p3), .val (.int ch), .val (.int (1 : Int32)), .val (.ref b1), .val (.int (2 : Int32)), .val (.int (1 : Int32)), .val (.int (ch + (1 : Int32))), .val (.int ((ch + (1 : Int32)) - (1 : Int32))), .unset] [(.int p3), (.int (2 : Int32)), (.int (1 : Int32)), (.int (0 : Int32)), (.ref b1)])) rfl (by rw [hml]; rfl) (argsL := [(.ref b1), (.int (0 : Int32)), (.int (1 : Int32)), (.int (2 : Int32)), (.int p3)]) (rest := []) (lenOf pd_0_1 rfl) rfl (by show 2 * 0 + _ ≤ _; exact Nat.le_of_eq rfl) (hb hby at_207) (fun _ _ => ⟨rfl, rfl, (by decide : 1 + 0 ≤ _), (by decide : 6 + 0 ≤ _)⟩)
        dsimp only [Pt.U, Pt.locs, Pt.cells, Pt.slots] at X94 l94 y94 z94 st94 hQ94
        subst l94 y94 z94
        obtain ⟨rfl, N94q, e94⟩ := hQ94
        have N94 := Fr.app N89 N94q
        refine own_st st94 ?_
        show own_Fin _ _ _ _ _ _ _ (T94.setTop (mkF m 210 #[.val (.int p1), .val (.int p2), .val (.int p3), .val (.int ch), .val (.int (1 : Int32)), .val (.ref b1), .val (.int (2 : Int32)), .val (.int (1 : Int32)), .val (.int (ch + (1 : Int32))), .val (.int ((ch + (1 : Int32)) - (1 : Int32))), .unset] [(.int (own_un (0 : Int32) (1 : Int32) (2 : Int32) p3 p3))]))
        have hd210_95 : ¬ ((own_un (0 : Int32) (1 : Int32) (2 : Int32) p3 p3) = (0 : Int32)) := by unfold own_un; simp
        refine own_st (fun t k => XS.ifNo X94.here hx rfl (hb hby at_210) rfl ((if0 _ _).trans (feq hd210_95).1) k) ?_
        show own_Fin _ _ _ _ _ _ _ (T94.setTop (mkF m 213 #[.val (.int p1), .val (.int p2), .val (.int p3), .val (.int ch), .val (.int (1 : Int32)), .val (.ref b1), .val (.int (2 : Int32)), .val (.int (1 : Int32)), .val (.int (ch + (1 : Int32))), .val (.int ((ch + (1 : Int32)) - (1 : Int32))), .unset] []))
        refine own_st (fun t k => XS.aload X94.here hx rfl (hb hby at_213) rfl rfl k) ?_
        show own_Fin _ _ _ _ _ _ _ (T94.setTop (mkF m 215 #[.val (.int p1), .val (.int p2), .val (.int p3), .val (.int ch), .val (.int (1 : Int32)), .val (.ref b1), .val (.int (2 : Int32)), .val (.int (1 : Int32)), .val (.int (ch + (1 : Int32))), .val (.int ((ch + (1 : Int32)) - (1 : Int32))), .unset] [(.ref b1)]))
        refine own_st (fun t k => XS.iconst X94.here hx rfl (hb hby at_215) k) ?_
        show own_Fin _ _ _ _ _ _ _ (T94.setTop (mkF m 216 #[.val (.int p1), .val (.int p2), .val (.int p3), .val (.int ch), .val (.int (1 : Int32)), .val (.ref b1), .val (.int (2 : Int32)), .val (.int (1 : Int32)), .val (.int (ch + (1 : Int32))), .val (.int ((ch + (1 : Int32)) - (1 : Int32))), .unset] [(.int (1 : Int32)), (.ref b1)]))
        refine own_st (fun t k => XS.iload X94.here hx rfl (hb hby at_216) rfl k) ?_
        show own_Fin _ _ _ _ _ _ _ (T94.setTop (mkF m 218 #[.val (.int p1), .val (.int p2), .val (.int p3), .val (.int ch), .val (.int (1 : Int32)), .val (.ref b1), .val (.int (2 : Int32)), .val (.int (1 : Int32)), .val (.int (ch + (1 : Int32))), .val (.int ((ch + (1 : Int32)) - (1 : Int32))), .unset] [(.int (1 : Int32)), (.int (1 : Int32)), (.ref b1)]))
        refine own_st (fun t k => XS.iload X94.here hx rfl (hb hby at_218) rfl k) ?_
        show own_Fin _ _ _ _ _ _ _ (T94.setTop (mkF m 220 #[.val (.int p1), .val (.int p2), .val (.int p3), .val (.int ch), .val (.int (1 : Int32)), .val (.ref b1), .val (.int (2 : Int32)), .val (.int (1 : Int32)), .val (.int (ch + (1 : Int32))), .val (.int ((ch + (1 : Int32)) - (1 : Int32))), .unset] [(.int (2 : Int32)), (.int (1 : Int32)), (.int (1 : Int32)), (.ref b1)]))
        refine own_st (fun t k => XS.iloadN X94.here hx rfl (hb hby at_220) rfl k) ?_
        show own_Fin _ _ _ _ _ _ _ (T94.setTop (mkF m 221 #[.val (.int p1), .val (.int p2), .val (.int p3), .val (.int ch), .val (.int (1 : Int32)), .val (.ref b1), .val (.int (2 : Int32)), .val (.int (1 : Int32)), .val (.int (ch + (1 : Int32))), .val (.int ((ch + (1 : Int32)) - (1 : Int32))), .unset] [(.int p3), (.int (2 : Int32)), (.int (1 : Int32)), (.int (1 : Int32)), (.ref b1)]))
        obtain ⟨_, _, ⟨T96, L96, k96, n96⟩, -, X96, ⟨Lc96, hQ96, l96, y96, z96⟩, st96⟩ := Jvm.LawKit.callS X94 hx (y := (⟨"com/example/quietzone/quietzone/datamatrix/AsciiEncodationWritePinLaw", "untouched", "([IIIII)Z"⟩ : MethodName)) hown (mvT hZ (hw _ (List.mem_of_getElem? (i := 6) rfl))) (mvT hZ (hw _ (List.mem_of_getElem? (i := 7) rfl))) (mvT hZ (hw _ (List.mem_of_getElem? (i := 8) rfl))) (mvT hZ (hw _ (List.mem_of_getElem? (i := 9) rfl))) (by decide) (backOf (W := 0) (rm2 l Z a0 hw [] b1 (1 : Int32) (1 : Int32) (2 : Int32) p3 k1 (6 : Int32) [(.int p3), (.int (ch + (1 : Int32))), (.int p3), (.int p3), (.int p3), (.int p3)] (ch + (1 : Int32)) T89.heap n0 Z89 Vx89 (by decide) (by decide) rfl) hZ (hw _ (List.mem_of_getElem? (i := 9) rfl)) (hw _ (List.mem_of_getElem? (i := 8) rfl)) (by decide) (by decide)) (g := (mkF m 221 #[.val (.int p1), .val (.int p2), .val (.int p3), .val (.int ch), .val (.int (1 : Int32)), .val (.ref b1), .val (.int (2 : Int32)), .val (.int (1 : Int32)), .val (.int (ch + (1 : Int32))), .val (.int ((ch + (1 : Int32)) - (1 : Int32))), .unset] [(.int p3), (.int (2 : Int32)), (.int (1 : Int32)), (.int (1 : Int32)), (.ref b1)])) rfl (by rw [hml]; rfl) (argsL := [(.ref b1), (.int (1 : Int32)), (.int (1 : Int32)), (.int (2 : Int32)), (.int p3)]) (rest := []) (lenOf pd_0_1 rfl) rfl (by show 2 * 0 + _ ≤ _; exact Nat.le_of_eq rfl) (hb hby at_221) (fun _ _ => ⟨rfl, e94, (by decide : 1 + 0 ≤ _), (by decide : 6 + 0 ≤ _)⟩)
        dsimp only [Pt.U, Pt.locs, Pt.cells, Pt.slots] at X96 l96 y96 z96 st96 hQ96
        subst l96 y96 z96
        obtain ⟨rfl, N96q, e96⟩ := hQ96
        have N96 := Fr.app N94 N96q
        refine own_st st96 ?_
        show own_Fin _ _ _ _ _ _ _ (T96.setTop (mkF m 224 #[.val (.int p1), .val (.int p2), .val (.int p3), .val (.int ch), .val (.int (1 : Int32)), .val (.ref b1), .val (.int (2 : Int32)), .val (.int (1 : Int32)), .val (.int (ch + (1 : Int32))), .val (.int ((ch + (1 : Int32)) - (1 : Int32))), .unset] [(.int (own_un (1 : Int32) (1 : Int32) (2 : Int32) p3 (ch + (1 : Int32))))]))
        have hd224_97 : ¬ ((own_un (1 : Int32) (1 : Int32) (2 : Int32) p3 (ch + (1 : Int32))) = (0 : Int32)) := by unfold own_un; simp
        refine own_st (fun t k => XS.ifNo X96.here hx rfl (hb hby at_224) rfl ((if0 _ _).trans (feq hd224_97).1) k) ?_
        show own_Fin _ _ _ _ _ _ _ (T96.setTop (mkF m 227 #[.val (.int p1), .val (.int p2), .val (.int p3), .val (.int ch), .val (.int (1 : Int32)), .val (.ref b1), .val (.int (2 : Int32)), .val (.int (1 : Int32)), .val (.int (ch + (1 : Int32))), .val (.int ((ch + (1 : Int32)) - (1 : Int32))), .unset] []))
        refine own_st (fun t k => XS.aload X96.here hx rfl (hb hby at_227) rfl rfl k) ?_
        show own_Fin _ _ _ _ _ _ _ (T96.setTop (mkF m 229 #[.val (.int p1), .val (.int p2), .val (.int p3), .val (.int ch), .val (.int (1 : Int32)), .val (.ref b1), .val (.int (2 : Int32)), .val (.int (1 : Int32)), .val (.int (ch + (1 : Int32))), .val (.int ((ch + (1 : Int32)) - (1 : Int32))), .unset] [(.ref b1)]))
        refine own_st (fun t k => XS.iconst X96.here hx rfl (hb hby at_229) k) ?_
        show own_Fin _ _ _ _ _ _ _ (T96.setTop (mkF m 230 #[.val (.int p1), .val (.int p2), .val (.int p3), .val (.int ch), .val (.int (1 : Int32)), .val (.ref b1), .val (.int (2 : Int32)), .val (.int (1 : Int32)), .val (.int (ch + (1 : Int32))), .val (.int ((ch + (1 : Int32)) - (1 : Int32))), .unset] [(.int (2 : Int32)), (.ref b1)]))
        refine own_st (fun t k => XS.iload X96.here hx rfl (hb hby at_230) rfl k) ?_
        show own_Fin _ _ _ _ _ _ _ (T96.setTop (mkF m 232 #[.val (.int p1), .val (.int p2), .val (.int p3), .val (.int ch), .val (.int (1 : Int32)), .val (.ref b1), .val (.int (2 : Int32)), .val (.int (1 : Int32)), .val (.int (ch + (1 : Int32))), .val (.int ((ch + (1 : Int32)) - (1 : Int32))), .unset] [(.int (1 : Int32)), (.int (2 : Int32)), (.ref b1)]))
        refine own_st (fun t k => XS.iload X96.here hx rfl (hb hby at_232) rfl k) ?_
        show own_Fin _ _ _ _ _ _ _ (T96.setTop (mkF m 234 #[.val (.int p1), .val (.int p2), .val (.int p3), .val (.int ch), .val (.int (1 : Int32)), .val (.ref b1), .val (.int (2 : Int32)), .val (.int (1 : Int32)), .val (.int (ch + (1 : Int32))), .val (.int ((ch + (1 : Int32)) - (1 : Int32))), .unset] [(.int (2 : Int32)), (.int (1 : Int32)), (.int (2 : Int32)), (.ref b1)]))
        refine own_st (fun t k => XS.iloadN X96.here hx rfl (hb hby at_234) rfl k) ?_
        show own_Fin _ _ _ _ _ _ _ (T96.setTop (mkF m 235 #[.val (.int p1), .val (.int p2), .val (.int p3), .val (.int ch), .val (.int (1 : Int32)), .val (.ref b1), .val (.int (2 : Int32)), .val (.int (1 : Int32)), .val (.int (ch + (1 : Int32))), .val (.int ((ch + (1 : Int32)) - (1 : Int32))), .unset] [(.int p3), (.int (2 : Int32)), (.int (1 : Int32)), (.int (2 : Int32)), (.ref b1)]))
        obtain ⟨_, _, ⟨T98, L98, k98, n98⟩, -, X98, ⟨Lc98, hQ98, l98, y98, z98⟩, st98⟩ := Jvm.LawKit.callS X96 hx (y := (⟨"com/example/quietzone/quietzone/datamatrix/AsciiEncodationWritePinLaw", "untouched", "([IIIII)Z"⟩ : MethodName)) hown (mvT hZ (hw _ (List.mem_of_getElem? (i := 6) rfl))) (mvT hZ (hw _ (List.mem_of_getElem? (i := 7) rfl))) (mvT hZ (hw _ (List.mem_of_getElem? (i := 8) rfl))) (mvT hZ (hw _ (List.mem_of_getElem? (i := 9) rfl))) (by decide) (backOf (W := 0) (rm2 l Z a0 hw [] b1 (2 : Int32) (1 : Int32) (2 : Int32) p3 k1 (6 : Int32) [(.int p3), (.int (ch + (1 : Int32))), (.int p3), (.int p3), (.int p3), (.int p3)] p3 T89.heap n0 Z89 Vx89 (by decide) (by decide) rfl) hZ (hw _ (List.mem_of_getElem? (i := 9) rfl)) (hw _ (List.mem_of_getElem? (i := 8) rfl)) (by decide) (by decide)) (g := (mkF m 235 #[.val (.int p1), .val (.int p2), .val (.int p3), .val (.int ch), .val (.int (1 : Int32)), .val (.ref b1), .val (.int (2 : Int32)), .val (.int (1 : Int32)), .val (.int (ch + (1 : Int32))), .val (.int ((ch + (1 : Int32)) - (1 : Int32))), .unset] [(.int p3), (.int (2 : Int32)), (.int (1 : Int32)), (.int (2 : Int32)), (.ref b1)])) rfl (by rw [hml]; rfl) (argsL := [(.ref b1), (.int (2 : Int32)), (.int (1 : Int32)), (.int (2 : Int32)), (.int p3)]) (rest := []) (lenOf pd_0_1 rfl) rfl (by show 2 * 0 + _ ≤ _; exact Nat.le_of_eq rfl) (hb hby at_235) (fun _ _ => ⟨rfl, e96, (by decide : 1 + 0 ≤ _), (by decide : 6 + 0 ≤ _)⟩)
        dsimp only [Pt.U, Pt.locs, Pt.cells, Pt.slots] at X98 l98 y98 z98 st98 hQ98
        subst l98 y98 z98
        obtain ⟨rfl, N98q, e98⟩ := hQ98
        have N98 := Fr.app N96 N98q
        refine own_st st98 ?_
        show own_Fin _ _ _ _ _ _ _ (T98.setTop (mkF m 238 #[.val (.int p1), .val (.int p2), .val (.int p3), .val (.int ch), .val (.int (1 : Int32)), .val (.ref b1), .val (.int (2 : Int32)), .val (.int (1 : Int32)), .val (.int (ch + (1 : Int32))), .val (.int ((ch + (1 : Int32)) - (1 : Int32))), .unset] [(.int (own_un (2 : Int32) (1 : Int32) (2 : Int32) p3 p3))]))
        have hd238_99 : ¬ ((own_un (2 : Int32) (1 : Int32) (2 : Int32) p3 p3) = (0 : Int32)) := by unfold own_un; simp
        refine own_st (fun t k => XS.ifNo X98.here hx rfl (hb hby at_238) rfl ((if0 _ _).trans (feq hd238_99).1) k) ?_
        show own_Fin _ _ _ _ _ _ _ (T98.setTop (mkF m 241 #[.val (.int p1), .val (.int p2), .val (.int p3), .val (.int ch), .val (.int (1 : Int32)), .val (.ref b1), .val (.int (2 : Int32)), .val (.int (1 : Int32)), .val (.int (ch + (1 : Int32))), .val (.int ((ch + (1 : Int32)) - (1 : Int32))), .unset] []))
        refine own_st (fun t k => XS.aload X98.here hx rfl (hb hby at_241) rfl rfl k) ?_
        show own_Fin _ _ _ _ _ _ _ (T98.setTop (mkF m 243 #[.val (.int p1), .val (.int p2), .val (.int p3), .val (.int ch), .val (.int (1 : Int32)), .val (.ref b1), .val (.int (2 : Int32)), .val (.int (1 : Int32)), .val (.int (ch + (1 : Int32))), .val (.int ((ch + (1 : Int32)) - (1 : Int32))), .unset] [(.ref b1)]))
        refine own_st (fun t k => XS.iconst X98.here hx rfl (hb hby at_243) k) ?_
        show own_Fin _ _ _ _ _ _ _ (T98.setTop (mkF m 244 #[.val (.int p1), .val (.int p2), .val (.int p3), .val (.int ch), .val (.int (1 : Int32)), .val (.ref b1), .val (.int (2 : Int32)), .val (.int (1 : Int32)), .val (.int (ch + (1 : Int32))), .val (.int ((ch + (1 : Int32)) - (1 : Int32))), .unset] [(.int (3 : Int32)), (.ref b1)]))
        refine own_st (fun t k => XS.iload X98.here hx rfl (hb hby at_244) rfl k) ?_
        show own_Fin _ _ _ _ _ _ _ (T98.setTop (mkF m 246 #[.val (.int p1), .val (.int p2), .val (.int p3), .val (.int ch), .val (.int (1 : Int32)), .val (.ref b1), .val (.int (2 : Int32)), .val (.int (1 : Int32)), .val (.int (ch + (1 : Int32))), .val (.int ((ch + (1 : Int32)) - (1 : Int32))), .unset] [(.int (1 : Int32)), (.int (3 : Int32)), (.ref b1)]))
        refine own_st (fun t k => XS.iload X98.here hx rfl (hb hby at_246) rfl k) ?_
        show own_Fin _ _ _ _ _ _ _ (T98.setTop (mkF m 248 #[.val (.int p1), .val (.int p2), .val (.int p3), .val (.int ch), .val (.int (1 : Int32)), .val (.ref b1), .val (.int (2 : Int32)), .val (.int (1 : Int32)), .val (.int (ch + (1 : Int32))), .val (.int ((ch + (1 : Int32)) - (1 : Int32))), .unset] [(.int (2 : Int32)), (.int (1 : Int32)), (.int (3 : Int32)), (.ref b1)]))
        refine own_st (fun t k => XS.iloadN X98.here hx rfl (hb hby at_248) rfl k) ?_
        show own_Fin _ _ _ _ _ _ _ (T98.setTop (mkF m 249 #[.val (.int p1), .val (.int p2), .val (.int p3), .val (.int ch), .val (.int (1 : Int32)), .val (.ref b1), .val (.int (2 : Int32)), .val (.int (1 : Int32)), .val (.int (ch + (1 : Int32))), .val (.int ((ch + (1 : Int32)) - (1 : Int32))), .unset] [(.int p3), (.int (2 : Int32)), (.int (1 : Int32)), (.int (3 : Int32)), (.ref b1)]))
        obtain ⟨_, _, ⟨T100, L100, k100, n100⟩, -, X100, ⟨Lc100, hQ100, l100, y100, z100⟩, st100⟩ := Jvm.LawKit.callS X98 hx (y := (⟨"com/example/quietzone/quietzone/datamatrix/AsciiEncodationWritePinLaw", "untouched", "([IIIII)Z"⟩ : MethodName)) hown (mvT hZ (hw _ (List.mem_of_getElem? (i := 6) rfl))) (mvT hZ (hw _ (List.mem_of_getElem? (i := 7) rfl))) (mvT hZ (hw _ (List.mem_of_getElem? (i := 8) rfl))) (mvT hZ (hw _ (List.mem_of_getElem? (i := 9) rfl))) (by decide) (backOf (W := 0) (rm2 l Z a0 hw [] b1 (3 : Int32) (1 : Int32) (2 : Int32) p3 k1 (6 : Int32) [(.int p3), (.int (ch + (1 : Int32))), (.int p3), (.int p3), (.int p3), (.int p3)] p3 T89.heap n0 Z89 Vx89 (by decide) (by decide) rfl) hZ (hw _ (List.mem_of_getElem? (i := 9) rfl)) (hw _ (List.mem_of_getElem? (i := 8) rfl)) (by decide) (by decide)) (g := (mkF m 249 #[.val (.int p1), .val (.int p2), .val (.int p3), .val (.int ch), .val (.int (1 : Int32)), .val (.ref b1), .val (.int (2 : Int32)), .val (.int (1 : Int32)), .val (.int (ch + (1 : Int32))), .val (.int ((ch + (1 : Int32)) - (1 : Int32))), .unset] [(.int p3), (.int (2 : Int32)), (.int (1 : Int32)), (.int (3 : Int32)), (.ref b1)])) rfl (by rw [hml]; rfl) (argsL := [(.ref b1), (.int (3 : Int32)), (.int (1 : Int32)), (.int (2 : Int32)), (.int p3)]) (rest := []) (lenOf pd_0_1 rfl) rfl (by show 2 * 0 + _ ≤ _; exact Nat.le_of_eq rfl) (hb hby at_249) (fun _ _ => ⟨rfl, e98, (by decide : 1 + 0 ≤ _), (by decide : 6 + 0 ≤ _)⟩)
        dsimp only [Pt.U, Pt.locs, Pt.cells, Pt.slots] at X100 l100 y100 z100 st100 hQ100
        subst l100 y100 z100
        obtain ⟨rfl, N100q, e100⟩ := hQ100
        have N100 := Fr.app N98 N100q
        refine own_st st100 ?_
        show own_Fin _ _ _ _ _ _ _ (T100.setTop (mkF m 252 #[.val (.int p1), .val (.int p2), .val (.int p3), .val (.int ch), .val (.int (1 : Int32)), .val (.ref b1), .val (.int (2 : Int32)), .val (.int (1 : Int32)), .val (.int (ch + (1 : Int32))), .val (.int ((ch + (1 : Int32)) - (1 : Int32))), .unset] [(.int (own_un (3 : Int32) (1 : Int32) (2 : Int32) p3 p3))]))
        have hd252_101 : ¬ ((own_un (3 : Int32) (1 : Int32) (2 : Int32) p3 p3) = (0 : Int32)) := by unfold own_un; simp
        refine own_st (fun t k => XS.ifNo X100.here hx rfl (hb hby at_252) rfl ((if0 _ _).trans (feq hd252_101).1) k) ?_
        show own_Fin _ _ _ _ _ _ _ (T100.setTop (mkF m 255 #[.val (.int p1), .val (.int p2), .val (.int p3), .val (.int ch), .val (.int (1 : Int32)), .val (.ref b1), .val (.int (2 : Int32)), .val (.int (1 : Int32)), .val (.int (ch + (1 : Int32))), .val (.int ((ch + (1 : Int32)) - (1 : Int32))), .unset] []))
        refine own_st (fun t k => XS.aload X100.here hx rfl (hb hby at_255) rfl rfl k) ?_
        show own_Fin _ _ _ _ _ _ _ (T100.setTop (mkF m 257 #[.val (.int p1), .val (.int p2), .val (.int p3), .val (.int ch), .val (.int (1 : Int32)), .val (.ref b1), .val (.int (2 : Int32)), .val (.int (1 : Int32)), .val (.int (ch + (1 : Int32))), .val (.int ((ch + (1 : Int32)) - (1 : Int32))), .unset] [(.ref b1)]))
        refine own_st (fun t k => XS.iconst X100.here hx rfl (hb hby at_257) k) ?_
        show own_Fin _ _ _ _ _ _ _ (T100.setTop (mkF m 258 #[.val (.int p1), .val (.int p2), .val (.int p3), .val (.int ch), .val (.int (1 : Int32)), .val (.ref b1), .val (.int (2 : Int32)), .val (.int (1 : Int32)), .val (.int (ch + (1 : Int32))), .val (.int ((ch + (1 : Int32)) - (1 : Int32))), .unset] [(.int (4 : Int32)), (.ref b1)]))
        refine own_st (fun t k => XS.iload X100.here hx rfl (hb hby at_258) rfl k) ?_
        show own_Fin _ _ _ _ _ _ _ (T100.setTop (mkF m 260 #[.val (.int p1), .val (.int p2), .val (.int p3), .val (.int ch), .val (.int (1 : Int32)), .val (.ref b1), .val (.int (2 : Int32)), .val (.int (1 : Int32)), .val (.int (ch + (1 : Int32))), .val (.int ((ch + (1 : Int32)) - (1 : Int32))), .unset] [(.int (1 : Int32)), (.int (4 : Int32)), (.ref b1)]))
        refine own_st (fun t k => XS.iload X100.here hx rfl (hb hby at_260) rfl k) ?_
        show own_Fin _ _ _ _ _ _ _ (T100.setTop (mkF m 262 #[.val (.int p1), .val (.int p2), .val (.int p3), .val (.int ch), .val (.int (1 : Int32)), .val (.ref b1), .val (.int (2 : Int32)), .val (.int (1 : Int32)), .val (.int (ch + (1 : Int32))), .val (.int ((ch + (1 : Int32)) - (1 : Int32))), .unset] [(.int (2 : Int32)), (.int (1 : Int32)), (.int (4 : Int32)), (.ref b1)]))
        refine own_st (fun t k => XS.iloadN X100.here hx rfl (hb hby at_262) rfl k) ?_
        show own_Fin _ _ _ _ _ _ _ (T100.setTop (mkF m 263 #[.val (.int p1), .val (.int p2), .val (.int p3), .val (.int ch), .val (.int (1 : Int32)), .val (.ref b1), .val (.int (2 : Int32)), .val (.int (1 : Int32)), .val (.int (ch + (1 : Int32))), .val (.int ((ch + (1 : Int32)) - (1 : Int32))), .unset] [(.int p3), (.int (2 : Int32)), (.int (1 : Int32)), (.int (4 : Int32)), (.ref b1)]))
        obtain ⟨_, _, ⟨T102, L102, k102, n102⟩, -, X102, ⟨Lc102, hQ102, l102, y102, z102⟩, st102⟩ := Jvm.LawKit.callS X100 hx (y := (⟨"com/example/quietzone/quietzone/datamatrix/AsciiEncodationWritePinLaw", "untouched", "([IIIII)Z"⟩ : MethodName)) hown (mvT hZ (hw _ (List.mem_of_getElem? (i := 6) rfl))) (mvT hZ (hw _ (List.mem_of_getElem? (i := 7) rfl))) (mvT hZ (hw _ (List.mem_of_getElem? (i := 8) rfl))) (mvT hZ (hw _ (List.mem_of_getElem? (i := 9) rfl))) (by decide) (backOf (W := 0) (rm2 l Z a0 hw [] b1 (4 : Int32) (1 : Int32) (2 : Int32) p3 k1 (6 : Int32) [(.int p3), (.int (ch + (1 : Int32))), (.int p3), (.int p3), (.int p3), (.int p3)] p3 T89.heap n0 Z89 Vx89 (by decide) (by decide) rfl) hZ (hw _ (List.mem_of_getElem? (i := 9) rfl)) (hw _ (List.mem_of_getElem? (i := 8) rfl)) (by decide) (by decide)) (g := (mkF m 263 #[.val (.int p1), .val (.int p2), .val (.int p3), .val (.int ch), .val (.int (1 : Int32)), .val (.ref b1), .val (.int (2 : Int32)), .val (.int (1 : Int32)), .val (.int (ch + (1 : Int32))), .val (.int ((ch + (1 : Int32)) - (1 : Int32))), .unset] [(.int p3), (.int (2 : Int32)), (.int (1 : Int32)), (.int (4 : Int32)), (.ref b1)])) rfl (by rw [hml]; rfl) (argsL := [(.ref b1), (.int (4 : Int32)), (.int (1 : Int32)), (.int (2 : Int32)), (.int p3)]) (rest := []) (lenOf pd_0_1 rfl) rfl (by show 2 * 0 + _ ≤ _; exact Nat.le_of_eq rfl) (hb hby at_263) (fun _ _ => ⟨rfl, e100, (by decide : 1 + 0 ≤ _), (by decide : 6 + 0 ≤ _)⟩)
        dsimp only [Pt.U, Pt.locs, Pt.cells, Pt.slots] at X102 l102 y102 z102 st102 hQ102
        subst l102 y102 z102
        obtain ⟨rfl, N102q, e102⟩ := hQ102
        have N102 := Fr.app N100 N102q
        refine own_st st102 ?_
        show own_Fin _ _ _ _ _ _ _ (T102.setTop (mkF m 266 #[.val (.int p1), .val (.int p2), .val (.int p3), .val (.int ch), .val (.int (1 : Int32)), .val (.ref b1), .val (.int (2 : Int32)), .val (.int (1 : Int32)), .val (.int (ch + (1 : Int32))), .val (.int ((ch + (1 : Int32)) - (1 : Int32))), .unset] [(.int (own_un (4 : Int32) (1 : Int32) (2 : Int32) p3 p3))]))
        have hd266_103 : ¬ ((own_un (4 : Int32) (1 : Int32) (2 : Int32) p3 p3) = (0 : Int32)) := by unfold own_un; simp
        refine own_st (fun t k => XS.ifNo X102.here hx rfl (hb hby at_266) rfl ((if0 _ _).trans (feq hd266_103).1) k) ?_
        show own_Fin _ _ _ _ _ _ _ (T102.setTop (mkF m 269 #[.val (.int p1), .val (.int p2), .val (.int p3), .val (.int ch), .val (.int (1 : Int32)), .val (.ref b1), .val (.int (2 : Int32)), .val (.int (1 : Int32)), .val (.int (ch + (1 : Int32))), .val (.int ((ch + (1 : Int32)) - (1 : Int32))), .unset] []))
        refine own_st (fun t k => XS.aload X102.here hx rfl (hb hby at_269) rfl rfl k) ?_
        show own_Fin _ _ _ _ _ _ _ (T102.setTop (mkF m 271 #[.val (.int p1), .val (.int p2), .val (.int p3), .val (.int ch), .val (.int (1 : Int32)), .val (.ref b1), .val (.int (2 : Int32)), .val (.int (1 : Int32)), .val (.int (ch + (1 : Int32))), .val (.int ((ch + (1 : Int32)) - (1 : Int32))), .unset] [(.ref b1)]))
        refine own_st (fun t k => XS.iconst X102.here hx rfl (hb hby at_271) k) ?_
        show own_Fin _ _ _ _ _ _ _ (T102.setTop (mkF m 272 #[.val (.int p1), .val (.int p2), .val (.int p3), .val (.int ch), .val (.int (1 : Int32)), .val (.ref b1), .val (.int (2 : Int32)), .val (.int (1 : Int32)), .val (.int (ch + (1 : Int32))), .val (.int ((ch + (1 : Int32)) - (1 : Int32))), .unset] [(.int (5 : Int32)), (.ref b1)]))
        refine own_st (fun t k => XS.iload X102.here hx rfl (hb hby at_272) rfl k) ?_
        show own_Fin _ _ _ _ _ _ _ (T102.setTop (mkF m 274 #[.val (.int p1), .val (.int p2), .val (.int p3), .val (.int ch), .val (.int (1 : Int32)), .val (.ref b1), .val (.int (2 : Int32)), .val (.int (1 : Int32)), .val (.int (ch + (1 : Int32))), .val (.int ((ch + (1 : Int32)) - (1 : Int32))), .unset] [(.int (1 : Int32)), (.int (5 : Int32)), (.ref b1)]))
        refine own_st (fun t k => XS.iload X102.here hx rfl (hb hby at_274) rfl k) ?_
        show own_Fin _ _ _ _ _ _ _ (T102.setTop (mkF m 276 #[.val (.int p1), .val (.int p2), .val (.int p3), .val (.int ch), .val (.int (1 : Int32)), .val (.ref b1), .val (.int (2 : Int32)), .val (.int (1 : Int32)), .val (.int (ch + (1 : Int32))), .val (.int ((ch + (1 : Int32)) - (1 : Int32))), .unset] [(.int (2 : Int32)), (.int (1 : Int32)), (.int (5 : Int32)), (.ref b1)]))
        refine own_st (fun t k => XS.iloadN X102.here hx rfl (hb hby at_276) rfl k) ?_
        show own_Fin _ _ _ _ _ _ _ (T102.setTop (mkF m 277 #[.val (.int p1), .val (.int p2), .val (.int p3), .val (.int ch), .val (.int (1 : Int32)), .val (.ref b1), .val (.int (2 : Int32)), .val (.int (1 : Int32)), .val (.int (ch + (1 : Int32))), .val (.int ((ch + (1 : Int32)) - (1 : Int32))), .unset] [(.int p3), (.int (2 : Int32)), (.int (1 : Int32)), (.int (5 : Int32)), (.ref b1)]))
        obtain ⟨_, _, ⟨T104, L104, k104, n104⟩, -, X104, ⟨Lc104, hQ104, l104, y104, z104⟩, st104⟩ := Jvm.LawKit.callS X102 hx (y := (⟨"com/example/quietzone/quietzone/datamatrix/AsciiEncodationWritePinLaw", "untouched", "([IIIII)Z"⟩ : MethodName)) hown (mvT hZ (hw _ (List.mem_of_getElem? (i := 6) rfl))) (mvT hZ (hw _ (List.mem_of_getElem? (i := 7) rfl))) (mvT hZ (hw _ (List.mem_of_getElem? (i := 8) rfl))) (mvT hZ (hw _ (List.mem_of_getElem? (i := 9) rfl))) (by decide) (backOf (W := 0) (rm2 l Z a0 hw [] b1 (5 : Int32) (1 : Int32) (2 : Int32) p3 k1 (6 : Int32) [(.int p3), (.int (ch + (1 : Int32))), (.int p3), (.int p3), (.int p3), (.int p3)] p3 T89.heap n0 Z89 Vx89 (by decide) (by decide) rfl) hZ (hw _ (List.mem_of_getElem? (i := 9) rfl)) (hw _ (List.mem_of_getElem? (i := 8) rfl)) (by decide) (by decide)) (g := (mkF m 277 #[.val (.int p1), .val (.int p2), .val (.int p3), .val (.int ch), .val (.int (1 : Int32)), .val (.ref b1), .val (.int (2 : Int32)), .val (.int (1 : Int32)), .val (.int (ch + (1 : Int32))), .val (.int ((ch + (1 : Int32)) - (1 : Int32))), .unset] [(.int p3), (.int (2 : Int32)), (.int (1 : Int32)), (.int (5 : Int32)), (.ref b1)])) rfl (by rw [hml]; rfl) (argsL := [(.ref b1), (.int (5 : Int32)), (.int (1 : Int32)), (.int (2 : Int32)), (.int p3)]) (rest := []) (lenOf pd_0_1 rfl) rfl (by show 2 * 0 + _ ≤ _; exact Nat.le_of_eq rfl) (hb hby at_277) (fun _ _ => ⟨rfl, e102, (by decide : 1 + 0 ≤ _), (by decide : 6 + 0 ≤ _)⟩)
        dsimp only [Pt.U, Pt.locs, Pt.cells, Pt.slots] at X104 l104 y104 z104 st104 hQ104
        subst l104 y104 z104
        obtain ⟨rfl, N104q, e104⟩ := hQ104
        have N104 := Fr.app N102 N104q
        refine own_st st104 ?_
        show own_Fin _ _ _ _ _ _ _ (T104.setTop (mkF m 280 #[.val (.int p1), .val (.int p2), .val (.int p3), .val (.int ch), .val (.int (1 : Int32)), .val (.ref b1), .val (.int (2 : Int32)), .val (.int (1 : Int32)), .val (.int (ch + (1 : Int32))), .val (.int ((ch + (1 : Int32)) - (1 : Int32))), .unset] [(.int (own_un (5 : Int32) (1 : Int32) (2 : Int32) p3 p3))]))
        have hd280_105 : ¬ ((own_un (5 : Int32) (1 : Int32) (2 : Int32) p3 p3) = (0 : Int32)) := by unfold own_un; simp
        refine own_st (fun t k => XS.ifNo X104.here hx rfl (hb hby at_280) rfl ((if0 _ _).trans (feq hd280_105).1) k) ?_
        show own_Fin _ _ _ _ _ _ _ (T104.setTop (mkF m 283 #[.val (.int p1), .val (.int p2), .val (.int p3), .val (.int ch), .val (.int (1 : Int32)), .val (.ref b1), .val (.int (2 : Int32)), .val (.int (1 : Int32)), .val (.int (ch + (1 : Int32))), .val (.int ((ch + (1 : Int32)) - (1 : Int32))), .unset] []))
        refine own_st (fun t k => XS.iconst X104.here hx rfl (hb hby at_283) k) ?_
        show own_Fin _ _ _ _ _ _ _ (T104.setTop (mkF m 284 #[.val (.int p1), .val (.int p2), .val (.int p3), .val (.int ch), .val (.int (1 : Int32)), .val (.ref b1), .val (.int (2 : Int32)), .val (.int (1 : Int32)), .val (.int (ch + (1 : Int32))), .val (.int ((ch + (1 : Int32)) - (1 : Int32))), .unset] [(.int (1 : Int32))]))
        refine own_st (fun t k => XS.goto X104.here hx rfl (pc0 := 284) (pc' := 288) rfl (hb hby at_284) (by decide) (by decide) k) ?_
        show own_Fin _ _ _ _ _ _ _ (T104.setTop (mkF m 288 #[.val (.int p1), .val (.int p2), .val (.int p3), .val (.int ch), .val (.int (1 : Int32)), .val (.ref b1), .val (.int (2 : Int32)), .val (.int (1 : Int32)), .val (.int (ch + (1 : Int32))), .val (.int ((ch + (1 : Int32)) - (1 : Int32))), .unset] [(.int (1 : Int32))]))
        exact own_retN X104 hx Bd.notSynchronized (t := .boolean) Bd.returns (by simp) (hb hby at_288) (by decide) (by decide) ⟨rfl, N104, trivial⟩
  · rw [hat]
    by_cases hA : ch = (256 : Int32)
    · rw [hA]
      show own_Fin _ _ _ _ _ _ _ (T7.setTop (mkF m 44 #[.val (.int p1), .val (.int p2), .val (.int p3), .val (.int (256 : Int32)), .val (.int (2 : Int32)), .val (.ref b1), .unset, .unset, .unset, .unset, .unset] []))
      refine own_st (fun t k => XS.iloadN X7.here hx rfl (hb hby at_44) rfl k) ?_
      show own_Fin _ _ _ _ _ _ _ (T7.setTop (mkF m 45 #[.val (.int p1), .val (.int p2), .val (.int p3), .val (.int (256 : Int32)), .val (.int (2 : Int32)), .val (.ref b1), .unset, .unset, .unset, .unset, .unset] [(.int (256 : Int32))]))
      refine own_st (fun t k => XS.aload X7.here hx rfl (hb hby at_45) rfl rfl k) ?_
      show own_Fin _ _ _ _ _ _ _ (T7.setTop (mkF m 47 #[.val (.int p1), .val (.int p2), .val (.int p3), .val (.int (256 : Int32)), .val (.int (2 : Int32)), .val (.ref b1), .unset, .unset, .unset, .unset, .unset] [(.ref b1), (.int (256 : Int32))]))
      refine own_st (fun t k => XS.iload X7.here hx rfl (hb hby at_47) rfl k) ?_
      show own_Fin _ _ _ _ _ _ _ (T7.setTop (mkF m 49 #[.val (.int p1), .val (.int p2), .val (.int p3), .val (.int (256 : Int32)), .val (.int (2 : Int32)), .val (.ref b1), .unset, .unset, .unset, .unset, .unset] [(.int (2 : Int32)), (.ref b1), (.int (256 : Int32))]))
      obtain ⟨_, _, ⟨T106, L106, k106, n106⟩, -, X106, ⟨Lc106, hQ106, l106, y106, z106⟩, st106⟩ := Jvm.LawKit.callS X7 hx (y := (⟨"com/example/quietzone/quietzone/datamatrix/AsciiEncodation", "write", "(I[II)I"⟩ : MethodName)) hown (mvT hZ (hw _ (List.mem_of_getElem? (i := 2) rfl))) (mvT hZ (hw _ (List.mem_of_getElem? (i := 3) rfl))) (mvT hZ (hw _ (List.mem_of_getElem? (i := 4) rfl))) (mvT hZ (hw _ (List.mem_of_getElem? (i := 5) rfl))) (by decide) (backOf (W := 0) (rm1 l Z a0 hw [] (256 : Int32) b1 (2 : Int32) k1 (6 : Int32) [(.int p3), (.int p3), (.int p3), (.int p3), (.int p3), (.int p3)] h7 n0 Z7 V7 ge_b1 (by decide) (by decide) (by decide) (by decide) (Nat.le_of_ble_eq_true rfl) (Nat.le_of_ble_eq_true rfl)) hZ (hw _ (List.mem_of_getElem? (i := 5) rfl)) (hw _ (List.mem_of_getElem? (i := 4) rfl)) (by decide) (by decide)) (g := (mkF m 49 #[.val (.int p1), .val (.int p2), .val (.int p3), .val (.int (256 : Int32)), .val (.int (2 : Int32)), .val (.ref b1), .unset, .unset, .unset, .unset, .unset] [(.int (2 : Int32)), (.ref b1), (.int (256 : Int32))])) rfl (by rw [hml]; rfl) (argsL := [(.int (256 : Int32)), (.ref b1), (.int (2 : Int32))]) (rest := []) (lenOf pd_0_0 rfl) rfl (by show 2 * 0 + _ ≤ _; exact Nat.le_of_eq rfl) (hb hby at_49) (fun _ _ => ⟨rfl, e7, (by decide : 1 + 0 ≤ _), (by decide : 6 + 0 ≤ _)⟩)
      dsimp only [Pt.U, Pt.locs, Pt.cells, Pt.slots] at X106 l106 y106 z106 st106 hQ106
      subst l106 y106 z106
      obtain ⟨rfl, N106q, K106, o106⟩ := hQ106
      have N106 := Fr.app N7 N106q
      have Z106 : n0 ≤ T106.heap.size := Nat.le_trans Z7 K106.1
      refine own_st st106 ?_
      show own_Fin _ _ _ _ _ _ _ (T106.setTop (mkF m 52 #[.val (.int p1), .val (.int p2), .val (.int p3), .val (.int (256 : Int32)), .val (.int (2 : Int32)), .val (.ref b1), .unset, .unset, .unset, .unset, .unset] [(.int (own_wr (256 : Int32) (2 : Int32)))]))
      have Vx106 : Arv Z T106.heap b1 k1 .int (6 : Int32) [(.int p3), (.int p3), (.int (232 : Int32)), (.int p3), (.int p3), (.int p3)] (.int (0 : Int32)) := by have q := o106; unfold own_wv at q; rw [if_pos (rfl : (256 : Int32) = (256 : Int32))] at q; exact q
      have rx106 : (own_wr (256 : Int32) (2 : Int32)) = (3 : Int32) := by unfold own_wr; rw [if_pos (rfl : (256 : Int32) = (256 : Int32))]; rfl
      rw [rx106]
      show own_Fin _ _ _ _ _ _ _ (T106.setTop (mkF m 52 #[.val (.int p1), .val (.int p2), .val (.int p3), .val (.int (256 : Int32)), .val (.int (2 : Int32)), .val (.ref b1), .unset, .unset, .unset, .unset, .unset] [(.int (3 : Int32))]))
      refine own_st (fun t k => XS.istore X106.here hx rfl (hb hby at_52) rfl (l' := #[.val (.int p1), .val (.int p2), .val (.int p3), .val (.int (256 : Int32)), .val (.int (2 : Int32)), .val (.ref b1), .val (.int (3 : Int32)), .unset, .unset, .unset, .unset]) rfl k) ?_
      show own_Fin _ _ _ _ _ _ _ (T106.setTop (mkF m 54 #[.val (.int p1), .val (.int p2), .val (.int p3), .val (.int (256 : Int32)), .val (.int (2 : Int32)), .val (.ref b1), .val (.int (3 : Int32)), .unset, .unset, .unset, .unset] []))
      refine own_st (fun t k => XS.iload X106.here hx rfl (hb hby at_54) rfl k) ?_
      show own_Fin _ _ _ _ _ _ _ (T106.setTop (mkF m 56 #[.val (.int p1), .val (.int p2), .val (.int p3), .val (.int (256 : Int32)), .val (.int (2 : Int32)), .val (.ref b1), .val (.int (3 : Int32)), .unset, .unset, .unset, .unset] [(.int (3 : Int32))]))
      refine own_st (fun t k => XS.iload X106.here hx rfl (hb hby at_56) rfl k) ?_
      show own_Fin _ _ _ _ _ _ _ (T106.setTop (mkF m 58 #[.val (.int p1), .val (.int p2), .val (.int p3), .val (.int (256 : Int32)), .val (.int (2 : Int32)), .val (.ref b1), .val (.int (3 : Int32)), .unset, .unset, .unset, .unset] [(.int (2 : Int32)), (.int (3 : Int32))]))
      refine own_st (fun t k => XS.isub X106.here hx rfl (hb hby at_58) rfl k) ?_
      show own_Fin _ _ _ _ _ _ _ (T106.setTop (mkF m 59 #[.val (.int p1), .val (.int p2), .val (.int p3), .val (.int (256 : Int32)), .val (.int (2 : Int32)), .val (.ref b1), .val (.int (3 : Int32)), .unset, .unset, .unset, .unset] [(.int (1 : Int32))]))
      refine own_st (fun t k => XS.istore X106.here hx rfl (hb hby at_59) rfl (l' := #[.val (.int p1), .val (.int p2), .val (.int p3), .val (.int (256 : Int32)), .val (.int (2 : Int32)), .val (.ref b1), .val (.int (3 : Int32)), .val (.int (1 : Int32)), .unset, .unset, .unset]) rfl k) ?_
      show own_Fin _ _ _ _ _ _ _ (T106.setTop (mkF m 61 #[.val (.int p1), .val (.int p2), .val (.int p3), .val (.int (256 : Int32)), .val (.int (2 : Int32)), .val (.ref b1), .val (.int (3 : Int32)), .val (.int (1 : Int32)), .unset, .unset, .unset] []))
      refine own_st (fun t k => XS.iload X106.here hx rfl (hb hby at_61) rfl k) ?_
      show own_Fin _ _ _ _ _ _ _ (T106.setTop (mkF m 63 #[.val (.int p1), .val (.int p2), .val (.int p3), .val (.int (256 : Int32)), .val (.int (2 : Int32)), .val (.ref b1), .val (.int (3 : Int32)), .val (.int (1 : Int32)), .unset, .unset, .unset] [(.int (1 : Int32))]))
      refine own_st (fun t k => XS.iconst X106.here hx rfl (hb hby at_63) k) ?_
      show own_Fin _ _ _ _ _ _ _ (T106.setTop (mkF m 64 #[.val (.int p1), .val (.int p2), .val (.int p3), .val (.int (256 : Int32)), .val (.int (2 : Int32)), .val (.ref b1), .val (.int (3 : Int32)), .val (.int (1 : Int32)), .unset, .unset, .unset] [(.int (1 : Int32)), (.int (1 : Int32))]))
      refine own_st (fun t k => XS.icmpNo X106.here hx rfl (hb hby at_64) rfl (flt (by decide : ¬ ((1 : Int32) < (1 : Int32)))).1 k) ?_
      show own_Fin _ _ _ _ _ _ _ (T106.setTop (mkF m 67 #[.val (.int p1), .val (.int p2), .val (.int p3), .val (.int (256 : Int32)), .val (.int (2 : Int32)), .val (.ref b1), .val (.int (3 : Int32)), .val (.int (1 : Int32)), .unset, .unset, .unset] []))
      refine own_st (fun t k => XS.iload X106.here hx rfl (hb hby at_67) rfl k) ?_
      show own_Fin _ _ _ _ _ _ _ (T106.setTop (mkF m 69 #[.val (.int p1), .val (.int p2), .val (.int p3), .val (.int (256 : Int32)), .val (.int (2 : Int32)), .val (.ref b1), .val (.int (3 : Int32)), .val (.int (1 : Int32)), .unset, .unset, .unset] [(.int (1 : Int32))]))
      refine own_st (fun t k => XS.iconst X106.here hx rfl (hb hby at_69) k) ?_
      show own_Fin _ _ _ _ _ _ _ (T106.setTop (mkF m 70 #[.val (.int p1), .val (.int p2), .val (.int p3), .val (.int (256 : Int32)), .val (.int (2 : Int32)), .val (.ref b1), .val (.int (3 : Int32)), .val (.int (1 : Int32)), .unset, .unset, .unset] [(.int (2 : Int32)), (.int (1 : Int32))]))
      refine own_st (fun t k => XS.icmpYes X106.here hx rfl (pc0 := 70) (pc' := 75) rfl (hb hby at_70) rfl (flt (by decide : ¬ ((2 : Int32) < (1 : Int32)))).2.2.2 (by decide) (by decide) k) ?_
      show own_Fin _ _ _ _ _ _ _ (T106.setTop (mkF m 75 #[.val (.int p1), .val (.int p2), .val (.int p3), .val (.int (256 : Int32)), .val (.int (2 : Int32)), .val (.ref b1), .val (.int (3 : Int32)), .val (.int (1 : Int32)), .unset, .unset, .unset] []))
      refine own_st (fun t k => XS.aload X106.here hx rfl (hb hby at_75) rfl rfl k) ?_
      show own_Fin _ _ _ _ _ _ _ (T106.setTop (mkF m 77 #[.val (.int p1), .val (.int p2), .val (.int p3), .val (.int (256 : Int32)), .val (.int (2 : Int32)), .val (.ref b1), .val (.int (3 : Int32)), .val (.int (1 : Int32)), .unset, .unset, .unset] [(.ref b1)]))
      refine own_st (fun t k => XS.iload X106.here hx rfl (hb hby at_77) rfl k) ?_
      show own_Fin _ _ _ _ _ _ _ (T106.setTop (mkF m 79 #[.val (.int p1), .val (.int p2), .val (.int p3), .val (.int (256 : Int32)), .val (.int (2 : Int32)), .val (.ref b1), .val (.int (3 : Int32)), .val (.int (1 : Int32)), .unset, .unset, .unset] [(.int (2 : Int32)), (.ref b1)]))
      obtain ⟨cl107, Ar107, Cq107, Sz107, Mn107, Hs107, Gf107⟩ := id Vx106
      have hin107 := inb_of Sz107 (j := (2 : Int32)) ⟨by decide, by decide⟩
      refine own_st (X106.iaload hx (j := (2 : Int32)) (v := (.int (232 : Int32))) Ar107.1 (State.isArrayOf_alike hZ.alike Ar107.2.1) Ar107.2.2 hin107 (Hs107.at hin107 rfl) (g := (mkF m 79 #[.val (.int p1), .val (.int p2), .val (.int p3), .val (.int (256 : Int32)), .val (.int (2 : Int32)), .val (.ref b1), .val (.int (3 : Int32)), .val (.int (1 : Int32)), .unset, .unset, .unset] [(.int (2 : Int32)), (.ref b1)])) rfl rfl (hb hby at_79)) ?_
      show own_Fin _ _ _ _ _ _ _ (T106.setTop (mkF m 80 #[.val (.int p1), .val (.int p2), .val (.int p3), .val (.int (256 : Int32)), .val (.int (2 : Int32)), .val (.ref b1), .val (.int (3 : Int32)), .val (.int (1 : Int32)), .unset, .unset, .unset] [(.int (232 : Int32))]))
      refine own_st (fun t k => XS.istore X106.here hx rfl (hb hby at_80) rfl (l' := #[.val (.int p1), .val (.int p2), .val (.int p3), .val (.int (256 : Int32)), .val (.int (2 : Int32)), .val (.ref b1), .val (.int (3 : Int32)), .val (.int (1 : Int32)), .val (.int (232 : Int32)), .unset, .unset]) rfl k) ?_
      show own_Fin _ _ _ _ _ _ _ (T106.setTop (mkF m 82 #[.val (.int p1), .val (.int p2), .val (.int p3), .val (.int (256 : Int32)), .val (.int (2 : Int32)), .val (.ref b1), .val (.int (3 : Int32)), .val (.int (1 : Int32)), .val (.int (232 : Int32)), .unset, .unset] []))
      refine own_st (fun t k => XS.iload X106.here hx rfl (hb hby at_82) rfl k) ?_
      show own_Fin _ _ _ _ _ _ _ (T106.setTop (mkF m 84 #[.val (.int p1), .val (.int p2), .val (.int p3), .val (.int (256 : Int32)), .val (.int (2 : Int32)), .val (.ref b1), .val (.int (3 : Int32)), .val (.int (1 : Int32)), .val (.int (232 : Int32)), .unset, .unset] [(.int (232 : Int32))]))
      refine own_st (fun t k => XS.iconst X106.here hx rfl (hb hby at_84) k) ?_
      show own_Fin _ _ _ _ _ _ _ (T106.setTop (mkF m 85 #[.val (.int p1), .val (.int p2), .val (.int p3), .val (.int (256 : Int32)), .val (.int (2 : Int32)), .val (.ref b1), .val (.int (3 : Int32)), .val (.int (1 : Int32)), .val (.int (232 : Int32)), .unset, .unset] [(.int (1 : Int32)), (.int (232 : Int32))]))
      refine own_st (fun t k => XS.icmpNo X106.here hx rfl (hb hby at_85) rfl (flt (by decide : ¬ ((232 : Int32) < (1 : Int32)))).1 k) ?_
      show own_Fin _ _ _ _ _ _ _ (T106.setTop (mkF m 88 #[.val (.int p1), .val (.int p2), .val (.int p3), .val (.int (256 : Int32)), .val (.int (2 : Int32)), .val (.ref b1), .val (.int (3 : Int32)), .val (.int (1 : Int32)), .val (.int (232 : Int32)), .unset, .unset] []))
      refine own_st (fun t k => XS.iload X106.here hx rfl (hb hby at_88) rfl k) ?_
      show own_Fin _ _ _ _ _ _ _ (T106.setTop (mkF m 90 #[.val (.int p1), .val (.int p2), .val (.int p3), .val (.int (256 : Int32)), .val (.int (2 : Int32)), .val (.ref b1), .val (.int (3 : Int32)), .val (.int (1 : Int32)), .val (.int (232 : Int32)), .unset, .unset] [(.int (232 : Int32))]))
      refine own_st (fun t k => XS.sipush X106.here hx rfl (hb hby at_90) k) ?_
      show own_Fin _ _ _ _ _ _ _ (T106.setTop (mkF m 93 #[.val (.int p1), .val (.int p2), .val (.int p3), .val (.int (256 : Int32)), .val (.int (2 : Int32)), .val (.ref b1), .val (.int (3 : Int32)), .val (.int (1 : Int32)), .val (.int (232 : Int32)), .unset, .unset] [(.int (128 : Int32)), (.int (232 : Int32))]))
      refine own_st (fun t k => XS.icmpYes X106.here hx rfl (pc0 := 93) (pc' := 113) rfl (hb hby at_93) rfl (tlt (by decide : (128 : Int32) < (232 : Int32))).2.2.1 (by decide) (by decide) k) ?_
      show own_Fin _ _ _ _ _ _ _ (T106.setTop (mkF m 113 #[.val (.int p1), .val (.int p2), .val (.int p3), .val (.int (256 : Int32)), .val (.int (2 : Int32)), .val (.ref b1), .val (.int (3 : Int32)), .val (.int (1 : Int32)), .val (.int (232 : Int32)), .unset, .unset] []))
      refine own_st (fun t k => XS.iload X106.here hx rfl (hb hby at_113) rfl k) ?_
      show own_Fin _ _ _ _ _ _ _ (T106.setTop (mkF m 115 #[.val (.int p1), .val (.int p2), .val (.int p3), .val (.int (256 : Int32)), .val (.int (2 : Int32)), .val (.ref b1), .val (.int (3 : Int32)), .val (.int (1 : Int32)), .val (.int (232 : Int32)), .unset, .unset] [(.int (232 : Int32))]))
      refine own_st (fun t k => XS.sipush X106.here hx rfl (hb hby at_115) k) ?_
      show own_Fin _ _ _ _ _ _ _ (T106.setTop (mkF m 118 #[.val (.int p1), .val (.int p2), .val (.int p3), .val (.int (256 : Int32)), .val (.int (2 : Int32)), .val (.ref b1), .val (.int (3 : Int32)), .val (.int (1 : Int32)), .val (.int (232 : Int32)), .unset, .unset] [(.int (232 : Int32)), (.int (232 : Int32))]))
      refine own_st (fun t k => XS.icmpNo X106.here hx rfl (hb hby at_118) rfl (teq (by decide : (232 : Int32) = (232 : Int32))).2 k) ?_
      show own_Fin _ _ _ _ _ _ _ (T106.setTop (mkF m 121 #[.val (.int p1), .val (.int p2), .val (.int p3), .val (.int (256 : Int32)), .val (.int (2 : Int32)), .val (.ref b1), .val (.int (3 : Int32)), .val (.int (1 : Int32)), .val (.int (232 : Int32)), .unset, .unset] []))
      refine own_st (fun t k => XS.iload X106.here hx rfl (hb hby at_121) rfl k) ?_
      show own_Fin _ _ _ _ _ _ _ (T106.setTop (mkF m 123 #[.val (.int p1), .val (.int p2), .val (.int p3), .val (.int (256 : Int32)), .val (.int (2 : Int32)), .val (.ref b1), .val (.int (3 : Int32)), .val (.int (1 : Int32)), .val (.int (232 : Int32)), .unset, .unset] [(.int (1 : Int32))]))
      refine own_st (fun t k => XS.iconst X106.here hx rfl (hb hby at_123) k) ?_
      show own_Fin _ _ _ _ _ _ _ (T106.setTop (mkF m 124 #[.val (.int p1), .val (.int p2), .val (.int p3), .val (.int (256 : Int32)), .val (.int (2 : Int32)), .val (.ref b1), .val (.int (3 : Int32)), .val (.int (1 : Int32)), .val (.int (232 : Int32)), .unset, .unset] [(.int (1 : Int32)), (.int (1 : Int32))]))
      refine own_st (fun t k => XS.icmpYes X106.here hx rfl (pc0 := 124) (pc' := 129) rfl (hb hby at_124) rfl (teq (by decide : (1 : Int32) = (1 : Int32))).1 (by decide) (by decide) k) ?_
      show own_Fin _ _ _ _ _ _ _ (T106.setTop (mkF m 129 #[.val (.int p1), .val (.int p2), .val (.int p3), .val (.int (256 : Int32)), .val (.int (2 : Int32)), .val (.ref b1), .val (.int (3 : Int32)), .val (.int (1 : Int32)), .val (.int (232 : Int32)), .unset, .unset] []))
      refine own_st (fun t k => XS.sipush X106.here hx rfl (hb hby at_129) k) ?_
      show own_Fin _ _ _ _ _ _ _ (T106.setTop (mkF m 132 #[.val (.int p1), .val (.int p2), .val (.int p3), .val (.int (256 : Int32)), .val (.int (2 : Int32)), .val (.ref b1), .val (.int (3 : Int32)), .val (.int (1 : Int32)), .val (.int (232 : Int32)), .unset, .unset] [(.int (256 : Int32))]))
      refine own_st (fun t k => XS.istore X106.here hx rfl (hb hby at_132) rfl (l' := #[.val (.int p1), .val (.int p2), .val (.int p3), .val (.int (256 : Int32)), .val (.int (2 : Int32)), .val (.ref b1), .val (.int (3 : Int32)), .val (.int (1 : Int32)), .val (.int (232 : Int32)), .val (.int (256 : Int32)), .unset]) rfl k) ?_
      show own_Fin _ _ _ _ _ _ _ (T106.setTop (mkF m 134 #[.val (.int p1), .val (.int p2), .val (.int p3), .val (.int (256 : Int32)), .val (.int (2 : Int32)), .val (.ref b1), .val (.int (3 : Int32)), .val (.int (1 : Int32)), .val (.int (232 : Int32)), .val (.int (256 : Int32)), .unset] []))
      refine own_st (fun t k => XS.goto X106.here hx rfl (pc0 := 134) (pc' := 193) rfl (hb hby at_134) (by decide) (by decide) k) ?_
      show own_Fin _ _ _ _ _ _ _ (T106.setTop (mkF m 193 #[.val (.int p1), .val (.int p2), .val (.int p3), .val (.int (256 : Int32)), .val (.int (2 : Int32)), .val (.ref b1), .val (.int (3 : Int32)), .val (.int (1 : Int32)), .val (.int (232 : Int32)), .val (.int (256 : Int32)), .unset] []))
      refine own_st (fun t k => XS.iload X106.here hx rfl (hb hby at_193) rfl k) ?_
      show own_Fin _ _ _ _ _ _ _ (T106.setTop (mkF m 195 #[.val (.int p1), .val (.int p2), .val (.int p3), .val (.int (256 : Int32)), .val (.int (2 : Int32)), .val (.ref b1), .val (.int (3 : Int32)), .val (.int (1 : Int32)), .val (.int (232 : Int32)), .val (.int (256 : Int32)), .unset] [(.int (256 : Int32))]))
      refine own_st (fun t k => XS.iloadN X106.here hx rfl (hb hby at_195) rfl k) ?_
      show own_Fin _ _ _ _ _ _ _ (T106.setTop (mkF m 196 #[.val (.int p1), .val (.int p2), .val (.int p3), .val (.int (256 : Int32)), .val (.int (2 : Int32)), .val (.ref b1), .val (.int (3 : Int32)), .val (.int (1 : Int32)), .val (.int (232 : Int32)), .val (.int (256 : Int32)), .unset] [(.int (256 : Int32)), (.int (256 : Int32))]))
      refine own_st (fun t k => XS.icmpNo X106.here hx rfl (hb hby at_196) rfl (teq (by decide : (256 : Int32) = (256 : Int32))).2 k) ?_
      show own_Fin _ _ _ _ _ _ _ (T106.setTop (mkF m 199 #[.val (.int p1), .val (.int p2), .val (.int p3), .val (.int (256 : Int32)), .val (.int (2 : Int32)), .val (.ref b1), .val (.int (3 : Int32)), .val (.int (1 : Int32)), .val (.int (232 : Int32)), .val (.int (256 : Int32)), .unset] []))
      refine own_st (fun t k => XS.aload X106.here hx rfl (hb hby at_199) rfl rfl k) ?_
      show own_Fin _ _ _ _ _ _ _ (T106.setTop (mkF m 201 #[.val (.int p1), .val (.int p2), .val (.int p3), .val (.int (256 : Int32)), .val (.int (2 : Int32)), .val (.ref b1), .val (.int (3 : Int32)), .val (.int (1 : Int32)), .val (.int (232 : Int32)), .val (.int (256 : Int32)), .unset] [(.ref b1)]))
      refine own_st (fun t k => XS.iconst X106.here hx rfl (hb hby at_201) k) ?_
      show own_Fin _ _ _ _ _ _ _ (T106.setTop (mkF m 202 #[.val (.int p1), .val (.int p2), .val (.int p3), .val (.int (256 : Int32)), .val (.int (2 : Int32)), .val (.ref b1), .val (.int (3 : Int32)), .val (.int (1 : Int32)), .val (.int (232 : Int32)), .val (.int (256 : Int32)), .unset] [(.int (0 : Int32)), (.ref b1)]))
      refine own_st (fun t k => XS.iload X106.here hx rfl (hb hby at_202) rfl k) ?_
      show own_Fin _ _ _ _ _ _ _ (T106.setTop (mkF m 204 #[.val (.int p1), .val (.int p2), .val (.int p3), .val (.int (256 : Int32)), .val (.int (2 : Int32)), .val (.ref b1), .val (.int (3 : Int32)), .val (.int (1 : Int32)), .val (.int (232 : Int32)), .val (.int (256 : Int32)), .unset] [(.int (2 : Int32)), (.int (0 : Int32)), (.ref b1)]))
      refine own_st (fun t k => XS.iload X106.here hx rfl (hb hby at_204) rfl k) ?_
      show own_Fin _ _ _ _ _ _ _ (T106.setTop (mkF m 206 #[.val (.int p1), .val (.int p2), .val (.int p3), .val (.int (256 : Int32)), .val (.int (2 : Int32)), .val (.ref b1), .val (.int (3 : Int32)), .val (.int (1 : Int32)), .val (.int (232 : Int32)), .val (.int (256 : Int32)), .unset] [(.int (3 : Int32)), (.int (2 : Int32)), (.int (0 : Int32)), (.ref b1)]))
      refine own_st (fun t k => XS.iloadN X106.here hx rfl (hb hby at_206) rfl k) ?_
      show own_Fin _ _ _ _ _ _ _ (T106.setTop (mkF m 207 #[.val (.int p1), .val (.int p2), .val (.int p3), .val (.int (256 : Int32)), .val (.int (2 : Int32)), .val (.ref b1), .val (.int (3 : Int32)), .val (.int (1 : Int32)), .val (.int (232 : Int32)), .val (.int (256 : Int32)), .unset] [(.int p3), (.int (3 : Int32)), (.int (2 : Int32)), (.int (0 : Int32)), (.ref b1)]))
      obtain ⟨_, _, ⟨T108, L108, k108, n108⟩, -, X108, ⟨Lc108, hQ108, l108, y108, z108⟩, st108⟩ := Jvm.LawKit.callS X106 hx (y := (⟨"com/example/quietzone/quietzone/datamatrix/AsciiEncodationWritePinLaw", "untouched", "([IIIII)Z"⟩ : MethodName)) hown (mvT hZ (hw _ (List.mem_of_getElem? (i := 6) rfl))) (mvT hZ (hw _ (List.mem_of_getElem? (i := 7) rfl))) (mvT hZ (hw _ (List.mem_of_getElem? (i := 8) rfl))) (mvT hZ (hw _ (List.mem_of_getElem? (i := 9) rfl))) (by decide) (backOf (W := 0) (rm2 l Z a0 hw [] b1 (0 : Int32) (2 : Int32) (3 : Int32) p3 k1 (6 : Int32) [(.int p3), (.int p3), (.int (232 : Int32)), (.int p3), (.int p3), (.int p3)] p3 T106.heap n0 Z106 Vx106 (by decide) (by decide) rfl) hZ (hw _ (List.mem_of_getElem? (i := 9) rfl)) (hw _ (List.mem_of_getElem? (i := 8) rfl)) (by decide) (by decide)) (g := (mkF m 207 #[.val (.int p1), .val (.int p2), .val (.int p3), .val (.int (256 : Int32)), .val (.int (2 : Int32)), .val (.ref b1), .val (.int (3 : Int32)), .val (.int (1 : Int32)), .val (.int (232 : Int32)), .val (.int (256 : Int32)), .unset] [(.int p3), (.int (3 : Int32)), (.int (2 : Int32)), (.int (0 : Int32)), (.ref b1)])) rfl (by rw [hml]; rfl) (argsL := [(.ref b1), (.int (0 : Int32)), (.int (2 : Int32)), (.int (3 : Int32)), (.int p3)]) (rest := []) (lenOf pd_0_1 rfl) rfl (by show 2 * 0 + _ ≤ _; exact Nat.le_of_eq rfl) (hb hby at_207) (fun _ _ => ⟨rfl, rfl, (by decide : 1 + 0 ≤ _), (by decide : 6 + 0 ≤ _)⟩)
      dsimp only [Pt.U, Pt.locs, Pt.cells, Pt.slots] at X108 l108 y108 z108 st108 hQ108
      subst l108 y108 z108
      obtain ⟨rfl, N108q, e108⟩ := hQ108
      have N108 := Fr.app N106 N108q
      refine own_st st108 ?_
      show own_Fin _ _ _ _ _ _ _ (T108.setTop (mkF m 210 #[.val (.int p1), .val (.int p2), .val (.int p3), .val (.int (256 : Int32)), .val (.int (2 : Int32)), .val (.ref b1), .val (.int (3 : Int32)), .val (.int (1 : Int32)), .val (.int (232 : Int32)), .val (.int (256 : Int32)), .unset] [(.int (own_un (0 : Int32) (2 : Int32) (3 : Int32) p3 p3))]))
      have hd210_109 : ¬ ((own_un (0 : Int32) (2 : Int32) (3 : Int32) p3 p3) = (0 : Int32)) := by unfold own_un; simp
      refine own_st (fun t k => XS.ifNo X108.here hx rfl (hb hby at_210) rfl ((if0 _ _).trans (feq hd210_109).1) k) ?_
      show own_Fin _ _ _ _ _ _ _ (T108.setTop (mkF m 213 #[.val (.int p1), .val (.int p2), .val (.int p3), .val (.int (256 : Int32)), .val (.int (2 : Int32)), .val (.ref b1), .val (.int (3 : Int32)), .val (.int (1 : Int32)), .val (.int (232 : Int32)), .val (.int (256 : Int32)), .unset] []))
      refine own_st (fun t k => XS.aload X108.here hx rfl (hb hby at_213) rfl rfl k) ?_
      show own_Fin _ _ _ _ _ _ _ (T108.setTop (mkF m 215 #[.val (.int p1), .val (.int p2), .val (.int p3), .val (.int (256 : Int32)), .val (.int (2 : Int32)), .val (.ref b1), .val (.int (3 : Int32)), .val (.int (1 : Int32)), .val (.int (232 : Int32)), .val (.int (256 : Int32)), .unset] [(.ref b1)]))
      refine own_st (fun t k => XS.iconst X108.here hx rfl (hb hby at_215) k) ?_
      show own_Fin _ _ _ _ _ _ _ (T108.setTop (mkF m 216 #[.val (.int p1), .val (.int p2), .val (.int p3), .val (.int (256 : Int32)), .val (.int (2 : Int32)), .val (.ref b1), .val (.int (3 : Int32)), .val (.int (1 : Int32)), .val (.int (232 : Int32)), .val (.int (256 : Int32)), .unset] [(.int (1 : Int32)), (.ref b1)]))
      refine own_st (fun t k => XS.iload X108.here hx rfl (hb hby at_216) rfl k) ?_
      show own_Fin _ _ _ _ _ _ _ (T108.setTop (mkF m 218 #[.val (.int p1), .val (.int p2), .val (.int p3), .val (.int (256 : Int32)), .val (.int (2 : Int32)), .val (.ref b1), .val (.int (3 : Int32)), .val (.int (1 : Int32)), .val (.int (232 : Int32)), .val (.int (256 : Int32)), .unset] [(.int (2 : Int32)), (.int (1 : Int32)), (.ref b1)]))
      refine own_st (fun t k => XS.iload X108.here hx rfl (hb hby at_218) rfl k) ?_
      show own_Fin _ _ _ _ _ _ _ (T108.setTop (mkF m 220 #[.val (.int p1), .val (.int p2), .val (.int p3), .val (.int (256 : Int32)), .val (.int (2 : Int32)), .val (.ref b1), .val (.int (3 : Int32)), .val (.int (1 : Int32)), .val (.int (232 : Int32)), .val (.int (256 : Int32)), .unset] [(.int (3 : Int32)), (.int (2 : Int32)), (.int (1 : Int32)), (.ref b1)]))
      refine own_st (fun t k => XS.iloadN X108.here hx rfl (hb hby at_220) rfl k) ?_
      show own_Fin _ _ _ _ _ _ _ (T108.setTop (mkF m 221 #[.val (.int p1), .val (.int p2), .val (.int p3), .val (.int (256 : Int32)), .val (.int (2 : Int32)), .val (.ref b1), .val (.int (3 : Int32)), .val (.int (1 : Int32)), .val (.int (232 : Int32)), .val (.int (256 : Int32)), .unset] [(.int p3), (.int (3 : Int32)), (.int (2 : Int32)), (.int (1 : Int32)), (.ref b1)]))
      obtain ⟨_, _, ⟨T110, L110, k110, n110⟩, -, X110, ⟨Lc110, hQ110, l110, y110, z110⟩, st110⟩ := Jvm.LawKit.callS X108 hx (y := (⟨"com/example/quietzone/quietzone/datamatrix/AsciiEncodationWritePinLaw", "untouched", "([IIIII)Z"⟩ : MethodName)) hown (mvT hZ (hw _ (List.mem_of_getElem? (i := 6) rfl))) (mvT hZ (hw _ (List.mem_of_getElem? (i := 7) rfl))) (mvT hZ (hw _ (List.mem_of_getElem? (i := 8) rfl))) (mvT hZ (hw _ (List.mem_of_getElem? (i := 9) rfl))) (by decide) (backOf (W := 0) (rm2 l Z a0 hw [] b1 (1 : Int32) (2 : Int32) (3 : Int32) p3 k1 (6 : Int32) [(.int p3), (.int p3), (.int (232 : Int32)), (.int p3), (.int p3), (.int p3)] p3 T106.heap n0 Z106 Vx106 (by decide) (by decide) rfl) hZ (hw _ (List.mem_of_getElem? (i := 9) rfl)) (hw _ (List.mem_of_getElem? (i := 8) rfl)) (by decide) (by decide)) (g := (mkF m 221 #[.val (.int p1), .val (.int p2), .val (.int p3), .val (.int (256 : Int32)), .val (.int (2 : Int32)), .val (.ref b1), .val (.int (3 : Int32)), .val (.int (1 : Int32)), .val (.int (232 : Int32)), .val (.int (256 : Int32)), .unset] [(.int p3), (.int (3 : Int32)), (.int (2 : Int32)), (.int (1 : Int32)), (.ref b1)])) rfl (by rw [hml]; rfl) (argsL := [(.ref b1), (.int (1 : Int32)), (.int (2 : Int32)), (.int (3 : Int32)), (.int p3)]) (rest := []) (lenOf pd_0_1 rfl) rfl (by show 2 * 0 + _ ≤ _; exact Nat.le_of_eq rfl) (hb hby at_221) (fun _ _ => ⟨rfl, e108, (by decide : 1 + 0 ≤ _), (by decide : 6 + 0 ≤ _)⟩)
      dsimp only [Pt.U, Pt.locs, Pt.cells, Pt.slots] at X110 l110 y110 z110 st110 hQ110
      subst l110 y110 z110
      obtain ⟨rfl, N110q, e110⟩ := hQ110
      have N110 := Fr.app N108 N110q
      refine own_st st110 ?_
      show own_Fin _ _ _ _ _ _ _ (T110.setTop (mkF m 224 #[.val (.int p1), .val (.int p2), .val (.int p3), .val (.int (256 : Int32)), .val (.int (2 : Int32)), .val (.ref b1), .val (.int (3 : Int32)), .val (.int (1 : Int32)), .val (.int (232 : Int32)), .val (.int (256 : Int32)), .unset] [(.int (own_un (1 : Int32) (2 : Int32) (3 : Int32) p3 p3))]))
      have hd224_111 : ¬ ((own_un (1 : Int32) (2 : Int32) (3 : Int32) p3 p3) = (0 : Int32)) := by unfold own_un; simp
      refine own_st (fun t k => XS.ifNo X110.here hx rfl (hb hby at_224) rfl ((if0 _ _).trans (feq hd224_111).1) k) ?_
      show own_Fin _ _ _ _ _ _ _ (T110.setTop (mkF m 227 #[.val (.int p1), .val (.int p2), .val (.int p3), .val (.int (256 : Int32)), .val (.int (2 : Int32)), .val (.ref b1), .val (.int (3 : Int32)), .val (.int (1 : Int32)), .val (.int (232 : Int32)), .val (.int (256 : Int32)), .unset] []))
      refine own_st (fun t k => XS.aload X110.here hx rfl (hb hby at_227) rfl rfl k) ?_
      show own_Fin _ _ _ _ _ _ _ (T110.setTop (mkF m 229 #[.val (.int p1), .val (.int p2), .val (.int p3), .val (.int (256 : Int32)), .val (.int (2 : Int32)), .val (.ref b1), .val (.int (3 : Int32)), .val (.int (1 : Int32)), .val (.int (232 : Int32)), .val (.int (256 : Int32)), .unset] [(.ref b1)]))
      refine own_st (fun t k => XS.iconst X110.here hx rfl (hb hby at_229) k) ?_
      show own_Fin _ _ _ _ _ _ _ (T110.setTop (mkF m 230 #[.val (.int p1), .val (.int p2), .val (.int p3), .val (.int (256 : Int32)), .val (.int (2 : Int32)), .val (.ref b1), .val (.int (3 : Int32)), .val (.int (1 : Int32)), .val (.int (232 : Int32)), .val (.int (256 : Int32)), .unset] [(.int (2 : Int32)), (.ref b1)]))
      refine own_st (fun t k => XS.iload X110.here hx rfl (hb hby at_230) rfl k) ?_
      show own_Fin _ _ _ _ _ _ _ (T110.setTop (mkF m 232 #[.val (.int p1), .val (.int p2), .val (.int p3), .val (.int (256 : Int32)), .val (.int (2 : Int32)), .val (.ref b1), .val (.int (3 : Int32)), .val (.int (1 : Int32)), .val (.int (232 : Int32)), .val (.int (256 : Int32)), .unset] [(.int (2 : Int32)), (.int (2 : Int32)), (.ref b1)]))
      refine own_st (fun t k => XS.iload X110.here hx rfl (hb hby at_232) rfl k) ?_
      show own_Fin _ _ _ _ _ _ _ (T110.setTop (mkF m 234 #[.val (.int p1), .val (.int p2), .val (.int p3), .val (.int (256 : Int32)), .val (.int (2 : Int32)), .val (.ref b1), .val (.int (3 : Int32)), .val (.int (1 : Int32)), .val (.int (232 : Int32)), .val (.int (256 : Int32)), .unset] [(.int (3 : Int32)), (.int (2 : Int32)), (.int (2 : Int32)), (.ref b1)]))
      refine own_st (fun t k => XS.iloadN X110.here hx rfl (hb hby at_234) rfl k) ?_
      show own_Fin _ _ _ _ _ _ _ (T110.setTop (mkF m 235 #[.val (.int p1), .val (.int p2), .val (.int p3), .val (.int (256 : Int32)), .val (.int (2 : Int32)), .val (.ref b1), .val (.int (3 : Int32)), .val (.int (1 : Int32)), .val (.int (232 : Int32)), .val (.int (256 : Int32)), .unset] [(.int p3), (.int (3 : Int32)), (.int (2 : Int32)), (.int (2 : Int32)), (.ref b1)]))
      obtain ⟨_, _, ⟨T112, L112, k112, n112⟩, -, X112, ⟨Lc112, hQ112, l112, y112, z112⟩, st112⟩ := Jvm.LawKit.callS X110 hx (y := (⟨"com/example/quietzone/quietzone/datamatrix/AsciiEncodationWritePinLaw", "untouched", "([IIIII)Z"⟩ : MethodName)) hown (mvT hZ (hw _ (List.mem_of_getElem? (i := 6) rfl))) (mvT hZ (hw _ (List.mem_of_getElem? (i := 7) rfl))) (mvT hZ (hw _ (List.mem_of_getElem? (i := 8) rfl))) (mvT hZ (hw _ (List.mem_of_getElem? (i := 9) rfl))) (by decide) (backOf (W := 0) (rm2 l Z a0 hw [] b1 (2 : Int32) (2 : Int32) (3 : Int32) p3 k1 (6 : Int32) [(.int p3), (.int p3), (.int (232 : Int32)), (.int p3), (.int p3), (.int p3)] (232 : Int32) T106.heap n0 Z106 Vx106 (by decide) (by decide) rfl) hZ (hw _ (List.mem_of_getElem? (i := 9) rfl)) (hw _ (List.mem_of_getElem? (i := 8) rfl)) (by decide) (by decide)) (g := (mkF m 235 #[.val (.int p1), .val (.int p2), .val (.int p3), .val (.int (256 : Int32)), .val (.int (2 : Int32)), .val (.ref b1), .val (.int (3 : Int32)), .val (.int (1 : Int32)), .val (.int (232 : Int32)), .val (.int (256 : Int32)), .unset] [(.int p3), (.int (3 : Int32)), (.int (2 : Int32)), (.int (2 : Int32)), (.ref b1)])) rfl (by rw [hml]; rfl) (argsL := [(.ref b1), (.int (2 : Int32)), (.int (2 : Int32)), (.int (3 : Int32)), (.int p3)]) (rest := []) (lenOf pd_0_1 rfl) rfl (by show 2 * 0 + _ ≤ _; exact Nat.le_of_eq rfl) (hb hby at_235) (fun _ _ => ⟨rfl, e110, (by decide : 1 + 0 ≤ _), (by decide : 6 + 0 ≤ _)⟩)
      dsimp only [Pt.U, Pt.locs, Pt.cells, Pt.slots] at X112 l112 y112 z112 st112 hQ112
      subst l112 y112 z112
      obtain ⟨rfl, N112q, e112⟩ := hQ112
      have N112 := Fr.app N110 N112q
      refine own_st st112 ?_
      show own_Fin _ _ _ _ _ _ _ (T112.setTop (mkF m 238 #[.val (.int p1), .val (.int p2), .val (.int p3), .val (.int (256 : Int32)), .val (.int (2 : Int32)), .val (.ref b1), .val (.int (3 : Int32)), .val (.int (1 : Int32)), .val (.int (232 : Int32)), .val (.int (256 : Int32)), .unset] [(.int (own_un (2 : Int32) (2 : Int32) (3 : Int32) p3 (232 : Int32)))]))
      have hd238_113 : ¬ ((own_un (2 : Int32) (2 : Int32) (3 : Int32) p3 (232 : Int32)) = (0 : Int32)) := by unfold own_un; simp
      refine own_st (fun t k => XS.ifNo X112.here hx rfl (hb hby at_238) rfl ((if0 _ _).trans (feq hd238_113).1) k) ?_
      show own_Fin _ _ _ _ _ _ _ (T112.setTop (mkF m 241 #[.val (.int p1), .val (.int p2), .val (.int p3), .val (.int (256 : Int32)), .val (.int (2 : Int32)), .val (.ref b1), .val (.int (3 : Int32)), .val (.int (1 : Int32)), .val (.int (232 : Int32)), .val (.int (256 : Int32)), .unset] []))
      refine own_st (fun t k => XS.aload X112.here hx rfl (hb hby at_241) rfl rfl k) ?_
      show own_Fin _ _ _ _ _ _ _ (T112.setTop (mkF m 243 #[.val (.int p1), .val (.int p2), .val (.int p3), .val (.int (256 : Int32)), .val (.int (2 : Int32)), .val (.ref b1), .val (.int (3 : Int32)), .val (.int (1 : Int32)), .val (.int (232 : Int32)), .val (.int (256 : Int32)), .unset] [(.ref b1)]))
      refine own_st (fun t k => XS.iconst X112.here hx rfl (hb hby at_243) k) ?_
      show own_Fin _ _ _ _ _ _ _ (T112.setTop (mkF m 244 #[.val (.int p1), .val (.int p2), .val (.int p3), .val (.int (256 : Int32)), .val (.int (2 : Int32)), .val (.ref b1), .val (.int (3 : Int32)), .val (.int (1 : Int32)), .val (.int (232 : Int32)), .val (.int (256 : Int32)), .unset] [(.int (3 : Int32)), (.ref b1)]))
      refine own_st (fun t k => XS.iload X112.here hx rfl (hb hby at_244) rfl k) ?_
      show own_Fin _ _ _ _ _ _ _ (T112.setTop (mkF m 246 #[.val (.int p1), .val (.int p2), .val (.int p3), .val (.int (256 : Int32)), .val (.int (2 : Int32)), .val (.ref b1), .val (.int (3 : Int32)), .val (.int (1 : Int32)), .val (.int (232 : Int32)), .val (.int (256 : Int32)), .unset] [(.int (2 : Int32)), (.int (3 : Int32)), (.ref b1)]))
      refine own_st (fun t k => XS.iload X112.here hx rfl (hb hby at_246) rfl k) ?_
      show own_Fin _ _ _ _ _ _ _ (T112.setTop (mkF m 248 #[.val (.int p1), .val (.int p2), .val (.int p3), .val (.int (256 : Int32)), .val (.int (2 : Int32)), .val (.ref b1), .val (.int (3 : Int32)), .val (.int (1 : Int32)), .val (.int (232 : Int32)), .val (.int (256 : Int32)), .unset] [(.int (3 : Int32)), (.int (2 : Int32)), (.int (3 : Int32)), (.ref b1)]))
      refine own_st (fun t k => XS.iloadN X112.here hx rfl (hb hby at_248) rfl k) ?_
      show own_Fin _ _ _ _ _ _ _ (T112.setTop (mkF m 249 #[.val (.int p1), .val (.int p2), .val (.int p3), .val (.int (256 : Int32)), .val (.int (2 : Int32)), .val (.ref b1), .val (.int (3 : Int32)), .val (.int (1 : Int32)), .val (.int (232 : Int32)), .val (.int (256 : Int32)), .unset] [(.int p3), (.int (3 : Int32)), (.int (2 : Int32)), (.int (3 : Int32)), (.ref b1)]))
      obtain ⟨_, _, ⟨T114, L114, k114, n114⟩, -, X114, ⟨Lc114, hQ114, l114, y114, z114⟩, st114⟩ := Jvm.LawKit.callS X112 hx (y := (⟨"com/example/quietzone/quietzone/datamatrix/AsciiEncodationWritePinLaw", "untouched", "([IIIII)Z"⟩ : MethodName)) hown (mvT hZ (hw _ (List.mem_of_getElem? (i := 6) rfl))) (mvT hZ (hw _ (List.mem_of_getElem? (i := 7) rfl))) (mvT hZ (hw _ (List.mem_of_getElem? (i := 8) rfl))) (mvT hZ (hw _ (List.mem_of_getElem? (i := 9) rfl))) (by decide) (backOf (W := 0) (rm2 l Z a0 hw [] b1 (3 : Int32) (2 : Int32) (3 : Int32) p3 k1 (6 : Int32) [(.int p3), (.int p3), (.int (232 : Int32)), (.int p3), (.int p3), (.int p3)] p3 T106.heap n0 Z106 Vx106 (by decide) (by decide) rfl) hZ (hw _ (List.mem_of_getElem? (i := 9) rfl)) (hw _ (List.mem_of_getElem? (i := 8) rfl)) (by decide) (by decide)) (g := (mkF m 249 #[.val (.int p1), .val (.int p2), .val (.int p3), .val (.int (256 : Int32)), .val (.int (2 : Int32)), .val (.ref b1), .val (.int (3 : Int32)), .val (.int (1 : Int32)), .val (.int (232 : Int32)), .val (.int (256 : Int32)), .unset] [(.int p3), (.int (3 : Int32)), (.int (2 : Int32)), (.int (3 : Int32)), (.ref b1)])) rfl (by rw [hml]; rfl) (argsL := [(.ref b1), (.int (3 : Int32)), (.int (2 : Int32)), (.int (3 : Int32)), (.int p3)]) (rest := []) (lenOf pd_0_1 rfl) rfl (by show 2 * 0 + _ ≤ _; exact Nat.le_of_eq rfl) (hb hby at_249) (fun _ _ => ⟨rfl, e112, (by decide : 1 + 0 ≤ _), (by decide : 6 + 0 ≤ _)⟩)
      dsimp only [Pt.U, Pt.locs, Pt.cells, Pt.slots] at X114 l114 y114 z114 st114 hQ114
      subst l114 y114 z114
      obtain ⟨rfl, N114q, e114⟩ := hQ114
      have N114 := Fr.app N112 N114q
      refine own_st st114 ?_
      show own_Fin _ _ _ _ _ _ _ (T114.setTop (mkF m 252 #[.val (.int p1), .val (.int p2), .val (.int p3), .val (.int (256 : Int32)), .val (.int (2 : Int32)), .val (.ref b1), .val (.int (3 : Int32)), .val (.int (1 : Int32)), .val (.int (232 : Int32)), .val (.int (256 : Int32)), .unset] [(.int (own_un (3 : Int32) (2 : Int32) (3 : Int32) p3 p3))]))
      have hd252_115 : ¬ ((own_un (3 : Int32) (2 : Int32) (3 : Int32) p3 p3) = (0 : Int32)) := by unfold own_un; simp
      refine own_st (fun t k => XS.ifNo X114.here hx rfl (hb hby at_252) rfl ((if0 _ _).trans (feq hd252_115).1) k) ?_
      show own_Fin _ _ _ _ _ _ _ (T114.setTop (mkF m 255 #[.val (.int p1), .val (.int p2), .val (.int p3), .val (.int (256 : Int32)), .val (.int (2 : Int32)), .val (.ref b1), .val (.int (3 : Int32)), .val (.int (1 : Int32)), .val (.int (232 : Int32)), .val (.int (256 : Int32)), .unset] []))
      refine own_st (fun t k => XS.aload X114.here hx rfl (hb hby at_255) rfl rfl k) ?_
      show own_Fin _ _ _ _ _ _ _ (T114.setTop (mkF m 257 #[.val (.int p1), .val (.int p2), .val (.int p3), .val (.int (256 : Int32)), .val (.int (2 : Int32)), .val (.ref b1), .val (.int (3 : Int32)), .val (.int (1 : Int32)), .val (.int (232 : Int32)), .val (.int (256 : Int32)), .unset] [(.ref b1)]))
      refine own_st (fun t k => XS.iconst X114.here hx rfl (hb hby at_257) k) ?_
      show own_Fin _ _ _ _ _ _ _ (T114.setTop (mkF m 258 #[.val (.int p1), .val (.int p2), .val (.int p3), .val (.int (256 : Int32)), .val (.int (2 : Int32)), .val (.ref b1), .val (.int (3 : Int32)), .val (.int (1 : Int32)), .val (.int (232 : Int32)), .val (.int (256 : Int32)), .unset] [(.int (4 : Int32)), (.ref b1)]))
      refine own_st (fun t k => XS.iload X114.here hx rfl (hb hby at_258) rfl k) ?_
      show own_Fin _ _ _ _ _ _ _ (T114.setTop (mkF m 260 #[.val (.int p1), .val (.int p2), .val (.int p3), .val (.int (256 : Int32)), .val (.int (2 : Int32)), .val (.ref b1), .val (.int (3 : Int32)), .val (.int (1 : Int32)), .val (.int (232 : Int32)), .val (.int (256 : Int32)), .unset] [(.int (2 : Int32)), (.int (4 : Int32)), (.ref b1)]))
      refine own_st (fun t k => XS.iload X114.here hx rfl (hb hby at_260) rfl k) ?_
      show own_Fin _ _ _ _ _ _ _ (T114.setTop (mkF m 262 #[.val (.int p1), .val (.int p2), .val (.int p3), .val (.int (256 : Int32)), .val (.int (2 : Int32)), .val (.ref b1), .val (.int (3 : Int32)), .val (.int (1 : Int32)), .val (.int (232 : Int32)), .val (.int (256 : Int32)), .unset] [(.int (3 : Int32)), (.int (2 : Int32)), (.int (4 : Int32)), (.ref b1)]))
      refine own_st (fun t k => XS.iloadN X114.here hx rfl (hb hby at_262) rfl k) ?_
      show own_Fin _ _ _ _ _ _ _ (T114.setTop (mkF m 263 #[.val (.int p1), .val (.int p2), .val (.int p3), .val (.int (256 : Int32)), .val (.int (2 : Int32)), .val (.ref b1), .val (.int (3 : Int32)), .val (.int (1 : Int32)), .val (.int (232 : Int32)), .val (.int (256 : Int32)), .unset] [(.int p3), (.int (3 : Int32)), (.int (2 : Int32)), (.int (4 : Int32)), (.ref b1)]))
      obtain ⟨_, _, ⟨T116, L116, k116, n116⟩, -, X116, ⟨Lc116, hQ116, l116, y116, z116⟩, st116⟩ := Jvm.LawKit.callS X114 hx (y := (⟨"com/example/quietzone/quietzone/datamatrix/AsciiEncodationWritePinLaw", "untouched", "([IIIII)Z"⟩ : MethodName)) hown (mvT hZ (hw _ (List.mem_of_getElem? (i := 6) rfl))) (mvT hZ (hw _ (List.mem_of_getElem? (i := 7) rfl))) (mvT hZ (hw _ (List.mem_of_getElem? (i := 8) rfl))) (mvT hZ (hw _ (List.mem_of_getElem? (i := 9) rfl))) (by decide) (backOf (W := 0) (rm2 l Z a0 hw [] b1 (4 : Int32) (2 : Int32) (3 : Int32) p3 k1 (6 : Int32) [(.int p3), (.int p3), (.int (232 : Int32)), (.int p3), (.int p3), (.int p3)] p3 T106.heap n0 Z106 Vx106 (by decide) (by decide) rfl) hZ (hw _ (List.mem_of_getElem? (i := 9) rfl)) (hw _ (List.mem_of_getElem? (i := 8) rfl)) (by decide) (by decide)) (g := (mkF m 263 #[.val (.int p1), .val (.int p2), .val (.int p3), .val (.int (256 : Int32)), .val (.int (2 : Int32)), .val (.ref b1), .val (.int (3 : Int32)), .val (.int (1 : Int32)), .val (.int (232 : Int32)), .val (.int (256 : Int32)), .unset] [(.int p3), (.int (3 : Int32)), (.int (2 : Int32)), (.int (4 : Int32)), (.ref b1)])) rfl (by rw [hml]; rfl) (argsL := [(.ref b1), (.int (4 : Int32)), (.int (2 : Int32)), (.int (3 : Int32)), (.int p3)]) (rest := []) (lenOf pd_0_1 rfl) rfl (by show 2 * 0 + _ ≤ _; exact Nat.le_of_eq rfl) (hb hby at_263) (fun _ _ => ⟨rfl, e114, (by decide : 1 + 0 ≤ _), (by decide : 6 + 0 ≤ _)⟩)
      dsimp only [Pt.U, Pt.locs, Pt.cells, Pt.slots] at X116 l116 y116 z116 st116 hQ116
      subst l116 y116 z116
      obtain ⟨rfl, N116q, e116⟩ := hQ116
      have N116 := Fr.app N114 N116q
      refine own_st st116 ?_
      show own_Fin _ _ _ _ _ _ _ (T116.setTop (mkF m 266 #[.val (.int p1), .val (.int p2), .val (.int p3), .val (.int (256 : Int32)), .val (.int (2 : Int32)), .val (.ref b1), .val (.int (3 : Int32)), .val (.int (1 : Int32)), .val (.int (232 : Int32)), .val (.int (256 : Int32)), .unset] [(.int (own_un (4 : Int32) (2 : Int32) (3 : Int32) p3 p3))]))
      have hd266_117 : ¬ ((own_un (4 : Int32) (2 : Int32) (3 : Int32) p3 p3) = (0 : Int32)) := by unfold own_un; simp
      refine own_st (fun t k => XS.ifNo X116.here hx rfl (hb hby at_266) rfl ((if0 _ _).trans (feq hd266_117).1) k) ?_
      show own_Fin _ _ _ _ _ _ _ (T116.setTop (mkF m 269 #[.val (.int p1), .val (.int p2), .val (.int p3), .val (.int (256 : Int32)), .val (.int (2 : Int32)), .val (.ref b1), .val (.int (3 : Int32)), .val (.int (1 : Int32)), .val (.int (232 : Int32)), .val (.int (256 : Int32)), .unset] []))
      refine own_st (fun t k => XS.aload X116.here hx rfl (hb hby at_269) rfl rfl k) ?_
      show own_Fin _ _ _ _ _ _ _ (T116.setTop (mkF m 271 #[.val (.int p1), .val (.int p2), .val (.int p3), .val (.int (256 : Int32)), .val (.int (2 : Int32)), .val (.ref b1), .val (.int (3 : Int32)), .val (.int (1 : Int32)), .val (.int (232 : Int32)), .val (.int (256 : Int32)), .unset] [(.ref b1)]))
      refine own_st (fun t k => XS.iconst X116.here hx rfl (hb hby at_271) k) ?_
      show own_Fin _ _ _ _ _ _ _ (T116.setTop (mkF m 272 #[.val (.int p1), .val (.int p2), .val (.int p3), .val (.int (256 : Int32)), .val (.int (2 : Int32)), .val (.ref b1), .val (.int (3 : Int32)), .val (.int (1 : Int32)), .val (.int (232 : Int32)), .val (.int (256 : Int32)), .unset] [(.int (5 : Int32)), (.ref b1)]))
      refine own_st (fun t k => XS.iload X116.here hx rfl (hb hby at_272) rfl k) ?_
      show own_Fin _ _ _ _ _ _ _ (T116.setTop (mkF m 274 #[.val (.int p1), .val (.int p2), .val (.int p3), .val (.int (256 : Int32)), .val (.int (2 : Int32)), .val (.ref b1), .val (.int (3 : Int32)), .val (.int (1 : Int32)), .val (.int (232 : Int32)), .val (.int (256 : Int32)), .unset] [(.int (2 : Int32)), (.int (5 : Int32)), (.ref b1)]))
      refine own_st (fun t k => XS.iload X116.here hx rfl (hb hby at_274) rfl k) ?_
      show own_Fin _ _ _ _ _ _ _ (T116.setTop (mkF m 276 #[.val (.int p1), .val (.int p2), .val (.int p3), .val (.int (256 : Int32)), .val (.int (2 : Int32)), .val (.ref b1), .val (.int (3 : Int32)), .val (.int (1 : Int32)), .val (.int (232 : Int32)), .val (.int (256 : Int32)), .unset] [(.int (3 : Int32)), (.int (2 : Int32)), (.int (5 : Int32)), (.ref b1)]))
      refine own_st (fun t k => XS.iloadN X116.here hx rfl (hb hby at_276) rfl k) ?_
      show own_Fin _ _ _ _ _ _ _ (T116.setTop (mkF m 277 #[.val (.int p1), .val (.int p2), .val (.int p3), .val (.int (256 : Int32)), .val (.int (2 : Int32)), .val (.ref b1), .val (.int (3 : Int32)), .val (.int (1 : Int32)), .val (.int (232 : Int32)), .val (.int (256 : Int32)), .unset] [(.int p3), (.int (3 : Int32)), (.int (2 : Int32)), (.int (5 : Int32)), (.ref b1)]))
      obtain ⟨_, _, ⟨T118, L118, k118, n118⟩, -, X118, ⟨Lc118, hQ118, l118, y118, z118⟩, st118⟩ := Jvm.LawKit.callS X116 hx (y := (⟨"com/example/quietzone/quietzone/datamatrix/AsciiEncodationWritePinLaw", "untouched", "([IIIII)Z"⟩ : MethodName)) hown (mvT hZ (hw _ (List.mem_of_getElem? (i := 6) rfl))) (mvT hZ (hw _ (List.mem_of_getElem? (i := 7) rfl))) (mvT hZ (hw _ (List.mem_of_getElem? (i := 8) rfl))) (mvT hZ (hw _ (List.mem_of_getElem? (i := 9) rfl))) (by decide) (backOf (W := 0) (rm2 l Z a0 hw [] b1 (5 : Int32) (2 : Int32) (3 : Int32) p3 k1 (6 : Int32) [(.int p3), (.int p3), (.int (232 : Int32)), (.int p3), (.int p3), (.int p3)] p3 T106.heap n0 Z106 Vx106 (by decide) (by decide) rfl) hZ (hw _ (List.mem_of_getElem? (i := 9) rfl)) (hw _ (List.mem_of_getElem? (i := 8) rfl)) (by decide) (by decide)) (g := (mkF m 277 #[.val (.int p1), .val (.int p2), .val (.int p3), .val (.int (256 : Int32)), .val (.int (2 : Int32)), .val (.ref b1), .val (.int (3 : Int32)), .val (.int (1 : Int32)), .val (.int (232 : Int32)), .val (.int (256 : Int32)), .unset] [(.int p3), (.int (3 : Int32)), (.int (2 : Int32)), (.int (5 : Int32)), (.ref b1)])) rfl (by rw [hml]; rfl) (argsL := [(.ref b1), (.int (5 : Int32)), (.int (2 : Int32)), (.int (3 : Int32)), (.int p3)]) (rest := []) (lenOf pd_0_1 rfl) rfl (by show 2 * 0 + _ ≤ _; exact Nat.le_of_eq rfl) (hb hby at_277) (fun _ _ => ⟨rfl, e116, (by decide : 1 + 0 ≤ _), (by decide : 6 + 0 ≤ _)⟩)
      dsimp only [Pt.U, Pt.locs, Pt.cells, Pt.slots] at X118 l118 y118 z118 st118 hQ118
      subst l118 y118 z118
      obtain ⟨rfl, N118q, e118⟩ := hQ118
      have N118 := Fr.app N116 N118q
      refine own_st st118 ?_
      show own_Fin _ _ _ _ _ _ _ (T118.setTop (mkF m 280 #[.val (.int p1), .val (.int p2), .val (.int p3), .val (.int (256 : Int32)), .val (.int (2 : Int32)), .val (.ref b1), .val (.int (3 : Int32)), .val (.int (1 : Int32)), .val (.int (232 : Int32)), .val (.int (256 : Int32)), .unset] [(.int (own_un (5 : Int32) (2 : Int32) (3 : Int32) p3 p3))]))
      have hd280_119 : ¬ ((own_un (5 : Int32) (2 : Int32) (3 : Int32) p3 p3) = (0 : Int32)) := by unfold own_un; simp
      refine own_st (fun t k => XS.ifNo X118.here hx rfl (hb hby at_280) rfl ((if0 _ _).trans (feq hd280_119).1) k) ?_
      show own_Fin _ _ _ _ _ _ _ (T118.setTop (mkF m 283 #[.val (.int p1), .val (.int p2), .val (.int p3), .val (.int (256 : Int32)), .val (.int (2 : Int32)), .val (.ref b1), .val (.int (3 : Int32)), .val (.int (1 : Int32)), .val (.int (232 : Int32)), .val (.int (256 : Int32)), .unset] []))
      refine own_st (fun t k => XS.iconst X118.here hx rfl (hb hby at_283) k) ?_
      show own_Fin _ _ _ _ _ _ _ (T118.setTop (mkF m 284 #[.val (.int p1), .val (.int p2), .val (.int p3), .val (.int (256 : Int32)), .val (.int (2 : Int32)), .val (.ref b1), .val (.int (3 : Int32)), .val (.int (1 : Int32)), .val (.int (232 : Int32)), .val (.int (256 : Int32)), .unset] [(.int (1 : Int32))]))
      refine own_st (fun t k => XS.goto X118.here hx rfl (pc0 := 284) (pc' := 288) rfl (hb hby at_284) (by decide) (by decide) k) ?_
      show own_Fin _ _ _ _ _ _ _ (T118.setTop (mkF m 288 #[.val (.int p1), .val (.int p2), .val (.int p3), .val (.int (256 : Int32)), .val (.int (2 : Int32)), .val (.ref b1), .val (.int (3 : Int32)), .val (.int (1 : Int32)), .val (.int (232 : Int32)), .val (.int (256 : Int32)), .unset] [(.int (1 : Int32))]))
      exact own_retN X118 hx Bd.notSynchronized (t := .boolean) Bd.returns (by simp) (hb hby at_288) (by decide) (by decide) ⟨rfl, N118, trivial⟩
    · by_cases hB : (127 : Int32) < ch
      · show own_Fin _ _ _ _ _ _ _ (T7.setTop (mkF m 44 #[.val (.int p1), .val (.int p2), .val (.int p3), .val (.int ch), .val (.int (2 : Int32)), .val (.ref b1), .unset, .unset, .unset, .unset, .unset] []))
        refine own_st (fun t k => XS.iloadN X7.here hx rfl (hb hby at_44) rfl k) ?_
        show own_Fin _ _ _ _ _ _ _ (T7.setTop (mkF m 45 #[.val (.int p1), .val (.int p2), .val (.int p3), .val (.int ch), .val (.int (2 : Int32)), .val (.ref b1), .unset, .unset, .unset, .unset, .unset] [(.int ch)]))
        refine own_st (fun t k => XS.aload X7.here hx rfl (hb hby at_45) rfl rfl k) ?_
        show own_Fin _ _ _ _ _ _ _ (T7.setTop (mkF m 47 #[.val (.int p1), .val (.int p2), .val (.int p3), .val (.int ch), .val (.int (2 : Int32)), .val (.ref b1), .unset, .unset, .unset, .unset, .unset] [(.ref b1), (.int ch)]))
        refine own_st (fun t k => XS.iload X7.here hx rfl (hb hby at_47) rfl k) ?_
        show own_Fin _ _ _ _ _ _ _ (T7.setTop (mkF m 49 #[.val (.int p1), .val (.int p2), .val (.int p3), .val (.int ch), .val (.int (2 : Int32)), .val (.ref b1), .unset, .unset, .unset, .unset, .unset] [(.int (2 : Int32)), (.ref b1), (.int ch)]))
        obtain ⟨_, _, ⟨T120, L120, k120, n120⟩, -, X120, ⟨Lc120, hQ120, l120, y120, z120⟩, st120⟩ := Jvm.LawKit.callS X7 hx (y := (⟨"com/example/quietzone/quietzone/datamatrix/AsciiEncodation", "write", "(I[II)I"⟩ : MethodName)) hown (mvT hZ (hw _ (List.mem_of_getElem? (i := 2) rfl))) (mvT hZ (hw _ (List.mem_of_getElem? (i := 3) rfl))) (mvT hZ (hw _ (List.mem_of_getElem? (i := 4) rfl))) (mvT hZ (hw _ (List.mem_of_getElem? (i := 5) rfl))) (by decide) (backOf (W := 0) (rm1 l Z a0 hw [] ch b1 (2 : Int32) k1 (6 : Int32) [(.int p3), (.int p3), (.int p3), (.int p3), (.int p3), (.int p3)] h7 n0 Z7 V7 ge_b1 (by decide) (by decide) (by decide) (by decide) (Nat.le_of_ble_eq_true rfl) (Nat.le_of_ble_eq_true rfl)) hZ (hw _ (List.mem_of_getElem? (i := 5) rfl)) (hw _ (List.mem_of_getElem? (i := 4) rfl)) (by decide) (by decide)) (g := (mkF m 49 #[.val (.int p1), .val (.int p2), .val (.int p3), .val (.int ch), .val (.int (2 : Int32)), .val (.ref b1), .unset, .unset, .unset, .unset, .unset] [(.int (2 : Int32)), (.ref b1), (.int ch)])) rfl (by rw [hml]; rfl) (argsL := [(.int ch), (.ref b1), (.int (2 : Int32))]) (rest := []) (lenOf pd_0_0 rfl) rfl (by show 2 * 0 + _ ≤ _; exact Nat.le_of_eq rfl) (hb hby at_49) (fun _ _ => ⟨rfl, e7, (by decide : 1 + 0 ≤ _), (by decide : 6 + 0 ≤ _)⟩)
        dsimp only [Pt.U, Pt.locs, Pt.cells, Pt.slots] at X120 l120 y120 z120 st120 hQ120
        subst l120 y120 z120
        obtain ⟨rfl, N120q, K120, o120⟩ := hQ120
        have N120 := Fr.app N7 N120q
        have Z120 : n0 ≤ T120.heap.size := Nat.le_trans Z7 K120.1
        refine own_st st120 ?_
        show own_Fin _ _ _ _ _ _ _ (T120.setTop (mkF m 52 #[.val (.int p1), .val (.int p2), .val (.int p3), .val (.int ch), .val (.int (2 : Int32)), .val (.ref b1), .unset, .unset, .unset, .unset, .unset] [(.int (own_wr ch (2 : Int32)))]))
        have Vx120 : Arv Z T120.heap b1 k1 .int (6 : Int32) [(.int p3), (.int p3), (.int (235 : Int32)), (.int (ch - (127 : Int32))), (.int p3), (.int p3)] (.int (0 : Int32)) := by have q := o120; unfold own_wv at q; rw [if_neg hA, if_pos hB] at q; exact q
        have rx120 : (own_wr ch (2 : Int32)) = (4 : Int32) := by unfold own_wr; rw [if_neg hA, if_pos hB]; rfl
        rw [rx120]
        show own_Fin _ _ _ _ _ _ _ (T120.setTop (mkF m 52 #[.val (.int p1), .val (.int p2), .val (.int p3), .val (.int ch), .val (.int (2 : Int32)), .val (.ref b1), .unset, .unset, .unset, .unset, .unset] [(.int (4 : Int32))]))
        refine own_st (fun t k => XS.istore X120.here hx rfl (hb hby at_52) rfl (l' := #[.val (.int p1), .val (.int p2), .val (.int p3), .val (.int ch), .val (.int (2 : Int32)), .val (.ref b1), .val (.int (4 : Int32)), .unset, .unset, .unset, .unset]) rfl k) ?_
        show own_Fin _ _ _ _ _ _ _ (T120.setTop (mkF m 54 #[.val (.int p1), .val (.int p2), .val (.int p3), .val (.int ch), .val (.int (2 : Int32)), .val (.ref b1), .val (.int (4 : Int32)), .unset, .unset, .unset, .unset] []))
        refine own_st (fun t k => XS.iload X120.here hx rfl (hb hby at_54) rfl k) ?_
        show own_Fin _ _ _ _ _ _ _ (T120.setTop (mkF m 56 #[.val (.int p1), .val (.int p2), .val (.int p3), .val (.int ch), .val (.int (2 : Int32)), .val (.ref b1), .val (.int (4 : Int32)), .unset, .unset, .unset, .unset] [(.int (4 : Int32))]))
        refine own_st (fun t k => XS.iload X120.here hx rfl (hb hby at_56) rfl k) ?_
        show own_Fin _ _ _ _ _ _ _ (T120.setTop (mkF m 58 #[.val (.int p1), .val (.int p2), .val (.int p3), .val (.int ch), .val (.int (2 : Int32)), .val (.ref b1), .val (.int (4 : Int32)), .unset, .unset, .unset, .unset] [(.int (2 : Int32)), (.int (4 : Int32))]))
        refine own_st (fun t k => XS.isub X120.here hx rfl (hb hby at_58) rfl k) ?_
        show own_Fin _ _ _ _ _ _ _ (T120.setTop (mkF m 59 #[.val (.int p1), .val (.int p2), .val (.int p3), .val (.int ch), .val (.int (2 : Int32)), .val (.ref b1), .val (.int (4 : Int32)), .unset, .unset, .unset, .unset] [(.int (2 : Int32))]))
        refine own_st (fun t k => XS.istore X120.here hx rfl (hb hby at_59) rfl (l' := #[.val (.int p1), .val (.int p2), .val (.int p3), .val (.int ch), .val (.int (2 : Int32)), .val (.ref b1), .val (.int (4 : Int32)), .val (.int (2 : Int32)), .unset, .unset, .unset]) rfl k) ?_
        show own_Fin _ _ _ _ _ _ _ (T120.setTop (mkF m 61 #[.val (.int p1), .val (.int p2), .val (.int p3), .val (.int ch), .val (.int (2 : Int32)), .val (.ref b1), .val (.int (4 : Int32)), .val (.int (2 : Int32)), .unset, .unset, .unset] []))
        refine own_st (fun t k => XS.iload X120.here hx rfl (hb hby at_61) rfl k) ?_
        show own_Fin _ _ _ _ _ _ _ (T120.setTop (mkF m 63 #[.val (.int p1), .val (.int p2), .val (.int p3), .val (.int ch), .val (.int (2 : Int32)), .val (.ref b1), .val (.int (4 : Int32)), .val (.int (2 : Int32)), .unset, .unset, .unset] [(.int (2 : Int32))]))
        refine own_st (fun t k => XS.iconst X120.here hx rfl (hb hby at_63) k) ?_
        show own_Fin _ _ _ _ _ _ _ (T120.setTop (mkF m 64 #[.val (.int p1), .val (.int p2), .val (.int p3), .val (.int ch), .val (.int (2 : Int32)), .val (.ref b1), .val (.int (4 : Int32)), .val (.int (2 : Int32)), .unset, .unset, .unset] [(.int (1 : Int32)), (.int (2 : Int32))]))
        refine own_st (fun t k => XS.icmpNo X120.here hx rfl (hb hby at_64) rfl (flt (by decide : ¬ ((2 : Int32) < (1 : Int32)))).1 k) ?_
        show own_Fin _ _ _ _ _ _ _ (T120.setTop (mkF m 67 #[.val (.int p1), .val (.int p2), .val (.int p3), .val (.int ch), .val (.int (2 : Int32)), .val (.ref b1), .val (.int (4 : Int32)), .val (.int (2 : Int32)), .unset, .unset, .unset] []))
        refine own_st (fun t k => XS.iload X120.here hx rfl (hb hby at_67) rfl k) ?_
        show own_Fin _ _ _ _ _ _ _ (T120.setTop (mkF m 69 #[.val (.int p1), .val (.int p2), .val (.int p3), .val (.int ch), .val (.int (2 : Int32)), .val (.ref b1), .val (.int (4 : Int32)), .val (.int (2 : Int32)), .unset, .unset, .unset] [(.int (2 : Int32))]))
        refine own_st (fun t k => XS.iconst X120.here hx rfl (hb hby at_69) k) ?_
        show own_Fin _ _ _ _ _ _ _ (T120.setTop (mkF m 70 #[.val (.int p1), .val (.int p2), .val (.int p3), .val (.int ch), .val (.int (2 : Int32)), .val (.ref b1), .val (.int (4 : Int32)), .val (.int (2 : Int32)), .unset, .unset, .unset] [(.int (2 : Int32)), (.int (2 : Int32))]))
        refine own_st (fun t k => XS.icmpYes X120.here hx rfl (pc0 := 70) (pc' := 75) rfl (hb hby at_70) rfl (flt (by decide : ¬ ((2 : Int32) < (2 : Int32)))).2.2.2 (by decide) (by decide) k) ?_
        show own_Fin _ _ _ _ _ _ _ (T120.setTop (mkF m 75 #[.val (.int p1), .val (.int p2), .val (.int p3), .val (.int ch), .val (.int (2 : Int32)), .val (.ref b1), .val (.int (4 : Int32)), .val (.int (2 : Int32)), .unset, .unset, .unset] []))
        refine own_st (fun t k => XS.aload X120.here hx rfl (hb hby at_75) rfl rfl k) ?_
        show own_Fin _ _ _ _ _ _ _ (T120.setTop (mkF m 77 #[.val (.int p1), .val (.int p2), .val (.int p3), .val (.int ch), .val (.int (2 : Int32)), .val (.ref b1), .val (.int (4 : Int32)), .val (.int (2 : Int32)), .unset, .unset, .unset] [(.ref b1)]))
        refine own_st (fun t k => XS.iload X120.here hx rfl (hb hby at_77) rfl k) ?_
        show own_Fin _ _ _ _ _ _ _ (T120.setTop (mkF m 79 #[.val (.int p1), .val (.int p2), .val (.int p3), .val (.int ch), .val (.int (2 : Int32)), .val (.ref b1), .val (.int (4 : Int32)), .val (.int (2 : Int32)), .unset, .unset, .unset] [(.int (2 : Int32)), (.ref b1)]))
        obtain ⟨cl121, Ar121, Cq121, Sz121, Mn121, Hs121, Gf121⟩ := id Vx120
        have hin121 := inb_of Sz121 (j := (2 : Int32)) ⟨by decide, by decide⟩
        refine own_st (X120.iaload hx (j := (2 : Int32)) (v := (.int (235 : Int32))) Ar121.1 (State.isArrayOf_alike hZ.alike Ar121.2.1) Ar121.2.2 hin121 (Hs121.at hin121 rfl) (g := (mkF m 79 #[.val (.int p1), .val (.int p2), .val (.int p3), .val (.int ch), .val (.int (2 : Int32)), .val (.ref b1), .val (.int (4 : Int32)), .val (.int (2 : Int32)), .unset, .unset, .unset] [(.int (2 : Int32)), (.ref b1)])) rfl rfl (hb hby at_79)) ?_
        show own_Fin _ _ _ _ _ _ _ (T120.setTop (mkF m 80 #[.val (.int p1), .val (.int p2), .val (.int p3), .val (.int ch), .val (.int (2 : Int32)), .val (.ref b1), .val (.int (4 : Int32)), .val (.int (2 : Int32)), .unset, .unset, .unset] [(.int (235 : Int32))]))
        refine own_st (fun t k => XS.istore X120.here hx rfl (hb hby at_80) rfl (l' := #[.val (.int p1), .val (.int p2), .val (.int p3), .val (.int ch), .val (.int (2 : Int32)), .val (.ref b1), .val (.int (4 : Int32)), .val (.int (2 : Int32)), .val (.int (235 : Int32)), .unset, .unset]) rfl k) ?_
        show own_Fin _ _ _ _ _ _ _ (T120.setTop (mkF m 82 #[.val (.int p1), .val (.int p2), .val (.int p3), .val (.int ch), .val (.int (2 : Int32)), .val (.ref b1), .val (.int (4 : Int32)), .val (.int (2 : Int32)), .val (.int (235 : Int32)), .unset, .unset] []))
        refine own_st (fun t k => XS.iload X120.here hx rfl (hb hby at_82) rfl k) ?_
        show own_Fin _ _ _ _ _ _ _ (T120.setTop (mkF m 84 #[.val (.int p1), .val (.int p2), .val (.int p3), .val (.int ch), .val (.int (2 : Int32)), .val (.ref b1), .val (.int (4 : Int32)), .val (.int (2 : Int32)), .val (.int (235 : Int32)), .unset, .unset] [(.int (235 : Int32))]))
        refine own_st (fun t k => XS.iconst X120.here hx rfl (hb hby at_84) k) ?_
        show own_Fin _ _ _ _ _ _ _ (T120.setTop (mkF m 85 #[.val (.int p1), .val (.int p2), .val (.int p3), .val (.int ch), .val (.int (2 : Int32)), .val (.ref b1), .val (.int (4 : Int32)), .val (.int (2 : Int32)), .val (.int (235 : Int32)), .unset, .unset] [(.int (1 : Int32)), (.int (235 : Int32))]))
        refine own_st (fun t k => XS.icmpNo X120.here hx rfl (hb hby at_85) rfl (flt (by decide : ¬ ((235 : Int32) < (1 : Int32)))).1 k) ?_
        show own_Fin _ _ _ _ _ _ _ (T120.setTop (mkF m 88 #[.val (.int p1), .val (.int p2), .val (.int p3), .val (.int ch), .val (.int (2 : Int32)), .val (.ref b1), .val (.int (4 : Int32)), .val (.int (2 : Int32)), .val (.int (235 : Int32)), .unset, .unset] []))
        refine own_st (fun t k => XS.iload X120.here hx rfl (hb hby at_88) rfl k) ?_
        show own_Fin _ _ _ _ _ _ _ (T120.setTop (mkF m 90 #[.val (.int p1), .val (.int p2), .val (.int p3), .val (.int ch), .val (.int (2 : Int32)), .val (.ref b1), .val (.int (4 : Int32)), .val (.int (2 : Int32)), .val (.int (235 : Int32)), .unset, .unset] [(.int (235 : Int32))]))
        refine own_st (fun t k => XS.sipush X120.here hx rfl (hb hby at_90) k) ?_
        show own_Fin _ _ _ _ _ _ _ (T120.setTop (mkF m 93 #[.val (.int p1), .val (.int p2), .val (.int p3), .val (.int ch), .val (.int (2 : Int32)), .val (.ref b1), .val (.int (4 : Int32)), .val (.int (2 : Int32)), .val (.int (235 : Int32)), .unset, .unset] [(.int (128 : Int32)), (.int (235 : Int32))]))
        refine own_st (fun t k => XS.icmpYes X120.here hx rfl (pc0 := 93) (pc' := 113) rfl (hb hby at_93) rfl (tlt (by decide : (128 : Int32) < (235 : Int32))).2.2.1 (by decide) (by decide) k) ?_
        show own_Fin _ _ _ _ _ _ _ (T120.setTop (mkF m 113 #[.val (.int p1), .val (.int p2), .val (.int p3), .val (.int ch), .val (.int (2 : Int32)), .val (.ref b1), .val (.int (4 : Int32)), .val (.int (2 : Int32)), .val (.int (235 : Int32)), .unset, .unset] []))
        refine own_st (fun t k => XS.iload X120.here hx rfl (hb hby at_113) rfl k) ?_
        show own_Fin _ _ _ _ _ _ _ (T120.setTop (mkF m 115 #[.val (.int p1), .val (.int p2), .val (.int p3), .val (.int ch), .val (.int (2 : Int32)), .val (.ref b1), .val (.int (4 : Int32)), .val (.int (2 : Int32)), .val (.int (235 : Int32)), .unset, .unset] [(.int (235 : Int32))]))
        refine own_st (fun t k => XS.sipush X120.here hx rfl (hb hby at_115) k) ?_
        show own_Fin _ _ _ _ _ _ _ (T120.setTop (mkF m 118 #[.val (.int p1), .val (.int p2), .val (.int p3), .val (.int ch), .val (.int (2 : Int32)), .val (.ref b1), .val (.int (4 : Int32)), .val (.int (2 : Int32)), .val (.int (235 : Int32)), .unset, .unset] [(.int (232 : Int32)), (.int (235 : Int32))]))
        refine own_st (fun t k => XS.icmpYes X120.here hx rfl (pc0 := 118) (pc' := 137) rfl (hb hby at_118) rfl (feq (by decide : ¬ ((235 : Int32) = (232 : Int32)))).2 (by decide) (by decide) k) ?_
        show own_Fin _ _ _ _ _ _ _ (T120.setTop (mkF m 137 #[.val (.int p1), .val (.int p2), .val (.int p3), .val (.int ch), .val (.int (2 : Int32)), .val (.ref b1), .val (.int (4 : Int32)), .val (.int (2 : Int32)), .val (.int (235 : Int32)), .unset, .unset] []))
        refine own_st (fun t k => XS.iload X120.here hx rfl (hb hby at_137) rfl k) ?_
        show own_Fin _ _ _ _ _ _ _ (T120.setTop (mkF m 139 #[.val (.int p1), .val (.int p2), .val (.int p3), .val (.int ch), .val (.int (2 : Int32)), .val (.ref b1), .val (.int (4 : Int32)), .val (.int (2 : Int32)), .val (.int (235 : Int32)), .unset, .unset] [(.int (235 : Int32))]))
        refine own_st (fun t k => XS.sipush X120.here hx rfl (hb hby at_139) k) ?_
        show own_Fin _ _ _ _ _ _ _ (T120.setTop (mkF m 142 #[.val (.int p1), .val (.int p2), .val (.int p3), .val (.int ch), .val (.int (2 : Int32)), .val (.ref b1), .val (.int (4 : Int32)), .val (.int (2 : Int32)), .val (.int (235 : Int32)), .unset, .unset] [(.int (235 : Int32)), (.int (235 : Int32))]))
        refine own_st (fun t k => XS.icmpNo X120.here hx rfl (hb hby at_142) rfl (teq (by decide : (235 : Int32) = (235 : Int32))).2 k) ?_
        show own_Fin _ _ _ _ _ _ _ (T120.setTop (mkF m 145 #[.val (.int p1), .val (.int p2), .val (.int p3), .val (.int ch), .val (.int (2 : Int32)), .val (.ref b1), .val (.int (4 : Int32)), .val (.int (2 : Int32)), .val (.int (235 : Int32)), .unset, .unset] []))
        refine own_st (fun t k => XS.iload X120.here hx rfl (hb hby at_145) rfl k) ?_
        show own_Fin _ _ _ _ _ _ _ (T120.setTop (mkF m 147 #[.val (.int p1), .val (.int p2), .val (.int p3), .val (.int ch), .val (.int (2 : Int32)), .val (.ref b1), .val (.int (4 : Int32)), .val (.int (2 : Int32)), .val (.int (235 : Int32)), .unset, .unset] [(.int (2 : Int32))]))
        refine own_st (fun t k => XS.iconst X120.here hx rfl (hb hby at_147) k) ?_
        show own_Fin _ _ _ _ _ _ _ (T120.setTop (mkF m 148 #[.val (.int p1), .val (.int p2), .val (.int p3), .val (.int ch), .val (.int (2 : Int32)), .val (.ref b1), .val (.int (4 : Int32)), .val (.int (2 : Int32)), .val (.int (235 : Int32)), .unset, .unset] [(.int (2 : Int32)), (.int (2 : Int32))]))
        refine own_st (fun t k => XS.icmpYes X120.here hx rfl (pc0 := 148) (pc' := 153) rfl (hb hby at_148) rfl (teq (by decide : (2 : Int32) = (2 : Int32))).1 (by decide) (by decide) k) ?_
        show own_Fin _ _ _ _ _ _ _ (T120.setTop (mkF m 153 #[.val (.int p1), .val (.int p2), .val (.int p3), .val (.int ch), .val (.int (2 : Int32)), .val (.ref b1), .val (.int (4 : Int32)), .val (.int (2 : Int32)), .val (.int (235 : Int32)), .unset, .unset] []))
        refine own_st (fun t k => XS.aload X120.here hx rfl (hb hby at_153) rfl rfl k) ?_
        show own_Fin _ _ _ _ _ _ _ (T120.setTop (mkF m 155 #[.val (.int p1), .val (.int p2), .val (.int p3), .val (.int ch), .val (.int (2 : Int32)), .val (.ref b1), .val (.int (4 : Int32)), .val (.int (2 : Int32)), .val (.int (235 : Int32)), .unset, .unset] [(.ref b1)]))
        refine own_st (fun t k => XS.iload X120.here hx rfl (hb hby at_155) rfl k) ?_
        show own_Fin _ _ _ _ _ _ _ (T120.setTop (mkF m 157 #[.val (.int p1), .val (.int p2), .val (.int p3), .val (.int ch), .val (.int (2 : Int32)), .val (.ref b1), .val (.int (4 : Int32)), .val (.int (2 : Int32)), .val (.int (235 : Int32)), .unset, .unset] [(.int (2 : Int32)), (.ref b1)]))
        refine own_st (fun t k => XS.iconst X120.here hx rfl (hb hby at_157) k) ?_
        show own_Fin _ _ _ _ _ _ _ (T120.setTop (mkF m 158 #[.val (.int p1), .val (.int p2), .val (.int p3), .val (.int ch), .val (.int (2 : Int32)), .val (.ref b1), .val (.int (4 : Int32)), .val (.int (2 : Int32)), .val (.int (235 : Int32)), .unset, .unset] [(.int (1 : Int32)), (.int (2 : Int32)), (.ref b1)]))
        refine own_st (fun t k => XS.iadd X120.here hx rfl (hb hby at_158) rfl k) ?_
        show own_Fin _ _ _ _ _ _ _ (T120.setTop (mkF m 159 #[.val (.int p1), .val (.int p2), .val (.int p3), .val (.int ch), .val (.int (2 : Int32)), .val (.ref b1), .val (.int (4 : Int32)), .val (.int (2 : Int32)), .val (.int (235 : Int32)), .unset, .unset] [(.int (3 : Int32)), (.ref b1)]))
        obtain ⟨cl122, Ar122, Cq122, Sz122, Mn122, Hs122, Gf122⟩ := id Vx120
        have hin122 := inb_of Sz122 (j := (3 : Int32)) ⟨by decide, by decide⟩
        refine own_st (X120.iaload hx (j := (3 : Int32)) (v := (.int (ch - (127 : Int32)))) Ar122.1 (State.isArrayOf_alike hZ.alike Ar122.2.1) Ar122.2.2 hin122 (Hs122.at hin122 rfl) (g := (mkF m 159 #[.val (.int p1), .val (.int p2), .val (.int p3), .val (.int ch), .val (.int (2 : Int32)), .val (.ref b1), .val (.int (4 : Int32)), .val (.int (2 : Int32)), .val (.int (235 : Int32)), .unset, .unset] [(.int (3 : Int32)), (.ref b1)])) rfl rfl (hb hby at_159)) ?_
        show own_Fin _ _ _ _ _ _ _ (T120.setTop (mkF m 160 #[.val (.int p1), .val (.int p2), .val (.int p3), .val (.int ch), .val (.int (2 : Int32)), .val (.ref b1), .val (.int (4 : Int32)), .val (.int (2 : Int32)), .val (.int (235 : Int32)), .unset, .unset] [(.int (ch - (127 : Int32)))]))
        refine own_st (fun t k => XS.istore X120.here hx rfl (hb hby at_160) rfl (l' := #[.val (.int p1), .val (.int p2), .val (.int p3), .val (.int ch), .val (.int (2 : Int32)), .val (.ref b1), .val (.int (4 : Int32)), .val (.int (2 : Int32)), .val (.int (235 : Int32)), .unset, .val (.int (ch - (127 : Int32)))]) rfl k) ?_
        show own_Fin _ _ _ _ _ _ _ (T120.setTop (mkF m 162 #[.val (.int p1), .val (.int p2), .val (.int p3), .val (.int ch), .val (.int (2 : Int32)), .val (.ref b1), .val (.int (4 : Int32)), .val (.int (2 : Int32)), .val (.int (235 : Int32)), .unset, .val (.int (ch - (127 : Int32)))] []))
        refine own_st (fun t k => XS.iload X120.here hx rfl (hb hby at_162) rfl k) ?_
        show own_Fin _ _ _ _ _ _ _ (T120.setTop (mkF m 164 #[.val (.int p1), .val (.int p2), .val (.int p3), .val (.int ch), .val (.int (2 : Int32)), .val (.ref b1), .val (.int (4 : Int32)), .val (.int (2 : Int32)), .val (.int (235 : Int32)), .unset, .val (.int (ch - (127 : Int32)))] [(.int (ch - (127 : Int32)))]))
        refine own_st (fun t k => XS.iconst X120.here hx rfl (hb hby at_164) k) ?_
        show own_Fin _ _ _ _ _ _ _ (T120.setTop (mkF m 165 #[.val (.int p1), .val (.int p2), .val (.int p3), .val (.int ch), .val (.int (2 : Int32)), .val (.ref b1), .val (.int (4 : Int32)), .val (.int (2 : Int32)), .val (.int (235 : Int32)), .unset, .val (.int (ch - (127 : Int32)))] [(.int (1 : Int32)), (.int (ch - (127 : Int32)))]))
        have hd165_123 : ¬ ((ch - (127 : Int32)) < (1 : Int32)) := (own_hi hc0.2 hA hB).1
        refine own_st (fun t k => XS.icmpNo X120.here hx rfl (hb hby at_165) rfl (flt hd165_123).1 k) ?_
        show own_Fin _ _ _ _ _ _ _ (T120.setTop (mkF m 168 #[.val (.int p1), .val (.int p2), .val (.int p3), .val (.int ch), .val (.int (2 : Int32)), .val (.ref b1), .val (.int (4 : Int32)), .val (.int (2 : Int32)), .val (.int (235 : Int32)), .unset, .val (.int (ch - (127 : Int32)))] []))
        refine own_st (fun t k => XS.iload X120.here hx rfl (hb hby at_168) rfl k) ?_
        show own_Fin _ _ _ _ _ _ _ (T120.setTop (mkF m 170 #[.val (.int p1), .val (.int p2), .val (.int p3), .val (.int ch), .val (.int (2 : Int32)), .val (.ref b1), .val (.int (4 : Int32)), .val (.int (2 : Int32)), .val (.int (235 : Int32)), .unset, .val (.int (ch - (127 : Int32)))] [(.int (ch - (127 : Int32)))]))
        refine own_st (fun t k => XS.sipush X120.here hx rfl (hb hby at_170) k) ?_
        show own_Fin _ _ _ _ _ _ _ (T120.setTop (mkF m 173 #[.val (.int p1), .val (.int p2), .val (.int p3), .val (.int ch), .val (.int (2 : Int32)), .val (.ref b1), .val (.int (4 : Int32)), .val (.int (2 : Int32)), .val (.int (235 : Int32)), .unset, .val (.int (ch - (127 : Int32)))] [(.int (128 : Int32)), (.int (ch - (127 : Int32)))]))
        have hd173_124 : ¬ ((128 : Int32) < (ch - (127 : Int32))) := (own_hi hc0.2 hA hB).2.1
        refine own_st (fun t k => XS.icmpYes X120.here hx rfl (pc0 := 173) (pc' := 178) rfl (hb hby at_173) rfl (flt hd173_124).2.2.2 (by decide) (by decide) k) ?_
        show own_Fin _ _ _ _ _ _ _ (T120.setTop (mkF m 178 #[.val (.int p1), .val (.int p2), .val (.int p3), .val (.int ch), .val (.int (2 : Int32)), .val (.ref b1), .val (.int (4 : Int32)), .val (.int (2 : Int32)), .val (.int (235 : Int32)), .unset, .val (.int (ch - (127 : Int32)))] []))
        refine own_st (fun t k => XS.iload X120.here hx rfl (hb hby at_178) rfl k) ?_
        show own_Fin _ _ _ _ _ _ _ (T120.setTop (mkF m 180 #[.val (.int p1), .val (.int p2), .val (.int p3), .val (.int ch), .val (.int (2 : Int32)), .val (.ref b1), .val (.int (4 : Int32)), .val (.int (2 : Int32)), .val (.int (235 : Int32)), .unset, .val (.int (ch - (127 : Int32)))] [(.int (ch - (127 : Int32)))]))
        refine own_st (fun t k => XS.iconst X120.here hx rfl (hb hby at_180) k) ?_
        show own_Fin _ _ _ _ _ _ _ (T120.setTop (mkF m 181 #[.val (.int p1), .val (.int p2), .val (.int p3), .val (.int ch), .val (.int (2 : Int32)), .val (.ref b1), .val (.int (4 : Int32)), .val (.int (2 : Int32)), .val (.int (235 : Int32)), .unset, .val (.int (ch - (127 : Int32)))] [(.int (1 : Int32)), (.int (ch - (127 : Int32)))]))
        refine own_st (fun t k => XS.isub X120.here hx rfl (hb hby at_181) rfl k) ?_
        show own_Fin _ _ _ _ _ _ _ (T120.setTop (mkF m 182 #[.val (.int p1), .val (.int p2), .val (.int p3), .val (.int ch), .val (.int (2 : Int32)), .val (.ref b1), .val (.int (4 : Int32)), .val (.int (2 : Int32)), .val (.int (235 : Int32)), .unset, .val (.int (ch - (127 : Int32)))] [(.int ((ch - (127 : Int32)) - (1 : Int32)))]))
        refine own_st (fun t k => XS.sipush X120.here hx rfl (hb hby at_182) k) ?_
        show own_Fin _ _ _ _ _ _ _ (T120.setTop (mkF m 185 #[.val (.int p1), .val (.int p2), .val (.int p3), .val (.int ch), .val (.int (2 : Int32)), .val (.ref b1), .val (.int (4 : Int32)), .val (.int (2 : Int32)), .val (.int (235 : Int32)), .unset, .val (.int (ch - (127 : Int32)))] [(.int (128 : Int32)), (.int ((ch - (127 : Int32)) - (1 : Int32)))]))
        refine own_st (fun t k => XS.iadd X120.here hx rfl (hb hby at_185) rfl k) ?_
        show own_Fin _ _ _ _ _ _ _ (T120.setTop (mkF m 186 #[.val (.int p1), .val (.int p2), .val (.int p3), .val (.int ch), .val (.int (2 : Int32)), .val (.ref b1), .val (.int (4 : Int32)), .val (.int (2 : Int32)), .val (.int (235 : Int32)), .unset, .val (.int (ch - (127 : Int32)))] [(.int (((ch - (127 : Int32)) - (1 : Int32)) + (128 : Int32)))]))
        refine own_st (fun t k => XS.istore X120.here hx rfl (hb hby at_186) rfl (l' := #[.val (.int p1), .val (.int p2), .val (.int p3), .val (.int ch), .val (.int (2 : Int32)), .val (.ref b1), .val (.int (4 : Int32)), .val (.int (2 : Int32)), .val (.int (235 : Int32)), .val (.int (((ch - (127 : Int32)) - (1 : Int32)) + (128 : Int32))), .val (.int (ch - (127 : Int32)))]) rfl k) ?_
        show own_Fin _ _ _ _ _ _ _ (T120.setTop (mkF m 188 #[.val (.int p1), .val (.int p2), .val (.int p3), .val (.int ch), .val (.int (2 : Int32)), .val (.ref b1), .val (.int (4 : Int32)), .val (.int (2 : Int32)), .val (.int (235 : Int32)), .val (.int (((ch - (127 : Int32)) - (1 : Int32)) + (128 : Int32))), .val (.int (ch - (127 : Int32)))] []))
        refine own_st (fun t k => XS.goto X120.here hx rfl (pc0 := 188) (pc' := 193) rfl (hb hby at_188) (by decide) (by decide) k) ?_
        show own_Fin _ _ _ _ _ _ _ (T120.setTop (mkF m 193 #[.val (.int p1), .val (.int p2), .val (.int p3), .val (.int ch), .val (.int (2 : Int32)), .val (.ref b1), .val (.int (4 : Int32)), .val (.int (2 : Int32)), .val (.int (235 : Int32)), .val (.int (((ch - (127 : Int32)) - (1 : Int32)) + (128 : Int32))), .val (.int (ch - (127 : Int32)))] []))
        refine own_st (fun t k => XS.iload X120.here hx rfl (hb hby at_193) rfl k) ?_
        show own_Fin _ _ _ _ _ _ _ (T120.setTop (mkF m 195 #[.val (.int p1), .val (.int p2), .val (.int p3), .val (.int ch), .val (.int (2 : Int32)), .val (.ref b1), .val (.int (4 : Int32)), .val (.int (2 : Int32)), .val (.int (235 : Int32)), .val (.int (((ch - (127 : Int32)) - (1 : Int32)) + (128 : Int32))), .val (.int (ch - (127 : Int32)))] [(.int (((ch - (127 : Int32)) - (1 : Int32)) + (128 : Int32)))]))
        refine own_st (fun t k => XS.iloadN X120.here hx rfl (hb hby at_195) rfl k) ?_
        show own_Fin _ _ _ _ _ _ _ (T120.setTop (mkF m 196 #[.val (.int p1), .val (.int p2), .val (.int p3), .val (.int ch), .val (.int (2 : Int32)), .val (.ref b1), .val (.int (4 : Int32)), .val (.int (2 : Int32)), .val (.int (235 : Int32)), .val (.int (((ch - (127 : Int32)) - (1 : Int32)) + (128 : Int32))), .val (.int (ch - (127 : Int32)))] [(.int ch), (.int (((ch - (127 : Int32)) - (1 : Int32)) + (128 : Int32)))]))
        have hd196_125 : (((ch - (127 : Int32)) - (1 : Int32)) + (128 : Int32)) = ch := (own_hi hc0.2 hA hB).2.2
        refine own_st (fun t k => XS.icmpNo X120.here hx rfl (hb hby at_196) rfl (teq hd196_125).2 k) ?_
        show own_Fin _ _ _ _ _ _ _ (T120.setTop (mkF m 199 #[.val (.int p1), .val (.int p2), .val (.int p3), .val (.int ch), .val (.int (2 : Int32)), .val (.ref b1), .val (.int (4 : Int32)), .val (.int (2 : Int32)), .val (.int (235 : Int32)), .val (.int (((ch - (127 : Int32)) - (1 : Int32)) + (128 : Int32))), .val (.int (ch - (127 : Int32)))] []))
        refine own_st (fun t k => XS.aload X120.here hx rfl (hb hby at_199) rfl rfl k) ?_
        show own_Fin _ _ _ _ _ _ _ (T120.setTop (mkF m 201 #[.val (.int p1), .val (.int p2), .val (.int p3), .val (.int ch), .val (.int (2 : Int32)), .val (.ref b1), .val (.int (4 : Int32)), .val (.int (2 : Int32)), .val (.int (235 : Int32)), .val (.int (((ch - (127 : Int32)) - (1 : Int32)) + (128 : Int32))), .val (.int (ch - (127 : Int32)))] [(.ref b1)]))
        refine own_st (fun t k => XS.iconst X120.here hx rfl (hb hby at_201) k) ?_
        show own_Fin _ _ _ _ _ _ _ (T120.setTop (mkF m 202 #[.val (.int p1), .val (.int p2), .val (.int p3), .val (.int ch), .val (.int (2 : Int32)), .val (.ref b1), .val (.int (4 : Int32)), .val (.int (2 : Int32)), .val (.int (235 : Int32)), .val (.int (((ch - (127 : Int32)) - (1 : Int32)) + (128 : Int32))), .val (.int (ch - (127 : Int32)))] [(.int (0 : Int32)), (.ref b1)]))
        refine own_st (fun t k => XS.iload X120.here hx rfl (hb hby at_202) rfl k) ?_
        show own_Fin _ _ _ _ _ _ _ (T120.setTop (mkF m 204 #[.val (.int p1), .val (.int p2), .val (.int p3), .val (.int ch), .val (.int (2 : Int32)), .val (.ref b1), .val (.int (4 : Int32)), .val (.int (2 : Int32)), .val (.int (235 : Int32)), .val (.int (((ch - (127 : Int32)) - (1 : Int32)) + (128 : Int32))), .val (.int (ch - (127 : Int32)))] [(.int (2 : Int32)), (.int (0 : Int32)), (.ref b1)]))
        refine own_st (fun t k => XS.iload X120.here hx rfl (hb hby at_204) rfl k) ?_
        show own_Fin _ _ _ _ _ _ _ (T120.setTop (mkF m 206 #[.val (.int p1), .val (.int p2), .val (.int p3), .val (.int ch), .val (.int (2 : Int32)), .val (.ref b1), .val (.int (4 : Int32)), .val (.int (2 : Int32)), .val (.int (235 : Int32)), .val (.int (((ch - (127 : Int32)) - (1 : Int32)) + (128 : Int32))), .val (.int (ch - (127 : Int32)))] [(.int (4 : Int32)), (.int (2 : Int32)), (.int (0 : Int32)), (.ref b1)]))
        refine own_st (fun t k => XS.iloadN X120.here hx rfl (hb hby at_206) rfl k) ?_
        show own_Fin _ _ _ _ _ _ _ (T120.setTop (mkF m 207 #[.val (.int p1), .val (.int p2), .val (.int p3), .val (.int ch), .val (.int (2 : Int32)), .val (.ref b1), .val (.int (4 : Int32)), .val (.int (2 : Int32)), .val (.int (235 : Int32)), .val (.int (((ch - (127 : Int32)) - (1 : Int32)) + (128 : Int32))), .val (.int (ch - (127 : Int32)))] [(.int p3), (.int (4 : Int32)), (.int (2 : Int32)), (.int (0 : Int32)), (.ref b1)]))
        obtain ⟨_, _, ⟨T126, L126, k126, n126⟩, -, X126, ⟨Lc126, hQ126, l126, y126, z126⟩, st126⟩ := Jvm.LawKit.callS X120 hx (y := (⟨"com/example/quietzone/quietzone/datamatrix/AsciiEncodationWritePinLaw", "untouched", "([IIIII)Z"⟩ : MethodName)) hown (mvT hZ (hw _ (List.mem_of_getElem? (i := 6) rfl))) (mvT hZ (hw _ (List.mem_of_getElem? (i := 7) rfl))) (mvT hZ (hw _ (List.mem_of_getElem? (i := 8) rfl))) (mvT hZ (hw _ (List.mem_of_getElem? (i := 9) rfl))) (by decide) (backOf (W := 0) (rm2 l Z a0 hw [] b1 (0 : Int32) (2 : Int32) (4 : Int32) p3 k1 (6 : Int32) [(.int p3), (.int p3), (.int (235 : Int32)), (.int (ch - (127 : Int32))), (.int p3), (.int p3)] p3 T120.heap n0 Z120 Vx120 (by decide) (by decide) rfl) hZ (hw _ (List.mem_of_getElem? (i := 9) rfl)) (hw _ (List.mem_of_getElem? (i := 8) rfl)) (by decide) (by decide)) (g := (mkF m 207 #[.val (.int p1), .val (.int p2), .val (.int p3), .val (.int ch), .val (.int (2 : Int32)), .val (.ref b1), .val (.int (4 : Int32)), .val (.int (2 : Int32)), .val (.int (235 : Int32)), .val (.int (((ch - (127 : Int32)) - (1 : Int32)) + (128 : Int32))), .val (.int (ch - (127 : Int32)))] [(.int p3), (.int (4 : Int32)), (.int (2 : Int32)), (.int (0 : Int32)), (.ref b1)])) rfl (by rw [hml]; rfl) (argsL := [(.ref b1), (.int (0 : Int32)), (.int (2 : Int32)), (.int (4 : Int32)), (.int p3)]) (rest := []) (lenOf pd_0_1 rfl) rfl (by show 2 * 0 + _ ≤ _; exact Nat.le_of_eq rfl) (hb hby at_207) (fun _ _ => ⟨rfl, rfl, (by decide : 1 + 0 ≤ _), (by decide : 6 + 0 ≤ _)⟩)
        dsimp only [Pt.U, Pt.locs, Pt.cells, Pt.slots] at X126 l126 y126 z126 st126 hQ126
        subst l126 y126 z126
        obtain ⟨rfl, N126q, e126⟩ := hQ126
        have N126 := Fr.app N120 N126q
        refine own_st st126 ?_
        show own_Fin _ _ _ _ _ _ _ (T126.setTop (mkF m 210 #[.val (.int p1), .val (.int p2), .val (.int p3), .val (.int ch), .val (.int (2 : Int32)), .val (.ref b1), .val (.int (4 : Int32)), .val (.int (2 : Int32)), .val (.int (235 : Int32)), .val (.int (((ch - (127 : Int32)) - (1 : Int32)) + (128 : Int32))), .val (.int (ch - (127 : Int32)))] [(.int (own_un (0 : Int32) (2 : Int32) (4 : Int32) p3 p3))]))
        have hd210_127 : ¬ ((own_un (0 : Int32) (2 : Int32) (4 : Int32) p3 p3) = (0 : Int32)) := by unfold own_un; simp
        refine own_st (fun t k => XS.ifNo X126.here hx rfl (hb hby at_210) rfl ((if0 _ _).trans (feq hd210_127).1) k) ?_
        show own_Fin _ _ _ _ _ _ _ (T126.setTop (mkF m 213 #[.val (.int p1), .val (.int p2), .val (.int p3), .val (.int ch), .val (.int (2 : Int32)), .val (.ref b1), .val (.int (4 : Int32)), .val (.int (2 : Int32)), .val (.int (235 : Int32)), .val (.int (((ch - (127 : Int32)) - (1 : Int32)) + (128 : Int32))), .val (.int (ch - (127 : Int32)))] []))
        refine own_st (fun t k => XS.aload X126.here hx rfl (hb hby at_213) rfl rfl k) ?_
        show own_Fin _ _ _ _ _ _ _ (T126.setTop (mkF m 215 #[.val (.int p1), .val (.int p2), .val (.int p3), .val (.int ch), .val (.int (2 : Int32)), .val (.ref b1), .val (.int (4 : Int32)), .val (.int (2 : Int32)), .val (.int (235 : Int32)), .val (.int (((ch - (127 : Int32)) - (1 : Int32)) + (128 : Int32))), .val (.int (ch - (127 : Int32)))] [(.ref b1)]))
        refine own_st (fun t k => XS.iconst X126.here hx rfl (hb hby at_215) k) ?_
        show own_Fin _ _ _ _ _ _ _ (T126.setTop (mkF m 216 #[.val (.int p1), .val (.int p2), .val (.int p3), .val (.int ch), .val (.int (2 : Int32)), .val (.ref b1), .val (.int (4 : Int32)), .val (.int (2 : Int32)), .val (.int (235 : Int32)), .val (.int (((ch - (127 : Int32)) - (1 : Int32)) + (128 : Int32))), .val (.int (ch - (127 : Int32)))] [(.int (1 : Int32)), (.ref b1)]))
        refine own_st (fun t k => XS.iload X126.here hx rfl (hb hby at_216) rfl k) ?_
        show own_Fin _ _ _ _ _ _ _ (T126.setTop (mkF m 218 #[.val (.int p1), .val (.int p2), .val (.int p3), .val (.int ch), .val (.int (2 : Int32)), .val (.ref b1), .val (.int (4 : Int32)), .val (.int (2 : Int32)), .val (.int (235 : Int32)), .val (.int (((ch - (127 : Int32)) - (1 : Int32)) + (128 : Int32))), .val (.int (ch - (127 : Int32)))] [(.int (2 : Int32)), (.int (1 : Int32)), (.ref b1)]))
        refine own_st (fun t k => XS.iload X126.here hx rfl (hb hby at_218) rfl k) ?_
        show own_Fin _ _ _ _ _ _ _ (T126.setTop (mkF m 220 #[.val (.int p1), .val (.int p2), .val (.int p3), .val (.int ch), .val (.int (2 : Int32)), .val (.ref b1), .val (.int (4 : Int32)), .val (.int (2 : Int32)), .val (.int (235 : Int32)), .val (.int (((ch - (127 : Int32)) - (1 : Int32)) + (128 : Int32))), .val (.int (ch - (127 : Int32)))] [(.int (4 : Int32)), (.int (2 : Int32)), (.int (1 : Int32)), (.ref b1)]))
        refine own_st (fun t k => XS.iloadN X126.here hx rfl (hb hby at_220) rfl k) ?_
        show own_Fin _ _ _ _ _ _ _ (T126.setTop (mkF m 221 #[.val (.int p1), .val (.int p2), .val (.int p3), .val (.int ch), .val (.int (2 : Int32)), .val (.ref b1), .val (.int (4 : Int32)), .val (.int (2 : Int32)), .val (.int (235 : Int32)), .val (.int (((ch - (127 : Int32)) - (1 : Int32)) + (128 : Int32))), .val (.int (ch - (127 : Int32)))] [(.int p3), (.int (4 : Int32)), (.int (2 : Int32)), (.int (1 : Int32)), (.ref b1)]))
        obtain ⟨_, _, ⟨T128, L128, k128, n128⟩, -, X128, ⟨Lc128, hQ128, l128, y128, z128⟩, st128⟩ := Jvm.LawKit.callS X126 hx (y := (⟨"com/example/quietzone/quietzone/datamatrix/AsciiEncodationWritePinLaw", "untouched", "([IIIII)Z"⟩ : MethodName)) hown (mvT hZ (hw _ (List.mem_of_getElem? (i := 6) rfl))) (mvT hZ (hw _ (List.mem_of_getElem? (i := 7) rfl))) (mvT hZ (hw _ (List.mem_of_getElem? (i := 8) rfl))) (mvT hZ (hw _ (List.mem_of_getElem? (i := 9) rfl))) (by decide) (backOf (W := 0) (rm2 l Z a0 hw [] b1 (1 : Int32) (2 : Int32) (4 : Int32) p3 k1 (6 : Int32) [(.int p3), (.int p3), (.int (235 : Int32)), (.int (ch - (127 : Int32))), (.int p3), (.int p3)] p3 T120.heap n0 Z120 Vx120 (by decide) (by decide) rfl) hZ (hw _ (List.mem_of_getElem? (i := 9) rfl)) (hw _ (List.mem_of_getElem? (i := 8) rfl)) (by decide) (by decide)) (g := (mkF m 221 #[.val (.int p1), .val (.int p2), .val (.int p3), .val (.int ch), .val (.int (2 : Int32)), .val (.ref b1), .val (.int (4 : Int32)), .val (.int (2 : Int32)), .val (.int (235 : Int32)), .val (.int (((ch - (127 : Int32)) - (1 : Int32)) + (128 : Int32))), .val (.int (ch - (127 : Int32)))] [(.int p3), (.int (4 : Int32)), (.int (2 : Int32)), (.int (1 : Int32)), (.ref b1)])) rfl (by rw [hml]; rfl) (argsL := [(.ref b1), (.int (1 : Int32)), (.int (2 : Int32)), (.int (4 : Int32)), (.int p3)]) (rest := []) (lenOf pd_0_1 rfl) rfl (by show 2 * 0 + _ ≤ _; exact Nat.le_of_eq rfl) (hb hby at_221) (fun _ _ => ⟨rfl, e126, (by decide : 1 + 0 ≤ _), (by decide : 6 + 0 ≤ _)⟩)
        dsimp only [Pt.U, Pt.locs, Pt.cells, Pt.slots] at X128 l128 y128 z128 st128 hQ128
        subst l128 y128 z128
        obtain ⟨rfl, N128q, e128⟩ := hQ128
        have N128 := Fr.app N126 N128q
        refine own_st st128 ?_
        show own_Fin _ _ _ _ _ _ _ (T128.setTop (mkF m 224 #[.val (.int p1), .val (.int p2), .val (.int p3), .val (.int ch), .val (.int (2 : Int32)), .val (.ref b1), .val (.int (4 : Int32)), .val (.int (2 : Int32)), .val (.int (235 : Int32)), .val (.int (((ch - (127 : Int32)) - (1 : Int32)) + (128 : Int32))), .val (.int (ch - (127 : Int32)))] [(.int (own_un (1 : Int32) (2 : Int32) (4 : Int32) p3 p3))]))
        have hd224_129 : ¬ ((own_un (1 : Int32) (2 : Int32) (4 : Int32) p3 p3) = (0 : Int32)) := by unfold own_un; simp
        refine own_st (fun t k => XS.ifNo X128.here hx rfl (hb hby at_224) rfl ((if0 _ _).trans (feq hd224_129).1) k) ?_
        show own_Fin _ _ _ _ _ _ _ (T128.setTop (mkF m 227 #[.val (.int p1), .val (.int p2), .val (.int p3), .val (.int ch), .val (.int (2 : Int32)), .val (.ref b1), .val (.int (4 : Int32)), .val (.int (2 : Int32)), .val (.int (235 : Int32)), .val (.int (((ch - (127 : Int32)) - (1 : Int32)) + (128 : Int32))), .val (.int (ch - (127 : Int32)))] []))
        refine own_st (fun t k => XS.aload X128.here hx rfl (hb hby at_227) rfl rfl k) ?_
        show own_Fin _ _ _ _ _ _ _ (T128.setTop (mkF m 229 #[.val (.int p1), .val (.int p2), .val (.int p3), .val (.int ch), .val (.int (2 : Int32)), .val (.ref b1), .val (.int (4 : Int32)), .val (.int (2 : Int32)), .val (.int (235 : Int32)), .val (.int (((ch - (127 : Int32)) - (1 : Int32)) + (128 : Int32))), .val (.int (ch - (127 : Int32)))] [(.ref b1)]))
        refine own_st (fun t k => XS.iconst X128.here hx rfl (hb hby at_229) k) ?_
        show own_Fin _ _ _ _ _ _ _ (T128.setTop (mkF m 230 #[.val (.int p1), .val (.int p2), .val (.int p3), .val (.int ch), .val (.int (2 : Int32)), .val (.ref b1), .val (.int (4 : Int32)), .val (.int (2 : Int32)), .val (.int (235 : Int32)), .val (.int (((ch - (127 : Int32)) - (1 : Int32)) + (128 : Int32))), .val (.int (ch - (127 : Int32)))] [(.int (2 : Int32)), (.ref b1)]))
        refine own_st (fun t k => XS.iload X128.here hx rfl (hb hby at_230) rfl k) ?_
        show own_Fin _ _ _ _ _ _ _ (T128.setTop (mkF m 232 #[.val (.int p1), .val (.int p2), .val (.int p3), .val (.int ch), .val (.int (2 : Int32)), .val (.ref b1), .val (.int (4 : Int32)), .val (.int (2 : Int32)), .val (.int (235 : Int32)), .val (.int (((ch - (127 : Int32)) - (1 : Int32)) + (128 : Int32))), .val (.int (ch - (127 : Int32)))] [(.int (2 : Int32)), (.int (2 : Int32)), (.ref b1)]))
        refine own_st (fun t k => XS.iload X128.here hx rfl (hb hby at_232) rfl k) ?_
        show own_Fin _ _ _ _ _ _ _ (T128.setTop (mkF m 234 #[.val (.int p1), .val (.int p2), .val (.int p3), .val (.int ch), .val (.int (2 : Int32)), .val (.ref b1), .val (.int (4 : Int32)), .val (.int (2 : Int32)), .val (.int (235 : Int32)), .val (.int (((ch - (127 : Int32)) - (1 : Int32)) + (128 : Int32))), .val (.int (ch - (127 : Int32)))] [(.int (4 : Int32)), (.int (2 : Int32)), (.int (2 : Int32)), (.ref b1)]))
        refine own_st (fun t k => XS.iloadN X128.here hx rfl (hb hby at_234) rfl k) ?_
        show own_Fin _ _ _ _ _ _ _ (T128.setTop (mkF m 235 #[.val (.int p1), .val (.int p2), .val (.int p3), .val (.int ch), .val (.int (2 : Int32)), .val (.ref b1), .val (.int (4 : Int32)), .val (.int (2 : Int32)), .val (.int (235 : Int32)), .val (.int (((ch - (127 : Int32)) - (1 : Int32)) + (128 : Int32))), .val (.int (ch - (127 : Int32)))] [(.int p3), (.int (4 : Int32)), (.int (2 : Int32)), (.int (2 : Int32)), (.ref b1)]))
        obtain ⟨_, _, ⟨T130, L130, k130, n130⟩, -, X130, ⟨Lc130, hQ130, l130, y130, z130⟩, st130⟩ := Jvm.LawKit.callS X128 hx (y := (⟨"com/example/quietzone/quietzone/datamatrix/AsciiEncodationWritePinLaw", "untouched", "([IIIII)Z"⟩ : MethodName)) hown (mvT hZ (hw _ (List.mem_of_getElem? (i := 6) rfl))) (mvT hZ (hw _ (List.mem_of_getElem? (i := 7) rfl))) (mvT hZ (hw _ (List.mem_of_getElem? (i := 8) rfl))) (mvT hZ (hw _ (List.mem_of_getElem? (i := 9) rfl))) (by decide) (backOf (W := 0) (rm2 l Z a0 hw [] b1 (2 : Int32) (2 : Int32) (4 : Int32) p3 k1 (6 : Int32) [(.int p3), (.int p3), (.int (235 : Int32)), (.int (ch - (127 : Int32))), (.int p3), (.int p3)] (235 : Int32) T120.heap n0 Z120 Vx120 (by decide) (by decide) rfl) hZ (hw _ (List.mem_of_getElem? (i := 9) rfl)) (hw _ (List.mem_of_getElem? (i := 8) rfl)) (by decide) (by decide)) (g := (mkF m 235 #[.val (.int p1), .val (.int p2), .val (.int p3), .val (.int ch), .val (.int (2 : Int32)), .val (.ref b1), .val (.int (4 : Int32)), .val (.int (2 : Int32)), .val (.int (235 : Int32)), .val (.int (((ch - (127 : Int32)) - (1 : Int32)) + (128 : Int32))), .val (.int (ch - (127 : Int32)))] [(.int p3), (.int (4 : Int32)), (.int (2 : Int32)), (.int (2 : Int32)), (.ref b1)])) rfl (by rw [hml]; rfl) (argsL := [(.ref b1), (.int (2 : Int32)), (.int (2 : Int32)), (.int (4 : Int32)), (.int p3)]) (rest := []) (lenOf pd_0_1 rfl) rfl (by show 2 * 0 + _ ≤ _; exact Nat.le_of_eq rfl) (hb hby at_235) (fun _ _ => ⟨rfl, e128, (by decide : 1 + 0 ≤ _), (by decide : 6 + 0 ≤ _)⟩)
        dsimp only [Pt.U, Pt.locs, Pt.cells, Pt.slots] at X130 l130 y130 z130 st130 hQ130
        subst l130 y130 z130
        obtain ⟨rfl, N130q, e130⟩ := hQ130
        have N130 := Fr.app N128 N130q
        refine own_st st130 ?_
        show own_Fin _ _ _ _ _ _ _ (T130.setTop (mkF m 238 #[.val (.int p1), .val (.int p2), .val (.int p3), .val (.int ch), .val (.int (2 : Int32)), .val (.ref b1), .val (.int (4 : Int32)), .val (.int (2 : Int32)), .val (.int (235 : Int32)), .val (.int (((ch - (127 : Int32)) - (1 : Int32)) + (128 : Int32))), .val (.int (ch - (127 : Int32)))] [(.int (own_un (2 : Int32) (2 : Int32) (4 : Int32) p3 (235 : Int32)))]))
        have hd238_131 : ¬ ((own_un (2 : Int32) (2 : Int32) (4 : Int32) p3 (235 : Int32)) = (0 : Int32)) := by unfold own_un; simp
        refine own_st (fun t k => XS.ifNo X130.here hx rfl (hb hby at_238) rfl ((if0 _ _).trans (feq hd238_131).1) k) ?_
        show own_Fin _ _ _ _ _ _ _ (T130.setTop (mkF m 241 #[.val (.int p1), .val (.int p2), .val (.int p3), .val (.int ch), .val (.int (2 : Int32)), .val (.ref b1), .val (.int (4 : Int32)), .val (.int (2 : Int32)), .val (.int (235 : Int32)), .val (.int (((ch - (127 : Int32)) - (1 : Int32)) + (128 : Int32))), .val (.int (ch - (127 : Int32)))] []))
        refine own_st (fun t k => XS.aload X130.here hx rfl (hb hby at_241) rfl rfl k) ?_
        show own_Fin _ _ _ _ _ _ _ (T130.setTop (mkF m 243 #[.val (.int p1), .val (.int p2), .val (.int p3), .val (.int ch), .val (.int (2 : Int32)), .val (.ref b1), .val (.int (4 : Int32)), .val (.int (2 : Int32)), .val (.int (235 : Int32)), .val (.int (((ch - (127 : Int32)) - (1 : Int32)) + (128 : Int32))), .val (.int (ch - (127 : Int32)))] [(.ref b1)]))
        refine own_st (fun t k => XS.iconst X130.here hx rfl (hb hby at_243) k) ?_
        show own_Fin _ _ _ _ _ _ _ (T130.setTop (mkF m 244 #[.val (.int p1), .val (.int p2), .val (.int p3), .val (.int ch), .val (.int (2 : Int32)), .val (.ref b1), .val (.int (4 : Int32)), .val (.int (2 : Int32)), .val (.int (235 : Int32)), .val (.int (((ch - (127 : Int32)) - (1 : Int32)) + (128 : Int32))), .val (.int (ch - (127 : Int32)))] [(.int (3 : Int32)), (.ref b1)]))
        refine own_st (fun t k => XS.iload X130.here hx rfl (hb hby at_244) rfl k) ?_
        show own_Fin _ _ _ _ _ _ _ (T130.setTop (mkF m 246 #[.val (.int p1), .val (.int p2), .val (.int p3), .val (.int ch), .val (.int (2 : Int32)), .val (.ref b1), .val (.int (4 : Int32)), .val (.int (2 : Int32)), .val (.int (235 : Int32)), .val (.int (((ch - (127 : Int32)) - (1 : Int32)) + (128 : Int32))), .val (.int (ch - (127 : Int32)))] [(.int (2 : Int32)), (.int (3 : Int32)), (.ref b1)]))
        refine own_st (fun t k => XS.iload X130.here hx rfl (hb hby at_246) rfl k) ?_
        show own_Fin _ _ _ _ _ _ _ (T130.setTop (mkF m 248 #[.val (.int p1), .val (.int p2), .val (.int p3), .val (.int ch), .val (.int (2 : Int32)), .val (.ref b1), .val (.int (4 : Int32)), .val (.int (2 : Int32)), .val (.int (235 : Int32)), .val (.int (((ch - (127 : Int32)) - (1 : Int32)) + (128 : Int32))), .val (.int (ch - (127 : Int32)))] [(.int (4 : Int32)), (.int (2 : Int32)), (.int (3 : Int32)), (.ref b1)]))
        refine own_st (fun t k => XS.iloadN X130.here hx rfl (hb hby at_248) rfl k) ?_
        show own_Fin _ _ _ _ _ _ _ (T130.setTop (mkF m 249 #[.val (.int p1), .val (.int p2), .val (.int p3), .val (.int ch), .val (.int (2 : Int32)), .val (.ref b1), .val (.int (4 : Int32)), .val (.int (2 : Int32)), .val (.int (235 : Int32)), .val (.int (((ch - (127 : Int32)) - (1 : Int32)) + (128 : Int32))), .val (.int (ch - (127 : Int32)))] [(.int p3), (.int (4 : Int32)), (.int (2 : Int32)), (.int (3 : Int32)), (.ref b1)]))
        obtain ⟨_, _, ⟨T132, L132, k132, n132⟩, -, X132, ⟨Lc132, hQ132, l132, y132, z132⟩, st132⟩ := Jvm.LawKit.callS X130 hx (y := (⟨"com/example/quietzone/quietzone/datamatrix/AsciiEncodationWritePinLaw", "untouched", "([IIIII)Z"⟩ : MethodName)) hown (mvT hZ (hw _ (List.mem_of_getElem? (i := 6) rfl))) (mvT hZ (hw _ (List.mem_of_getElem? (i := 7) rfl))) (mvT hZ (hw _ (List.mem_of_getElem? (i := 8) rfl))) (mvT hZ (hw _ (List.mem_of_getElem? (i := 9) rfl))) (by decide) (backOf (W := 0) (rm2 l Z a0 hw [] b1 (3 : Int32) (2 : Int32) (4 : Int32) p3 k1 (6 : Int32) [(.int p3), (.int p3), (.int (235 : Int32)), (.int (ch - (127 : Int32))), (.int p3), (.int p3)] (ch - (127 : Int32)) T120.heap n0 Z120 Vx120 (by decide) (by decide) rfl) hZ (hw _ (List.mem_of_getElem? (i := 9) rfl)) (hw _ (List.mem_of_getElem? (i := 8) rfl)) (by decide) (by decide)) (g := (mkF m 249 #[.val (.int p1), .val (.int p2), .val (.int p3), .val (.int ch), .val (.int (2 : Int32)), .val (.ref b1), .val (.int (4 : Int32)), .val (.int (2 : Int32)), .val (.int (235 : Int32)), .val (.int (((ch - (127 : Int32)) - (1 : Int32)) + (128 : Int32))), .val (.int (ch - (127 : Int32)))] [(.int p3), (.int (4 : Int32)), (.int (2 : Int32)), (.int (3 : Int32)), (.ref b1)])) rfl (by rw [hml]; rfl) (argsL := [(.ref b1), (.int (3 : Int32)), (.int (2 : Int32)), (.int (4 : Int32)), (.int p3)]) (rest := []) (lenOf pd_0_1 rfl) rfl (by show 2 * 0 + _ ≤ _; exact Nat.le_of_eq rfl) (hb hby at_249) (fun _ _ => ⟨rfl, e130, (by decide : 1 + 0 ≤ _), (by decide : 6 + 0 ≤ _)⟩)
        dsimp only [Pt.U, Pt.locs, Pt.cells, Pt.slots] at X132 l132 y132 z132 st132 hQ132
        subst l132 y132 z132
        obtain ⟨rfl, N132q, e132⟩ := hQ132
        have N132 := Fr.app N130 N132q
        refine own_st st132 ?_
        show own_Fin _ _ _ _ _ _ _ (T132.setTop (mkF m 252 #[.val (.int p1), .val (.int p2), .val (.int p3), .val (.int ch), .val (.int (2 : Int32)), .val (.ref b1), .val (.int (4 : Int32)), .val (.int (2 : Int32)), .val (.int (235 : Int32)), .val (.int (((ch - (127 : Int32)) - (1 : Int32)) + (128 : Int32))), .val (.int (ch - (127 : Int32)))] [(.int (own_un (3 : Int32) (2 : Int32) (4 : Int32) p3 (ch - (127 : Int32))))]))
        have hd252_133 : ¬ ((own_un (3 : Int32) (2 : Int32) (4 : Int32) p3 (ch - (127 : Int32))) = (0 : Int32)) := by unfold own_un; simp
        refine own_st (fun t k => XS.ifNo X132.here hx rfl (hb hby at_252) rfl ((if0 _ _).trans (feq hd252_133).1) k) ?_
        show own_Fin _ _ _ _ _ _ _ (T132.setTop (mkF m 255 #[.val (.int p1), .val (.int p2), .val (.int p3), .val (.int ch), .val (.int (2 : Int32)), .val (.ref b1), .val (.int (4 : Int32)), .val (.int (2 : Int32)), .val (.int (235 : Int32)), .val (.int (((ch - (127 : Int32)) - (1 : Int32)) + (128 : Int32))), .val (.int (ch - (127 : Int32)))] []))
        refine own_st (fun t k => XS.aload X132.here hx rfl (hb hby at_255) rfl rfl k) ?_
        show own_Fin _ _ _ _ _ _ _ (T132.setTop (mkF m 257 #[.val (.int p1), .val (.int p2), .val (.int p3), .val (.int ch), .val (.int (2 : Int32)), .val (.ref b1), .val (.int (4 : Int32)), .val (.int (2 : Int32)), .val (.int (235 : Int32)), .val (.int (((ch - (127 : Int32)) - (1 : Int32)) + (128 : Int32))), .val (.int (ch - (127 : Int32)))] [(.ref b1)]))
        refine own_st (fun t k => XS.iconst X132.here hx rfl (hb hby at_257) k) ?_
        show own_Fin _ _ _ _ _ _ _ (T132.setTop (mkF m 258 #[.val (.int p1), .val (.int p2), .val (.int p3), .val (.int ch), .val (.int (2 : Int32)), .val (.ref b1), .val (.int (4 : Int32)), .val (.int (2 : Int32)), .val (.int (235 : Int32)), .val (.int (((ch - (127 : Int32)) - (1 : Int32)) + (128 : Int32))), .val (.int (ch - (127 : Int32)))] [(.int (4 : Int32)), (.ref b1)]))
        refine own_st (fun t k => XS.iload X132.here hx rfl (hb hby at_258) rfl k) ?_
        show own_Fin _ _ _ _ _ _ _ (T132.setTop (mkF m 260 #[.val (.int p1), .val (.int p2), .val (.int p3), .val (.int ch), .val (.int (2 : Int32)), .val (.ref b1), .val (.int (4 : Int32)), .val (.int (2 : Int32)), .val (.int (235 : Int32)), .val (.int (((ch - (127 : Int32)) - (1 : Int32)) + (128 : Int32))), .val (.int (ch - (127 : Int32)))] [(.int (2 : Int32)), (.int (4 : Int32)), (.ref b1)]))
        refine own_st (fun t k => XS.iload X132.here hx rfl (hb hby at_260) rfl k) ?_
        show own_Fin _ _ _ _ _ _ _ (T132.setTop (mkF m 262 #[.val (.int p1), .val (.int p2), .val (.int p3), .val (.int ch), .val (.int (2 : Int32)), .val (.ref b1), .val (.int (4 : Int32)), .val (.int (2 : Int32)), .val (.int (235 : Int32)), .val (.int (((ch - (127 : Int32)) - (1 : Int32)) + (128 : Int32))), .val (.int (ch - (127 : Int32)))] [(.int (4 : Int32)), (.int (2 : Int32)), (.int (4 : Int32)), (.ref b1)]))
        refine own_st (fun t k => XS.iloadN X132.here hx rfl (hb hby at_262) rfl k) ?_
        show own_Fin _ _ _ _ _ _ _ (T132.setTop (mkF m 263 #[.val (.int p1), .val (.int p2), .val (.int p3), .val (.int ch), .val (.int (2 : Int32)), .val (.ref b1), .val (.int (4 : Int32)), .val (.int (2 : Int32)), .val (.int (235 : Int32)), .val (.int (((ch - (127 : Int32)) - (1 : Int32)) + (128 : Int32))), .val (.int (ch - (127 : Int32)))] [(.int p3), (.int (4 : Int32)), (.int (2 : Int32)), (.int (4 : Int32)), (.ref b1)]))
        obtain ⟨_, _, ⟨T134, L134, k134, n134⟩, -, X134, ⟨Lc134, hQ134, l134, y134, z134⟩, st134⟩ := Jvm.LawKit.callS X132 hx (y := (⟨"com/example/quietzone/quietzone/datamatrix/AsciiEncodationWritePinLaw", "untouched", "([IIIII)Z"⟩ : MethodName)) hown (mvT hZ (hw _ (List.mem_of_getElem? (i := 6) rfl))) (mvT hZ (hw _ (List.mem_of_getElem? (i := 7) rfl))) (mvT hZ (hw _ (List.mem_of_getElem? (i := 8) rfl))) (mvT hZ (hw _ (List.mem_of_getElem? (i := 9) rfl))) (by decide) (backOf (W := 0) (rm2 l Z a0 hw [] b1 (4 : Int32) (2 : Int32) (4 : Int32) p3 k1 (6 : Int32) [(.int p3), (.int p3), (.int (235 : Int32)), (.int (ch - (127 : Int32))), (.int p3), (.int p3)] p3 T120.heap n0 Z120 Vx120 (by decide) (by decide) rfl) hZ (hw _ (List.mem_of_getElem? (i := 9) rfl)) (hw _ (List.mem_of_getElem? (i := 8) rfl)) (by decide) (by decide)) (g := (mkF m 263 #[.val (.int p1), .val (.int p2), .val (.int p3), .val (.int ch), .val (.int (2 : Int32)), .val (.ref b1), .val (.int (4 : Int32)), .val (.int (2 : Int32)), .val (.int (235 : Int32)), .val (.int (((ch - (127 : Int32)) - (1 : Int32)) + (128 : Int32))), .val (.int (ch - (127 : Int32)))] [(.int p3), (.int (4 : Int32)), (.int (2 : Int32)), (.int (4 : Int32)), (.ref b1)])) rfl (by rw [hml]; rfl) (argsL := [(.ref b1), (.int (4 : Int32)), (.int (2 : Int32)), (.int (4 : Int32)), (.int p3)]) (rest := []) (lenOf pd_0_1 rfl) rfl (by show 2 * 0 + _ ≤ _; exact Nat.le_of_eq rfl) (hb hby at_263) (fun _ _ => ⟨rfl, e132, (by decide : 1 + 0 ≤ _), (by decide : 6 + 0 ≤ _)⟩)
        dsimp only [Pt.U, Pt.locs, Pt.cells, Pt.slots] at X134 l134 y134 z134 st134 hQ134
        subst l134 y134 z134
        obtain ⟨rfl, N134q, e134⟩ := hQ134
        have N134 := Fr.app N132 N134q
        refine own_st st134 ?_
        show own_Fin _ _ _ _ _ _ _ (T134.setTop (mkF m 266 #[.val (.int p1), .val (.int p2), .val (.int p3), .val (.int ch), .val (.int (2 : Int32)), .val (.ref b1), .val (.int (4 : Int32)), .val (.int (2 : Int32)), .val (.int (235 : Int32)), .val (.int (((ch - (127 : Int32)) - (1 : Int32)) + (128 : Int32))), .val (.int (ch - (127 : Int32)))] [(.int (own_un (4 : Int32) (2 : Int32) (4 : Int32) p3 p3))]))
        have hd266_135 : ¬ ((own_un (4 : Int32) (2 : Int32) (4 : Int32) p3 p3) = (0 : Int32)) := by unfold own_un; simp
        refine own_st (fun t k => XS.ifNo X134.here hx rfl (hb hby at_266) rfl ((if0 _ _).trans (feq hd266_135).1) k) ?_
        show own_Fin _ _ _ _ _ _ _ (T134.setTop (mkF m 269 #[.val (.int p1), .val (.int p2), .val (.int p3), .val (.int ch), .val (.int (2 : Int32)), .val (.ref b1), .val (.int (4 : Int32)), .val (.int (2 : Int32)), .val (.int (235 : Int32)), .val (.int (((ch - (127 : Int32)) - (1 : Int32)) + (128 : Int32))), .val (.int (ch - (127 : Int32)))] []))
        refine own_st (fun t k => XS.aload X134.here hx rfl (hb hby at_269) rfl rfl k) ?_
        show own_Fin _ _ _ _ _ _ _ (T134.setTop (mkF m 271 #[.val (.int p1), .val (.int p2), .val (.int p3), .val (.int ch), .val (.int (2 : Int32)), .val (.ref b1), .val (.int (4 : Int32)), .val (.int (2 : Int32)), .val (.int (235 : Int32)), .val (.int (((ch - (127 : Int32)) - (1 : Int32)) + (128 : Int32))), .val (.int (ch - (127 : Int32)))] [(.ref b1)]))
        refine own_st (fun t k => XS.iconst X134.here hx rfl (hb hby at_271) k) ?_
        show own_Fin _ _ _ _ _ _ _ (T134.setTop (mkF m 272 #[.val (.int p1), .val (.int p2), .val (.int p3), .val (.int ch), .val (.int (2 : Int32)), .val (.ref b1), .val (.int (4 : Int32)), .val (.int (2 : Int32)), .val (.int (235 : Int32)), .val (.int (((ch - (127 : Int32)) - (1 : Int32)) + (128 : Int32))), .val (.int (ch - (127 : Int32)))] [(.int (5 : Int32)), (.ref b1)]))
        refine own_st (fun t k => XS.iload X134.here hx rfl (hb hby at_272) rfl k) ?_
        show own_Fin _ _ _ _ _ _ _ (T134.setTop (mkF m 274 #[.val (.int p1), .val (.int p2), .val (.int p3), .val (.int ch), .val (.int (2 : Int32)), .val (.ref b1), .val (.int (4 : Int32)), .val (.int (2 : Int32)), .val (.int (235 : Int32)), .val (.int (((ch - (127 : Int32)) - (1 : Int32)) + (128 : Int32))), .val (.int (ch - (127 : Int32)))] [(.int (2 : Int32)), (.int (5 : Int32)), (.ref b1)]))
        refine own_st (fun t k => XS.iload X134.here hx rfl (hb hby at_274) rfl k) ?_
        show own_Fin _ _ _ _ _ _ _ (T134.setTop (mkF m 276 #[.val (.int p1), .val (.int p2), .val (.int p3), .val (.int ch), .val (.int (2 : Int32)), .val (.ref b1), .val (.int (4 : Int32)), .val (.int (2 : Int32)), .val (.int (235 : Int32)), .val (.int (((ch - (127 : Int32)) - (1 : Int32)) + (128 : Int32))), .val (.int (ch - (127 : Int32)))] [(.int (4 : Int32)), (.int (2 : Int32)), (.int (5 : Int32)), (.ref b1)]))
        refine own_st (fun t k => XS.iloadN X134.here hx rfl (hb hby at_276) rfl k) ?_
        show own_Fin _ _ _ _ _ _ _ (T134.setTop (mkF m 277 #[.val (.int p1), .val (.int p2), .val (.int p3), .val (.int ch), .val (.int (2 : Int32)), .val (.ref b1), .val (.int (4 : Int32)), .val (.int (2 : Int32)), .val (.int (235 : Int32)), .val (.int (((ch - (127 : Int32)) - (1 : Int32)) + (128 : Int32))), .val (.int (ch - (127 : Int32)))] [(.int p3), (.int (4 : Int32)), (.int (2 : Int32)), (.int (5 : Int32)), (.ref b1)]))
        obtain ⟨_, _, ⟨T136, L136, k136, n136⟩, -, X136, ⟨Lc136, hQ136, l136, y136, z136⟩, st136⟩ := Jvm.LawKit.callS X134 hx (y := (⟨"com/example/quietzone/quietzone/datamatrix/AsciiEncodationWritePinLaw", "untouched", "([IIIII)Z"⟩ : MethodName)) hown (mvT hZ (hw _ (List.mem_of_getElem? (i := 6) rfl))) (mvT hZ (hw _ (List.mem_of_getElem? (i := 7) rfl))) (mvT hZ (hw _ (List.mem_of_getElem? (i := 8) rfl))) (mvT hZ (hw _ (List.mem_of_getElem? (i := 9) rfl))) (by decide) (backOf (W := 0) (rm2 l Z a0 hw [] b1 (5 : Int32) (2 : Int32) (4 : Int32) p3 k1 (6 : Int32) [(.int p3), (.int p3), (.int (235 : Int32)), (.int (ch - (127 : Int32))), (.int p3), (.int p3)] p3 T120.heap n0 Z120 Vx120 (by decide) (by decide) rfl) hZ (hw _ (List.mem_of_getElem? (i := 9) rfl)) (hw _ (List.mem_of_getElem? (i := 8) rfl)) (by decide) (by decide)) (g := (mkF m 277 #[.val (.int p1), .val (.int p2), .val (.int p3), .val (.int ch), .val (.int (2 : Int32)), .val (.ref b1), .val (.int (4 : Int32)), .val (.int (2 : Int32)), .val (.int (235 : Int32)), .val (.int (((ch - (127 : Int32)) - (1 : Int32)) + (128 : Int32))), .val (.int (ch - (127 : Int32)))] [(.int p3), (.int (4 : Int32)), (.int (2 : Int32)), (.int (5 : Int32)), (.ref b1)])) rfl (by rw [hml]; rfl) (argsL := [(.ref b1), (.int (5 : Int32)), (.int (2 : Int32)), (.int (4 : Int32)), (.int p3)]) (rest := []) (lenOf pd_0_1 rfl) rfl (by show 2 * 0 + _ ≤ _; exact Nat.le_of_eq rfl) (hb hby at_277) (fun _ _ => ⟨rfl, e134, (by decide : 1 + 0 ≤ _), (by decide : 6 + 0 ≤ _)⟩)
        dsimp only [Pt.U, Pt.locs, Pt.cells, Pt.slots] at X136 l136 y136 z136 st136 hQ136
        subst l136 y136 z136
        obtain ⟨rfl, N136q, e136⟩ := hQ136
        have N136 := Fr.app N134 N136q
        refine own_st st136 ?_
        show own_Fin _ _ _ _ _ _ _ (T136.setTop (mkF m 280 #[.val (.int p1), .val (.int p2), .val (.int p3), .val (.int ch), .val (.int (2 : Int32)), .val (.ref b1), .val (.int (4 : Int32)), .val (.int (2 : Int32)), .val (.int (235 : Int32)), .val (.int (((ch - (127 : Int32)) - (1 : Int32)) + (128 : Int32))), .val (.int (ch - (127 : Int32)))] [(.int (own_un (5 : Int32) (2 : Int32) (4 : Int32) p3 p3))]))
        have hd280_137 : ¬ ((own_un (5 : Int32) (2 : Int32) (4 : Int32) p3 p3) = (0 : Int32)) := by unfold own_un; simp
        refine own_st (fun t k => XS.ifNo X136.here hx rfl (hb hby at_280) rfl ((if0 _ _).trans (feq hd280_137).1) k) ?_
        show own_Fin _ _ _ _ _ _ _ (T136.setTop (mkF m 283 #[.val (.int p1), .val (.int p2), .val (.int p3), .val (.int ch), .val (.int (2 : Int32)), .val (.ref b1), .val (.int (4 : Int32)), .val (.int (2 : Int32)), .val (.int (235 : Int32)), .val (.int (((ch - (127 : Int32)) - (1 : Int32)) + (128 : Int32))), .val (.int (ch - (127 : Int32)))] []))
        refine own_st (fun t k => XS.iconst X136.here hx rfl (hb hby at_283) k) ?_
        show own_Fin _ _ _ _ _ _ _ (T136.setTop (mkF m 284 #[.val (.int p1), .val (.int p2), .val (.int p3), .val (.int ch), .val (.int (2 : Int32)), .val (.ref b1), .val (.int (4 : Int32)), .val (.int (2 : Int32)), .val (.int (235 : Int32)), .val (.int (((ch - (127 : Int32)) - (1 : Int32)) + (128 : Int32))), .val (.int (ch - (127 : Int32)))] [(.int (1 : Int32))]))
        refine own_st (fun t k => XS.goto X136.here hx rfl (pc0 := 284) (pc' := 288) rfl (hb hby at_284) (by decide) (by decide) k) ?_
        show own_Fin _ _ _ _ _ _ _ (T136.setTop (mkF m 288 #[.val (.int p1), .val (.int p2), .val (.int p3), .val (.int ch), .val (.int (2 : Int32)), .val (.ref b1), .val (.int (4 : Int32)), .val (.int (2 : Int32)), .val (.int (235 : Int32)), .val (.int (((ch - (127 : Int32)) - (1 : Int32)) + (128 : Int32))), .val (.int (ch - (127 : Int32)))] [(.int (1 : Int32))]))
        exact own_retN X136 hx Bd.notSynchronized (t := .boolean) Bd.returns (by simp) (hb hby at_288) (by decide) (by decide) ⟨rfl, N136, trivial⟩
      · show own_Fin _ _ _ _ _ _ _ (T7.setTop (mkF m 44 #[.val (.int p1), .val (.int p2), .val (.int p3), .val (.int ch), .val (.int (2 : Int32)), .val (.ref b1), .unset, .unset, .unset, .unset, .unset] []))
        refine own_st (fun t k => XS.iloadN X7.here hx rfl (hb hby at_44) rfl k) ?_
        show own_Fin _ _ _ _ _ _ _ (T7.setTop (mkF m 45 #[.val (.int p1), .val (.int p2), .val (.int p3), .val (.int ch), .val (.int (2 : Int32)), .val (.ref b1), .unset, .unset, .unset, .unset, .unset] [(.int ch)]))
        refine own_st (fun t k => XS.aload X7.here hx rfl (hb hby at_45) rfl rfl k) ?_
        show own_Fin _ _ _ _ _ _ _ (T7.setTop (mkF m 47 #[.val (.int p1), .val (.int p2), .val (.int p3), .val (.int ch), .val (.int (2 : Int32)), .val (.ref b1), .unset, .unset, .unset, .unset, .unset] [(.ref b1), (.int ch)]))
        refine own_st (fun t k => XS.iload X7.here hx rfl (hb hby at_47) rfl k) ?_
        show own_Fin _ _ _ _ _ _ _ (T7.setTop (mkF m 49 #[.val (.int p1), .val (.int p2), .val (.int p3), .val (.int ch), .val (.int (2 : Int32)), .val (.ref b1), .unset, .unset, .unset, .unset, .unset] [(.int (2 : Int32)), (.ref b1), (.int ch)]))
        obtain ⟨_, _, ⟨T138, L138, k138, n138⟩, -, X138, ⟨Lc138, hQ138, l138, y138, z138⟩, st138⟩ := Jvm.LawKit.callS X7 hx (y := (⟨"com/example/quietzone/quietzone/datamatrix/AsciiEncodation", "write", "(I[II)I"⟩ : MethodName)) hown (mvT hZ (hw _ (List.mem_of_getElem? (i := 2) rfl))) (mvT hZ (hw _ (List.mem_of_getElem? (i := 3) rfl))) (mvT hZ (hw _ (List.mem_of_getElem? (i := 4) rfl))) (mvT hZ (hw _ (List.mem_of_getElem? (i := 5) rfl))) (by decide) (backOf (W := 0) (rm1 l Z a0 hw [] ch b1 (2 : Int32) k1 (6 : Int32) [(.int p3), (.int p3), (.int p3), (.int p3), (.int p3), (.int p3)] h7 n0 Z7 V7 ge_b1 (by decide) (by decide) (by decide) (by decide) (Nat.le_of_ble_eq_true rfl) (Nat.le_of_ble_eq_true rfl)) hZ (hw _ (List.mem_of_getElem? (i := 5) rfl)) (hw _ (List.mem_of_getElem? (i := 4) rfl)) (by decide) (by decide)) (g := (mkF m 49 #[.val (.int p1), .val (.int p2), .val (.int p3), .val (.int ch), .val (.int (2 : Int32)), .val (.ref b1), .unset, .unset, .unset, .unset, .unset] [(.int (2 : Int32)), (.ref b1), (.int ch)])) rfl (by rw [hml]; rfl) (argsL := [(.int ch), (.ref b1), (.int (2 : Int32))]) (rest := []) (lenOf pd_0_0 rfl) rfl (by show 2 * 0 + _ ≤ _; exact Nat.le_of_eq rfl) (hb hby at_49) (fun _ _ => ⟨rfl, e7, (by decide : 1 + 0 ≤ _), (by decide : 6 + 0 ≤ _)⟩)
        dsimp only [Pt.U, Pt.locs, Pt.cells, Pt.slots] at X138 l138 y138 z138 st138 hQ138
        subst l138 y138 z138
        obtain ⟨rfl, N138q, K138, o138⟩ := hQ138
        have N138 := Fr.app N7 N138q
        have Z138 : n0 ≤ T138.heap.size := Nat.le_trans Z7 K138.1
        refine own_st st138 ?_
        show own_Fin _ _ _ _ _ _ _ (T138.setTop (mkF m 52 #[.val (.int p1), .val (.int p2), .val (.int p3), .val (.int ch), .val (.int (2 : Int32)), .val (.ref b1), .unset, .unset, .unset, .unset, .unset] [(.int (own_wr ch (2 : Int32)))]))
        have Vx138 : Arv Z T138.heap b1 k1 .int (6 : Int32) [(.int p3), (.int p3), (.int (ch + (1 : Int32))), (.int p3), (.int p3), (.int p3)] (.int (0 : Int32)) := by have q := o138; unfold own_wv at q; rw [if_neg hA, if_neg hB] at q; exact q
        have rx138 : (own_wr ch (2 : Int32)) = (3 : Int32) := by unfold own_wr; rw [if_neg hA, if_neg hB]; rfl
        rw [rx138]
        show own_Fin _ _ _ _ _ _ _ (T138.setTop (mkF m 52 #[.val (.int p1), .val (.int p2), .val (.int p3), .val (.int ch), .val (.int (2 : Int32)), .val (.ref b1), .unset, .unset, .unset, .unset, .unset] [(.int (3 : Int32))]))
        refine own_st (fun t k => XS.istore X138.here hx rfl (hb hby at_52) rfl (l' := #[.val (.int p1), .val (.int p2), .val (.int p3), .val (.int ch), .val (.int (2 : Int32)), .val (.ref b1), .val (.int (3 : Int32)), .unset, .unset, .unset, .unset]) rfl k) ?_
        show own_Fin _ _ _ _ _ _ _ (T138.setTop (mkF m 54 #[.val (.int p1), .val (.int p2), .val (.int p3), .val (.int ch), .val (.int (2 : Int32)), .val (.ref b1), .val (.int (3 : Int32)), .unset, .unset, .unset, .unset] []))
        refine own_st (fun t k => XS.iload X138.here hx rfl (hb hby at_54) rfl k) ?_
        show own_Fin _ _ _ _ _ _ _ (T138.setTop (mkF m 56 #[.val (.int p1), .val (.int p2), .val (.int p3), .val (.int ch), .val (.int (2 : Int32)), .val (.ref b1), .val (.int (3 : Int32)), .unset, .unset, .unset, .unset] [(.int (3 : Int32))]))
        refine own_st (fun t k => XS.iload X138.here hx rfl (hb hby at_56) rfl k) ?_
        show own_Fin _ _ _ _ _ _ _ (T138.setTop (mkF m 58 #[.val (.int p1), .val (.int p2), .val (.int p3), .val (.int ch), .val (.int (2 : Int32)), .val (.ref b1), .val (.int (3 : Int32)), .unset, .unset, .unset, .unset] [(.int (2 : Int32)), (.int (3 : Int32))]))
        refine own_st (fun t k => XS.isub X138.here hx rfl (hb hby at_58) rfl k) ?_
        show own_Fin _ _ _ _ _ _ _ (T138.setTop (mkF m 59 #[.val (.int p1), .val (.int p2), .val (.int p3), .val (.int ch), .val (.int (2 : Int32)), .val (.ref b1), .val (.int (3 : Int32)), .unset, .unset, .unset, .unset] [(.int (1 : Int32))]))
        refine own_st (fun t k => XS.istore X138.here hx rfl (hb hby at_59) rfl (l' := #[.val (.int p1), .val (.int p2), .val (.int p3), .val (.int ch), .val (.int (2 : Int32)), .val (.ref b1), .val (.int (3 : Int32)), .val (.int (1 : Int32)), .unset, .unset, .unset]) rfl k) ?_
        show own_Fin _ _ _ _ _ _ _ (T138.setTop (mkF m 61 #[.val (.int p1), .val (.int p2), .val (.int p3), .val (.int ch), .val (.int (2 : Int32)), .val (.ref b1), .val (.int (3 : Int32)), .val (.int (1 : Int32)), .unset, .unset, .unset] []))
        refine own_st (fun t k => XS.iload X138.here hx rfl (hb hby at_61) rfl k) ?_
        show own_Fin _ _ _ _ _ _ _ (T138.setTop (mkF m 63 #[.val (.int p1), .val (.int p2), .val (.int p3), .val (.int ch), .val (.int (2 : Int32)), .val (.ref b1), .val (.int (3 : Int32)), .val (.int (1 : Int32)), .unset, .unset, .unset] [(.int (1 : Int32))]))
        refine own_st (fun t k => XS.iconst X138.here hx rfl (hb hby at_63) k) ?_
        show own_Fin _ _ _ _ _ _ _ (T138.setTop (mkF m 64 #[.val (.int p1), .val (.int p2), .val (.int p3), .val (.int ch), .val (.int (2 : Int32)), .val (.ref b1), .val (.int (3 : Int32)), .val (.int (1 : Int32)), .unset, .unset, .unset] [(.int (1 : Int32)), (.int (1 : Int32))]))
        refine own_st (fun t k => XS.icmpNo X138.here hx rfl (hb hby at_64) rfl (flt (by decide : ¬ ((1 : Int32) < (1 : Int32)))).1 k) ?_
        show own_Fin _ _ _ _ _ _ _ (T138.setTop (mkF m 67 #[.val (.int p1), .val (.int p2), .val (.int p3), .val (.int ch), .val (.int (2 : Int32)), .val (.ref b1), .val (.int (3 : Int32)), .val (.int (1 : Int32)), .unset, .unset, .unset] []))
        refine own_st (fun t k => XS.iload X138.here hx rfl (hb hby at_67) rfl k) ?_
        show own_Fin _ _ _ _ _ _ _ (T138.setTop (mkF m 69 #[.val (.int p1), .val (.int p2), .val (.int p3), .val (.int ch), .val (.int (2 : Int32)), .val (.ref b1), .val (.int (3 : Int32)), .val (.int (1 : Int32)), .unset, .unset, .unset] [(.int (1 : Int32))]))
        refine own_st (fun t k => XS.iconst X138.here hx rfl (hb hby at_69) k) ?_
        show own_Fin _ _ _ _ _ _ _ (T138.setTop (mkF m 70 #[.val (.int p1), .val (.int p2), .val (.int p3), .val (.int ch), .val (.int (2 : Int32)), .val (.ref b1), .val (.int (3 : Int32)), .val (.int (1 : Int32)), .unset, .unset, .unset] [(.int (2 : Int32)), (.int (1 : Int32))]))
        refine own_st (fun t k => XS.icmpYes X138.here hx rfl (pc0 := 70) (pc' := 75) rfl (hb hby at_70) rfl (flt (by decide : ¬ ((2 : Int32) < (1 : Int32)))).2.2.2 (by decide) (by decide) k) ?_
        show own_Fin _ _ _ _ _ _ _ (T138.setTop (mkF m 75 #[.val (.int p1), .val (.int p2), .val (.int p3), .val (.int ch), .val (.int (2 : Int32)), .val (.ref b1), .val (.int (3 : Int32)), .val (.int (1 : Int32)), .unset, .unset, .unset] []))
        refine own_st (fun t k => XS.aload X138.here hx rfl (hb hby at_75) rfl rfl k) ?_
        show own_Fin _ _ _ _ _ _ _ (T138.setTop (mkF m 77 #[.val (.int p1), .val (.int p2), .val (.int p3), .val (.int ch), .val (.int (2 : Int32)), .val (.ref b1), .val (.int (3 : Int32)), .val (.int (1 : Int32)), .unset, .unset, .unset] [(.ref b1)]))
        refine own_st (fun t k => XS.iload X138.here hx rfl (hb hby at_77) rfl k) ?_
        show own_Fin _ _ _ _ _ _ _ (T138.setTop (mkF m 79 #[.val (.int p1), .val (.int p2), .val (.int p3), .val (.int ch), .val (.int (2 : Int32)), .val (.ref b1), .val (.int (3 : Int32)), .val (.int (1 : Int32)), .unset, .unset, .unset] [(.int (2 : Int32)), (.ref b1)]))
        obtain ⟨cl139, Ar139, Cq139, Sz139, Mn139, Hs139, Gf139⟩ := id Vx138
        have hin139 := inb_of Sz139 (j := (2 : Int32)) ⟨by decide, by decide⟩
        refine own_st (X138.iaload hx (j := (2 : Int32)) (v := (.int (ch + (1 : Int32)))) Ar139.1 (State.isArrayOf_alike hZ.alike Ar139.2.1) Ar139.2.2 hin139 (Hs139.at hin139 rfl) (g := (mkF m 79 #[.val (.int p1), .val (.int p2), .val (.int p3), .val (.int ch), .val (.int (2 : Int32)), .val (.ref b1), .val (.int (3 : Int32)), .val (.int (1 : Int32)), .unset, .unset, .unset] [(.int (2 : Int32)), (.ref b1)])) rfl rfl (hb hby at_79)) ?_
        show own_Fin _ _ _ _ _ _ _ (T138.setTop (mkF m 80 #[.val (.int p1), .val (.int p2), .val (.int p3), .val (.int ch), .val (.int (2 : Int32)), .val (.ref b1), .val (.int (3 : Int32)), .val (.int (1 : Int32)), .unset, .unset, .unset] [(.int (ch + (1 : Int32)))]))
        refine own_st (fun t k => XS.istore X138.here hx rfl (hb hby at_80) rfl (l' := #[.val (.int p1), .val (.int p2), .val (.int p3), .val (.int ch), .val (.int (2 : Int32)), .val (.ref b1), .val (.int (3 : Int32)), .val (.int (1 : Int32)), .val (.int (ch + (1 : Int32))), .unset, .unset]) rfl k) ?_
        show own_Fin _ _ _ _ _ _ _ (T138.setTop (mkF m 82 #[.val (.int p1), .val (.int p2), .val (.int p3), .val (.int ch), .val (.int (2 : Int32)), .val (.ref b1), .val (.int (3 : Int32)), .val (.int (1 : Int32)), .val (.int (ch + (1 : Int32))), .unset, .unset] []))
        refine own_st (fun t k => XS.iload X138.here hx rfl (hb hby at_82) rfl k) ?_
        show own_Fin _ _ _ _ _ _ _ (T138.setTop (mkF m 84 #[.val (.int p1), .val (.int p2), .val (.int p3), .val (.int ch), .val (.int (2 : Int32)), .val (.ref b1), .val (.int (3 : Int32)), .val (.int (1 : Int32)), .val (.int (ch + (1 : Int32))), .unset, .unset] [(.int (ch + (1 : Int32)))]))
        refine own_st (fun t k => XS.iconst X138.here hx rfl (hb hby at_84) k) ?_
        show own_Fin _ _ _ _ _ _ _ (T138.setTop (mkF m 85 #[.val (.int p1), .val (.int p2), .val (.int p3), .val (.int ch), .val (.int (2 : Int32)), .val (.ref b1), .val (.int (3 : Int32)), .val (.int (1 : Int32)), .val (.int (ch + (1 : Int32))), .unset, .unset] [(.int (1 : Int32)), (.int (ch + (1 : Int32)))]))
        have hd85_140 : ¬ ((ch + (1 : Int32)) < (1 : Int32)) := (own_lo hc0.1 hB).1
        refine own_st (fun t k => XS.icmpNo X138.here hx rfl (hb hby at_85) rfl (flt hd85_140).1 k) ?_
        show own_Fin _ _ _ _ _ _ _ (T138.setTop (mkF m 88 #[.val (.int p1), .val (.int p2), .val (.int p3), .val (.int ch), .val (.int (2 : Int32)), .val (.ref b1), .val (.int (3 : Int32)), .val (.int (1 : Int32)), .val (.int (ch + (1 : Int32))), .unset, .unset] []))
        refine own_st (fun t k => XS.iload X138.here hx rfl (hb hby at_88) rfl k) ?_
        show own_Fin _ _ _ _ _ _ _ (T138.setTop (mkF m 90 #[.val (.int p1), .val (.int p2), .val (.int p3), .val (.int ch), .val (.int (2 : Int32)), .val (.ref b1), .val (.int (3 : Int32)), .val (.int (1 : Int32)), .val (.int (ch + (1 : Int32))), .unset, .unset] [(.int (ch + (1 : Int32)))]))
        refine own_st (fun t k => XS.sipush X138.here hx rfl (hb hby at_90) k) ?_
        show own_Fin _ _ _ _ _ _ _ (T138.setTop (mkF m 93 #[.val (.int p1), .val (.int p2), .val (.int p3), .val (.int ch), .val (.int (2 : Int32)), .val (.ref b1), .val (.int (3 : Int32)), .val (.int (1 : Int32)), .val (.int (ch + (1 : Int32))), .unset, .unset] [(.int (128 : Int32)), (.int (ch + (1 : Int32)))]))
        have hd93_141 : ¬ ((128 : Int32) < (ch + (1 : Int32))) := (own_lo hc0.1 hB).2.1
        refine own_st (fun t k => XS.icmpNo X138.here hx rfl (hb hby at_93) rfl (flt hd93_141).2.2.1 k) ?_
        show own_Fin _ _ _ _ _ _ _ (T138.setTop (mkF m 96 #[.val (.int p1), .val (.int p2), .val (.int p3), .val (.int ch), .val (.int (2 : Int32)), .val (.ref b1), .val (.int (3 : Int32)), .val (.int (1 : Int32)), .val (.int (ch + (1 : Int32))), .unset, .unset] []))
        refine own_st (fun t k => XS.iload X138.here hx rfl (hb hby at_96) rfl k) ?_
        show own_Fin _ _ _ _ _ _ _ (T138.setTop (mkF m 98 #[.val (.int p1), .val (.int p2), .val (.int p3), .val (.int ch), .val (.int (2 : Int32)), .val (.ref b1), .val (.int (3 : Int32)), .val (.int (1 : Int32)), .val (.int (ch + (1 : Int32))), .unset, .unset] [(.int (1 : Int32))]))
        refine own_st (fun t k => XS.iconst X138.here hx rfl (hb hby at_98) k) ?_
        show own_Fin _ _ _ _ _ _ _ (T138.setTop (mkF m 99 #[.val (.int p1), .val (.int p2), .val (.int p3), .val (.int ch), .val (.int (2 : Int32)), .val (.ref b1), .val (.int (3 : Int32)), .val (.int (1 : Int32)), .val (.int (ch + (1 : Int32))), .unset, .unset] [(.int (1 : Int32)), (.int (1 : Int32))]))
        refine own_st (fun t k => XS.icmpYes X138.here hx rfl (pc0 := 99) (pc' := 104) rfl (hb hby at_99) rfl (teq (by decide : (1 : Int32) = (1 : Int32))).1 (by decide) (by decide) k) ?_
        show own_Fin _ _ _ _ _ _ _ (T138.setTop (mkF m 104 #[.val (.int p1), .val (.int p2), .val (.int p3), .val (.int ch), .val (.int (2 : Int32)), .val (.ref b1), .val (.int (3 : Int32)), .val (.int (1 : Int32)), .val (.int (ch + (1 : Int32))), .unset, .unset] []))
        refine own_st (fun t k => XS.iload X138.here hx rfl (hb hby at_104) rfl k) ?_
        show own_Fin _ _ _ _ _ _ _ (T138.setTop (mkF m 106 #[.val (.int p1), .val (.int p2), .val (.int p3), .val (.int ch), .val (.int (2 : Int32)), .val (.ref b1), .val (.int (3 : Int32)), .val (.int (1 : Int32)), .val (.int (ch + (1 : Int32))), .unset, .unset] [(.int (ch + (1 : Int32)))]))
        refine own_st (fun t k => XS.iconst X138.here hx rfl (hb hby at_106) k) ?_
        show own_Fin _ _ _ _ _ _ _ (T138.setTop (mkF m 107 #[.val (.int p1), .val (.int p2), .val (.int p3), .val (.int ch), .val (.int (2 : Int32)), .val (.ref b1), .val (.int (3 : Int32)), .val (.int (1 : Int32)), .val (.int (ch + (1 : Int32))), .unset, .unset] [(.int (1 : Int32)), (.int (ch + (1 : Int32)))]))
        refine own_st (fun t k => XS.isub X138.here hx rfl (hb hby at_107) rfl k) ?_
        show own_Fin _ _ _ _ _ _ _ (T138.setTop (mkF m 108 #[.val (.int p1), .val (.int p2), .val (.int p3), .val (.int ch), .val (.int (2 : Int32)), .val (.ref b1), .val (.int (3 : Int32)), .val (.int (1 : Int32)), .val (.int (ch + (1 : Int32))), .unset, .unset] [(.int ((ch + (1 : Int32)) - (1 : Int32)))]))
        refine own_st (fun t k => XS.istore X138.here hx rfl (hb hby at_108) rfl (l' := #[.val (.int p1), .val (.int p2), .val (.int p3), .val (.int ch), .val (.int (2 : Int32)), .val (.ref b1), .val (.int (3 : Int32)), .val (.int (1 : Int32)), .val (.int (ch + (1 : Int32))), .val (.int ((ch + (1 : Int32)) - (1 : Int32))), .unset]) rfl k) ?_
        show own_Fin _ _ _ _ _ _ _ (T138.setTop (mkF m 110 #[.val (.int p1), .val (.int p2), .val (.int p3), .val (.int ch), .val (.int (2 : Int32)), .val (.ref b1), .val (.int (3 : Int32)), .val (.int (1 : Int32)), .val (.int (ch + (1 : Int32))), .val (.int ((ch + (1 : Int32)) - (1 : Int32))), .unset] []))
        refine own_st (fun t k => XS.goto X138.here hx rfl (pc0 := 110) (pc' := 193) rfl (hb hby at_110) (by decide) (by decide) k) ?_
        show own_Fin _ _ _ _ _ _ _ (T138.setTop (mkF m 193 #[.val (.int p1), .val (.int p2), .val (.int p3), .val (.int ch), .val (.int (2 : Int32)), .val (.ref b1), .val (.int (3 : Int32)), .val (.int (1 : Int32)), .val (.int (ch + (1 : Int32))), .val (.int ((ch + (1 : Int32)) - (1 : Int32))), .unset] []))
        refine own_st (fun t k => XS.iload X138.here hx rfl (hb hby at_193) rfl k) ?_
        show own_Fin _ _ _ _ _ _ _ (T138.setTop (mkF m 195 #[.val (.int p1), .val (.int p2), .val (.int p3), .val (.int ch), .val (.int (2 : Int32)), .val (.ref b1), .val (.int (3 : Int32)), .val (.int (1 : Int32)), .val (.int (ch + (1 : Int32))), .val (.int ((ch + (1 : Int32)) - (1 : Int32))), .unset] [(.int ((ch + (1 : Int32)) - (1 : Int32)))]))
        refine own_st (fun t k => XS.iloadN X138.here hx rfl (hb hby at_195) rfl k) ?_
        show own_Fin _ _ _ _ _ _ _ (T138.setTop (mkF m 196 #[.val (.int p1), .val (.int p2), .val (.int p3), .val (.int ch), .val (.int (2 : Int32)), .val (.ref b1), .val (.int (3 : Int32)), .val (.int (1 : Int32)), .val (.int (ch + (1 : Int32))), .val (.int ((ch + (1 : Int32)) - (1 : Int32))), .unset] [(.int ch), (.int ((ch + (1 : Int32)) - (1 : Int32)))]))
        have hd196_142 : ((ch + (1 : Int32)) - (1 : Int32)) = ch := (own_lo hc0.1 hB).2.2
        refine own_st (fun t k => XS.icmpNo X138.here hx rfl (hb hby at_196) rfl (teq hd196_142).2 k) ?_
        show own_Fin _ _ _ _ _ _ _ (T138.setTop (mkF m 199 #[.val (.int p1), .val (.int p2), .val (.int p3), .val (.int ch), .val (.int (2 : Int32)), .val (.ref b1), .val (.int (3 : Int32)), .val (.int (1 : Int32)), .val (.int (ch + (1 : Int32))), .val (.int ((ch + (1 : Int32)) - (1 : Int32))), .unset] []))
        refine own_st (fun t k => XS.aload X138.here hx rfl (hb hby at_199) rfl rfl k) ?_
        show own_Fin _ _ _ _ _ _ _ (T138.setTop (mkF m 201 #[.val (.int p1), .val (.int p2), .val (.int p3), .val (.int ch), .val (.int (2 : Int32)), .val (.ref b1), .val (.int (3 : Int32)), .val (.int (1 : Int32)), .val (.int (ch + (1 : Int32))), .val (.int ((ch + (1 : Int32)) - (1 : Int32))), .unset] [(.ref b1)]))
        refine own_st (fun t k => XS.iconst X138.here hx rfl (hb hby at_201) k) ?_
        show own_Fin _ _ _ _ _ _ _ (T138.setTop (mkF m 202 #[.val (.int p1), .val (.int p2), .val (.int p3), .val (.int ch), .val (.int (2 : Int32)), .val (.ref b1), .val (.int (3 : Int32)), .val (.int (1 : Int32)), .val (.int (ch + (1 : Int32))), .val (.int ((ch + (1 : Int32)) - (1 : Int32))), .unset] [(.int (0 : Int32)), (.ref b1)]))
        refine own_st (fun t k => XS.iload X138.here hx rfl (hb hby at_202) rfl k) ?_
        show own_Fin _ _ _ _ _ _ _ (T138.setTop (mkF m 204 #[.val (.int p1), .val (.int p2), .val (.int p3), .val (.int ch), .val (.int (2 : Int32)), .val (.ref b1), .val (.int (3 : Int32)), .val (.int (1 : Int32)), .val (.int (ch + (1 : Int32))), .val (.int ((ch + (1 : Int32)) - (1 : Int32))), .unset] [(.int (2 : Int32)), (.int (0 : Int32)), (.ref b1)]))
        refine own_st (fun t k => XS.iload X138.here hx rfl (hb hby at_204) rfl k) ?_
        show own_Fin _ _ _ _ _ _ _ (T138.setTop (mkF m 206 #[.val (.int p1), .val (.int p2), .val (.int p3), .val (.int ch), .val (.int (2 : Int32)), .val (.ref b1), .val (.int (3 : Int32)), .val (.int (1 : Int32)), .val (.int (ch + (1 : Int32))), .val (.int ((ch + (1 : Int32)) - (1 : Int32))), .unset] [(.int (3 : Int32)), (.int (2 : Int32)), (.int (0 : Int32)), (.ref b1)]))
        refine own_st (fun t k => XS.iloadN X138.here hx rfl (hb hby at_206) rfl k) ?_
        show own_Fin _ _ _ _ _ _ _ (T138.setTop (mkF m 207 #[.val (.int p1), .val (.int p2), .val (.int p3), .val (.int ch), .val (.int (2 : Int32)), .val (.ref b1), .val (.int (3 : Int32)), .val (.int (1 : Int32)), .val (.int (ch + (1 : Int32))), .val (.int ((ch + (1 : Int32)) - (1 : Int32))), .unset] [(.int p3), (.int (3 : Int32)), (.int (2 : Int32)), (.int (0 : Int32)), (.ref b1)]))
        obtain ⟨_, _, ⟨T143, L143, k143, n143⟩, -, X143, ⟨Lc143, hQ143, l143, y143, z143⟩, st143⟩ := Jvm.LawKit.callS X138 hx (y := (⟨"com/example/quietzone/quietzone/datamatrix/AsciiEncodationWritePinLaw", "untouched", "([IIIII)Z"⟩ : MethodName)) hown (mvT hZ (hw _ (List.mem_of_getElem? (i := 6) rfl))) (mvT hZ (hw _ (List.mem_of_getElem? (i := 7) rfl))) (mvT hZ (hw _ (List.mem_of_getElem? (i := 8) rfl))) (mvT hZ (hw _ (List.mem_of_getElem? (i := 9) rfl))) (by decide) (backOf (W := 0) (rm2 l Z a0 hw [] b1 (0 : Int32) (2 : Int32) (3 : Int32) p3 k1 (6 : Int32) [(.int p3), (.int p3), (.int (ch + (1 : Int32))), (.int p3), (.int p3), (.int p3)] p3 T138.heap n0 Z138 Vx138 (by decide) (by decide) rfl) hZ (hw _ (List.mem_of_getElem? (i := 9) rfl)) (hw _ (List.mem_of_getElem? (i := 8) rfl)) (by decide) (by decide)) (g := (mkF m 207 #[.val (.int p1), .val (.int p2), .val (.int p3), .val (.int ch), .val (.int (2 : Int32)), .val (.ref b1), .val (.int (3 : Int32)), .val (.int (1 : Int32)), .val (.int (ch + (1 : Int32))), .val (.int ((ch + (1 : Int32)) - (1 : Int32))), .unset] [(.int p3), (.int (3 : Int32)), (.int (2 : Int32)), (.int (0 : Int32)), (.ref b1)])) rfl (by rw [hml]; rfl) (argsL := [(.ref b1), (.int (0 : Int32)), (.int (2 : Int32)), (.int (3 : Int32)), (.int p3)]) (rest := []) (lenOf pd_0_1 rfl) rfl (by show 2 * 0 + _ ≤ _; exact Nat.le_of_eq rfl) (hb hby at_207) (fun _ _ => ⟨rfl, rfl, (by decide : 1 + 0 ≤ _), (by decide : 6 + 0 ≤ _)⟩)
        dsimp only [Pt.U, Pt.locs, Pt.cells, Pt.slots] at X143 l143 y143 z143 st143 hQ143
        subst l143 y143 z143
        obtain ⟨rfl, N143q, e143⟩ := hQ143
        have N143 := Fr.app N138 N143q
        refine own_st st143 ?_
        show own_Fin _ _ _ _ _ _ _ (T143.setTop (mkF m 210 #[.val (.int p1), .val (.int p2), .val (.int p3), .val (.int ch), .val (.int (2 : Int32)), .val (.ref b1), .val (.int (3 : Int32)), .val (.int (1 : Int32)), .val (.int (ch + (1 : Int32))), .val (.int ((ch + (1 : Int32)) - (1 : Int32))), .unset] [(.int (own_un (0 : Int32) (2 : Int32) (3 : Int32) p3 p3))]))
        have hd210_144 : ¬ ((own_un (0 : Int32) (2 : Int32) (3 : Int32) p3 p3) = (0 : Int32)) := by unfold own_un; simp
        refine own_st (fun t k => XS.ifNo X143.here hx rfl (hb hby at_210) rfl ((if0 _ _).trans (feq hd210_144).1) k) ?_
        show own_Fin _ _ _ _ _ _ _ (T143.setTop (mkF m 213 #[.val (.int p1), .val (.int p2), .val (.int p3), .val (.int ch), .val (.int (2 : Int32)), .val (.ref b1), .val (.int (3 : Int32)), .val (.int (1 : Int32)), .val (.int (ch + (1 : Int32))), .val (.int ((ch + (1 : Int32)) - (1 : Int32))), .unset] []))
        refine own_st (fun t k => XS.aload X143.here hx rfl (hb hby at_213) rfl rfl k) ?_
        show own_Fin _ _ _ _ _ _ _ (T143.setTop (mkF m 215 #[.val (.int p1), .val (.int p2), .val (.int p3), .val (.int ch), .val (.int (2 : Int32)), .val (.ref b1), .val (.int (3 : Int32)), .val (.int (1 : Int32)), .val (.int (ch + (1 : Int32))), .val (.int ((ch + (1 : Int32)) - (1 : Int32))), .unset] [(.ref b1)]))
        refine own_st (fun t k => XS.iconst X143.here hx rfl (hb hby at_215) k) ?_
        show own_Fin _ _ _ _ _ _ _ (T143.setTop (mkF m 216 #[.val (.int p1), .val (.int p2), .val (.int p3), .val (.int ch), .val (.int (2 : Int32)), .val (.ref b1), .val (.int (3 : Int32)), .val (.int (1 : Int32)), .val (.int (ch + (1 : Int32))), .val (.int ((ch + (1 : Int32)) - (1 : Int32))), .unset] [(.int (1 : Int32)), (.ref b1)]))
        refine own_st (fun t k => XS.iload X143.here hx rfl (hb hby at_216) rfl k) ?_
        show own_Fin _ _ _ _ _ _ _ (T143.setTop (mkF m 218 #[.val (.int p1), .val (.int p2), .val (.int p3), .val (.int ch), .val (.int (2 : Int32)), .val (.ref b1), .val (.int (3 : Int32)), .val (.int (1 : Int32)), .val (.int (ch + (1 : Int32))), .val (.int ((ch + (1 : Int32)) - (1 : Int32))), .unset] [(.int (2 : Int32)), (.int (1 : Int32)), (.ref b1)]))
        refine own_st (fun t k => XS.iload X143.here hx rfl (hb hby at_218) rfl k) ?_
        show own_Fin _ _ _ _ _ _ _ (T143.setTop (mkF m 220 #[.val (.int p1), .val (.int p2), .val (.int p3), .val (.int ch), .val (.int (2 : Int32)), .val (.ref b1), .val (.int (3 : Int32)), .val (.int (1 : Int32)), .val (.int (ch + (1 : Int32))), .val (.int ((ch + (1 : Int32)) - (1 : Int32))), .unset] [(.int (3 : Int32)), (.int (2 : Int32)), (.int (1 : Int32)), (.ref b1)]))
        refine own_st (fun t k => XS.iloadN X143.here hx rfl (hb hby at_220) rfl k) ?_
        show own_Fin _ _ _ _ _ _ _ (T143.setTop (mkF m 221 #[.val (.int p1), .val (.int p2), .val (.int p3), .val (.int ch), .val (.int (2 : Int32)), .val (.ref b1), .val (.int (3 : Int32)), .val (.int (1 : Int32)), .val (.int (ch + (1 : Int32))), .val (.int ((ch + (1 : Int32)) - (1 : Int32))), .unset] [(.int p3), (.int (3 : Int32)), (.int (2 : Int32)), (.int (1 : Int32)), (.ref b1)]))
        obtain ⟨_, _, ⟨T145, L145, k145, n145⟩, -, X145, ⟨Lc145, hQ145, l145, y145, z145⟩, st145⟩ := Jvm.LawKit.callS X143 hx (y := (⟨"com/example/quietzone/quietzone/datamatrix/AsciiEncodationWritePinLaw", "untouched", "([IIIII)Z"⟩ : MethodName)) hown (mvT hZ (hw _ (List.mem_of_getElem? (i := 6) rfl))) (mvT hZ (hw _ (List.mem_of_getElem? (i := 7) rfl))) (mvT hZ (hw _ (List.mem_of_getElem? (i := 8) rfl))) (mvT hZ (hw _ (List.mem_of_getElem? (i := 9) rfl))) (by decide) (backOf (W := 0) (rm2 l Z a0 hw [] b1 (1 : Int32) (2 : Int32) (3 : Int32) p3 k1 (6 : Int32) [(.int p3), (.int p3), (.int (ch + (1 : Int32))), (.int p3), (.int p3), (.int p3)] p3 T138.heap n0 Z138 Vx138 (by decide) (by decide) rfl) hZ (hw _ (List.mem_of_getElem? (i := 9) rfl)) (hw _ (List.mem_of_getElem? (i := 8) rfl)) (by decide) (by decide)) (g := (mkF m 221 #[.val (.int p1), .val (.int p2), .val (.int p3), .val (.int ch), .val (.int (2 : Int32)), .val (.ref b1), .val (.int (3 : Int32)), .val (.int (1 : Int32)), .val (.int (ch + (1 : Int32))), .val (.int ((ch + (1 : Int32)) - (1 : Int32))), .unset] [(.int p3), (.int (3 : Int32)), (.int (2 : Int32)), (.int (1 : Int32)), (.ref b1)])) rfl (by rw [hml]; rfl) (argsL := [(.ref b1), (.int (1 : Int32)), (.int (2 : Int32)), (.int (3 : Int32)), (.int p3)]) (rest := []) (lenOf pd_0_1 rfl) rfl (by show 2 * 0 + _ ≤ _; exact Nat.le_of_eq rfl) (hb hby at_221) (fun _ _ => ⟨rfl, e143, (by decide : 1 + 0 ≤ _), (by decide : 6 + 0 ≤ _)⟩)
        dsimp only [Pt.U, Pt.locs, Pt.cells, Pt.slots] at X145 l145 y145 z145 st145 hQ145
        subst l145 y145 z145
        obtain ⟨rfl, N145q, e145⟩ := hQ145
        have N145 := Fr.app N143 N145q
        refine own_st st145 ?_
        show own_Fin _ _ _ _ _ _ _ (T145.setTop (mkF m 224 #[.val (.int p1), .val (.int p2), .val (.int p3), .val (.int ch), .val (.int (2 : Int32)), .val (.ref b1), .val (.int (3 : Int32)), .val (.int (1 : Int32)), .val (.int (ch + (1 : Int32))), .val (.int ((ch + (1 : Int32)) - (1 : Int32))), .unset] [(.int (own_un (1 : Int32) (2 : Int32) (3 : Int32) p3 p3))]))
        have hd224_146 : ¬ ((own_un (1 : Int32) (2 : Int32) (3 : Int32) p3 p3) = (0 : Int32)) := by unfold own_un; simp
        refine own_st (fun t k => XS.ifNo X145.here hx rfl (hb hby at_224) rfl ((if0 _ _).trans (feq hd224_146).1) k) ?_
        show own_Fin _ _ _ _ _ _ _ (T145.setTop (mkF m 227 #[.val (.int p1), .val (.int p2), .val (.int p3), .val (.int ch), .val (.int (2 : Int32)), .val (.ref b1), .val (.int (3 : Int32)), .val (.int (1 : Int32)), .val (.int (ch + (1 : Int32))), .val (.int ((ch + (1 : Int32)) - (1 : Int32))), .unset] []))
        refine own_st (fun t k => XS.aload X145.here hx rfl (hb hby at_227) rfl rfl k) ?_
        show own_Fin _ _ _ _ _ _ _ (T145.setTop (mkF m 229 #[.val (.int p1), .val (.int p2), .val (.int p3), .val (.int ch), .val (.int (2 : Int32)), .val (.ref b1), .val (.int (3 : Int32)), .val (.int (1 : Int32)), .val (.int (ch + (1 : Int32))), .val (.int ((ch + (1 : Int32)) - (1 : Int32))), .unset] [(.ref b1)]))
        refine own_st (fun t k => XS.iconst X145.here hx rfl (hb hby at_229) k) ?_
        show own_Fin _ _ _ _ _ _ _ (T145.setTop (mkF m 230 #[.val (.int p1), .val (.int p2), .val (.int p3), .val (.int ch), .val (.int (2 : Int32)), .val (.ref b1), .val (.int (3 : Int32)), .val (.int (1 : Int32)), .val (.int (ch + (1 : Int32))), .val (.int ((ch + (1 : Int32)) - (1 : Int32))), .unset] [(.int (2 : Int32)), (.ref b1)]))
        refine own_st (fun t k => XS.iload X145.here hx rfl (hb hby at_230) rfl k) ?_
        show own_Fin _ _ _ _ _ _ _ (T145.setTop (mkF m 232 #[.val (.int p1), .val (.int p2), .val (.int p3), .val (.int ch), .val (.int (2 : Int32)), .val (.ref b1), .val (.int (3 : Int32)), .val (.int (1 : Int32)), .val (.int (ch + (1 : Int32))), .val (.int ((ch + (1 : Int32)) - (1 : Int32))), .unset] [(.int (2 : Int32)), (.int (2 : Int32)), (.ref b1)]))
        refine own_st (fun t k => XS.iload X145.here hx rfl (hb hby at_232) rfl k) ?_
        show own_Fin _ _ _ _ _ _ _ (T145.setTop (mkF m 234 #[.val (.int p1), .val (.int p2), .val (.int p3), .val (.int ch), .val (.int (2 : Int32)), .val (.ref b1), .val (.int (3 : Int32)), .val (.int (1 : Int32)), .val (.int (ch + (1 : Int32))), .val (.int ((ch + (1 : Int32)) - (1 : Int32))), .unset] [(.int (3 : Int32)), (.int (2 : Int32)), (.int (2 : Int32)), (.ref b1)]))
        refine own_st (fun t k => XS.iloadN X145.here hx rfl (hb hby at_234) rfl k) ?_
        show own_Fin _ _ _ _ _ _ _ (T145.setTop (mkF m 235 #[.val (.int p1), .val (.int p2), .val (.int p3), .val (.int ch), .val (.int (2 : Int32)), .val (.ref b1), .val (.int (3 : Int32)), .val (.int (1 : Int32)), .val (.int (ch + (1 : Int32))), .val (.int ((ch + (1 : Int32)) - (1 : Int32))), .unset] [(.int p3), (.int (3 : Int32)), (.int (2 : Int32)), (.int (2 : Int32)), (.ref b1)]))
        obtain ⟨_, _, ⟨T147, L147, k147, n147⟩, -, X147, ⟨Lc147, hQ147, l147, y147, z147⟩, st147⟩ := Jvm.LawKit.callS X145 hx (y := (⟨"com/example/quietzone/quietzone/datamatrix/AsciiEncodationWritePinLaw", "untouched", "([IIIII)Z"⟩ : MethodName)) hown (mvT hZ (hw _ (List.mem_of_getElem? (i := 6) rfl))) (mvT hZ (hw _ (List.mem_of_getElem? (i := 7) rfl))) (mvT hZ (hw _ (List.mem_of_getElem? (i := 8) rfl))) (mvT hZ (hw _ (List.mem_of_getElem? (i := 9) rfl))) (by decide) (backOf (W := 0) (rm2 l Z a0 hw [] b1 (2 : Int32) (2 : Int32) (3 : Int32) p3 k1 (6 : Int32) [(.int p3), (.int p3), (.int (ch + (1 : Int32))), (.int p3), (.int p3), (.int p3)] (ch + (1 : Int32)) T138.heap n0 Z138 Vx138 (by decide) (by decide) rfl) hZ (hw _ (List.mem_of_getElem? (i := 9) rfl)) (hw _ (List.mem_of_getElem? (i := 8) rfl)) (by decide) (by decide)) (g := (mkF m 235 #[.val (.int p1), .val (.int p2), .val (.int p3), .val (.int ch), .val (.int (2 : Int32)), .val (.ref b1), .val (.int (3 : Int32)), .val (.int (1 : Int32)), .val (.int (ch + (1 : Int32))), .val (.int ((ch + (1 : Int32)) - (1 : Int32))), .unset] [(.int p3), (.int (3 : Int32)), (.int (2 : Int32)), (.int (2 : Int32)), (.ref b1)])) rfl (by rw [hml]; rfl) (argsL := [(.ref b1), (.int (2 : Int32)), (.int (2 : Int32)), (.int (3 : Int32)), (.int p3)]) (rest := []) (lenOf pd_0_1 rfl) rfl (by show 2 * 0 + _ ≤ _; exact Nat.le_of_eq rfl) (hb hby at_235) (fun _ _ => ⟨rfl, e145, (by decide : 1 + 0 ≤ _), (by decide : 6 + 0 ≤ _)⟩)
        dsimp only [Pt.U, Pt.locs, Pt.cells, Pt.slots] at X147 l147 y147 z147 st147 hQ147
        subst l147 y147 z147
        obtain ⟨rfl, N147q, e147⟩ := hQ147
        have N147 := Fr.app N145 N147q
        refine own_st st147 ?_
        show own_Fin _ _ _ _ _ _ _ (T147.setTop (mkF m 238 #[.val (.int p1), .val (.int p2), .val (.int p3), .val (.int ch), .val (.int (2 : Int32)), .val (.ref b1), .val (.int (3 : Int32)), .val (.int (1 : Int32)), .val (.int (ch + (1 : Int32))), .val (.int ((ch + (1 : Int32)) - (1 : Int32))), .unset] [(.int (own_un (2 : Int32) (2 : Int32) (3 : Int32) p3 (ch + (1 : Int32))))]))
        have hd238_148 : ¬ ((own_un (2 : Int32) (2 : Int32) (3 : Int32) p3 (ch + (1 : Int32))) = (0 : Int32)) := by unfold own_un; simp
        refine own_st (fun t k => XS.ifNo X147.here hx rfl (hb hby at_238) rfl ((if0 _ _).trans (feq hd238_148).1) k) ?_
        show own_Fin _ _ _ _ _ _ _ (T147.setTop (mkF m 241 #[.val (.int p1), .val (.int p2), .val (.int p3), .val (.int ch), .val (.int (2 : Int32)), .val (.ref b1), .val (.int (3 : Int32)), .val (.int (1 : Int32)), .val (.int (ch + (1 : Int32))), .val (.int ((ch + (1 : Int32)) - (1 : Int32))), .unset] []))
        refine own_st (fun t k => XS.aload X147.here hx rfl (hb hby at_241) rfl rfl k) ?_
        show own_Fin _ _ _ _ _ _ _ (T147.setTop (mkF m 243 #[.val (.int p1), .val (.int p2), .val (.int p3), .val (.int ch), .val (.int (2 : Int32)), .val (.ref b1), .val (.int (3 : Int32)), .val (.int (1 : Int32)), .val (.int (ch + (1 : Int32))), .val (.int ((ch + (1 : Int32)) - (1 : Int32))), .unset] [(.ref b1)]))
        refine own_st (fun t k => XS.iconst X147.here hx rfl (hb hby at_243) k) ?_
        show own_Fin _ _ _ _ _ _ _ (T147.setTop (mkF m 244 #[.val (.int p1), .val (.int p2), .val (.int p3), .val (.int ch), .val (.int (2 : Int32)), .val (.ref b1), .val (.int (3 : Int32)), .val (.int (1 : Int32)), .val (.int (ch + (1 : Int32))), .val (.int ((ch + (1 : Int32)) - (1 : Int32))), .unset] [(.int (3 : Int32)), (.ref b1)]))
        refine own_st (fun t k => XS.iload X147.here hx rfl (hb hby at_244) rfl k) ?_
        show own_Fin _ _ _ _ _ _ _ (T147.setTop (mkF m 246 #[.val (.int p1), .val (.int p2), .val (.int p3), .val (.int ch), .val (.int (2 : Int32)), .val (.ref b1), .val (.int (3 : Int32)), .val (.int (1 : Int32)), .val (.int (ch + (1 : Int32))), .val (.int ((ch + (1 : Int32)) - (1 : Int32))), .unset] [(.int (2 : Int32)), (.int (3 : Int32)), (.ref b1)]))
        refine own_st (fun t k => XS.iload X147.here hx rfl (hb hby at_246) rfl k) ?_
        show own_Fin _ _ _ _ _ _ _ (T147.setTop (mkF m 248 #[.val (.int p1), .val (.int p2), .val (.int p3), .val (.int ch), .val (.int (2 : Int32)), .val (.ref b1), .val (.int (3 : Int32)), .val (.int (1 : Int32)), .val (.int (ch + (1 : Int32))), .val (.int ((ch + (1 : Int32)) - (1 : Int32))), .unset] [(.int (3 : Int32)), (.int (2 : Int32)), (.int (3 : Int32)), (.ref b1)]))
        refine own_st (fun t k => XS.iloadN X147.here hx rfl (hb hby at_248) rfl k) ?_
        show own_Fin _ _ _ _ _ _ _ (T147.setTop (mkF m 249 #[.val (.int p1), .val (.int p2), .val (.int p3), .val (.int ch), .val (.int (2 : Int32)), .val (.ref b1), .val (.int (3 : Int32)), .val (.int (1 : Int32)), .val (.int (ch + (1 : Int32))), .val (.int ((ch + (1 : Int32)) - (1 : Int32))), .unset] [(.int p3), (.int (3 : Int32)), (.int (2 : Int32)), (.int (3 : Int32)), (.ref b1)]))
        obtain ⟨_, _, ⟨T149, L149, k149, n149⟩, -, X149, ⟨Lc149, hQ149, l149, y149, z149⟩, st149⟩ := Jvm.LawKit.callS X147 hx (y := (⟨"com/example/quietzone/quietzone/datamatrix/AsciiEncodationWritePinLaw", "untouched", "([IIIII)Z"⟩ : MethodName)) hown (mvT hZ (hw _ (List.mem_of_getElem? (i := 6) rfl))) (mvT hZ (hw _ (List.mem_of_getElem? (i := 7) rfl))) (mvT hZ (hw _ (List.mem_of_getElem? (i := 8) rfl))) (mvT hZ (hw _ (List.mem_of_getElem? (i := 9) rfl))) (by decide) (backOf (W := 0) (rm2 l Z a0 hw [] b1 (3 : Int32) (2 : Int32) (3 : Int32) p3 k1 (6 : Int32) [(.int p3), (.int p3), (.int (ch + (1 : Int32))), (.int p3), (.int p3), (.int p3)] p3 T138.heap n0 Z138 Vx138 (by decide) (by decide) rfl) hZ (hw _ (List.mem_of_getElem? (i := 9) rfl)) (hw _ (List.mem_of_getElem? (i := 8) rfl)) (by decide) (by decide)) (g := (mkF m 249 #[.val (.int p1), .val (.int p2), .val (.int p3), .val (.int ch), .val (.int (2 : Int32)), .val (.ref b1), .val (.int (3 : Int32)), .val (.int (1 : Int32)), .val (.int (ch + (1 : Int32))), .val (.int ((ch + (1 : Int32)) - (1 : Int32))), .unset] [(.int p3), (.int (3 : Int32)), (.int (2 : Int32)), (.int (3 : Int32)), (.ref b1)])) rfl (by rw [hml]; rfl) (argsL := [(.ref b1), (.int (3 : Int32)), (.int (2 : Int32)), (.int (3 : Int32)), (.int p3)]) (rest := []) (lenOf pd_0_1 rfl) rfl (by show 2 * 0 + _ ≤ _; exact Nat.le_of_eq rfl) (hb hby at_249) (fun _ _ => ⟨rfl, e147, (by decide : 1 + 0 ≤ _), (by decide : 6 + 0 ≤ _)⟩)
        dsimp only [Pt.U, Pt.locs, Pt.cells, Pt.slots] at X149 l149 y149 z149 st149 hQ149
        subst l149 y149 z149
        obtain ⟨rfl, N149q, e149⟩ := hQ149
        have N149 := Fr.app N147 N149q
        refine own_st st149 ?_
        show own_Fin _ _ _ _ _ _ _ (T149.setTop (mkF m 252 #[.val (.int p1), .val (.int p2), .val (.int p3), .val (.int ch), .val (.int (2 : Int32)), .val (.ref b1), .val (.int (3 : Int32)), .val (.int (1 : Int32)), .val (.int (ch + (1 : Int32))), .val (.int ((ch + (1 : Int32)) - (1 : Int32))), .unset] [(.int (own_un (3 : Int32) (2 : Int32) (3 : Int32) p3 p3))]))
        have hd252_150 : ¬ ((own_un (3 : Int32) (2 : Int32) (3 : Int32) p3 p3) = (0 : Int32)) := by unfold own_un; simp
        refine own_st (fun t k => XS.ifNo X149.here hx rfl (hb hby at_252) rfl ((if0 _ _).trans (feq hd252_150).1) k) ?_
        show own_Fin _ _ _ _ _ _ _ (T149.setTop (mkF m 255 #[.val (.int p1), .val (.int p2), .val (.int p3), .val (.int ch), .val (.int (2 : Int32)), .val (.ref b1), .val (.int (3 : Int32)), .val (.int (1 : Int32)), .val (.int (ch + (1 : Int32))), .val (.int ((ch + (1 : Int32)) - (1 : Int32))), .unset] []))
        refine own_st (fun t k => XS.aload X149.here hx rfl (hb hby at_255) rfl rfl k) ?_
        show own_Fin _ _ _ _ _ _ _ (T149.setTop (mkF m 257 #[.val (.int p1), .val (.int p2), .val (.int p3), .val (.int ch), .val (.int (2 : Int32)), .val (.ref b1), .val (.int (3 : Int32)), .val (.int (1 : Int32)), .val (.int (ch + (1 : Int32))), .val (.int ((ch + (1 : Int32)) - (1 : Int32))), .unset] [(.ref b1)]))
        refine own_st (fun t k => XS.iconst X149.here hx rfl (hb hby at_257) k) ?_
        show own_Fin _ _ _ _ _ _ _ (T149.setTop (mkF m 258 #[.val (.int p1), .val (.int p2), .val (.int p3), .val (.int ch), .val (.int (2 : Int32)), .val (.ref b1), .val (.int (3 : Int32)), .val (.int (1 : Int32)), .val (.int (ch + (1 : Int32))), .val (.int ((ch + (1 : Int32)) - (1 : Int32))), .unset] [(.int (4 : Int32)), (.ref b1)]))
        refine own_st (fun t k => XS.iload X149.here hx rfl (hb hby at_258) rfl k) ?_
        show own_Fin _ _ _ _ _ _ _ (T149.setTop (mkF m 260 #[.val (.int p1), .val (.int p2), .val (.int p3), .val (.int ch), .val (.int (2 : Int32)), .val (.ref b1), .val (.int (3 : Int32)), .val (.int (1 : Int32)), .val (.int (ch + (1 : Int32))), .val (.int ((ch + (1 : Int32)) - (1 : Int32))), .unset] [(.int (2 : Int32)), (.int (4 : Int32)), (.ref b1)]))
        refine own_st (fun t k => XS.iload X149.here hx rfl (hb hby at_260) rfl k) ?_
        show own_Fin _ _ _ _ _ _ _ (T149.setTop (mkF m 262 #[.val (.int p1), .val (.int p2), .val (.int p3), .val (.int ch), .val (.int (2 : Int32)), .val (.ref b1), .val (.int (3 : Int32)), .val (.int (1 : Int32)), .val (.int (ch + (1 : Int32))), .val (.int ((ch + (1 : Int32)) - (1 : Int32))), .unset] [(.int (3 : Int32)), (.int (2 : Int32)), (.int (4 : Int32)), (.ref b1)]))
        refine own_st (fun t k => XS.iloadN X149.here hx rfl (hb hby at_262) rfl k) ?_
        show own_Fin _ _ _ _ _ _ _ (T149.setTop (mkF m 263 #[.val (.int p1), .val (.int p2), .val (.int p3), .val (.int ch), .val (.int (2 : Int32)), .val (.ref b1), .val (.int (3 : Int32)), .val (.int (1 : Int32)), .val (.int (ch + (1 : Int32))), .val (.int ((ch + (1 : Int32)) - (1 : Int32))), .unset] [(.int p3), (.int (3 : Int32)), (.int (2 : Int32)), (.int (4 : Int32)), (.ref b1)]))
        obtain ⟨_, _, ⟨T151, L151, k151, n151⟩, -, X151, ⟨Lc151, hQ151, l151, y151, z151⟩, st151⟩ := Jvm.LawKit.callS X149 hx (y := (⟨"com/example/quietzone/quietzone/datamatrix/AsciiEncodationWritePinLaw", "untouched", "([IIIII)Z"⟩ : MethodName)) hown (mvT hZ (hw _ (List.mem_of_getElem? (i := 6) rfl))) (mvT hZ (hw _ (List.mem_of_getElem? (i := 7) rfl))) (mvT hZ (hw _ (List.mem_of_getElem? (i := 8) rfl))) (mvT hZ (hw _ (List.mem_of_getElem? (i := 9) rfl))) (by decide) (backOf (W := 0) (rm2 l Z a0 hw [] b1 (4 : Int32) (2 : Int32) (3 : Int32) p3 k1 (6 : Int32) [(.int p3), (.int p3), (.int (ch + (1 : Int32))), (.int p3), (.int p3), (.int p3)] p3 T138.heap n0 Z138 Vx138 (by decide) (by decide) rfl) hZ (hw _ (List.mem_of_getElem? (i := 9) rfl)) (hw _ (List.mem_of_getElem? (i := 8) rfl)) (by decide) (by decide)) (g := (mkF m 263 #[.val (.int p1), .val (.int p2), .val (.int p3), .val (.int ch), .val (.int (2 : Int32)), .val (.ref b1), .val (.int (3 : Int32)), .val (.int (1 : Int32)), .val (.int (ch + (1 : Int32))), .val (.int ((ch + (1 : Int32)) - (1 : Int32))), .unset] [(.int p3), (.int (3 : Int32)), (.int (2 : Int32)), (.int (4 : Int32)), (.ref b1)])) rfl (by rw [hml]; rfl) (argsL := [(.ref b1), (.int (4 : Int32)), (.int (2 : Int32)), (.int (3 : Int32)), (.int p3)]) (rest := []) (lenOf pd_0_1 rfl) rfl (by show 2 * 0 + _ ≤ _; exact Nat.le_of_eq rfl) (hb hby at_263) (fun _ _ => ⟨rfl, e149, (by decide : 1 + 0 ≤ _), (by decide : 6 + 0 ≤ _)⟩)
        dsimp only [Pt.U, Pt.locs, Pt.cells, Pt.slots] at X151 l151 y151 z151 st151 hQ151
        subst l151 y151 z151
        obtain ⟨rfl, N151q, e151⟩ := hQ151
        have N151 := Fr.app N149 N151q
        refine own_st st151 ?_
        show own_Fin _ _ _ _ _ _ _ (T151.setTop (mkF m 266 #[.val (.int p1), .val (.int p2), .val (.int p3), .val (.int ch), .val (.int (2 : Int32)), .val (.ref b1), .val (.int (3 : Int32)), .val (.int (1 : Int32)), .val (.int (ch + (1 : Int32))), .val (.int ((ch + (1 : Int32)) - (1 : Int32))), .unset] [(.int (own_un (4 : Int32) (2 : Int32) (3 : Int32) p3 p3))]))
        have hd266_152 : ¬ ((own_un (4 : Int32) (2 : Int32) (3 : Int32) p3 p3) = (0 : Int32)) := by unfold own_un; simp
        refine own_st (fun t k => XS.ifNo X151.here hx rfl (hb hby at_266) rfl ((if0 _ _).trans (feq hd266_152).1) k) ?_
        show own_Fin _ _ _ _ _ _ _ (T151.setTop (mkF m 269 #[.val (.int p1), .val (.int p2), .val (.int p3), .val (.int ch), .val (.int (2 : Int32)), .val (.ref b1), .val (.int (3 : Int32)), .val (.int (1 : Int32)), .val (.int (ch + (1 : Int32))), .val (.int ((ch + (1 : Int32)) - (1 : Int32))), .unset] []))
        refine own_st (fun t k => XS.aload X151.here hx rfl (hb hby at_269) rfl rfl k) ?_
        show own_Fin _ _ _ _ _ _ _ (T151.setTop (mkF m 271 #[.val (.int p1), .val (.int p2), .val (.int p3), .val (.int ch), .val (.int (2 : Int32)), .val (.ref b1), .val (.int (3 : Int32)), .val (.int (1 : Int32)), .val (.int (ch + (1 : Int32))), .val (.int ((ch + (1 : Int32)) - (1 : Int32))), .unset] [(.ref b1)]))
        refine own_st (fun t k => XS.iconst X151.here hx rfl (hb hby at_271) k) ?_
        show own_Fin _ _ _ _ _ _ _ (T151.setTop (mkF m 272 #[.val (.int p1), .val (.int p2), .val (.int p3), .val (.int ch), .val (.int (2 : Int32)), .val (.ref b1), .val (.int (3 : Int32)), .val (.int (1 : Int32)), .val (.int (ch + (1 : Int32))), .val (.int ((ch + (1 : Int32)) - (1 : Int32))), .unset] [(.int (5 : Int32)), (.ref b1)]))
        refine own_st (fun t k => XS.iload X151.here hx rfl (hb hby at_272) rfl k) ?_
        show own_Fin _ _ _ _ _ _ _ (T151.setTop (mkF m 274 #[.val (.int p1), .val (.int p2), .val (.int p3), .val (.int ch), .val (.int (2 : Int32)), .val (.ref b1), .val (.int (3 : Int32)), .val (.int (1 : Int32)), .val (.int (ch + (1 : Int32))), .val (.int ((ch + (1 : Int32)) - (1 : Int32))), .unset] [(.int (2 : Int32)), (.int (5 : Int32)), (.ref b1)]))
        refine own_st (fun t k => XS.iload X151.here hx rfl (hb hby at_274) rfl k) ?_
        show own_Fin _ _ _ _ _ _ _ (T151.setTop (mkF m 276 #[.val (.int p1), .val (.int p2), .val (.int p3), .val (.int ch), .val (.int (2 : Int32)), .val (.ref b1), .val (.int (3 : Int32)), .val (.int (1 : Int32)), .val (.int (ch + (1 : Int32))), .val (.int ((ch + (1 : Int32)) - (1 : Int32))), .unset] [(.int (3 : Int32)), (.int (2 : Int32)), (.int (5 : Int32)), (.ref b1)]))
        refine own_st (fun t k => XS.iloadN X151.here hx rfl (hb hby at_276) rfl k) ?_
        show own_Fin _ _ _ _ _ _ _ (T151.setTop (mkF m 277 #[.val (.int p1), .val (.int p2), .val (.int p3), .val (.int ch), .val (.int (2 : Int32)), .val (.ref b1), .val (.int (3 : Int32)), .val (.int (1 : Int32)), .val (.int (ch + (1 : Int32))), .val (.int ((ch + (1 : Int32)) - (1 : Int32))), .unset] [(.int p3), (.int (3 : Int32)), (.int (2 : Int32)), (.int (5 : Int32)), (.ref b1)]))
        obtain ⟨_, _, ⟨T153, L153, k153, n153⟩, -, X153, ⟨Lc153, hQ153, l153, y153, z153⟩, st153⟩ := Jvm.LawKit.callS X151 hx (y := (⟨"com/example/quietzone/quietzone/datamatrix/AsciiEncodationWritePinLaw", "untouched", "([IIIII)Z"⟩ : MethodName)) hown (mvT hZ (hw _ (List.mem_of_getElem? (i := 6) rfl))) (mvT hZ (hw _ (List.mem_of_getElem? (i := 7) rfl))) (mvT hZ (hw _ (List.mem_of_getElem? (i := 8) rfl))) (mvT hZ (hw _ (List.mem_of_getElem? (i := 9) rfl))) (by decide) (backOf (W := 0) (rm2 l Z a0 hw [] b1 (5 : Int32) (2 : Int32) (3 : Int32) p3 k1 (6 : Int32) [(.int p3), (.int p3), (.int (ch + (1 : Int32))), (.int p3), (.int p3), (.int p3)] p3 T138.heap n0 Z138 Vx138 (by decide) (by decide) rfl) hZ (hw _ (List.mem_of_getElem? (i := 9) rfl)) (hw _ (List.mem_of_getElem? (i := 8) rfl)) (by decide) (by decide)) (g := (mkF m 277 #[.val (.int p1), .val (.int p2), .val (.int p3), .val (.int ch), .val (.int (2 : Int32)), .val (.ref b1), .val (.int (3 : Int32)), .val (.int (1 : Int32)), .val (.int (ch + (1 : Int32))), .val (.int ((ch + (1 : Int32)) - (1 : Int32))), .unset] [(.int p3), (.int (3 : Int32)), (.int (2 : Int32)), (.int (5 : Int32)), (.ref b1)])) rfl (by rw [hml]; rfl) (argsL := [(.ref b1), (.int (5 : Int32)), (.int (2 : Int32)), (.int (3 : Int32)), (.int p3)]) (rest := []) (lenOf pd_0_1 rfl) rfl (by show 2 * 0 + _ ≤ _; exact Nat.le_of_eq rfl) (hb hby at_277) (fun _ _ => ⟨rfl, e151, (by decide : 1 + 0 ≤ _), (by decide : 6 + 0 ≤ _)⟩)
        dsimp only [Pt.U, Pt.locs, Pt.cells, Pt.slots] at X153 l153 y153 z153 st153 hQ153
        subst l153 y153 z153
        obtain ⟨rfl, N153q, e153⟩ := hQ153
        have N153 := Fr.app N151 N153q
        refine own_st st153 ?_
        show own_Fin _ _ _ _ _ _ _ (T153.setTop (mkF m 280 #[.val (.int p1), .val (.int p2), .val (.int p3), .val (.int ch), .val (.int (2 : Int32)), .val (.ref b1), .val (.int (3 : Int32)), .val (.int (1 : Int32)), .val (.int (ch + (1 : Int32))), .val (.int ((ch + (1 : Int32)) - (1 : Int32))), .unset] [(.int (own_un (5 : Int32) (2 : Int32) (3 : Int32) p3 p3))]))
        have hd280_154 : ¬ ((own_un (5 : Int32) (2 : Int32) (3 : Int32) p3 p3) = (0 : Int32)) := by unfold own_un; simp
        refine own_st (fun t k => XS.ifNo X153.here hx rfl (hb hby at_280) rfl ((if0 _ _).trans (feq hd280_154).1) k) ?_
        show own_Fin _ _ _ _ _ _ _ (T153.setTop (mkF m 283 #[.val (.int p1), .val (.int p2), .val (.int p3), .val (.int ch), .val (.int (2 : Int32)), .val (.ref b1), .val (.int (3 : Int32)), .val (.int (1 : Int32)), .val (.int (ch + (1 : Int32))), .val (.int ((ch + (1 : Int32)) - (1 : Int32))), .unset] []))
        refine own_st (fun t k => XS.iconst X153.here hx rfl (hb hby at_283) k) ?_
        show own_Fin _ _ _ _ _ _ _ (T153.setTop (mkF m 284 #[.val (.int p1), .val (.int p2), .val (.int p3), .val (.int ch), .val (.int (2 : Int32)), .val (.ref b1), .val (.int (3 : Int32)), .val (.int (1 : Int32)), .val (.int (ch + (1 : Int32))), .val (.int ((ch + (1 : Int32)) - (1 : Int32))), .unset] [(.int (1 : Int32))]))
        refine own_st (fun t k => XS.goto X153.here hx rfl (pc0 := 284) (pc' := 288) rfl (hb hby at_284) (by decide) (by decide) k) ?_
        show own_Fin _ _ _ _ _ _ _ (T153.setTop (mkF m 288 #[.val (.int p1), .val (.int p2), .val (.int p3), .val (.int ch), .val (.int (2 : Int32)), .val (.ref b1), .val (.int (3 : Int32)), .val (.int (1 : Int32)), .val (.int (ch + (1 : Int32))), .val (.int ((ch + (1 : Int32)) - (1 : Int32))), .unset] [(.int (1 : Int32))]))
        exact own_retN X153 hx Bd.notSynchronized (t := .boolean) Bd.returns (by simp) (hb hby at_288) (by decide) (by decide) ⟨rfl, N153, trivial⟩
  · rw [hat]
    by_cases hA : ch = (256 : Int32)
    · rw [hA]
      show own_Fin _ _ _ _ _ _ _ (T7.setTop (mkF m 44 #[.val (.int p1), .val (.int p2), .val (.int p3), .val (.int (256 : Int32)), .val (.int (3 : Int32)), .val (.ref b1), .unset, .unset, .unset, .unset, .unset] []))
      refine own_st (fun t k => XS.iloadN X7.here hx rfl (hb hby at_44) rfl k) ?_
      show own_Fin _ _ _ _ _ _ _ (T7.setTop (mkF m 45 #[.val (.int p1), .val (.int p2), .val (.int p3), .val (.int (256 : Int32)), .val (.int (3 : Int32)), .val (.ref b1), .unset, .unset, .unset, .unset, .unset] [(.int (256 : Int32))]))
      refine own_st (fun t k => XS.aload X7.here hx rfl (hb hby at_45) rfl rfl k) ?_
      show own_Fin _ _ _ _ _ _ _ (T7.setTop (mkF m 47 #[.val (.int p1), .val (.int p2), .val (.int p3), .val (.int (256 : Int32)), .val (.int (3 : Int32)), .val (.ref b1), .unset, .unset, .unset, .unset, .unset] [(.ref b1), (.int (256 : Int32))]))
      refine own_st (fun t k => XS.iload X7.here hx rfl (hb hby at_47) rfl k) ?_
      show own_Fin _ _ _ _ _ _ _ (T7.setTop (mkF m 49 #[.val (.int p1), .val (.int p2), .val (.int p3), .val (.int (256 : Int32)), .val (.int (3 : Int32)), .val (.ref b1), .unset, .unset, .unset, .unset, .unset] [(.int (3 : Int32)), (.ref b1), (.int (256 : Int32))]))
      obtain ⟨_, _, ⟨T155, L155, k155, n155⟩, -, X155, ⟨Lc155, hQ155, l155, y155, z155⟩, st155⟩ := Jvm.LawKit.callS X7 hx (y := (⟨"com/example/quietzone/quietzone/datamatrix/AsciiEncodation", "write", "(I[II)I"⟩ : MethodName)) hown (mvT hZ (hw _ (List.mem_of_getElem? (i := 2) rfl))) (mvT hZ (hw _ (List.mem_of_getElem? (i := 3) rfl))) (mvT hZ (hw _ (List.mem_of_getElem? (i := 4) rfl))) (mvT hZ (hw _ (List.mem_of_getElem? (i := 5) rfl))) (by decide) (backOf (W := 0) (rm1 l Z a0 hw [] (256 : Int32) b1 (3 : Int32) k1 (6 : Int32) [(.int p3), (.int p3), (.int p3), (.int p3), (.int p3), (.int p3)] h7 n0 Z7 V7 ge_b1 (by decide) (by decide) (by decide) (by decide) (Nat.le_of_ble_eq_true rfl) (Nat.le_of_ble_eq_true rfl)) hZ (hw _ (List.mem_of_getElem? (i := 5) rfl)) (hw _ (List.mem_of_getElem? (i := 4) rfl)) (by decide) (by decide)) (g := (mkF m 49 #[.val (.int p1), .val (.int p2), .val (.int p3), .val (.int (256 : Int32)), .val (.int (3 : Int32)), .val (.ref b1), .unset, .unset, .unset, .unset, .unset] [(.int (3 : Int32)), (.ref b1), (.int (256 : Int32))])) rfl (by rw [hml]; rfl) (argsL := [(.int (256 : Int32)), (.ref b1), (.int (3 : Int32))]) (rest := []) (lenOf pd_0_0 rfl) rfl (by show 2 * 0 + _ ≤ _; exact Nat.le_of_eq rfl) (hb hby at_49) (fun _ _ => ⟨rfl, e7, (by decide : 1 + 0 ≤ _), (by decide : 6 + 0 ≤ _)⟩)
      dsimp only [Pt.U, Pt.locs, Pt.cells, Pt.slots] at X155 l155 y155 z155 st155 hQ155
      subst l155 y155 z155
      obtain ⟨rfl, N155q, K155, o155⟩ := hQ155
      have N155 := Fr.app N7 N155q
      have Z155 : n0 ≤ T155.heap.size := Nat.le_trans Z7 K155.1
      refine own_st st155 ?_
      show own_Fin _ _ _ _ _ _ _ (T155.setTop (mkF m 52 #[.val (.int p1), .val (.int p2), .val (.int p3), .val (.int (256 : Int32)), .val (.int (3 : Int32)), .val (.ref b1), .unset, .unset, .unset, .unset, .unset] [(.int (own_wr (256 : Int32) (3 : Int32)))]))
      have Vx155 : Arv Z T155.heap b1 k1 .int (6 : Int32) [(.int p3), (.int p3), (.int p3), (.int (232 : Int32)), (.int p3), (.int p3)] (.int (0 : Int32)) := by have q := o155; unfold own_wv at q; rw [if_pos (rfl : (256 : Int32) = (256 : Int32))] at q; exact q
      have rx155 : (own_wr (256 : Int32) (3 : Int32)) = (4 : Int32) := by unfold own_wr; rw [if_pos (rfl : (256 : Int32) = (256 : Int32))]; rfl
      rw [rx155]
      show own_Fin _ _ _ _ _ _ _ (T155.setTop (mkF m 52 #[.val (.int p1), .val (.int p2), .val (.int p3), .val (.int (256 : Int32)), .val (.int (3 : Int32)), .val (.ref b1), .unset, .unset, .unset, .unset, .unset] [(.int (4 : Int32))]))
      refine own_st (fun t k => XS.istore X155.here hx rfl (hb hby at_52) rfl (l' := #[.val (.int p1), .val (.int p2), .val (.int p3), .val (.int (256 : Int32)), .val (.int (3 : Int32)), .val (.ref b1), .val (.int (4 : Int32)), .unset, .unset, .unset, .unset]) rfl k) ?_
      show own_Fin _ _ _ _ _ _ _ (T155.setTop (mkF m 54 #[.val (.int p1), .val (.int p2), .val (.int p3), .val (.int (256 : Int32)), .val (.int (3 : Int32)), .val (.ref b1), .val (.int (4 : Int32)), .unset, .unset, .unset, .unset] []))
      refine own_st (fun t k => XS.iload X155.here hx rfl (hb hby at_54) rfl k) ?_
      show own_Fin _ _ _ _ _ _ _ (T155.setTop (mkF m 56 #[.val (.int p1), .val (.int p2), .val (.int p3), .val (.int (256 : Int32)), .val (.int (3 : Int32)), .val (.ref b1), .val (.int (4 : Int32)), .unset, .unset, .unset, .unset] [(.int (4 : Int32))]))
      refine own_st (fun t k => XS.iload X155.here hx rfl (hb hby at_56) rfl k) ?_
      show own_Fin _ _ _ _ _ _ _ (T155.setTop (mkF m 58 #[.val (.int p1), .val (.int p2), .val (.int p3), .val (.int (256 : Int32)), .val (.int (3 : Int32)), .val (.ref b1), .val (.int (4 : Int32)), .unset, .unset, .unset, .unset] [(.int (3 : Int32)), (.int (4 : Int32))]))
      refine own_st (fun t k => XS.isub X155.here hx rfl (hb hby at_58) rfl k) ?_
      show own_Fin _ _ _ _ _ _ _ (T155.setTop (mkF m 59 #[.val (.int p1), .val (.int p2), .val (.int p3), .val (.int (256 : Int32)), .val (.int (3 : Int32)), .val (.ref b1), .val (.int (4 : Int32)), .unset, .unset, .unset, .unset] [(.int (1 : Int32))]))
      refine own_st (fun t k => XS.istore X155.here hx rfl (hb hby at_59) rfl (l' := #[.val (.int p1), .val (.int p2), .val (.int p3), .val (.int (256 : Int32)), .val (.int (3 : Int32)), .val (.ref b1), .val (.int (4 : Int32)), .val (.int (1 : Int32)), .unset, .unset, .unset]) rfl k) ?_
      show own_Fin _ _ _ _ _ _ _ (T155.setTop (mkF m 61 #[.val (.int p1), .val (.int p2), .val (.int p3), .val (.int (256 : Int32)), .val (.int (3 : Int32)), .val (.ref b1), .val (.int (4 : Int32)), .val (.int (1 : Int32)), .unset, .unset, .unset] []))
      refine own_st (fun t k => XS.iload X155.here hx rfl (hb hby at_61) rfl k) ?_
      show own_Fin _ _ _ _ _ _ _ (T155.setTop (mkF m 63 #[.val (.int p1), .val (.int p2), .val (.int p3), .val (.int (256 : Int32)), .val (.int (3 : Int32)), .val (.ref b1), .val (.int (4 : Int32)), .val (.int (1 : Int32)), .unset, .unset, .unset] [(.int (1 : Int32))]))
      refine own_st (fun t k => XS.iconst X155.here hx rfl (hb hby at_63) k) ?_
      show own_Fin _ _ _ _ _ _ _ (T155.setTop (mkF m 64 #[.val (.int p1), .val (.int p2), .val (.int p3), .val (.int (256 : Int32)), .val (.int (3 : Int32)), .val (.ref b1), .val (.int (4 : Int32)), .val (.int (1 : Int32)), .unset, .unset, .unset] [(.int (1 : Int32)), (.int (1 : Int32))]))
      refine own_st (fun t k => XS.icmpNo X155.here hx rfl (hb hby at_64) rfl (flt (by decide : ¬ ((1 : Int32) < (1 : Int32)))).1 k) ?_
      show own_Fin _ _ _ _ _ _ _ (T155.setTop (mkF m 67 #[.val (.int p1), .val (.int p2), .val (.int p3), .val (.int (256 : Int32)), .val (.int (3 : Int32)), .val (.ref b1), .val (.int (4 : Int32)), .val (.int (1 : Int32)), .unset, .unset, .unset] []))
      refine own_st (fun t k => XS.iload X155.here hx rfl (hb hby at_67) rfl k) ?_
      show own_Fin _ _ _ _ _ _ _ (T155.setTop (mkF m 69 #[.val (.int p1), .val (.int p2), .val (.int p3), .val (.int (256 : Int32)), .val (.int (3 : Int32)), .val (.ref b1), .val (.int (4 : Int32)), .val (.int (1 : Int32)), .unset, .unset, .unset] [(.int (1 : Int32))]))
      refine own_st (fun t k => XS.iconst X155.here hx rfl (hb hby at_69) k) ?_
      show own_Fin _ _ _ _ _ _ _ (T155.setTop (mkF m 70 #[.val (.int p1), .val (.int p2), .val (.int p3), .val (.int (256 : Int32)), .val (.int (3 : Int32)), .val (.ref b1), .val (.int (4 : Int32)), .val (.int (1 : Int32)), .unset, .unset, .unset] [(.int (2 : Int32)), (.int (1 : Int32))]))
      refine own_st (fun t k => XS.icmpYes X155.here hx rfl (pc0 := 70) (pc' := 75) rfl (hb hby at_70) rfl (flt (by decide : ¬ ((2 : Int32) < (1 : Int32)))).2.2.2 (by decide) (by decide) k) ?_
      show own_Fin _ _ _ _ _ _ _ (T155.setTop (mkF m 75 #[.val (.int p1), .val (.int p2), .val (.int p3), .val (.int (256 : Int32)), .val (.int (3 : Int32)), .val (.ref b1), .val (.int (4 : Int32)), .val (.int (1 : Int32)), .unset, .unset, .unset] []))
      refine own_st (fun t k => XS.aload X155.here hx rfl (hb hby at_75) rfl rfl k) ?_
      show own_Fin _ _ _ _ _ _ _ (T155.setTop (mkF m 77 #[.val (.int p1), .val (.int p2), .val (.int p3), .val (.int (256 : Int32)), .val (.int (3 : Int32)), .val (.ref b1), .val (.int (4 : Int32)), .val (.int (1 : Int32)), .unset, .unset, .unset] [(.ref b1)]))
      refine own_st (fun t k => XS.iload X155.here hx rfl (hb hby at_77) rfl k) ?_
      show own_Fin _ _ _ _ _ _ _ (T155.setTop (mkF m 79 #[.val (.int p1), .val (.int p2), .val (.int p3), .val (.int (256 : Int32)), .val (.int (3 : Int32)), .val (.ref b1), .val (.int (4 : Int32)), .val (.int (1 : Int32)), .unset, .unset, .unset] [(.int (3 : Int32)), (.ref b1)]))
      obtain ⟨cl156, Ar156, Cq156, Sz156, Mn156, Hs156, Gf156⟩ := id Vx155
      have hin156 := inb_of Sz156 (j := (3 : Int32)) ⟨by decide, by decide⟩
      refine own_st (X155.iaload hx (j := (3 : Int32)) (v := (.int (232 : Int32))) Ar156.1 (State.isArrayOf_alike hZ.alike Ar156.2.1) Ar156.2.2 hin156 (Hs156.at hin156 rfl) (g := (mkF m 79 #[.val (.int p1), .val (.int p2), .val (.int p3), .val (.int (256 : Int32)), .val (.int (3 : Int32)), .val (.ref b1), .val (.int (4 : Int32)), .val (.int (1 : Int32)), .unset, .unset, .unset] [(.int (3 : Int32)), (.ref b1)])) rfl rfl (hb hby at_79)) ?_
      show own_Fin _ _ _ _ _ _ _ (T155.setTop (mkF m 80 #[.val (.int p1), .val (.int p2), .val (.int p3), .val (.int (256 : Int32)), .val (.int (3 : Int32)), .val (.ref b1), .val (.int (4 : Int32)), .val (.int (1 : Int32)), .unset, .unset, .unset] [(.int (232 : Int32))]))
      refine own_st (fun t k => XS.istore X155.here hx rfl (hb hby at_80) rfl (l' := #[.val (.int p1), .val (.int p2), .val (.int p3), .val (.int (256 : Int32)), .val (.int (3 : Int32)), .val (.ref b1), .val (.int (4 : Int32)), .val (.int (1 : Int32)), .val (.int (232 : Int32)), .unset, .unset]) rfl k) ?_
      show own_Fin _ _ _ _ _ _ _ (T155.setTop (mkF m 82 #[.val (.int p1), .val (.int p2), .val (.int p3), .val (.int (256 : Int32)), .val (.int (3 : Int32)), .val (.ref b1), .val (.int (4 : Int32)), .val (.int (1 : Int32)), .val (.int (232 : Int32)), .unset, .unset] []))
      refine own_st (fun t k => XS.iload X155.here hx rfl (hb hby at_82) rfl k) ?_
      show own_Fin _ _ _ _ _ _ _ (T155.setTop (mkF m 84 #[.val (.int p1), .val (.int p2), .val (.int p3), .val (.int (256 : Int32)), .val (.int (3 : Int32)), .val (.ref b1), .val (.int (4 : Int32)), .val (.int (1 : Int32)), .val (.int (232 : Int32)), .unset, .unset] [(.int (232 : Int32))]))
      refine own_st (fun t k => XS.iconst X155.here hx rfl (hb hby at_84) k) ?_
      show own_Fin _ _ _ _ _ _ _ (T155.setTop (mkF m 85 #[.val (.int p1), .val (.int p2), .val (.int p3), .val (.int (256 : Int32)), .val (.int (3 : Int32)), .val (.ref b1), .val (.int (4 : Int32)), .val (.int (1 : Int32)), .val (.int (232 : Int32)), .unset, .unset] [(.int (1 : Int32)), (.int (232 : Int32))]))
      refine own_st (fun t k => XS.icmpNo X155.here hx rfl (hb hby at_85) rfl (flt (by decide : ¬ ((232 : Int32) < (1 : Int32)))).1 k) ?_
      show own_Fin _ _ _ _ _ _ _ (T155.setTop (mkF m 88 #[.val (.int p1), .val (.int p2), .val (.int p3), .val (.int (256 : Int32)), .val (.int (3 : Int32)), .val (.ref b1), .val (.int (4 : Int32)), .val (.int (1 : Int32)), .val (.int (232 : Int32)), .unset, .unset] []))
      refine own_st (fun t k => XS.iload X155.here hx rfl (hb hby at_88) rfl k) ?_
      show own_Fin _ _ _ _ _ _ _ (T155.setTop (mkF m 90 #[.val (.int p1), .val (.int p2), .val (.int p3), .val (.int (256 : Int32)), .val (.int (3 : Int32)), .val (.ref b1), .val (.int (4 : Int32)), .val (.int (1 : Int32)), .val (.int (232 : Int32)), .unset, .unset] [(.int (232 : Int32))]))
      refine own_st (fun t k => XS.sipush X155.here hx rfl (hb hby at_90) k) ?_
      show own_Fin _ _ _ _ _ _ _ (T155.setTop (mkF m 93 #[.val (.int p1), .val (.int p2), .val (.int p3), .val (.int (256 : Int32)), .val (.int (3 : Int32)), .val (.ref b1), .val (.int (4 : Int32)), .val (.int (1 : Int32)), .val (.int (232 : Int32)), .unset, .unset] [(.int (128 : Int32)), (.int (232 : Int32))]))
      refine own_st (fun t k => XS.icmpYes X155.here hx rfl (pc0 := 93) (pc' := 113) rfl (hb hby at_93) rfl (tlt (by decide : (128 : Int32) < (232 : Int32))).2.2.1 (by decide) (by decide) k) ?_
      show own_Fin _ _ _ _ _ _ _ (T155.setTop (mkF m 113 #[.val (.int p1), .val (.int p2), .val (.int p3), .val (.int (256 : Int32)), .val (.int (3 : Int32)), .val (.ref b1), .val (.int (4 : Int32)), .val (.int (1 : Int32)), .val (.int (232 : Int32)), .unset, .unset] []))
      refine own_st (fun t k => XS.iload X155.here hx rfl (hb hby at_113) rfl k) ?_
      show own_Fin _ _ _ _ _ _ _ (T155.setTop (mkF m 115 #[.val (.int p1), .val (.int p2), .val (.int p3), .val (.int (256 : Int32)), .val (.int (3 : Int32)), .val (.ref b1), .val (.int (4 : Int32)), .val (.int (1 : Int32)), .val (.int (232 : Int32)), .unset, .unset] [(.int (232 : Int32))]))
      refine own_st (fun t k => XS.sipush X155.here hx rfl (hb hby at_115) k) ?_
      show own_Fin _ _ _ _ _ _ _ (T155.setTop (mkF m 118 #[.val (.int p1), .val (.int p2), .val (.int p3), .val (.int (256 : Int32)), .val (.int (3 : Int32)), .val (.ref b1), .val (.int (4 : Int32)), .val (.int (1 : Int32)), .val (.int (232 : Int32)), .unset, .unset] [(.int (232 : Int32)), (.int (232 : Int32))]))
      refine own_st (fun t k => XS.icmpNo X155.here hx rfl (hb hby at_118) rfl (teq (by decide : (232 : Int32) = (232 : Int32))).2 k) ?_
      show own_Fin _ _ _ _ _ _ _ (T155.setTop (mkF m 121 #[.val (.int p1), .val (.int p2), .val (.int p3), .val (.int (256 : Int32)), .val (.int (3 : Int32)), .val (.ref b1), .val (.int (4 : Int32)), .val (.int (1 : Int32)), .val (.int (232 : Int32)), .unset, .unset] []))
      refine own_st (fun t k => XS.iload X155.here hx rfl (hb hby at_121) rfl k) ?_
      show own_Fin _ _ _ _ _ _ _ (T155.setTop (mkF m 123 #[.val (.int p1), .val (.int p2), .val (.int p3), .val (.int (256 : Int32)), .val (.int (3 : Int32)), .val (.ref b1), .val (.int (4 : Int32)), .val (.int (1 : Int32)), .val (.int (232 : Int32)), .unset, .unset] [(.int (1 : Int32))]))
      refine own_st (fun t k => XS.iconst X155.here hx rfl (hb hby at_123) k) ?_
      show own_Fin _ _ _ _ _ _ _ (T155.setTop (mkF m 124 #[.val (.int p1), .val (.int p2), .val (.int p3), .val (.int (256 : Int32)), .val (.int (3 : Int32)), .val (.ref b1), .val (.int (4 : Int32)), .val (.int (1 : Int32)), .val (.int (232 : Int32)), .unset, .unset] [(.int (1 : Int32)), (.int (1 : Int32))]))
      refine own_st (fun t k => XS.icmpYes X155.here hx rfl (pc0 := 124) (pc' := 129) rfl (hb hby at_124) rfl (teq (by decide : (1 : Int32) = (1 : Int32))).1 (by decide) (by decide) k) ?_
      show own_Fin _ _ _ _ _ _ _ (T155.setTop (mkF m 129 #[.val (.int p1), .val (.int p2), .val (.int p3), .val (.int (256 : Int32)), .val (.int (3 : Int32)), .val (.ref b1), .val (.int (4 : Int32)), .val (.int (1 : Int32)), .val (.int (232 : Int32)), .unset, .unset] []))
      refine own_st (fun t k => XS.sipush X155.here hx rfl (hb hby at_129) k) ?_
      show own_Fin _ _ _ _ _ _ _ (T155.setTop (mkF m 132 #[.val (.int p1), .val (.int p2), .val (.int p3), .val (.int (256 : Int32)), .val (.int (3 : Int32)), .val (.ref b1), .val (.int (4 : Int32)), .val (.int (1 : Int32)), .val (.int (232 : Int32)), .unset, .unset] [(.int (256 : Int32))]))
      refine own_st (fun t k => XS.istore X155.here hx rfl (hb hby at_132) rfl (l' := #[.val (.int p1), .val (.int p2), .val (.int p3), .val (.int (256 : Int32)), .val (.int (3 : Int32)), .val (.ref b1), .val (.int (4 : Int32)), .val (.int (1 : Int32)), .val (.int (232 : Int32)), .val (.int (256 : Int32)), .unset]) rfl k) ?_
      show own_Fin _ _ _ _ _ _ _ (T155.setTop (mkF m 134 #[.val (.int p1), .val (.int p2), .val (.int p3), .val (.int (256 : Int32)), .val (.int (3 : Int32)), .val (.ref b1), .val (.int (4 : Int32)), .val (.int (1 : Int32)), .val (.int (232 : Int32)), .val (.int (256 : Int32)), .unset] []))
      refine own_st (fun t k => XS.goto X155.here hx rfl (pc0 := 134) (pc' := 193) rfl (hb hby at_134) (by decide) (by decide) k) ?_
      show own_Fin _ _ _ _ _ _ _ (T155.setTop (mkF m 193 #[.val (.int p1), .val (.int p2), .val (.int p3), .val (.int (256 : Int32)), .val (.int (3 : Int32)), .val (.ref b1), .val (.int (4 : Int32)), .val (.int (1 : Int32)), .val (.int (232 : Int32)), .val (.int (256 : Int32)), .unset] []))
      refine own_st (fun t k => XS.iload X155.here hx rfl (hb hby at_193) rfl k) ?_
      show own_Fin _ _ _ _ _ _ _ (T155.setTop (mkF m 195 #[.val (.int p1), .val (.int p2), .val (.int p3), .val (.int (256 : Int32)), .val (.int (3 : Int32)), .val (.ref b1), .val (.int (4 : Int32)), .val (.int (1 : Int32)), .val (.int (232 : Int32)), .val (.int (256 : Int32)), .unset] [(.int (256 : Int32))]))
      refine own_st (fun t k => XS.iloadN X155.here hx rfl (hb hby at_195) rfl k) ?_
      show own_Fin _ _ _ _ _ _ _ (T155.setTop (mkF m 196 #[.val (.int p1), .val (.int p2), .val (.int p3), .val (.int (256 : Int32)), .val (.int (3 : Int32)), .val (.ref b1), .val (.int (4 : Int32)), .val (.int (1 : Int32)), .val (.int (232 : Int32)), .val (.int (256 : Int32)), .unset] [(.int (256 : Int32)), (.int (256 : Int32))]))
      refine own_st (fun t k => XS.icmpNo X155.here hx rfl (hb hby at_196) rfl (teq (by decide : (256 : Int32) = (256 : Int32))).2 k) ?_
      show own_Fin _ _ _ _ _ _ _ (T155.setTop (mkF m 199 #[.val (.int p1), .val (.int p2), .val (.int p3), .val (.int (256 : Int32)), .val (.int (3 : Int32)), .val (.ref b1), .val (.int (4 : Int32)), .val (.int (1 : Int32)), .val (.int (232 : Int32)), .val (.int (256 : Int32)), .unset] []))
      refine own_st (fun t k => XS.aload X155.here hx rfl (hb hby at_199) rfl rfl k) ?_
      show own_Fin _ _ _ _ _ _ _ (T155.setTop (mkF m 201 #[.val (.int p1), .val (.int p2), .val (.int p3), .val (.int (256 : Int32)), .val (.int (3 : Int32)), .val (.ref b1), .val (.int (4 : Int32)), .val (.int (1 : Int32)), .val (.int (232 : Int32)), .val (.int (256 : Int32)), .unset] [(.ref b1)]))
      refine own_st (fun t k => XS.iconst X155.here hx rfl (hb hby at_201) k) ?_
      show own_Fin _ _ _ _ _ _ _ (T155.setTop (mkF m 202 #[.val (.int p1), .val (.int p2), .val (.int p3), .val (.int (256 : Int32)), .val (.int (3 : Int32)), .val (.ref b1), .val (.int (4 : Int32)), .val (.int (1 : Int32)), .val (.int (232 : Int32)), .val (.int (256 : Int32)), .unset] [(.int (0 : Int32)), (.ref b1)]))
      refine own_st (fun t k => XS.iload X155.here hx rfl (hb hby at_202) rfl k) ?_
      show own_Fin _ _ _ _ _ _ _ (T155.setTop (mkF m 204 #[.val (.int p1), .val (.int p2), .val (.int p3), .val (.int (256 : Int32)), .val (.int (3 : Int32)), .val (.ref b1), .val (.int (4 : Int32)), .val (.int (1 : Int32)), .val (.int (232 : Int32)), .val (.int (256 : Int32)), .unset] [(.int (3 : Int32)), (.int (0 : Int32)), (.ref b1)]))
      refine own_st (fun t k => XS.iload X155.here hx rfl (hb hby at_204) rfl k) ?_
      show own_Fin _ _ _ _ _ _ _ (T155.setTop (mkF m 206 #[.val (.int p1), .val (.int p2), .val (.int p3), .val (.int (256 : Int32)), .val (.int (3 : Int32)), .val (.ref b1), .val (.int (4 : Int32)), .val (.int (1 : Int32)), .val (.int (232 : Int32)), .val (.int (256 : Int32)), .unset] [(.int (4 : Int32)), (.int (3 : Int32)), (.int (0 : Int32)), (.ref b1)]))
      refine own_st (fun t k => XS.iloadN X155.here hx rfl (hb hby at_206) rfl k) ?_
      show own_Fin _ _ _ _ _ _ _ (T155.setTop (mkF m 207 #[.val (.int p1), .val (.int p2), .val (.int p3), .val (.int (256 : Int32)), .val (.int (3 : Int32)), .val (.ref b1), .val (.int (4 : Int32)), .val (.int (1 : Int32)), .val (.int (232 : Int32)), .val (.int (256 : Int32)), .unset] [(.int p3), (.int (4 : Int32)), (.int (3 : Int32)), (.int (0 : Int32)), (.ref b1)]))
      obtain ⟨_, _, ⟨T157, L157, k157, n157⟩, -, X157, ⟨Lc157, hQ157, l157, y157, z157⟩, st157⟩ := Jvm.LawKit.callS X155 hx (y := (⟨"com/example/quietzone/quietzone/datamatrix/AsciiEncodationWritePinLaw", "untouched", "([IIIII)Z"⟩ : MethodName)) hown (mvT hZ (hw _ (List.mem_of_getElem? (i := 6) rfl))) (mvT hZ (hw _ (List.mem_of_getElem? (i := 7) rfl))) (mvT hZ (hw _ (List.mem_of_getElem? (i := 8) rfl))) (mvT hZ (hw _ (List.mem_of_getElem? (i := 9) rfl))) (by decide) (backOf (W := 0) (rm2 l Z a0 hw [] b1 (0 : Int32) (3 : Int32) (4 : Int32) p3 k1 (6 : Int32) [(.int p3), (.int p3), (.int p3), (.int (232 : Int32)), (.int p3), (.int p3)] p3 T155.heap n0 Z155 Vx155 (by decide) (by decide) rfl) hZ (hw _ (List.mem_of_getElem? (i := 9) rfl)) (hw _ (List.mem_of_getElem? (i := 8) rfl)) (by decide) (by decide)) (g := (mkF m 207 #[.val (.int p1), .val (.int p2), .val (.int p3), .val (.int (256 : Int32)), .val (.int (3 : Int32)), .val (.ref b1), .val (.int (4 : Int32)), .val (.int (1 : Int32)), .val (.int (232 : Int32)), .val (.int (256 : Int32)), .unset] [(.int p3), (.int (4 : Int32)), (.int (3 : Int32)), (.int (0 : Int32)), (.ref b1)])) rfl (by rw [hml]; rfl) (argsL := [(.ref b1), (.int (0 : Int32)), (.int (3 : Int32)), (.int (4 : Int32)), (.int p3)]) (rest := []) (lenOf pd_0_1 rfl) rfl (by show 2 * 0 + _ ≤ _; exact Nat.le_of_eq rfl) (hb hby at_207) (fun _ _ => ⟨rfl, rfl, (by decide : 1 + 0 ≤ _), (by decide : 6 + 0 ≤ _)⟩)
      dsimp only [Pt.U, Pt.locs, Pt.cells, Pt.slots] at X157 l157 y157 z157 st157 hQ157
      subst l157 y157 z157
      obtain ⟨rfl, N157q, e157⟩ := hQ157
      have N157 := Fr.app N155 N157q
      refine own_st st157 ?_
      show own_Fin _ _ _ _ _ _ _ (T157.setTop (mkF m 210 #[.val (.int p1), .val (.int p2), .val (.int p3), .val (.int (256 : Int32)), .val (.int (3 : Int32)), .val (.ref b1), .val (.int (4 : Int32)), .val (.int (1 : Int32)), .val (.int (232 : Int32)), .val (.int (256 : Int32)), .unset] [(.int (own_un (0 : Int32) (3 : Int32) (4 : Int32) p3 p3))]))
      have hd210_158 : ¬ ((own_un (0 : Int32) (3 : Int32) (4 : Int32) p3 p3) = (0 : Int32)) := by unfold own_un; simp
      refine own_st (fun t k => XS.ifNo X157.here hx rfl (hb hby at_210) rfl ((if0 _ _).trans (feq hd210_158).1) k) ?_
      show own_Fin _ _ _ _ _ _ _ (T157.setTop (mkF m 213 #[.val (.int p1), .val (.int p2), .val (.int p3), .val (.int (256 : Int32)), .val (.int (3 : Int32)), .val (.ref b1), .val (.int (4 : Int32)), .val (.int (1 : Int32)), .val (.int (232 : Int32)), .val (.int (256 : Int32)), .unset] []))
      refine own_st (fun t k => XS.aload X157.here hx rfl (hb hby at_213) rfl rfl k) ?_
      show own_Fin _ _ _ _ _ _ _ (T157.setTop (mkF m 215 #[.val (.int p1), .val (.int p2), .val (.int p3), .val (.int (256 : Int32)), .val (.int (3 : Int32)), .val (.ref b1), .val (.int (4 : Int32)), .val (.int (1 : Int32)), .val (.int (232 : Int32)), .val (.int (256 : Int32)), .unset] [(.ref b1)]))
      refine own_st (fun t k => XS.iconst X157.here hx rfl (hb hby at_215) k) ?_
      show own_Fin _ _ _ _ _ _ _ (T157.setTop (mkF m 216 #[.val (.int p1), .val (.int p2), .val (.int p3), .val (.int (256 : Int32)), .val (.int (3 : Int32)), .val (.ref b1), .val (.int (4 : Int32)), .val (.int (1 : Int32)), .val (.int (232 : Int32)), .val (.int (256 : Int32)), .unset] [(.int (1 : Int32)), (.ref b1)]))
      refine own_st (fun t k => XS.iload X157.here hx rfl (hb hby at_216) rfl k) ?_
      show own_Fin _ _ _ _ _ _ _ (T157.setTop (mkF m 218 #[.val (.int p1), .val (.int p2), .val (.int p3), .val (.int (256 : Int32)), .val (.int (3 : Int32)), .val (.ref b1), .val (.int (4 : Int32)), .val (.int (1 : Int32)), .val (.int (232 : Int32)), .val (.int (256 : Int32)), .unset] [(.int (3 : Int32)), (.int (1 : Int32)), (.ref b1)]))
      refine own_st (fun t k => XS.iload X157.here hx rfl (hb hby at_218) rfl k) ?_
      show own_Fin _ _ _ _ _ _ _ (T157.setTop (mkF m 220 #[.val (.int p1), .val (.int p2), .val (.int p3), .val (.int (256 : Int32)), .val (.int (3 : Int32)), .val (.ref b1), .val (.int (4 : Int32)), .val (.int (1 : Int32)), .val (.int (232 : Int32)), .val (.int (256 : Int32)), .unset] [(.int (4 : Int32)), (.int (3 : Int32)), (.int (1 : Int32)), (.ref b1)]))
      refine own_st (fun t k => XS.iloadN X157.here hx rfl (hb hby at_220) rfl k) ?_
      show own_Fin _ _ _ _ _ _ _ (T157.setTop (mkF m 221 #[.val (.int p1), .val (.int p2), .val (.int p3), .val (.int (256 : Int32)), .val (.int (3 : Int32)), .val (.ref b1), .val (.int (4 : Int32)), .val (.int (1 : Int32)), .val (.int (232 : Int32)), .val (.int (256 : Int32)), .unset] [(.int p3), (.int (4 : Int32)), (.int (3 : Int32)), (.int (1 : Int32)), (.ref b1)]))
      obtain ⟨_, _, ⟨T159, L159, k159, n159⟩, -, X159, ⟨Lc159, hQ159, l159, y159, z159⟩, st159⟩ := Jvm.LawKit.callS X157 hx (y := (⟨"com/example/quietzone/quietzone/datamatrix/AsciiEncodationWritePinLaw", "untouched", "([IIIII)Z"⟩ : MethodName)) hown (mvT hZ (hw _ (List.mem_of_getElem? (i := 6) rfl))) (mvT hZ (hw _ (List.mem_of_getElem? (i := 7) rfl))) (mvT hZ (hw _ (List.mem_of_getElem? (i := 8) rfl))) (mvT hZ (hw _ (List.mem_of_getElem? (i := 9) rfl))) (by decide) (backOf (W := 0) (rm2 l Z a0 hw [] b1 (1 : Int32) (3 : Int32) (4 : Int32) p3 k1 (6 : Int32) [(.int p3), (.int p3), (.int p3), (.int (232 : Int32)), (.int p3), (.int p3)] p3 T155.heap n0 Z155 Vx155 (by decide) (by decide) rfl) hZ (hw _ (List.mem_of_getElem? (i := 9) rfl)) (hw _ (List.mem_of_getElem? (i := 8) rfl)) (by decide) (by decide)) (g := (mkF m 221 #[.val (.int p1), .val (.int p2), .val (.int p3), .val (.int (256 : Int32)), .val (.int (3 : Int32)), .val (.ref b1), .val (.int (4 : Int32)), .val (.int (1 : Int32)), .val (.int (232 : Int32)), .val (.int (256 : Int32)), .unset] [(.int p3), (.int (4 : Int32)), (.int (3 : Int32)), (.int (1 : Int32)), (.ref b1)])) rfl (by rw [hml]; rfl) (argsL := [(.ref b1), (.int (1 : Int32)), (.int (3 : Int32)), (.int (4 : Int32)), (.int p3)]) (rest := []) (lenOf pd_0_1 rfl) rfl (by show 2 * 0 + _ ≤ _; exact Nat.le_of_eq rfl) (hb hby at_221) (fun _ _ => ⟨rfl, e157, (by decide : 1 + 0 ≤ _), (by decide : 6 + 0 ≤ _)⟩)
      dsimp only [Pt.U, Pt.locs, Pt.cells, Pt.slots] at X159 l159 y159 z159 st159 hQ159
      subst l159 y159 z159
      obtain ⟨rfl, N159q, e159⟩ := hQ159
      have N159 := Fr.app N157 N159q
      refine own_st st159 ?_
      show own_Fin _ _ _ _ _ _ _ (T159.setTop (mkF m 224 #[.val (.int p1), .val (.int p2), .val (.int p3), .val (.int (256 : Int32)), .val (.int (3 : Int32)), .val (.ref b1), .val (.int (4 : Int32)), .val (.int (1 : Int32)), .val (.int (232 : Int32)), .val (.int (256 : Int32)), .unset] [(.int (own_un (1 : Int32) (3 : Int32) (4 : Int32) p3 p3))]))
      have hd224_160 : ¬ ((own_un (1 : Int32) (3 : Int32) (4 : Int32) p3 p3) = (0 : Int32)) := by unfold own_un; simp
      refine own_st (fun t k => XS.ifNo X159.here hx rfl (hb hby at_224) rfl ((if0 _ _).trans (feq hd224_160).1) k) ?_
      show own_Fin _ _ _ _ _ _ _ (T159.setTop (mkF m 227 #[.val (.int p1), .val (.int p2), .val (.int p3), .val (.int (256 : Int32)), .val (.int (3 : Int32)), .val (.ref b1), .val (.int (4 : Int32)), .val (.int (1 : Int32)), .val (.int (232 : Int32)), .val (.int (256 : Int32)), .unset] []))
      refine own_st (fun t k => XS.aload X159.here hx rfl (hb hby at_227) rfl rfl k) ?_
      show own_Fin _ _ _ _ _ _ _ (T159.setTop (mkF m 229 #[.val (.int p1), .val (.int p2), .val (.int p3), .val (.int (256 : Int32)), .val (.int (3 : Int32)), .val (.ref b1), .val (.int (4 : Int32)), .val (.int (1 : Int32)), .val (.int (232 : Int32)), .val (.int (256 : Int32)), .unset] [(.ref b1)]))
      refine own_st (fun t k => XS.iconst X159.here hx rfl (hb hby at_229) k) ?_
      show own_Fin _ _ _ _ _ _ _ (T159.setTop (mkF m 230 #[.val (.int p1), .val (.int p2), .val (.int p3), .val (.int (256 : Int32)), .val (.int (3 : Int32)), .val (.ref b1), .val (.int (4 : Int32)), .val (.int (1 : Int32)), .val (.int (232 : Int32)), .val (.int (256 : Int32)), .unset] [(.int (2 : Int32)), (.ref b1)]))
      refine own_st (fun t k => XS.iload X159.here hx rfl (hb hby at_230) rfl k) ?_
      show own_Fin _ _ _ _ _ _ _ (T159.setTop (mkF m 232 #[.val (.int p1), .val (.int p2), .val (.int p3), .val (.int (256 : Int32)), .val (.int (3 : Int32)), .val (.ref b1), .val (.int (4 : Int32)), .val (.int (1 : Int32)), .val (.int (232 : Int32)), .val (.int (256 : Int32)), .unset] [(.int (3 : Int32)), (.int (2 : Int32)), (.ref b1)]))
      refine own_st (fun t k => XS.iload X159.here hx rfl (hb hby at_232) rfl k) ?_
      show own_Fin _ _ _ _ _ _ _ (T159.setTop (mkF m 234 #[.val (.int p1), .val (.int p2), .val (.int p3), .val (.int (256 : Int32)), .val (.int (3 : Int32)), .val (.ref b1), .val (.int (4 : Int32)), .val (.int (1 : Int32)), .val (.int (232 : Int32)), .val (.int (256 : Int32)), .unset] [(.int (4 : Int32)), (.int (3 : Int32)), (.int (2 : Int32)), (.ref b1)]))
      refine own_st (fun t k => XS.iloadN X159.here hx rfl (hb hby at_234) rfl k) ?_
      show own_Fin _ _ _ _ _ _ _ (T159.setTop (mkF m 235 #[.val (.int p1), .val (.int p2), .val (.int p3), .val (.int (256 : Int32)), .val (.int (3 : Int32)), .val (.ref b1), .val (.int (4 : Int32)), .val (.int (1 : Int32)), .val (.int (232 : Int32)), .val (.int (256 : Int32)), .unset] [(.int p3), (.int (4 : Int32)), (.int (3 : Int32)), (.int (2 : Int32)), (.ref b1)]))
      obtain ⟨_, _, ⟨T161, L161, k161, n161⟩, -, X161, ⟨Lc161, hQ161, l161, y161, z161⟩, st161⟩ := Jvm.LawKit.callS X159 hx (y := (⟨"com/example/quietzone/quietzone/datamatrix/AsciiEncodationWritePinLaw", "untouched", "([IIIII)Z"⟩ : MethodName)) hown (mvT hZ (hw _ (List.mem_of_getElem? (i := 6) rfl))) (mvT hZ (hw _ (List.mem_of_getElem? (i := 7) rfl))) (mvT hZ (hw _ (List.mem_of_getElem? (i := 8) rfl))) (mvT hZ (hw _ (List.mem_of_getElem? (i := 9) rfl))) (by decide) (backOf (W := 0) (rm2 l Z a0 hw [] b1 (2 : Int32) (3 : Int32) (4 : Int32) p3 k1 (6 : Int32) [(.int p3), (.int p3), (.int p3), (.int (232 : Int32)), (.int p3), (.int p3)] p3 T155.heap n0 Z155 Vx155 (by decide) (by decide) rfl) hZ (hw _ (List.mem_of_getElem? (i := 9) rfl)) (hw _ (List.mem_of_getElem? (i := 8) rfl)) (by decide) (by decide)) (g := (mkF m 235 #[.val (.int p1), .val (.int p2), .val (.int p3), .val (.int (256 : Int32)), .val (.int (3 : Int32)), .val (.ref b1), .val (.int (4 : Int32)), .val (.int (1 : Int32)), .val (.int (232 : Int32)), .val (.int (256 : Int32)), .unset] [(.int p3), (.int (4 : Int32)), (.int (3 : Int32)), (.int (2 : Int32)), (.ref b1)])) rfl (by rw [hml]; rfl) (argsL := [(.ref b1), (.int (2 : Int32)), (.int (3 : Int32)), (.int (4 : Int32)), (.int p3)]) (rest := []) (lenOf pd_0_1 rfl) rfl (by show 2 * 0 + _ ≤ _; exact Nat.le_of_eq rfl) (hb hby at_235) (fun _ _ => ⟨rfl, e159, (by decide : 1 + 0 ≤ _), (by decide : 6 + 0 ≤ _)⟩)
      dsimp only [Pt.U, Pt.locs, Pt.cells, Pt.slots] at X161 l161 y161 z161 st161 hQ161
      subst l161 y161 z161
      obtain ⟨rfl, N161q, e161⟩ := hQ161
      have N161 := Fr.app N159 N161q
      refine own_st st161 ?_
      show own_Fin _ _ _ _ _ _ _ (T161.setTop (mkF m 238 #[.val (.int p1), .val (.int p2), .val (.int p3), .val (.int (256 : Int32)), .val (.int (3 : Int32)), .val (.ref b1), .val (.int (4 : Int32)), .val (.int (1 : Int32)), .val (.int (232 : Int32)), .val (.int (256 : Int32)), .unset] [(.int (own_un (2 : Int32) (3 : Int32) (4 : Int32) p3 p3))]))
      have hd238_162 : ¬ ((own_un (2 : Int32) (3 : Int32) (4 : Int32) p3 p3) = (0 : Int32)) := by unfold own_un; simp
      refine own_st (fun t k => XS.ifNo X161.here hx rfl (hb hby at_238) rfl ((if0 _ _).trans (feq hd238_162).1) k) ?_
      show own_Fin _ _ _ _ _ _ _ (T161.setTop (mkF m 241 #[.val (.int p1), .val (.int p2), .val (.int p3), .val (.int (256 : Int32)), .val (.int (3 : Int32)), .val (.ref b1), .val (.int (4 : Int32)), .val (.int (1 : Int32)), .val (.int (232 : Int32)), .val (.int (256 : Int32)), .unset] []))
      refine own_st (fun t k => XS.aload X161.here hx rfl (hb hby at_241) rfl rfl k) ?_
      show own_Fin _ _ _ _ _ _ _ (T161.setTop (mkF m 243 #[.val (.int p1), .val (.int p2), .val (.int p3), .val (.int (256 : Int32)), .val (.int (3 : Int32)), .val (.ref b1), .val (.int (4 : Int32)), .val (.int (1 : Int32)), .val (.int (232 : Int32)), .val (.int (256 : Int32)), .unset] [(.ref b1)]))
      refine own_st (fun t k => XS.iconst X161.here hx rfl (hb hby at_243) k) ?_
      show own_Fin _ _ _ _ _ _ _ (T161.setTop (mkF m 244 #[.val (.int p1), .val (.int p2), .val (.int p3), .val (.int (256 : Int32)), .val (.int (3 : Int32)), .val (.ref b1), .val (.int (4 : Int32)), .val (.int (1 : Int32)), .val (.int (232 : Int32)), .val (.int (256 : Int32)), .unset] [(.int (3 : Int32)), (.ref b1)]))
      refine own_st (fun t k => XS.iload X161.here hx rfl (hb hby at_244) rfl k) ?_
      show own_Fin _ _ _ _ _ _ _ (T161.setTop (mkF m 246 #[.val (.int p1), .val (.int p2), .val (.int p3), .val (.int (256 : Int32)), .val (.int (3 : Int32)), .val (.ref b1), .val (.int (4 : Int32)), .val (.int (1 : Int32)), .val (.int (232 : Int32)), .val (.int (256 : Int32)), .unset] [(.int (3 : Int32)), (.int (3 : Int32)), (.ref b1)]))
      refine own_st (fun t k => XS.iload X161.here hx rfl (hb hby at_246) rfl k) ?_
      show own_Fin _ _ _ _ _ _ _ (T161.setTop (mkF m 248 #[.val (.int p1), .val (.int p2), .val (.int p3), .val (.int (256 : Int32)), .val (.int (3 : Int32)), .val (.ref b1), .val (.int (4 : Int32)), .val (.int (1 : Int32)), .val (.int (232 : Int32)), .val (.int (256 : Int32)), .unset] [(.int (4 : Int32)), (.int (3 : Int32)), (.int (3 : Int32)), (.ref b1)]))
      refine own_st (fun t k => XS.iloadN X161.here hx rfl (hb hby at_248) rfl k) ?_
      show own_Fin _ _ _ _ _ _ _ (T161.setTop (mkF m 249 #[.val (.int p1), .val (.int p2), .val (.int p3), .val (.int (256 : Int32)), .val (.int (3 : Int32)), .val (.ref b1), .val (.int (4 : Int32)), .val (.int (1 : Int32)), .val (.int (232 : Int32)), .val (.int (256 : Int32)), .unset] [(.int p3), (.int (4 : Int32)), (.int (3 : Int32)), (.int (3 : Int32)), (.ref b1)]))
      obtain ⟨_, _, ⟨T163, L163, k163, n163⟩, -, X163, ⟨Lc163, hQ163, l163, y163, z163⟩, st163⟩ := Jvm.LawKit.callS X161 hx (y := (⟨"com/example/quietzone/quietzone/datamatrix/AsciiEncodationWritePinLaw", "untouched", "([IIIII)Z"⟩ : MethodName)) hown (mvT hZ (hw _ (List.mem_of_getElem? (i := 6) rfl))) (mvT hZ (hw _ (List.mem_of_getElem? (i := 7) rfl))) (mvT hZ (hw _ (List.mem_of_getElem? (i := 8) rfl))) (mvT hZ (hw _ (List.mem_of_getElem? (i := 9) rfl))) (by decide) (backOf (W := 0) (rm2 l Z a0 hw [] b1 (3 : Int32) (3 : Int32) (4 : Int32) p3 k1 (6 : Int32) [(.int p3), (.int p3), (.int p3), (.int (232 : Int32)), (.int p3), (.int p3)] (232 : Int32) T155.heap n0 Z155 Vx155 (by decide) (by decide) rfl) hZ (hw _ (List.mem_of_getElem? (i := 9) rfl)) (hw _ (List.mem_of_getElem? (i := 8) rfl)) (by decide) (by decide)) (g := (mkF m 249 #[.val (.int p1), .val (.int p2), .val (.int p3), .val (.int (256 : Int32)), .val (.int (3 : Int32)), .val (.ref b1), .val (.int (4 : Int32)), .val (.int (1 : Int32)), .val (.int (232 : Int32)), .val (.int (256 : Int32)), .unset] [(.int p3), (.int (4 : Int32)), (.int (3 : Int32)), (.int (3 : Int32)), (.ref b1)])) rfl (by rw [hml]; rfl) (argsL := [(.ref b1), (.int (3 : Int32)), (.int (3 : Int32)), (.int (4 : Int32)), (.int p3)]) (rest := []) (lenOf pd_0_1 rfl) rfl (by show 2 * 0 + _ ≤ _; exact Nat.le_of_eq rfl) (hb hby at_249) (fun _ _ => ⟨rfl, e161, (by decide : 1 + 0 ≤ _), (by decide : 6 + 0 ≤ _)⟩)
      dsimp only [Pt.U, Pt.locs, Pt.cells, Pt.slots] at X163 l163 y163 z163 st163 hQ163
      subst l163 y163 z163
      obtain ⟨rfl, N163q, e163⟩ := hQ163
      have N163 := Fr.app N161 N163q
      refine own_st st163 ?_
      show own_Fin _ _ _ _ _ _ _ (T163.setTop (mkF m 252 #[.val (.int p1), .val (.int p2), .val (.int p3), .val (.int (256 : Int32)), .val (.int (3 : Int32)), .val (.ref b1), .val (.int (4 : Int32)), .val (.int (1 : Int32)), .val (.int (232 : Int32)), .val (.int (256 : Int32)), .unset] [(.int (own_un (3 : Int32) (3 : Int32) (4 : Int32) p3 (232 : Int32)))]))
      have hd252_164 : ¬ ((own_un (3 : Int32) (3 : Int32) (4 : Int32) p3 (232 : Int32)) = (0 : Int32)) := by unfold own_un; simp
      refine own_st (fun t k => XS.ifNo X163.here hx rfl (hb hby at_252) rfl ((if0 _ _).trans (feq hd252_164).1) k) ?_
      show own_Fin _ _ _ _ _ _ _ (T163.setTop (mkF m 255 #[.val (.int p1), .val (.int p2), .val (.int p3), .val (.int (256 : Int32)), .val (.int (3 : Int32)), .val (.ref b1), .val (.int (4 : Int32)), .val (.int (1 : Int32)), .val (.int (232 : Int32)), .val (.int (256 : Int32)), .unset] []))
      refine own_st (fun t k => XS.aload X163.here hx rfl (hb hby at_255) rfl rfl k) ?_
      show own_Fin _ _ _ _ _ _ _ (T163.setTop (mkF m 257 #[.val (.int p1), .val (.int p2), .val (.int p3), .val (.int (256 : Int32)), .val (.int (3 : Int32)), .val (.ref b1), .val (.int (4 : Int32)), .val (.int (1 : Int32)), .val (.int (232 : Int32)), .val (.int (256 : Int32)), .unset] [(.ref b1)]))
      refine own_st (fun t k => XS.iconst X163.here hx rfl (hb hby at_257) k) ?_
      show own_Fin _ _ _ _ _ _ _ (T163.setTop (mkF m 258 #[.val (.int p1), .val (.int p2), .val (.int p3), .val (.int (256 : Int32)), .val (.int (3 : Int32)), .val (.ref b1), .val (.int (4 : Int32)), .val (.int (1 : Int32)), .val (.int (232 : Int32)), .val (.int (256 : Int32)), .unset] [(.int (4 : Int32)), (.ref b1)]))
      refine own_st (fun t k => XS.iload X163.here hx rfl (hb hby at_258) rfl k) ?_
      show own_Fin _ _ _ _ _ _ _ (T163.setTop (mkF m 260 #[.val (.int p1), .val (.int p2), .val (.int p3), .val (.int (256 : Int32)), .val (.int (3 : Int32)), .val (.ref b1), .val (.int (4 : Int32)), .val (.int (1 : Int32)), .val (.int (232 : Int32)), .val (.int (256 : Int32)), .unset] [(.int (3 : Int32)), (.int (4 : Int32)), (.ref b1)]))
      refine own_st (fun t k => XS.iload X163.here hx rfl (hb hby at_260) rfl k) ?_
      show own_Fin _ _ _ _ _ _ _ (T163.setTop (mkF m 262 #[.val (.int p1), .val (.int p2), .val (.int p3), .val (.int (256 : Int32)), .val (.int (3 : Int32)), .val (.ref b1), .val (.int (4 : Int32)), .val (.int (1 : Int32)), .val (.int (232 : Int32)), .val (.int (256 : Int32)), .unset] [(.int (4 : Int32)), (.int (3 : Int32)), (.int (4 : Int32)), (.ref b1)]))
      refine own_st (fun t k => XS.iloadN X163.here hx rfl (hb hby at_262) rfl k) ?_
      show own_Fin _ _ _ _ _ _ _ (T163.setTop (mkF m 263 #[.val (.int p1), .val (.int p2), .val (.int p3), .val (.int (256 : Int32)), .val (.int (3 : Int32)), .val (.ref b1), .val (.int (4 : Int32)), .val (.int (1 : Int32)), .val (.int (232 : Int32)), .val (.int (256 : Int32)), .unset] [(.int p3), (.int (4 : Int32)), (.int (3 : Int32)), (.int (4 : Int32)), (.ref b1)]))
      obtain ⟨_, _, ⟨T165, L165, k165, n165⟩, -, X165, ⟨Lc165, hQ165, l165, y165, z165⟩, st165⟩ := Jvm.LawKit.callS X163 hx (y := (⟨"com/example/quietzone/quietzone/datamatrix/AsciiEncodationWritePinLaw", "untouched", "([IIIII)Z"⟩ : MethodName)) hown (mvT hZ (hw _ (List.mem_of_getElem? (i := 6) rfl))) (mvT hZ (hw _ (List.mem_of_getElem? (i := 7) rfl))) (mvT hZ (hw _ (List.mem_of_getElem? (i := 8) rfl))) (mvT hZ (hw _ (List.mem_of_getElem? (i := 9) rfl))) (by decide) (backOf (W := 0) (rm2 l Z a0 hw [] b1 (4 : Int32) (3 : Int32) (4 : Int32) p3 k1 (6 : Int32) [(.int p3), (.int p3), (.int p3), (.int (232 : Int32)), (.int p3), (.int p3)] p3 T155.heap n0 Z155 Vx155 (by decide) (by decide) rfl) hZ (hw _ (List.mem_of_getElem? (i := 9) rfl)) (hw _ (List.mem_of_getElem? (i := 8) rfl)) (by decide) (by decide)) (g := (mkF m 263 #[.val (.int p1), .val (.int p2), .val (.int p3), .val (.int (256 : Int32)), .val (.int (3 : Int32)), .val (.ref b1), .val (.int (4 : Int32)), .val (.int (1 : Int32)), .val (.int (232 : Int32)), .val (.int (256 : Int32)), .unset] [(.int p3), (.int (4 : Int32)), (.int (3 : Int32)), (.int (4 : Int32)), (.ref b1)])) rfl (by rw [hml]; rfl) (argsL := [(.ref b1), (.int (4 : Int32)), (.int (3 : Int32)), (.int (4 : Int32)), (.int p3)]) (rest := []) (lenOf pd_0_1 rfl) rfl (by show 2 * 0 + _ ≤ _; exact Nat.le_of_eq rfl) (hb hby at_263) (fun _ _ => ⟨rfl, e163, (by decide : 1 + 0 ≤ _), (by decide : 6 + 0 ≤ _)⟩)
      dsimp only [Pt.U, Pt.locs, Pt.cells, Pt.slots] at X165 l165 y165 z165 st165 hQ165
      subst l165 y165 z165
      obtain ⟨rfl, N165q, e165⟩ := hQ165
      have N165 := Fr.app N163 N165q
      refine own_st st165 ?_
      show own_Fin _ _ _ _ _ _ _ (T165.setTop (mkF m 266 #[.val (.int p1), .val (.int p2), .val (.int p3), .val (.int (256 : Int32)), .val (.int (3 : Int32)), .val (.ref b1), .val (.int (4 : Int32)), .val (.int (1 : Int32)), .val (.int (232 : Int32)), .val (.int (256 : Int32)), .unset] [(.int (own_un (4 : Int32) (3 : Int32) (4 : Int32) p3 p3))]))
      have hd266_166 : ¬ ((own_un (4 : Int32) (3 : Int32) (4 : Int32) p3 p3) = (0 : Int32)) := by unfold own_un; simp
      refine own_st (fun t k => XS.ifNo X165.here hx rfl (hb hby at_266) rfl ((if0 _ _).trans (feq hd266_166).1) k) ?_
      show own_Fin _ _ _ _ _ _ _ (T165.setTop (mkF m 269 #[.val (.int p1), .val (.int p2), .val (.int p3), .val (.int (256 : Int32)), .val (.int (3 : Int32)), .val (.ref b1), .val (.int (4 : Int32)), .val (.int (1 : Int32)), .val (.int (232 : Int32)), .val (.int (256 : Int32)), .unset] []))
      refine own_st (fun t k => XS.aload X165.here hx rfl (hb hby at_269) rfl rfl k) ?_
      show own_Fin _ _ _ _ _ _ _ (T165.setTop (mkF m 271 #[.val (.int p1), .val (.int p2), .val (.int p3), .val (.int (256 : Int32)), .val (.int (3 : Int32)), .val (.ref b1), .val (.int (4 : Int32)), .val (.int (1 : Int32)), .val (.int (232 : Int32)), .val (.int (256 : Int32)), .unset] [(.ref b1)]))
      refine own_st (fun t k => XS.iconst X165.here hx rfl (hb hby at_271) k) ?_
      show own_Fin _ _ _ _ _ _ _ (T165.setTop (mkF m 272 #[.val (.int p1), .val (.int p2), .val (.int p3), .val (.int (256 : Int32)), .val (.int (3 : Int32)), .val (.ref b1), .val (.int (4 : Int32)), .val (.int (1 : Int32)), .val (.int (232 : Int32)), .val (.int (256 : Int32)), .unset] [(.int (5 : Int32)), (.ref b1)]))
      refine own_st (fun t k => XS.iload X165.here hx rfl (hb hby at_272) rfl k) ?_
      show own_Fin _ _ _ _ _ _ _ (T165.setTop (mkF m 274 #[.val (.int p1), .val (.int p2), .val (.int p3), .val (.int (256 : Int32)), .val (.int (3 : Int32)), .val (.ref b1), .val (.int (4 : Int32)), .val (.int (1 : Int32)), .val (.int (232 : Int32)), .val (.int (256 : Int32)), .unset] [(.int (3 : Int32)), (.int (5 : Int32)), (.ref b1)]))
      refine own_st (fun t k => XS.iload X165.here hx rfl (hb hby at_274) rfl k) ?_
      show own_Fin _ _ _ _ _ _ _ (T165.setTop (mkF m 276 #[.val (.int p1), .val (.int p2), .val (.int p3), .val (.int (256 : Int32)), .val (.int (3 : Int32)), .val (.ref b1), .val (.int (4 : Int32)), .val (.int (1 : Int32)), .val (.int (232 : Int32)), .val (.int (256 : Int32)), .unset] [(.int (4 : Int32)), (.int (3 : Int32)), (.int (5 : Int32)), (.ref b1)]))
      refine own_st (fun t k => XS.iloadN X165.here hx rfl (hb hby at_276) rfl k) ?_
      show own_Fin _ _ _ _ _ _ _ (T165.setTop (mkF m 277 #[.val (.int p1), .val (.int p2), .val (.int p3), .val (.int (256 : Int32)), .val (.int (3 : Int32)), .val (.ref b1), .val (.int (4 : Int32)), .val (.int (1 : Int32)), .val (.int (232 : Int32)), .val (.int (256 : Int32)), .unset] [(.int p3), (.int (4 : Int32)), (.int (3 : Int32)), (.int (5 : Int32)), (.ref b1)]))
      obtain ⟨_, _, ⟨T167, L167, k167, n167⟩, -, X167, ⟨Lc167, hQ167, l167, y167, z167⟩, st167⟩ := Jvm.LawKit.callS X165 hx (y := (⟨"com/example/quietzone/quietzone/datamatrix/AsciiEncodationWritePinLaw", "untouched", "([IIIII)Z"⟩ : MethodName)) hown (mvT hZ (hw _ (List.mem_of_getElem? (i := 6) rfl))) (mvT hZ (hw _ (List.mem_of_getElem? (i := 7) rfl))) (mvT hZ (hw _ (List.mem_of_getElem? (i := 8) rfl))) (mvT hZ (hw _ (List.mem_of_getElem? (i := 9) rfl))) (by decide) (backOf (W := 0) (rm2 l Z a0 hw [] b1 (5 : Int32) (3 : Int32) (4 : Int32) p3 k1 (6 : Int32) [(.int p3), (.int p3), (.int p3), (.int (232 : Int32)), (.int p3), (.int p3)] p3 T155.heap n0 Z155 Vx155 (by decide) (by decide) rfl) hZ (hw _ (List.mem_of_getElem? (i := 9) rfl)) (hw _ (List.mem_of_getElem? (i := 8) rfl)) (by decide) (by decide)) (g := (mkF m 277 #[.val (.int p1), .val (.int p2), .val (.int p3), .val (.int (256 : Int32)), .val (.int (3 : Int32)), .val (.ref b1), .val (.int (4 : Int32)), .val (.int (1 : Int32)), .val (.int (232 : Int32)), .val (.int (256 : Int32)), .unset] [(.int p3), (.int (4 : Int32)), (.int (3 : Int32)), (.int (5 : Int32)), (.ref b1)])) rfl (by rw [hml]; rfl) (argsL := [(.ref b1), (.int (5 : Int32)), (.int (3 : Int32)), (.int (4 : Int32)), (.int p3)]) (rest := []) (lenOf pd_0_1 rfl) rfl (by show 2 * 0 + _ ≤ _; exact Nat.le_of_eq rfl) (hb hby at_277) (fun _ _ => ⟨rfl, e165, (by decide : 1 + 0 ≤ _), (by decide : 6 + 0 ≤ _)⟩)
      dsimp only [Pt.U, Pt.locs, Pt.cells, Pt.slots] at X167 l167 y167 z167 st167 hQ167
      subst l167 y167 z167
      obtain ⟨rfl, N167q, e167⟩ := hQ167
      have N167 := Fr.app N165 N167q
      refine own_st st167 ?_
      show own_Fin _ _ _ _ _ _ _ (T167.setTop (mkF m 280 #[.val (.int p1), .val (.int p2), .val (.int p3), .val (.int (256 : Int32)), .val (.int (3 : Int32)), .val (.ref b1), .val (.int (4 : Int32)), .val (.int (1 : Int32)), .val (.int (232 : Int32)), .val (.int (256 : Int32)), .unset] [(.int (own_un (5 : Int32) (3 : Int32) (4 : Int32) p3 p3))]))
      have hd280_168 : ¬ ((own_un (5 : Int32) (3 : Int32) (4 : Int32) p3 p3) = (0 : Int32)) := by unfold own_un; simp
      refine own_st (fun t k => XS.ifNo X167.here hx rfl (hb hby at_280) rfl ((if0 _ _).trans (feq hd280_168).1) k) ?_
      show own_Fin _ _ _ _ _ _ _ (T167.setTop (mkF m 283 #[.val (.int p1), .val (.int p2), .val (.int p3), .val (.int (256 : Int32)), .val (.int (3 : Int32)), .val (.ref b1), .val (.int (4 : Int32)), .val (.int (1 : Int32)), .val (.int (232 : Int32)), .val (.int (256 : Int32)), .unset] []))
      refine own_st (fun t k => XS.iconst X167.here hx rfl (hb hby at_283) k) ?_
      show own_Fin _ _ _ _ _ _ _ (T167.setTop (mkF m 284 #[.val (.int p1), .val (.int p2), .val (.int p3), .val (.int (256 : Int32)), .val (.int (3 : Int32)), .val (.ref b1), .val (.int (4 : Int32)), .val (.int (1 : Int32)), .val (.int (232 : Int32)), .val (.int (256 : Int32)), .unset] [(.int (1 : Int32))]))
      refine own_st (fun t k => XS.goto X167.here hx rfl (pc0 := 284) (pc' := 288) rfl (hb hby at_284) (by decide) (by decide) k) ?_
      show own_Fin _ _ _ _ _ _ _ (T167.setTop (mkF m 288 #[.val (.int p1), .val (.int p2), .val (.int p3), .val (.int (256 : Int32)), .val (.int (3 : Int32)), .val (.ref b1), .val (.int (4 : Int32)), .val (.int (1 : Int32)), .val (.int (232 : Int32)), .val (.int (256 : Int32)), .unset] [(.int (1 : Int32))]))
      exact own_retN X167 hx Bd.notSynchronized (t := .boolean) Bd.returns (by simp) (hb hby at_288) (by decide) (by decide) ⟨rfl, N167, trivial⟩
    · by_cases hB : (127 : Int32) < ch
      · show own_Fin _ _ _ _ _ _ _ (T7.setTop (mkF m 44 #[.val (.int p1), .val (.int p2), .val (.int p3), .val (.int ch), .val (.int (3 : Int32)), .val (.ref b1), .unset, .unset, .unset, .unset, .unset] []))
        refine own_st (fun t k => XS.iloadN X7.here hx rfl (hb hby at_44) rfl k) ?_
        show own_Fin _ _ _ _ _ _ _ (T7.setTop (mkF m 45 #[.val (.int p1), .val (.int p2), .val (.int p3), .val (.int ch), .val (.int (3 : Int32)), .val (.ref b1), .unset, .unset, .unset, .unset, .unset] [(.int ch)]))
        refine own_st (fun t k => XS.aload X7.here hx rfl (hb hby at_45) rfl rfl k) ?_
        show own_Fin _ _ _ _ _ _ _ (T7.setTop (mkF m 47 #[.val (.int p1), .val (.int p2), .val (.int p3), .val (.int ch), .val (.int (3 : Int32)), .val (.ref b1), .unset, .unset, .unset, .unset, .unset] [(.ref b1), (.int ch)]))
        refine own_st (fun t k => XS.iload X7.here hx rfl (hb hby at_47) rfl k) ?_
        show own_Fin _ _ _ _ _ _ _ (T7.setTop (mkF m 49 #[.val (.int p1), .val (.int p2), .val (.int p3), .val (.int ch), .val (.int (3 : Int32)), .val (.ref b1), .unset, .unset, .unset, .unset, .unset] [(.int (3 : Int32)), (.ref b1), (.int ch)]))
        obtain ⟨_, _, ⟨T169, L169, k169, n169⟩, -, X169, ⟨Lc169, hQ169, l169, y169, z169⟩, st169⟩ := Jvm.LawKit.callS X7 hx (y := (⟨"com/example/quietzone/quietzone/datamatrix/AsciiEncodation", "write", "(I[II)I"⟩ : MethodName)) hown (mvT hZ (hw _ (List.mem_of_getElem? (i := 2) rfl))) (mvT hZ (hw _ (List.mem_of_getElem? (i := 3) rfl))) (mvT hZ (hw _ (List.mem_of_getElem? (i := 4) rfl))) (mvT hZ (hw _ (List.mem_of_getElem? (i := 5) rfl))) (by decide) (backOf (W := 0) (rm1 l Z a0 hw [] ch b1 (3 : Int32) k1 (6 : Int32) [(.int p3), (.int p3), (.int p3), (.int p3), (.int p3), (.int p3)] h7 n0 Z7 V7 ge_b1 (by decide) (by decide) (by decide) (by decide) (Nat.le_of_ble_eq_true rfl) (Nat.le_of_ble_eq_true rfl)) hZ (hw _ (List.mem_of_getElem? (i := 5) rfl)) (hw _ (List.mem_of_getElem? (i := 4) rfl)) (by decide) (by decide)) (g := (mkF m 49 #[.val (.int p1), .val (.int p2), .val (.int p3), .val (.int ch), .val (.int (3 : Int32)), .val (.ref b1), .unset, .unset, .unset, .unset, .unset] [(.int (3 : Int32)), (.ref b1), (.int ch)])) rfl (by rw [hml]; rfl) (argsL := [(.int ch), (.ref b1), (.int (3 : Int32))]) (rest := []) (lenOf pd_0_0 rfl) rfl (by show 2 * 0 + _ ≤ _; exact Nat.le_of_eq rfl) (hb hby at_49) (fun _ _ => ⟨rfl, e7, (by decide : 1 + 0 ≤ _), (by decide : 6 + 0 ≤ _)⟩)
        dsimp only [Pt.U, Pt.locs, Pt.cells, Pt.slots] at X169 l169 y169 z169 st169 hQ169
        subst l169 y169 z169
        obtain ⟨rfl, N169q, K169, o169⟩ := hQ169
        have N169 := Fr.app N7 N169q
        have Z169 : n0 ≤ T169.heap.size := Nat.le_trans Z7 K169.1
        refine own_st st169 ?_
        show own_Fin _ _ _ _ _ _ _ (T169.setTop (mkF m 52 #[.val (.int p1), .val (.int p2), .val (.int p3), .val (.int ch), .val (.int (3 : Int32)), .val (.ref b1), .unset, .unset, .unset, .unset, .unset] [(.int (own_wr ch (3 : Int32)))]))
        have Vx169 : Arv Z T169.heap b1 k1 .int (6 : Int32) [(.int p3), (.int p3), (.int p3), (.int (235 : Int32)), (.int (ch - (127 : Int32))), (.int p3)] (.int (0 : Int32)) := by have q := o169; unfold own_wv at q; rw [if_neg hA, if_pos hB] at q; exact q
        have rx169 : (own_wr ch (3 : Int32)) = (5 : Int32) := by unfold own_wr; rw [if_neg hA, if_pos hB]; rfl
        rw [rx169]
        show own_Fin _ _ _ _ _ _ _ (T169.setTop (mkF m 52 #[.val (.int p1), .val (.int p2), .val (.int p3), .val (.int ch), .val (.int (3 : Int32)), .val (.ref b1), .unset, .unset, .unset, .unset, .unset] [(.int (5 : Int32))]))
        refine own_st (fun t k => XS.istore X169.here hx rfl (hb hby at_52) rfl (l' := #[.val (.int p1), .val (.int p2), .val (.int p3), .val (.int ch), .val (.int (3 : Int32)), .val (.ref b1), .val (.int (5 : Int32)), .unset, .unset, .unset, .unset]) rfl k) ?_
        show own_Fin _ _ _ _ _ _ _ (T169.setTop (mkF m 54 #[.val (.int p1), .val (.int p2), .val (.int p3), .val (.int ch), .val (.int (3 : Int32)), .val (.ref b1), .val (.int (5 : Int32)), .unset, .unset, .unset, .unset] []))
        refine own_st (fun t k => XS.iload X169.here hx rfl (hb hby at_54) rfl k) ?_
        show own_Fin _ _ _ _ _ _ _ (T169.setTop (mkF m 56 #[.val (.int p1), .val (.int p2), .val (.int p3), .val (.int ch), .val (.int (3 : Int32)), .val (.ref b1), .val (.int (5 : Int32)), .unset, .unset, .unset, .unset] [(.int (5 : Int32))]))
        refine own_st (fun t k => XS.iload X169.here hx rfl (hb hby at_56) rfl k) ?_
        show own_Fin _ _ _ _ _ _ _ (T169.setTop (mkF m 58 #[.val (.int p1), .val (.int p2), .val (.int p3), .val (.int ch), .val (.int (3 : Int32)), .val (.ref b1), .val (.int (5 : Int32)), .unset, .unset, .unset, .unset] [(.int (3 : Int32)), (.int (5 : Int32))]))
        refine own_st (fun t k => XS.isub X169.here hx rfl (hb hby at_58) rfl k) ?_
        show own_Fin _ _ _ _ _ _ _ (T169.setTop (mkF m 59 #[.val (.int p1), .val (.int p2), .val (.int p3), .val (.int ch), .val (.int (3 : Int32)), .val (.ref b1), .val (.int (5 : Int32)), .unset, .unset, .unset, .unset] [(.int (2 : Int32))]))
        refine own_st (fun t k => XS.istore X169.here hx rfl (hb hby at_59) rfl (l' := #[.val (.int p1), .val (.int p2), .val (.int p3), .val (.int ch), .val (.int (3 : Int32)), .val (.ref b1), .val (.int (5 : Int32)), .val (.int (2 : Int32)), .unset, .unset, .unset]) rfl k) ?_
        show own_Fin _ _ _ _ _ _ _ (T169.setTop (mkF m 61 #[.val (.int p1), .val (.int p2), .val (.int p3), .val (.int ch), .val (.int (3 : Int32)), .val (.ref b1), .val (.int (5 : Int32)), .val (.int (2 : Int32)), .unset, .unset, .unset] []))
        refine own_st (fun t k => XS.iload X169.here hx rfl (hb hby at_61) rfl k) ?_
        show own_Fin _ _ _ _ _ _ _ (T169.setTop (mkF m 63 #[.val (.int p1), .val (.int p2), .val (.int p3), .val (.int ch), .val (.int (3 : Int32)), .val (.ref b1), .val (.int (5 : Int32)), .val (.int (2 : Int32)), .unset, .unset, .unset] [(.int (2 : Int32))]))
        refine own_st (fun t k => XS.iconst X169.here hx rfl (hb hby at_63) k) ?_
        show own_Fin _ _ _ _ _ _ _ (T169.setTop (mkF m 64 #[.val (.int p1), .val (.int p2), .val (.int p3), .val (.int ch), .val (.int (3 : Int32)), .val (.ref b1), .val (.int (5 : Int32)), .val (.int (2 : Int32)), .unset, .unset, .unset] [(.int (1 : Int32)), (.int (2 : Int32))]))
        refine own_st (fun t k => XS.icmpNo X169.here hx rfl (hb hby at_64) rfl (flt (by decide : ¬ ((2 : Int32) < (1 : Int32)))).1 k) ?_
        show own_Fin _ _ _ _ _ _ _ (T169.setTop (mkF m 67 #[.val (.int p1), .val (.int p2), .val (.int p3), .val (.int ch), .val (.int (3 : Int32)), .val (.ref b1), .val (.int (5 : Int32)), .val (.int (2 : Int32)), .unset, .unset, .unset] []))
        refine own_st (fun t k => XS.iload X169.here hx rfl (hb hby at_67) rfl k) ?_
        show own_Fin _ _ _ _ _ _ _ (T169.setTop (mkF m 69 #[.val (.int p1), .val (.int p2), .val (.int p3), .val (.int ch), .val (.int (3 : Int32)), .val (.ref b1), .val (.int (5 : Int32)), .val (.int (2 : Int32)), .unset, .unset, .unset] [(.int (2 : Int32))]))
        refine own_st (fun t k => XS.iconst X169.here hx rfl (hb hby at_69) k) ?_
        show own_Fin _ _ _ _ _ _ _ (T169.setTop (mkF m 70 #[.val (.int p1), .val (.int p2), .val (.int p3), .val (.int ch), .val (.int (3 : Int32)), .val (.ref b1), .val (.int (5 : Int32)), .val (.int (2 : Int32)), .unset, .unset, .unset] [(.int (2 : Int32)), (.int (2 : Int32))]))
        refine own_st (fun t k => XS.icmpYes X169.here hx rfl (pc0 := 70) (pc' := 75) rfl (hb hby at_70) rfl (flt (by decide : ¬ ((2 : Int32) < (2 : Int32)))).2.2.2 (by decide) (by decide) k) ?_
        show own_Fin _ _ _ _ _ _ _ (T169.setTop (mkF m 75 #[.val (.int p1), .val (.int p2), .val (.int p3), .val (.int ch), .val (.int (3 : Int32)), .val (.ref b1), .val (.int (5 : Int32)), .val (.int (2 : Int32)), .unset, .unset, .unset] []))
        refine own_st (fun t k => XS.aload X169.here hx rfl (hb hby at_75) rfl rfl k) ?_
        show own_Fin _ _ _ _ _ _ _ (T169.setTop (mkF m 77 #[.val (.int p1), .val (.int p2), .val (.int p3), .val (.int ch), .val (.int (3 : Int32)), .val (.ref b1), .val (.int (5 : Int32)), .val (.int (2 : Int32)), .unset, .unset, .unset] [(.ref b1)]))
        refine own_st (fun t k => XS.iload X169.here hx rfl (hb hby at_77) rfl k) ?_
        show own_Fin _ _ _ _ _ _ _ (T169.setTop (mkF m 79 #[.val (.int p1), .val (.int p2), .val (.int p3), .val (.int ch), .val (.int (3 : Int32)), .val (.ref b1), .val (.int (5 : Int32)), .val (.int (2 : Int32)), .unset, .unset, .unset] [(.int (3 : Int32)), (.ref b1)]))
        obtain ⟨cl170, Ar170, Cq170, Sz170, Mn170, Hs170, Gf170⟩ := id Vx169
        have hin170 := inb_of Sz170 (j := (3 : Int32)) ⟨by decide, by decide⟩
        refine own_st (X169.iaload hx (j := (3 : Int32)) (v := (.int (235 : Int32))) Ar170.1 (State.isArrayOf_alike hZ.alike Ar170.2.1) Ar170.2.2 hin170 (Hs170.at hin170 rfl) (g := (mkF m 79 #[.val (.int p1), .val (.int p2), .val (.int p3), .val (.int ch), .val (.int (3 : Int32)), .val (.ref b1), .val (.int (5 : Int32)), .val (.int (2 : Int32)), .unset, .unset, .unset] [(.int (3 : Int32)), (.ref b1)])) rfl rfl (hb hby at_79)) ?_
        show own_Fin _ _ _ _ _ _ _ (T169.setTop (mkF m 80 #[.val (.int p1), .val (.int p2), .val (.int p3), .val (.int ch), .val (.int (3 : Int32)), .val (.ref b1), .val (.int (5 : Int32)), .val (.int (2 : Int32)), .unset, .unset, .unset] [(.int (235 : Int32))]))
        refine own_st (fun t k => XS.istore X169.here hx rfl (hb hby at_80) rfl (l' := #[.val (.int p1), .val (.int p2), .val (.int p3), .val (.int ch), .val (.int (3 : Int32)), .val (.ref b1), .val (.int (5 : Int32)), .val (.int (2 : Int32)), .val (.int (235 : Int32)), .unset, .unset]) rfl k) ?_
        show own_Fin _ _ _ _ _ _ _ (T169.setTop (mkF m 82 #[.val (.int p1), .val (.int p2), .val (.int p3), .val (.int ch), .val (.int (3 : Int32)), .val (.ref b1), .val (.int (5 : Int32)), .val (.int (2 : Int32)), .val (.int (235 : Int32)), .unset, .unset] []))
        refine own_st (fun t k => XS.iload X169.here hx rfl (hb hby at_82) rfl k) ?_
        show own_Fin _ _ _ _ _ _ _ (T169.setTop (mkF m 84 #[.val (.int p1), .val (.int p2), .val (.int p3), .val (.int ch), .val (.int (3 : Int32)), .val (.ref b1), .val (.int (5 : Int32)), .val (.int (2 : Int32)), .val (.int (235 : Int32)), .unset, .unset] [(.int (235 : Int32))]))
        refine own_st (fun t k => XS.iconst X169.here hx rfl (hb hby at_84) k) ?_
        show own_Fin _ _ _ _ _ _ _ (T169.setTop (mkF m 85 #[.val (.int p1), .val (.int p2), .val (.int p3), .val (.int ch), .val (.int (3 : Int32)), .val (.ref b1), .val (.int (5 : Int32)), .val (.int (2 : Int32)), .val (.int (235 : Int32)), .unset, .unset] [(.int (1 : Int32)), (.int (235 : Int32))]))
        refine own_st (fun t k => XS.icmpNo X169.here hx rfl (hb hby at_85) rfl (flt (by decide : ¬ ((235 : Int32) < (1 : Int32)))).1 k) ?_
        show own_Fin _ _ _ _ _ _ _ (T169.setTop (mkF m 88 #[.val (.int p1), .val (.int p2), .val (.int p3), .val (.int ch), .val (.int (3 : Int32)), .val (.ref b1), .val (.int (5 : Int32)), .val (.int (2 : Int32)), .val (.int (235 : Int32)), .unset, .unset] []))
        refine own_st (fun t k => XS.iload X169.here hx rfl (hb hby at_88) rfl k) ?_
        show own_Fin _ _ _ _ _ _ _ (T169.setTop (mkF m 90 #[.val (.int p1), .val (.int p2), .val (.int p3), .val (.int ch), .val (.int (3 : Int32)), .val (.ref b1), .val (.int (5 : Int32)), .val (.int (2 : Int32)), .val (.int (235 : Int32)), .unset, .unset] [(.int (235 : Int32))]))
        refine own_st (fun t k => XS.sipush X169.here hx rfl (hb hby at_90) k) ?_
        show own_Fin _ _ _ _ _ _ _ (T169.setTop (mkF m 93 #[.val (.int p1), .val (.int p2), .val (.int p3), .val (.int ch), .val (.int (3 : Int32)), .val (.ref b1), .val (.int (5 : Int32)), .val (.int (2 : Int32)), .val (.int (235 : Int32)), .unset, .unset] [(.int (128 : Int32)), (.int (235 : Int32))]))
        refine own_st (fun t k => XS.icmpYes X169.here hx rfl (pc0 := 93) (pc' := 113) rfl (hb hby at_93) rfl (tlt (by decide : (128 : Int32) < (235 : Int32))).2.2.1 (by decide) (by decide) k) ?_
        show own_Fin _ _ _ _ _ _ _ (T169.setTop (mkF m 113 #[.val (.int p1), .val (.int p2), .val (.int p3), .val (.int ch), .val (.int (3 : Int32)), .val (.ref b1), .val (.int (5 : Int32)), .val (.int (2 : Int32)), .val (.int (235 : Int32)), .unset, .unset] []))
        refine own_st (fun t k => XS.iload X169.here hx rfl (hb hby at_113) rfl k) ?_
        show own_Fin _ _ _ _ _ _ _ (T169.setTop (mkF m 115 #[.val (.int p1), .val (.int p2), .val (.int p3), .val (.int ch), .val (.int (3 : Int32)), .val (.ref b1), .val (.int (5 : Int32)), .val (.int (2 : Int32)), .val (.int (235 : Int32)), .unset, .unset] [(.int (235 : Int32))]))
        refine own_st (fun t k => XS.sipush X169.here hx rfl (hb hby at_115) k) ?_
        show own_Fin _ _ _ _ _ _ _ (T169.setTop (mkF m 118 #[.val (.int p1), .val (.int p2), .val (.int p3), .val (.int ch), .val (.int (3 : Int32)), .val (.ref b1), .val (.int (5 : Int32)), .val (.int (2 : Int32)), .val (.int (235 : Int32)), .unset, .unset] [(.int (232 : Int32)), (.int (235 : Int32))]))
        refine own_st (fun t k => XS.icmpYes X169.here hx rfl (pc0 := 118) (pc' := 137) rfl (hb hby at_118) rfl (feq (by decide : ¬ ((235 : Int32) = (232 : Int32)))).2 (by decide) (by decide) k) ?_
        show own_Fin _ _ _ _ _ _ _ (T169.setTop (mkF m 137 #[.val (.int p1), .val (.int p2), .val (.int p3), .val (.int ch), .val (.int (3 : Int32)), .val (.ref b1), .val (.int (5 : Int32)), .val (.int (2 : Int32)), .val (.int (235 : Int32)), .unset, .unset] []))
        refine own_st (fun t k => XS.iload X169.here hx rfl (hb hby at_137) rfl k) ?_
        show own_Fin _ _ _ _ _ _ _ (T169.setTop (mkF m 139 #[.val (.int p1), .val (.int p2), .val (.int p3), .val (.int ch), .val (.int (3 : Int32)), .val (.ref b1), .val (.int (5 : Int32)), .val (.int (2 : Int32)), .val (.int (235 : Int32)), .unset, .unset] [(.int (235 : Int32))]))
        refine own_st (fun t k => XS.sipush X169.here hx rfl (hb hby at_139) k) ?_
        show own_Fin _ _ _ _ _ _ _ (T169.setTop (mkF m 142 #[.val (.int p1), .val (.int p2), .val (.int p3), .val (.int ch), .val (.int (3 : Int32)), .val (.ref b1), .val (.int (5 : Int32)), .val (.int (2 : Int32)), .val (.int (235 : Int32)), .unset, .unset] [(.int (235 : Int32)), (.int (235 : Int32))]))
        refine own_st (fun t k => XS.icmpNo X169.here hx rfl (hb hby at_142) rfl (teq (by decide : (235 : Int32) = (235 : Int32))).2 k) ?_
        show own_Fin _ _ _ _ _ _ _ (T169.setTop (mkF m 145 #[.val (.int p1), .val (.int p2), .val (.int p3), .val (.int ch), .val (.int (3 : Int32)), .val (.ref b1), .val (.int (5 : Int32)), .val (.int (2 : Int32)), .val (.int (235 : Int32)), .unset, .unset] []))
        refine own_st (fun t k => XS.iload X169.here hx rfl (hb hby at_145) rfl k) ?_
        show own_Fin _ _ _ _ _ _ _ (T169.setTop (mkF m 147 #[.val (.int p1), .val (.int p2), .val (.int p3), .val (.int ch), .val (.int (3 : Int32)), .val (.ref b1), .val (.int (5 : Int32)), .val (.int (2 : Int32)), .val (.int (235 : Int32)), .unset, .unset] [(.int (2 : Int32))]))
        refine own_st (fun t k => XS.iconst X169.here hx rfl (hb hby at_147) k) ?_
        show own_Fin _ _ _ _ _ _ _ (T169.setTop (mkF m 148 #[.val (.int p1), .val (.int p2), .val (.int p3), .val (.int ch), .val (.int (3 : Int32)), .val (.ref b1), .val (.int (5 : Int32)), .val (.int (2 : Int32)), .val (.int (235 : Int32)), .unset, .unset] [(.int (2 : Int32)), (.int (2 : Int32))]))
        refine own_st (fun t k => XS.icmpYes X169.here hx rfl (pc0 := 148) (pc' := 153) rfl (hb hby at_148) rfl (teq (by decide : (2 : Int32) = (2 : Int32))).1 (by decide) (by decide) k) ?_
        show own_Fin _ _ _ _ _ _ _ (T169.setTop (mkF m 153 #[.val (.int p1), .val (.int p2), .val (.int p3), .val (.int ch), .val (.int (3 : Int32)), .val (.ref b1), .val (.int (5 : Int32)), .val (.int (2 : Int32)), .val (.int (235 : Int32)), .unset, .unset] []))
        refine own_st (fun t k => XS.aload X169.here hx rfl (hb hby at_153) rfl rfl k) ?_
        show own_Fin _ _ _ _ _ _ _ (T169.setTop (mkF m 155 #[.val (.int p1), .val (.int p2), .val (.int p3), .val (.int ch), .val (.int (3 : Int32)), .val (.ref b1), .val (.int (5 : Int32)), .val (.int (2 : Int32)), .val (.int (235 : Int32)), .unset, .unset] [(.ref b1)]))
        refine own_st (fun t k => XS.iload X169.here hx rfl (hb hby at_155) rfl k) ?_
        show own_Fin _ _ _ _ _ _ _ (T169.setTop (mkF m 157 #[.val (.int p1), .val (.int p2), .val (.int p3), .val (.int ch), .val (.int (3 : Int32)), .val (.ref b1), .val (.int (5 : Int32)), .val (.int (2 : Int32)), .val (.int (235 : Int32)), .unset, .unset] [(.int (3 : Int32)), (.ref b1)]))
        refine own_st (fun t k => XS.iconst X169.here hx rfl (hb hby at_157) k) ?_
        show own_Fin _ _ _ _ _ _ _ (T169.setTop (mkF m 158 #[.val (.int p1), .val (.int p2), .val (.int p3), .val (.int ch), .val (.int (3 : Int32)), .val (.ref b1), .val (.int (5 : Int32)), .val (.int (2 : Int32)), .val (.int (235 : Int32)), .unset, .unset] [(.int (1 : Int32)), (.int (3 : Int32)), (.ref b1)]))
        refine own_st (fun t k => XS.iadd X169.here hx rfl (hb hby at_158) rfl k) ?_
        show own_Fin _ _ _ _ _ _ _ (T169.setTop (mkF m 159 #[.val (.int p1), .val (.int p2), .val (.int p3), .val (.int ch), .val (.int (3 : Int32)), .val (.ref b1), .val (.int (5 : Int32)), .val (.int (2 : Int32)), .val (.int (235 : Int32)), .unset, .unset] [(.int (4 : Int32)), (.ref b1)]))
        obtain ⟨cl171, Ar171, Cq171, Sz171, Mn171, Hs171, Gf171⟩ := id Vx169
        have hin171 := inb_of Sz171 (j := (4 : Int32)) ⟨by decide, by decide⟩
        refine own_st (X169.iaload hx (j := (4 : Int32)) (v := (.int (ch - (127 : Int32)))) Ar171.1 (State.isArrayOf_alike hZ.alike Ar171.2.1) Ar171.2.2 hin171 (Hs171.at hin171 rfl) (g := (mkF m 159 #[.val (.int p1), .val (.int p2), .val (.int p3), .val (.int ch), .val (.int (3 : Int32)), .val (.ref b1), .val (.int (5 : Int32)), .val (.int (2 : Int32)), .val (.int (235 : Int32)), .unset, .unset] [(.int (4 : Int32)), (.ref b1)])) rfl rfl (hb hby at_159)) ?_
        show own_Fin _ _ _ _ _ _ _ (T169.setTop (mkF m 160 #[.val (.int p1), .val (.int p2), .val (.int p3), .val (.int ch), .val (.int (3 : Int32)), .val (.ref b1), .val (.int (5 : Int32)), .val (.int (2 : Int32)), .val (.int (235 : Int32)), .unset, .unset] [(.int (ch - (127 : Int32)))]))
        refine own_st (fun t k => XS.istore X169.here hx rfl (hb hby at_160) rfl (l' := #[.val (.int p1), .val (.int p2), .val (.int p3), .val (.int ch), .val (.int (3 : Int32)), .val (.ref b1), .val (.int (5 : Int32)), .val (.int (2 : Int32)), .val (.int (235 : Int32)), .unset, .val (.int (ch - (127 : Int32)))]) rfl k) ?_
        show own_Fin _ _ _ _ _ _ _ (T169.setTop (mkF m 162 #[.val (.int p1), .val (.int p2), .val (.int p3), .val (.int ch), .val (.int (3 : Int32)), .val (.ref b1), .val (.int (5 : Int32)), .val (.int (2 : Int32)), .val (.int (235 : Int32)), .unset, .val (.int (ch - (127 : Int32)))] []))
        refine own_st (fun t k => XS.iload X169.here hx rfl (hb hby at_162) rfl k) ?_
        show own_Fin _ _ _ _ _ _ _ (T169.setTop (mkF m 164 #[.val (.int p1), .val (.int p2), .val (.int p3), .val (.int ch), .val (.int (3 : Int32)), .val (.ref b1), .val (.int (5 : Int32)), .val (.int (2 : Int32)), .val (.int (235 : Int32)), .unset, .val (.int (ch - (127 : Int32)))] [(.int (ch - (127 : Int32)))]))
        refine own_st (fun t k => XS.iconst X169.here hx rfl (hb hby at_164) k) ?_
        show own_Fin _ _ _ _ _ _ _ (T169.setTop (mkF m 165 #[.val (.int p1), .val (.int p2), .val (.int p3), .val (.int ch), .val (.int (3 : Int32)), .val (.ref b1), .val (.int (5 : Int32)), .val (.int (2 : Int32)), .val (.int (235 : Int32)), .unset, .val (.int (ch - (127 : Int32)))] [(.int (1 : Int32)), (.int (ch - (127 : Int32)))]))
        have hd165_172 : ¬ ((ch - (127 : Int32)) < (1 : Int32)) := (own_hi hc0.2 hA hB).1
        refine own_st (fun t k => XS.icmpNo X169.here hx rfl (hb hby at_165) rfl (flt hd165_172).1 k) ?_
        show own_Fin _ _ _ _ _ _ _ (T169.setTop (mkF m 168 #[.val (.int p1), .val (.int p2), .val (.int p3), .val (.int ch), .val (.int (3 : Int32)), .val (.ref b1), .val (.int (5 : Int32)), .val (.int (2 : Int32)), .val (.int (235 : Int32)), .unset, .val (.int (ch - (127 : Int32)))] []))
        refine own_st (fun t k => XS.iload X169.here hx rfl (hb hby at_168) rfl k) ?_
        show own_Fin _ _ _ _ _ _ _ (T169.setTop (mkF m 170 #[.val (.int p1), .val (.int p2), .val (.int p3), .val (.int ch), .val (.int (3 : Int32)), .val (.ref b1), .val (.int (5 : Int32)), .val (.int (2 : Int32)), .val (.int (235 : Int32)), .unset, .val (.int (ch - (127 : Int32)))] [(.int (ch - (127 : Int32)))]))
        refine own_st (fun t k => XS.sipush X169.here hx rfl (hb hby at_170) k) ?_
        show own_Fin _ _ _ _ _ _ _ (T169.setTop (mkF m 173 #[.val (.int p1), .val (.int p2), .val (.int p3), .val (.int ch), .val (.int (3 : Int32)), .val (.ref b1), .val (.int (5 : Int32)), .val (.int (2 : Int32)), .val (.int (235 : Int32)), .unset, .val (.int (ch - (127 : Int32)))] [(.int (128 : Int32)), (.int (ch - (127 : Int32)))]))
        have hd173_173 : ¬ ((128 : Int32) < (ch - (127 : Int32))) := (own_hi hc0.2 hA hB).2.1
        refine own_st (fun t k => XS.icmpYes X169.here hx rfl (pc0 := 173) (pc' := 178) rfl (hb hby at_173) rfl (flt hd173_173).2.2.2 (by decide) (by decide) k) ?_
        show own_Fin _ _ _ _ _ _ _ (T169.setTop (mkF m 178 #[.val (.int p1), .val (.int p2), .val (.int p3), .val (.int ch), .val (.int (3 : Int32)), .val (.ref b1), .val (.int (5 : Int32)), .val (.int (2 : Int32)), .val (.int (235 : Int32)), .unset, .val (.int (ch - (127 : Int32)))] []))
        refine own_st (fun t k => XS.iload X169.here hx rfl (hb hby at_178) rfl k) ?_
        show own_Fin _ _ _ _ _ _ _ (T169.setTop (mkF m 180 #[.val (.int p1), .val (.int p2), .val (.int p3), .val (.int ch), .val (.int (3 : Int32)), .val (.ref b1), .val (.int (5 : Int32)), .val (.int (2 : Int32)), .val (.int (235 : Int32)), .unset, .val (.int (ch - (127 : Int32)))] [(.int (ch - (127 : Int32)))]))
        refine own_st (fun t k => XS.iconst X169.here hx rfl (hb hby at_180) k) ?_
        show own_Fin _ _ _ _ _ _ _ (T169.setTop (mkF m 181 #[.val (.int p1), .val (.int p2), .val (.int p3), .val (.int ch), .val (.int (3 : Int32)), .val (.ref b1), .val (.int (5 : Int32)), .val (.int (2 : Int32)), .val (.int (235 : Int32)), .unset, .val (.int (ch - (127 : Int32)))] [(.int (1 : Int32)), (.int (ch - (127 : Int32)))]))
        refine own_st (fun t k => XS.isub X169.here hx rfl (hb hby at_181) rfl k) ?_
        show own_Fin _ _ _ _ _ _ _ (T169.setTop (mkF m 182 #[.val (.int p1), .val (.int p2), .val (.int p3), .val (.int ch), .val (.int (3 : Int32)), .val (.ref b1), .val (.int (5 : Int32)), .val (.int (2 : Int32)), .val (.int (235 : Int32)), .unset, .val (.int (ch - (127 : Int32)))] [(.int ((ch - (127 : Int32)) - (1 : Int32)))]))
        refine own_st (fun t k => XS.sipush X169.here hx rfl (hb hby at_182) k) ?_
        show own_Fin _ _ _ _ _ _ _ (T169.setTop (mkF m 185 #[.val (.int p1), .val (.int p2), .val (.int p3), .val (.int ch), .val (.int (3 : Int32)), .val (.ref b1), .val (.int (5 : Int32)), .val (.int (2 : Int32)), .val (.int (235 : Int32)), .unset, .val (.int (ch - (127 : Int32)))] [(.int (128 : Int32)), (.int ((ch - (127 : Int32)) - (1 : Int32)))]))
        refine own_st (fun t k => XS.iadd X169.here hx rfl (hb hby at_185) rfl k) ?_
        show own_Fin _ _ _ _ _ _ _ (T169.setTop (mkF m 186 #[.val (.int p1), .val (.int p2), .val (.int p3), .val (.int ch), .val (.int (3 : Int32)), .val (.ref b1), .val (.int (5 : Int32)), .val (.int (2 : Int32)), .val (.int (235 : Int32)), .unset, .val (.int (ch - (127 : Int32)))] [(.int (((ch - (127 : Int32)) - (1 : Int32)) + (128 : Int32)))]))
        refine own_st (fun t k => XS.istore X169.here hx rfl (hb hby at_186) rfl (l' := #[.val (.int p1), .val (.int p2), .val (.int p3), .val (.int ch), .val (.int (3 : Int32)), .val (.ref b1), .val (.int (5 : Int32)), .val (.int (2 : Int32)), .val (.int (235 : Int32)), .val (.int (((ch - (127 : Int32)) - (1 : Int32)) + (128 : Int32))), .val (.int (ch - (127 : Int32)))]) rfl k) ?_
        show own_Fin _ _ _ _ _ _ _ (T169.setTop (mkF m 188 #[.val (.int p1), .val (.int p2), .val (.int p3), .val (.int ch), .val (.int (3 : Int32)), .val (.ref b1), .val (.int (5 : Int32)), .val (.int (2 : Int32)), .val (.int (235 : Int32)), .val (.int (((ch - (127 : Int32)) - (1 : Int32)) + (128 : Int32))), .val (.int (ch - (127 : Int32)))] []))
        refine own_st (fun t k => XS.goto X169.here hx rfl (pc0 := 188) (pc' := 193) rfl (hb hby at_188) (by decide) (by decide) k) ?_
        show own_Fin _ _ _ _ _ _ _ (T169.setTop (mkF m 193 #[.val (.int p1), .val (.int p2), .val (.int p3), .val (.int ch), .val (.int (3 : Int32)), .val (.ref b1), .val (.int (5 : Int32)), .val (.int (2 : Int32)), .val (.int (235 : Int32)), .val (.int (((ch - (127 : Int32)) - (1 : Int32)) + (128 : Int32))), .val (.int (ch - (127 : Int32)))] []))
        refine own_st (fun t k => XS.iload X169.here hx rfl (hb hby at_193) rfl k) ?_
        show own_Fin _ _ _ _ _ _ _ (T169.setTop (mkF m 195 #[.val (.int p1), .val (.int p2), .val (.int p3), .val (.int ch), .val (.int (3 : Int32)), .val (.ref b1), .val (.int (5 : Int32)), .val (.int (2 : Int32)), .val (.int (235 : Int32)), .val (.int (((ch - (127 : Int32)) - (1 : Int32)) + (128 : Int32))), .val (.int (ch - (127 : Int32)))] [(.int (((ch - (127 : Int32)) - (1 : Int32)) + (128 : Int32)))]))
        refine own_st (fun t k => XS.iloadN X169.here hx rfl (hb hby at_195) rfl k) ?_
        show own_Fin _ _ _ _ _ _ _ (T169.setTop (mkF m 196 #[.val (.int p1), .val (.int p2), .val (.int p3), .val (.int ch), .val (.int (3 : Int32)), .val (.ref b1), .val (.int (5 : Int32)), .val (.int (2 : Int32)), .val (.int (235 : Int32)), .val (.int (((ch - (127 : Int32)) - (1 : Int32)) + (128 : Int32))), .val (.int (ch - (127 : Int32)))] [(.int ch), (.int (((ch - (127 : Int32)) - (1 : Int32)) + (128 : Int32)))]))
        have hd196_174 : (((ch - (127 : Int32)) - (1 : Int32)) + (128 : Int32)) = ch := (own_hi hc0.2 hA hB).2.2
        refine own_st (fun t k => XS.icmpNo X169.here hx rfl (hb hby at_196) rfl (teq hd196_174).2 k) ?_
        show own_Fin _ _ _ _ _ _ _ (T169.setTop (mkF m 199 #[.val (.int p1), .val (.int p2), .val (.int p3), .val (.int ch), .val (.int (3 : Int32)), .val (.ref b1), .val (.int (5 : Int32)), .val (.int (2 : Int32)), .val (.int (235 : Int32)), .val (.int (((ch - (127 : Int32)) - (1 : Int32)) + (128 : Int32))), .val (.int (ch - (127 : Int32)))] []))
        refine own_st (fun t k => XS.aload X169.here hx rfl (hb hby at_199) rfl rfl k) ?_
        show own_Fin _ _ _ _ _ _ _ (T169.setTop (mkF m 201 #[.val (.int p1), .val (.int p2), .val (.int p3), .val (.int ch), .val (.int (3 : Int32)), .val (.ref b1), .val (.int (5 : Int32)), .val (.int (2 : Int32)), .val (.int (235 : Int32)), .val (.int (((ch - (127 : Int32)) - (1 : Int32)) + (128 : Int32))), .val (.int (ch - (127 : Int32)))] [(.ref b1)]))
        refine own_st (fun t k => XS.iconst X169.here hx rfl (hb hby at_201) k) ?_
        show own_Fin _ _ _ _ _ _ _ (T169.setTop (mkF m 202 #[.val (.int p1), .val (.int p2), .val (.int p3), .val (.int ch), .val (.int (3 : Int32)), .val (.ref b1), .val (.int (5 : Int32)), .val (.int (2 : Int32)), .val (.int (235 : Int32)), .val (.int (((ch - (127 : Int32)) - (1 : Int32)) + (128 : Int32))), .val (.int (ch - (127 : Int32)))] [(.int (0 : Int32)), (.ref b1)]))
        refine own_st (fun t k => XS.iload X169.here hx rfl (hb hby at_202) rfl k) ?_
        show own_Fin _ _ _ _ _ _ _ (T169.setTop (mkF m 204 #[.val (.int p1), .val (.int p2), .val (.int p3), .val (.int ch), .val (.int (3 : Int32)), .val (.ref b1), .val (.int (5 : Int32)), .val (.int (2 : Int32)), .val (.int (235 : Int32)), .val (.int (((ch - (127 : Int32)) - (1 : Int32)) + (128 : Int32))), .val (.int (ch - (127 : Int32)))] [(.int (3 : Int32)), (.int (0 : Int32)), (.ref b1)]))
        refine own_st (fun t k => XS.iload X169.here hx rfl (hb hby at_204) rfl k) ?_
        show own_Fin _ _ _ _ _ _ _ (T169.setTop (mkF m 206 #[.val (.int p1), .val (.int p2), .val (.int p3), .val (.int ch), .val (.int (3 : Int32)), .val (.ref b1), .val (.int (5 : Int32)), .val (.int (2 : Int32)), .val (.int (235 : Int32)), .val (.int (((ch - (127 : Int32)) - (1 : Int32)) + (128 : Int32))), .val (.int (ch - (127 : Int32)))] [(.int (5 : Int32)), (.int (3 : Int32)), (.int (0 : Int32)), (.ref b1)]))
        refine own_st (fun t k => XS.iloadN X169.here hx rfl (hb hby at_206) rfl k) ?_
        show own_Fin _ _ _ _ _ _ _ (T169.setTop (mkF m 207 #[.val (.int p1), .val (.int p2), .val (.int p3), .val (.int ch), .val (.int (3 : Int32)), .val (.ref b1), .val (.int (5 : Int32)), .val (.int (2 : Int32)), .val (.int (235 : Int32)), .val (.int (((ch - (127 : Int32)) - (1 : Int32)) + (128 : Int32))), .val (.int (ch - (127 : Int32)))] [(.int p3), (.int (5 : Int32)), (.int (3 : Int32)), (.int (0 : Int32)), (.ref b1)]))
        obtain ⟨_, _, ⟨T175, L175, k175, n175⟩, -, X175, ⟨Lc175, hQ175, l175, y175, z175⟩, st175⟩ := Jvm.LawKit.callS X169 hx (y := (⟨"com/example/quietzone/quietzone/datamatrix/AsciiEncodationWritePinLaw", "untouched", "([IIIII)Z"⟩ : MethodName)) hown (mvT hZ (hw _ (List.mem_of_getElem? (i := 6) rfl))) (mvT hZ (hw _ (List.mem_of_getElem? (i := 7) rfl))) (mvT hZ (hw _ (List.mem_of_getElem? (i := 8) rfl))) (mvT hZ (hw _ (List.mem_of_getElem? (i := 9) rfl))) (by decide) (backOf (W := 0) (rm2 l Z a0 hw [] b1 (0 : Int32) (3 : Int32) (5 : Int32) p3 k1 (6 : Int32) [(.int p3), (.int p3), (.int p3), (.int (235 : Int32)), (.int (ch - (127 : Int32))), (.int p3)] p3 T169.heap n0 Z169 Vx169 (by decide) (by decide) rfl) hZ (hw _ (List.mem_of_getElem? (i := 9) rfl)) (hw _ (List.mem_of_getElem? (i := 8) rfl)) (by decide) (by decide)) (g := (mkF m 207 #[.val (.int p1), .val (.int p2), .val (.int p3), .val (.int ch), .val (.int (3 : Int32)), .val (.ref b1), .val (.int (5 : Int32)), .val (.int (2 : Int32)), .val (.int (235 : Int32)), .val (.int (((ch - (127 : Int32)) - (1 : Int32)) + (128 : Int32))), .val (.int (ch - (127 : Int32)))] [(.int p3), (.int (5 : Int32)), (.int (3 : Int32)), (.int (0 : Int32)), (.ref b1)])) rfl (by rw [hml]; rfl) (argsL := [(.ref b1), (.int (0 : Int32)), (.int (3 : Int32)), (.int (5 : Int32)), (.int p3)]) (rest := []) (lenOf pd_0_1 rfl) rfl (by show 2 * 0 + _ ≤ _; exact Nat.le_of_eq rfl) (hb hby at_207) (fun _ _ => ⟨rfl, rfl, (by decide : 1 + 0 ≤ _), (by decide : 6 + 0 ≤ _)⟩)
        dsimp only [Pt.U, Pt.locs, Pt.cells, Pt.slots] at X175 l175 y175 z175 st175 hQ175
        subst l175 y175 z175
        obtain ⟨rfl, N175q, e175⟩ := hQ175
        have N175 := Fr.app N169 N175q
        refine own_st st175 ?_
        show own_Fin _ _ _ _ _ _ _ (T175.setTop (mkF m 210 #[.val (.int p1), .val (.int p2), .val (.int p3), .val (.int ch), .val (.int (3 : Int32)), .val (.ref b1), .val (.int (5 : Int32)), .val (.int (2 : Int32)), .val (.int (235 : Int32)), .val (.int (((ch - (127 : Int32)) - (1 : Int32)) + (128 : Int32))), .val (.int (ch - (127 : Int32)))] [(.int (own_un (0 : Int32) (3 : Int32) (5 : Int32) p3 p3))]))
        have hd210_176 : ¬ ((own_un (0 : Int32) (3 : Int32) (5 : Int32) p3 p3) = (0 : Int32)) := by unfold own_un; simp
        refine own_st (fun t k => XS.ifNo X175.here hx rfl (hb hby at_210) rfl ((if0 _ _).trans (feq hd210_176).1) k) ?_
        show own_Fin _ _ _ _ _ _ _ (T175.setTop (mkF m 213 #[.val (.int p1), .val (.int p2), .val (.int p3), .val (.int ch), .val (.int (3 : Int32)), .val (.ref b1), .val (.int (5 : Int32)), .val (.int (2 : Int32)), .val (.int (235 : Int32)), .val (.int (((ch - (127 : Int32)) - (1 : Int32)) + (128 : Int32))), .val (.int (ch - (127 : Int32)))] []))
        refine own_st (fun t k => XS.aload X175.here hx rfl (hb hby at_213) rfl rfl k) ?_
        show own_Fin _ _ _ _ _ _ _ (T175.setTop (mkF m 215 #[.val (.int p1), .val (.int p2), .val (.int p3), .val (.int ch), .val (.int (3 : Int32)), .val (.ref b1), .val (.int (5 : Int32)), .val (.int (2 : Int32)), .val (.int (235 : Int32)), .val (.int (((ch - (127 : Int32)) - (1 : Int32)) + (128 : Int32))), .val (.int (ch - (127 : Int32)))] [(.ref b1)]))
        refine own_st (fun t k => XS.iconst X175.here hx rfl (hb hby at_215) k) ?_
        show own_Fin _ _ _ _ _ _ _ (T175.setTop (mkF m 216 #[.val (.int p1), .val (.int p2), .val (.int p3), .val (.int ch), .val (.int (3 : Int32)), .val (.ref b1), .val (.int (5 : Int32)), .val (.int (2 : Int32)), .val (.int (235 : Int32)), .val (.int (((ch - (127 : Int32)) - (1 : Int32)) + (128 : Int32))), .val (.int (ch - (127 : Int32)))] [(.int (1 : Int32)), (.ref b1)]))
        refine own_st (fun t k => XS.iload X175.here hx rfl (hb hby at_216) rfl k) ?_
        show own_Fin _ _ _ _ _ _ _ (T175.setTop (mkF m 218 #[.val (.int p1), .val (.int p2), .val (.int p3), .val (.int ch), .val (.int (3 : Int32)), .val (.ref b1), .val (.int (5 : Int32)), .val (.int (2 : Int32)), .val (.int (235 : Int32)), .val (.int (((ch - (127 : Int32)) - (1 : Int32)) + (128 : Int32))), .val (.int (ch - (127 : Int32)))] [(.int (3 : Int32)), (.int (1 : Int32)), (.ref b1)]))
        refine own_st (fun t k => XS.iload X175.here hx rfl (hb hby at_218) rfl k) ?_
        show own_Fin _ _ _ _ _ _ _ (T175.setTop (mkF m 220 #[.val (.int p1), .val (.int p2), .val (.int p3), .val (.int ch), .val (.int (3 : Int32)), .val (.ref b1), .val (.int (5 : Int32)), .val (.int (2 : Int32)), .val (.int (235 : Int32)), .val (.int (((ch - (127 : Int32)) - (1 : Int32)) + (128 : Int32))), .val (.int (ch - (127 : Int32)))] [(.int (5 : Int32)), (.int (3 : Int32)), (.int (1 : Int32)), (.ref b1)]))
        refine own_st (fun t k => XS.iloadN X175.here hx rfl (hb hby at_220) rfl k) ?_
        show own_Fin _ _ _ _ _ _ _ (T175.setTop (mkF m 221 #[.val (.int p1), .val (.int p2), .val (.int p3), .val (.int ch), .val (.int (3 : Int32)), .val (.ref b1), .val (.int (5 : Int32)), .val (.int (2 : Int32)), .val (.int (235 : Int32)), .val (.int (((ch - (127 : Int32)) - (1 : Int32)) + (128 : Int32))), .val (.int (ch - (127 : Int32)))] [(.int p3), (.int (5 : Int32)), (.int (3 : Int32)), (.int (1 : Int32)), (.ref b1)]))
        obtain ⟨_, _, ⟨T177, L177, k177, n177⟩, -, X177, ⟨Lc177, hQ177, l177, y177, z177⟩, st177⟩ := Jvm.LawKit.callS X175 hx (y := (⟨"com/example/quietzone/quietzone/datamatrix/AsciiEncodationWritePinLaw", "untouched", "([IIIII)Z"⟩ : MethodName)) hown (mvT hZ (hw _ (List.mem_of_getElem? (i := 6) rfl))) (mvT hZ (hw _ (List.mem_of_getElem? (i := 7) rfl))) (mvT hZ (hw _ (List.mem_of_getElem? (i := 8) rfl))) (mvT hZ (hw _ (List.mem_of_getElem? (i := 9) rfl))) (by decide) (backOf (W := 0) (rm2 l Z a0 hw [] b1 (1 : Int32) (3 : Int32) (5 : Int32) p3 k1 (6 : Int32) [(.int p3), (.int p3), (.int p3), (.int (235 : Int32)), (.int (ch - (127 : Int32))), (.int p3)] p3 T169.heap n0 Z169 Vx169 (by decide) (by decide) rfl) hZ (hw _ (List.mem_of_getElem? (i := 9) rfl)) (hw _ (List.mem_of_getElem? (i := 8) rfl)) (by decide) (by decide)) (g := (mkF m 221 #[.val (.int p1), .val (.int p2), .val (.int p3), .val (.int ch), .val (.int (3 : Int32)), .val (.ref b1), .val (.int (5 : Int32)), .val (.int (2 : Int32)), .val (.int (235 : Int32)), .val (.int (((ch - (127 : Int32)) - (1 : Int32)) + (128 : Int32))), .val (.int (ch - (127 : Int32)))] [(.int p3), (.int (5 : Int32)), (.int (3 : Int32)), (.int (1 : Int32)), (.ref b1)])) rfl (by rw [hml]; rfl) (argsL := [(.ref b1), (.int (1 : Int32)), (.int (3 : Int32)), (.int (5 : Int32)), (.int p3)]) (rest := []) (lenOf pd_0_1 rfl) rfl (by show 2 * 0 + _ ≤ _; exact Nat.le_of_eq rfl) (hb hby at_221) (fun _ _ => ⟨rfl, e175, (by decide : 1 + 0 ≤ _), (by decide : 6 + 0 ≤ _)⟩)
        dsimp only [Pt.U, Pt.locs, Pt.cells, Pt.slots] at X177 l177 y177 z177 st177 hQ177
        subst l177 y177 z177
        obtain ⟨rfl, N177q, e177⟩ := hQ177
        have N177 := Fr.app N175 N177q
        refine own_st st177 ?_
        show own_Fin _ _ _ _ _ _ _ (T177.setTop (mkF m 224 #[.val (.int p1), .val (.int p2), .val (.int p3), .val (.int ch), .val (.int (3 : Int32)), .val (.ref b1), .val (.int (5 : Int32)), .val (.int (2 : Int32)), .val (.int (235 : Int32)), .val (.int (((ch - (127 : Int32)) - (1 : Int32)) + (128 : Int32))), .val (.int (ch - (127 : Int32)))] [(.int (own_un (1 : Int32) (3 : Int32) (5 : Int32) p3 p3))]))
        have hd224_178 : ¬ ((own_un (1 : Int32) (3 : Int32) (5 : Int32) p3 p3) = (0 : Int32)) := by unfold own_un; simp
        refine own_st (fun t k => XS.ifNo X177.here hx rfl (hb hby at_224) rfl ((if0 _ _).trans (feq hd224_178).1) k) ?_
        show own_Fin _ _ _ _ _ _ _ (T177.setTop (mkF m 227 #[.val (.int p1), .val (.int p2), .val (.int p3), .val (.int ch), .val (.int (3 : Int32)), .val (.ref b1), .val (.int (5 : Int32)), .val (.int (2 : Int32)), .val (.int (235 : Int32)), .val (.int (((ch - (127 : Int32)) - (1 : Int32)) + (128 : Int32))), .val (.int (ch - (127 : Int32)))] []))
        refine own_st (fun t k => XS.aload X177.here hx rfl (hb hby at_227) rfl rfl k) ?_
        show own_Fin _ _ _ _ _ _ _ (T177.setTop (mkF m 229 #[.val (.int p1), .val (.int p2), .val (.int p3), .val (.int ch), .val (.int (3 : Int32)), .val (.ref b1), .val (.int (5 : Int32)), .val (.int (2 : Int32)), .val (.int (235 : Int32)), .val (.int (((ch - (127 : Int32)) - (1 : Int32)) + (128 : Int32))), .val (.int (ch - (127 : Int32)))] [(.ref b1)]))
        refine own_st (fun t k => XS.iconst X177.here hx rfl (hb hby at_229) k) ?_
        show own_Fin _ _ _ _ _ _ _ (T177.setTop (mkF m 230 #[.val (.int p1), .val (.int p2), .val (.int p3), .val (.int ch), .val (.int (3 : Int32)), .val (.ref b1), .val (.int (5 : Int32)), .val (.int (2 : Int32)), .val (.int (235 : Int32)), .val (.int (((ch - (127 : Int32)) - (1 : Int32)) + (128 : Int32))), .val (.int (ch - (127 : Int32)))] [(.int (2 : Int32)), (.ref b1)]))
        refine own_st (fun t k => XS.iload X177.here hx rfl (hb hby at_230) rfl k) ?_
        show own_Fin _ _ _ _ _ _ _ (T177.setTop (mkF m 232 #[.val (.int p1), .val (.int p2), .val (.int p3), .val (.int ch), .val (.int (3 : Int32)), .val (.ref b1), .val (.int (5 : Int32)), .val (.int (2 : Int32)), .val (.int (235 : Int32)), .val (.int (((ch - (127 : Int32)) - (1 : Int32)) + (128 : Int32))), .val (.int (ch - (127 : Int32)))] [(.int (3 : Int32)), (.int (2 : Int32)), (.ref b1)]))
        refine own_st (fun t k => XS.iload X177.here hx rfl (hb hby at_232) rfl k) ?_
        show own_Fin _ _ _ _ _ _ _ (T177.setTop (mkF m 234 #[.val (.int p1), .val (.int p2), .val (.int p3), .val (.int ch), .val (.int (3 : Int32)), .val (.ref b1), .val (.int (5 : Int32)), .val (.int (2 : Int32)), .val (.int (235 : Int32)), .val (.int (((ch - (127 : Int32)) - (1 : Int32)) + (128 : Int32))), .val (.int (ch - (127 : Int32)))] [(.int (5 : Int32)), (.int (3 : Int32)), (.int (2 : Int32)), (.ref b1)]))
        refine own_st (fun t k => XS.iloadN X177.here hx rfl (hb hby at_234) rfl k) ?_
        show own_Fin _ _ _ _ _ _ _ (T177.setTop (mkF m 235 #[.val (.int p1), .val (.int p2), .val (.int p3), .val (.int ch), .val (.int (3 : Int32)), .val (.ref b1), .val (.int (5 : Int32)), .val (.int (2 : Int32)), .val (.int (235 : Int32)), .val (.int (((ch - (127 : Int32)) - (1 : Int32)) + (128 : Int32))), .val (.int (ch - (127 : Int32)))] [(.int p3), (.int (5 : Int32)), (.int (3 : Int32)), (.int (2 : Int32)), (.ref b1)]))
        obtain ⟨_, _, ⟨T179, L179, k179, n179⟩, -, X179, ⟨Lc179, hQ179, l179, y179, z179⟩, st179⟩ := Jvm.LawKit.callS X177 hx (y := (⟨"com/example/quietzone/quietzone/datamatrix/AsciiEncodationWritePinLaw", "untouched", "([IIIII)Z"⟩ : MethodName)) hown (mvT hZ (hw _ (List.mem_of_getElem? (i := 6) rfl))) (mvT hZ (hw _ (List.mem_of_getElem? (i := 7) rfl))) (mvT hZ (hw _ (List.mem_of_getElem? (i := 8) rfl))) (mvT hZ (hw _ (List.mem_of_getElem? (i := 9) rfl))) (by decide) (backOf (W := 0) (rm2 l Z a0 hw [] b1 (2 : Int32) (3 : Int32) (5 : Int32) p3 k1 (6 : Int32) [(.int p3), (.int p3), (.int p3), (.int (235 : Int32)), (.int (ch - (127 : Int32))), (.int p3)] p3 T169.heap n0 Z169 Vx169 (by decide) (by decide) rfl) hZ (hw _ (List.mem_of_getElem? (i := 9) rfl)) (hw _ (List.mem_of_getElem? (i := 8) rfl)) (by decide) (by decide)) (g := (mkF m 235 #[.val (.int p1), .val (.int p2), .val (.int p3), .val (.int ch), .val (.int (3 : Int32)), .val (.ref b1), .val (.int (5 : Int32)), .val (.int (2 : Int32)), .val (.int (235 : Int32)), .val (.int (((ch - (127 : Int32)) - (1 : Int32)) + (128 : Int32))), .val (.int (ch - (127 : Int32)))] [(.int p3), (.int (5 : Int32)), (.int (3 : Int32)), (.int (2 : Int32)), (.ref b1)])) rfl (by rw [hml]; rfl) (argsL := [(.ref b1), (.int (2 : Int32)), (.int (3 : Int32)), (.int (5 : Int32)), (.int p3)]) (rest := []) (lenOf pd_0_1 rfl) rfl (by show 2 * 0 + _ ≤ _; exact Nat.le_of_eq rfl) (hb hby at_235) (fun _ _ => ⟨rfl, e177, (by decide : 1 + 0 ≤ _), (by decide : 6 + 0 ≤ _)⟩)
        dsimp only [Pt.U, Pt.locs, Pt.cells, Pt.slots] at X179 l179 y179 z179 st179 hQ179
        subst l179 y179 z179
        obtain ⟨rfl, N179q, e179⟩ := hQ179
        have N179 := Fr.app N177 N179q
        refine own_st st179 ?_
        show own_Fin _ _ _ _ _ _ _ (T179.setTop (mkF m 238 #[.val (.int p1), .val (.int p2), .val (.int p3), .val (.int ch), .val (.int (3 : Int32)), .val (.ref b1), .val (.int (5 : Int32)), .val (.int (2 : Int32)), .val (.int (235 : Int32)), .val (.int (((ch - (127 : Int32)) - (1 : Int32)) + (128 : Int32))), .val (.int (ch - (127 : Int32)))] [(.int (own_un (2 : Int32) (3 : Int32) (5 : Int32) p3 p3))]))
        have hd238_180 : ¬ ((own_un (2 : Int32) (3 : Int32) (5 : Int32) p3 p3) = (0 : Int32)) := by unfold own_un; simp
        refine own_st (fun t k => XS.ifNo X179.here hx rfl (hb hby at_238) rfl ((if0 _ _).trans (feq hd238_180).1) k) ?_
        show own_Fin _ _ _ _ _ _ _ (T179.setTop (mkF m 241 #[.val (.int p1), .val (.int p2), .val (.int p3), .val (.int ch), .val (.int (3 : Int32)), .val (.ref b1), .val (.int (5 : Int32)), .val (.int (2 : Int32)), .val (.int (235 : Int32)), .val (.int (((ch - (127 : Int32)) - (1 : Int32)) + (128 : Int32))), .val (.int (ch - (127 : Int32)))] []))
        refine own_st (fun t k => XS.aload X179.here hx rfl (hb hby at_241) rfl rfl k) ?_
        show own_Fin _ _ _ _ _ _ _ (T179.setTop (mkF m 243 #[.val (.int p1), .val (.int p2), .val (.int p3), .val (.int ch), .val (.int (3 : Int32)), .val (.ref b1), .val (.int (5 : Int32)), .val (.int (2 : Int32)), .val (.int (235 : Int32)), .val (.int (((ch - (127 : Int32)) - (1 : Int32)) + (128 : Int32))), .val (.int (ch - (127 : Int32)))] [(.ref b1)]))
        refine own_st (fun t k => XS.iconst X179.here hx rfl (hb hby at_243) k) ?_
        show own_Fin _ _ _ _ _ _ _ (T179.setTop (mkF m 244 #[.val (.int p1), .val (.int p2), .val (.int p3), .val (.int ch), .val (.int (3 : Int32)), .val (.ref b1), .val (.int (5 : Int32)), .val (.int (2 : Int32)), .val (.int (235 : Int32)), .val (.int (((ch - (127 : Int32)) - (1 : Int32)) + (128 : Int32))), .val (.int (ch - (127 : Int32)))] [(.int (3 : Int32)), (.ref b1)]))
        refine own_st (fun t k => XS.iload X179.here hx rfl (hb hby at_244) rfl k) ?_
        show own_Fin _ _ _ _ _ _ _ (T179.setTop (mkF m 246 #[.val (.int p1), .val (.int p2), .val (.int p3), .val (.int ch), .val (.int (3 : Int32)), .val (.ref b1), .val (.int (5 : Int32)), .val (.int (2 : Int32)), .val (.int (235 : Int32)), .val (.int (((ch - (127 : Int32)) - (1 : Int32)) + (128 : Int32))), .val (.int (ch - (127 : Int32)))] [(.int (3 : Int32)), (.int (3 : Int32)), (.ref b1)]))
        refine own_st (fun t k => XS.iload X179.here hx rfl (hb hby at_246) rfl k) ?_
        show own_Fin _ _ _ _ _ _ _ (T179.setTop (mkF m 248 #[.val (.int p1), .val (.int p2), .val (.int p3), .val (.int ch), .val (.int (3 : Int32)), .val (.ref b1), .val (.int (5 : Int32)), .val (.int (2 : Int32)), .val (.int (235 : Int32)), .val (.int (((ch - (127 : Int32)) - (1 : Int32)) + (128 : Int32))), .val (.int (ch - (127 : Int32)))] [(.int (5 : Int32)), (.int (3 : Int32)), (.int (3 : Int32)), (.ref b1)]))
        refine own_st (fun t k => XS.iloadN X179.here hx rfl (hb hby at_248) rfl k) ?_
        show own_Fin _ _ _ _ _ _ _ (T179.setTop (mkF m 249 #[.val (.int p1), .val (.int p2), .val (.int p3), .val (.int ch), .val (.int (3 : Int32)), .val (.ref b1), .val (.int (5 : Int32)), .val (.int (2 : Int32)), .val (.int (235 : Int32)), .val (.int (((ch - (127 : Int32)) - (1 : Int32)) + (128 : Int32))), .val (.int (ch - (127 : Int32)))] [(.int p3), (.int (5 : Int32)), (.int (3 : Int32)), (.int (3 : Int32)), (.ref b1)]))
        obtain ⟨_, _, ⟨T181, L181, k181, n181⟩, -, X181, ⟨Lc181, hQ181, l181, y181, z181⟩, st181⟩ := Jvm.LawKit.callS X179 hx (y := (⟨"com/example/quietzone/quietzone/datamatrix/AsciiEncodationWritePinLaw", "untouched", "([IIIII)Z"⟩ : MethodName)) hown (mvT hZ (hw _ (List.mem_of_getElem? (i := 6) rfl))) (mvT hZ (hw _ (List.mem_of_getElem? (i := 7) rfl))) (mvT hZ (hw _ (List.mem_of_getElem? (i := 8) rfl))) (mvT hZ (hw _ (List.mem_of_getElem? (i := 9) rfl))) (by decide) (backOf (W := 0) (rm2 l Z a0 hw [] b1 (3 : Int32) (3 : Int32) (5 : Int32) p3 k1 (6 : Int32) [(.int p3), (.int p3), (.int p3), (.int (235 : Int32)), (.int (ch - (127 : Int32))), (.int p3)] (235 : Int32) T169.heap n0 Z169 Vx169 (by decide) (by decide) rfl) hZ (hw _ (List.mem_of_getElem? (i := 9) rfl)) (hw _ (List.mem_of_getElem? (i := 8) rfl)) (by decide) (by decide)) (g := (mkF m 249 #[.val (.int p1), .val (.int p2), .val (.int p3), .val (.int ch), .val (.int (3 : Int32)), .val (.ref b1), .val (.int (5 : Int32)), .val (.int (2 : Int32)), .val (.int (235 : Int32)), .val (.int (((ch - (127 : Int32)) - (1 : Int32)) + (128 : Int32))), .val (.int (ch - (127 : Int32)))] [(.int p3), (.int (5 : Int32)), (.int (3 : Int32)), (.int (3 : Int32)), (.ref b1)])) rfl (by rw [hml]; rfl) (argsL := [(.ref b1), (.int (3 : Int32)), (.int (3 : Int32)), (.int (5 : Int32)), (.int p3)]) (rest := []) (lenOf pd_0_1 rfl) rfl (by show 2 * 0 + _ ≤ _; exact Nat.le_of_eq rfl) (hb hby at_249) (fun _ _ => ⟨rfl, e179, (by decide : 1 + 0 ≤ _), (by decide : 6 + 0 ≤ _)⟩)
        dsimp only [Pt.U, Pt.locs, Pt.cells, Pt.slots] at X181 l181 y181 z181 st181 hQ181
        subst l181 y181 z181
        obtain ⟨rfl, N181q, e181⟩ := hQ181
        have N181 := Fr.app N179 N181q
        refine own_st st181 ?_
        show own_Fin _ _ _ _ _ _ _ (T181.setTop (mkF m 252 #[.val (.int p1), .val (.int p2), .val (.int p3), .val (.int ch), .val (.int (3 : Int32)), .val (.ref b1), .val (.int (5 : Int32)), .val (.int (2 : Int32)), .val (.int (235 : Int32)), .val (.int (((ch - (127 : Int32)) - (1 : Int32)) + (128 : Int32))), .val (.int (ch - (127 : Int32)))] [(.int (own_un (3 : Int32) (3 : Int32) (5 : Int32) p3 (235 : Int32)))]))
        have hd252_182 : ¬ ((own_un (3 : Int32) (3 : Int32) (5 : Int32) p3 (235 : Int32)) = (0 : Int32)) := by unfold own_un; simp
        refine own_st (fun t k => XS.ifNo X181.here hx rfl (hb hby at_252) rfl ((if0 _ _).trans (feq hd252_182).1) k) ?_
        show own_Fin _ _ _ _ _ _ _ (T181.setTop (mkF m 255 #[.val (.int p1), .val (.int p2), .val (.int p3), .val (.int ch), .val (.int (3 : Int32)), .val (.ref b1), .val (.int (5 : Int32)), .val (.int (2 : Int32)), .val (.int (235 : Int32)), .val (.int (((ch - (127 : Int32)) - (1 : Int32)) + (128 : Int32))), .val (.int (ch - (127 : Int32)))] []))
        refine own_st (fun t k => XS.aload X181.here hx rfl (hb hby at_255) rfl rfl k) ?_
        show own_Fin _ _ _ _ _ _ _ (T181.setTop (mkF m 257 #[.val (.int p1), .val (.int p2), .val (.int p3), .val (.int ch), .val (.int (3 : Int32)), .val (.ref b1), .val (.int (5 : Int32)), .val (.int (2 : Int32)), .val (.int (235 : Int32)), .val (.int (((ch - (127 : Int32)) - (1 : Int32)) + (128 : Int32))), .val (.int (ch - (127 : Int32)))] [(.ref b1)]))
        refine own_st (fun t k => XS.iconst X181.here hx rfl (hb hby at_257) k) ?_
        show own_Fin _ _ _ _ _ _ _ (T181.setTop (mkF m 258 #[.val (.int p1), .val (.int p2), .val (.int p3), .val (.int ch), .val (.int (3 : Int32)), .val (.ref b1), .val (.int (5 : Int32)), .val (.int (2 : Int32)), .val (.int (235 : Int32)), .val (.int (((ch - (127 : Int32)) - (1 : Int32)) + (128 : Int32))), .val (.int (ch - (127 : Int32)))] [(.int (4 : Int32)), (.ref b1)]))
        refine own_st (fun t k => XS.iload X181.here hx rfl (hb hby at_258) rfl k) ?_
        show own_Fin _ _ _ _ _ _ _ (T181.setTop (mkF m 260 #[.val (.int p1), .val (.int p2), .val (.int p3), .val (.int ch), .val (.int (3 : Int32)), .val (.ref b1), .val (.int (5 : Int32)), .val (.int (2 : Int32)), .val (.int (235 : Int32)), .val (.int (((ch - (127 : Int32)) - (1 : Int32)) + (128 : Int32))), .val (.int (ch - (127 : Int32)))] [(.int (3 : Int32)), (.int (4 : Int32)), (.ref b1)]))
        refine own_st (fun t k => XS.iload X181.here hx rfl (hb hby at_260) rfl k) ?_
        show own_Fin _ _ _ _ _ _ _ (T181.setTop (mkF m 262 #[.val (.int p1), .val (.int p2), .val (.int p3), .val (.int ch), .val (.int (3 : Int32)), .val (.ref b1), .val (.int (5 : Int32)), .val (.int (2 : Int32)), .val (.int (235 : Int32)), .val (.int (((ch - (127 : Int32)) - (1 : Int32)) + (128 : Int32))), .val (.int (ch - (127 : Int32)))] [(.int (5 : Int32)), (.int (3 : Int32)), (.int (4 : Int32)), (.ref b1)]))
        refine own_st (fun t k => XS.iloadN X181.here hx rfl (hb hby at_262) rfl k) ?_
        show own_Fin _ _ _ _ _ _ _ (T181.setTop (mkF m 263 #[.val (.int p1), .val (.int p2), .val (.int p3), .val (.int ch), .val (.int (3 : Int32)), .val (.ref b1), .val (.int (5 : Int32)), .val (.int (2 : Int32)), .val (.int (235 : Int32)), .val (.int (((ch - (127 : Int32)) - (1 : Int32)) + (128 : Int32))), .val (.int (ch - (127 : Int32)))] [(.int p3), (.int (5 : Int32)), (.int (3 : Int32)), (.int (4 : Int32)), (.ref b1)]))
        obtain ⟨_, _, ⟨T183, L183, k183, n183⟩, -, X183, ⟨Lc183, hQ183, l183, y183, z183⟩, st183⟩ := Jvm.LawKit.callS X181 hx (y := (⟨"com/example/quietzone/quietzone/datamatrix/AsciiEncodationWritePinLaw", "untouched", "([IIIII)Z"⟩ : MethodName)) hown (mvT hZ (hw _ (List.mem_of_getElem? (i := 6) rfl))) (mvT hZ (hw _ (List.mem_of_getElem? (i := 7) rfl))) (mvT hZ (hw _ (List.mem_of_getElem? (i := 8) rfl))) (mvT hZ (hw _ (List.mem_of_getElem? (i := 9) rfl))) (by decide) (backOf (W := 0) (rm2 l Z a0 hw [] b1 (4 : Int32) (3 : Int32) (5 : Int32) p3 k1 (6 : Int32) [(.int p3), (.int p3), (.int p3), (.int (235 : Int32)), (.int (ch - (127 : Int32))), (.int p3)] (ch - (127 : Int32)) T169.heap n0 Z169 Vx169 (by decide) (by decide) rfl) hZ (hw _ (List.mem_of_getElem? (i := 9) rfl)) (hw _ (List.mem_of_getElem? (i := 8) rfl)) (by decide) (by decide)) (g := (mkF m 263 #[.val (.int p1), .val (.int p2), .val (.int p3), .val (.int ch), .val (.int (3 : Int32)), .val (.ref b1), .val (.int (5 : Int32)), .val (.int (2 : Int32)), .val (.int (235 : Int32)), .val (.int (((ch - (127 : Int32)) - (1 : Int32)) + (128 : Int32))), .val (.int (ch - (127 : Int32)))] [(.int p3), (.int (5 : Int32)), (.int (3 : Int32)), (.int (4 : Int32)), (.ref b1)])) rfl (by rw [hml]; rfl) (argsL := [(.ref b1), (.int (4 : Int32)), (.int (3 : Int32)), (.int (5 : Int32)), (.int p3)]) (rest := []) (lenOf pd_0_1 rfl) rfl (by show 2 * 0 + _ ≤ _; exact Nat.le_of_eq rfl) (hb hby at_263) (fun _ _ => ⟨rfl, e181, (by decide : 1 + 0 ≤ _), (by decide : 6 + 0 ≤ _)⟩)
        dsimp only [Pt.U, Pt.locs, Pt.cells, Pt.slots] at X183 l183 y183 z183 st183 hQ183
        subst l183 y183 z183
        obtain ⟨rfl, N183q, e183⟩ := hQ183
        have N183 := Fr.app N181 N183q
        refine own_st st183 ?_
        show own_Fin _ _ _ _ _ _ _ (T183.setTop (mkF m 266 #[.val (.int p1), .val (.int p2), .val (.int p3), .val (.int ch), .val (.int (3 : Int32)), .val (.ref b1), .val (.int (5 : Int32)), .val (.int (2 : Int32)), .val (.int (235 : Int32)), .val (.int (((ch - (127 : Int32)) - (1 : Int32)) + (128 : Int32))), .val (.int (ch - (127 : Int32)))] [(.int (own_un (4 : Int32) (3 : Int32) (5 : Int32) p3 (ch - (127 : Int32))))]))
        have hd266_184 : ¬ ((own_un (4 : Int32) (3 : Int32) (5 : Int32) p3 (ch - (127 : Int32))) = (0 : Int32)) := by unfold own_un; simp
        refine own_st (fun t k => XS.ifNo X183.here hx rfl (hb hby at_266) rfl ((if0 _ _).trans (feq hd266_184).1) k) ?_
        show own_Fin _ _ _ _ _ _ _ (T183.setTop (mkF m 269 #[.val (.int p1), .val (.int p2), .val (.int p3), .val (.int ch), .val (.int (3 : Int32)), .val (.ref b1), .val (.int (5 : Int32)), .val (.int (2 : Int32)), .val (.int (235 : Int32)), .val (.int (((ch - (127 : Int32)) - (1 : Int32)) + (128 : Int32))), .val (.int (ch - (127 : Int32)))] []))
        refine own_st (fun t k => XS.aload X183.here hx rfl (hb hby at_269) rfl rfl k) ?_
        show own_Fin _ _ _ _ _ _ _ (T183.setTop (mkF m 271 #[.val (.int p1), .val (.int p2), .val (.int p3), .val (.int ch), .val (.int (3 : Int32)), .val (.ref b1), .val (.int (5 : Int32)), .val (.int (2 : Int32)), .val (.int (235 : Int32)), .val (.int (((ch - (127 : Int32)) - (1 : Int32)) + (128 : Int32))), .val (.int (ch - (127 : Int32)))] [(.ref b1)]))
        refine own_st (fun t k => XS.iconst X183.here hx rfl (hb hby at_271) k) ?_
        show own_Fin _ _ _ _ _ _ _ (T183.setTop (mkF m 272 #[.val (.int p1), .val (.int p2), .val (.int p3), .val (.int ch), .val (.int (3 : Int32)), .val (.ref b1), .val (.int (5 : Int32)), .val (.int (2 : Int32)), .val (.int (235 : Int32)), .val (.int (((ch - (127 : Int32)) - (1 : Int32)) + (128 : Int32))), .val (.int (ch - (127 : Int32)))] [(.int (5 : Int32)), (.ref b1)]))
        refine own_st (fun t k => XS.iload X183.here hx rfl (hb hby at_272) rfl k) ?_
        show own_Fin _ _ _ _ _ _ _ (T183.setTop (mkF m 274 #[.val (.int p1), .val (.int p2), .val (.int p3), .val (.int ch), .val (.int (3 : Int32)), .val (.ref b1), .val (.int (5 : Int32)), .val (.int (2 : Int32)), .val (.int (235 : Int32)), .val (.int (((ch - (127 : Int32)) - (1 : Int32)) + (128 : Int32))), .val (.int (ch - (127 : Int32)))] [(.int (3 : Int32)), (.int (5 : Int32)), (.ref b1)]))
        refine own_st (fun t k => XS.iload X183.here hx rfl (hb hby at_274) rfl k) ?_
        show own_Fin _ _ _ _ _ _ _ (T183.setTop (mkF m 276 #[.val (.int p1), .val (.int p2), .val (.int p3), .val (.int ch), .val (.int (3 : Int32)), .val (.ref b1), .val (.int (5 : Int32)), .val (.int (2 : Int32)), .val (.int (235 : Int32)), .val (.int (((ch - (127 : Int32)) - (1 : Int32)) + (128 : Int32))), .val (.int (ch - (127 : Int32)))] [(.int (5 : Int32)), (.int (3 : Int32)), (.int (5 : Int32)), (.ref b1)]))
        refine own_st (fun t k => XS.iloadN X183.here hx rfl (hb hby at_276) rfl k) ?_
        show own_Fin _ _ _ _ _ _ _ (T183.setTop (mkF m 277 #[.val (.int p1), .val (.int p2), .val (.int p3), .val (.int ch), .val (.int (3 : Int32)), .val (.ref b1), .val (.int (5 : Int32)), .val (.int (2 : Int32)), .val (.int (235 : Int32)), .val (.int (((ch - (127 : Int32)) - (1 : Int32)) + (128 : Int32))), .val (.int (ch - (127 : Int32)))] [(.int p3), (.int (5 : Int32)), (.int (3 : Int32)), (.int (5 : Int32)), (.ref b1)]))
        obtain ⟨_, _, ⟨T185, L185, k185, n185⟩, -, X185, ⟨Lc185, hQ185, l185, y185, z185⟩, st185⟩ := Jvm.LawKit.callS X183 hx (y := (⟨"com/example/quietzone/quietzone/datamatrix/AsciiEncodationWritePinLaw", "untouched", "([IIIII)Z"⟩ : MethodName)) hown (mvT hZ (hw _ (List.mem_of_getElem? (i := 6) rfl))) (mvT hZ (hw _ (List.mem_of_getElem? (i := 7) rfl))) (mvT hZ (hw _ (List.mem_of_getElem? (i := 8) rfl))) (mvT hZ (hw _ (List.mem_of_getElem? (i := 9) rfl))) (by decide) (backOf (W := 0) (rm2 l Z a0 hw [] b1 (5 : Int32) (3 : Int32) (5 : Int32) p3 k1 (6 : Int32) [(.int p3), (.int p3), (.int p3), (.int (235 : Int32)), (.int (ch - (127 : Int32))), (.int p3)] p3 T169.heap n0 Z169 Vx169 (by decide) (by decide) rfl) hZ (hw _ (List.mem_of_getElem? (i := 9) rfl)) (hw _ (List.mem_of_getElem? (i := 8) rfl)) (by decide) (by decide)) (g := (mkF m 277 #[.val (.int p1), .val (.int p2), .val (.int p3), .val (.int ch), .val (.int (3 : Int32)), .val (.ref b1), .val (.int (5 : Int32)), .val (.int (2 : Int32)), .val (.int (235 : Int32)), .val (.int (((ch - (127 : Int32)) - (1 : Int32)) + (128 : Int32))), .val (.int (ch - (127 : Int32)))] [(.int p3), (.int (5 : Int32)), (.int (3 : Int32)), (.int (5 : Int32)), (.ref b1)])) rfl (by rw [hml]; rfl) (argsL := [(.ref b1), (.int (5 : Int32)), (.int (3 : Int32)), (.int (5 : Int32)), (.int p3)]) (rest := []) (lenOf pd_0_1 rfl) rfl (by show 2 * 0 + _ ≤ _; exact Nat.le_of_eq rfl) (hb hby at_277) (fun _ _ => ⟨rfl, e183, (by decide : 1 + 0 ≤ _), (by decide : 6 + 0 ≤ _)⟩)
        dsimp only [Pt.U, Pt.locs, Pt.cells, Pt.slots] at X185 l185 y185 z185 st185 hQ185
        subst l185 y185 z185
        obtain ⟨rfl, N185q, e185⟩ := hQ185
        have N185 := Fr.app N183 N185q
        refine own_st st185 ?_
        show own_Fin _ _ _ _ _ _ _ (T185.setTop (mkF m 280 #[.val (.int p1), .val (.int p2), .val (.int p3), .val (.int ch), .val (.int (3 : Int32)), .val (.ref b1), .val (.int (5 : Int32)), .val (.int (2 : Int32)), .val (.int (235 : Int32)), .val (.int (((ch - (127 : Int32)) - (1 : Int32)) + (128 : Int32))), .val (.int (ch - (127 : Int32)))] [(.int (own_un (5 : Int32) (3 : Int32) (5 : Int32) p3 p3))]))
        have hd280_186 : ¬ ((own_un (5 : Int32) (3 : Int32) (5 : Int32) p3 p3) = (0 : Int32)) := by unfold own_un; simp
        refine own_st (fun t k => XS.ifNo X185.here hx rfl (hb hby at_280) rfl ((if0 _ _).trans (feq hd280_186).1) k) ?_
        show own_Fin _ _ _ _ _ _ _ (T185.setTop (mkF m 283 #[.val (.int p1), .val (.int p2), .val (.int p3), .val (.int ch), .val (.int (3 : Int32)), .val (.ref b1), .val (.int (5 : Int32)), .val (.int (2 : Int32)), .val (.int (235 : Int32)), .val (.int (((ch - (127 : Int32)) - (1 : Int32)) + (128 : Int32))), .val (.int (ch - (127 : Int32)))] []))
        refine own_st (fun t k => XS.iconst X185.here hx rfl (hb hby at_283) k) ?_
        show own_Fin _ _ _ _ _ _ _ (T185.setTop (mkF m 284 #[.val (.int p1), .val (.int p2), .val (.int p3), .val (.int ch), .val (.int (3 : Int32)), .val (.ref b1), .val (.int (5 : Int32)), .val (.int (2 : Int32)), .val (.int (235 : Int32)), .val (.int (((ch - (127 : Int32)) - (1 : Int32)) + (128 : Int32))), .val (.int (ch - (127 : Int32)))] [(.int (1 : Int32))]))
        refine own_st (fun t k => XS.goto X185.here hx rfl (pc0 := 284) (pc' := 288) rfl (hb hby at_284) (by decide) (by decide) k) ?_
        show own_Fin _ _ _ _ _ _ _ (T185.setTop (mkF m 288 #[.val (.int p1), .val (.int p2), .val (.int p3), .val (.int ch), .val (.int (3 : Int32)), .val (.ref b1), .val (.int (5 : Int32)), .val (.int (2 : Int32)), .val (.int (235 : Int32)), .val (.int (((ch - (127 : Int32)) - (1 : Int32)) + (128 : Int32))), .val (.int (ch - (127 : Int32)))] [(.int (1 : Int32))]))
        exact own_retN X185 hx Bd.notSynchronized (t := .boolean) Bd.returns (by simp) (hb hby at_288) (by decide) (by decide) ⟨rfl, N185, trivial⟩
      · show own_Fin _ _ _ _ _ _ _ (T7.setTop (mkF m 44 #[.val (.int p1), .val (.int p2), .val (.int p3), .val (.int ch), .val (.int (3 : Int32)), .val (.ref b1), .unset, .unset, .unset, .unset, .unset] []))
        refine own_st (fun t k => XS.iloadN X7.here hx rfl (hb hby at_44) rfl k) ?_
        show own_Fin _ _ _ _ _ _ _ (T7.setTop (mkF m 45 #[.val (.int p1), .val (.int p2), .val (.int p3), .val (.int ch), .val (.int (3 : Int32)), .val (.ref b1), .unset, .unset, .unset, .unset, .unset] [(.int ch)]))
        refine own_st (fun t k => XS.aload X7.here hx rfl (hb hby at_45) rfl rfl k) ?_
        show own_Fin _ _ _ _ _ _ _ (T7.setTop (mkF m 47 #[.val (.int p1), .val (.int p2), .val (.int p3), .val (.int ch), .val (.int (3 : Int32)), .val (.ref b1), .unset, .unset, .unset, .unset, .unset] [(.ref b1), (.int ch)]))
        refine own_st (fun t k => XS.iload X7.here hx rfl (hb hby at_47) rfl k) ?_
        show own_Fin _ _ _ _ _ _ _ (T7.setTop (mkF m 49 #[.val (.int p1), .val (.int p2), .val (.int p3), .val (.int ch), .val (.int (3 : Int32)), .val (.ref b1), .unset, .unset, .unset, .unset, .unset] [(.int (3 : Int32)), (.ref b1), (.int ch)]))
        obtain ⟨_, _, ⟨T187, L187, k187, n187⟩, -, X187, ⟨Lc187, hQ187, l187, y187, z187⟩, st187⟩ := Jvm.LawKit.callS X7 hx (y := (⟨"com/example/quietzone/quietzone/datamatrix/AsciiEncodation", "write", "(I[II)I"⟩ : MethodName)) hown (mvT hZ (hw _ (List.mem_of_getElem? (i := 2) rfl))) (mvT hZ (hw _ (List.mem_of_getElem? (i := 3) rfl))) (mvT hZ (hw _ (List.mem_of_getElem? (i := 4) rfl))) (mvT hZ (hw _ (List.mem_of_getElem? (i := 5) rfl))) (by decide) (backOf (W := 0) (rm1 l Z a0 hw [] ch b1 (3 : Int32) k1 (6 : Int32) [(.int p3), (.int p3), (.int p3), (.int p3), (.int p3), (.int p3)] h7 n0 Z7 V7 ge_b1 (by decide) (by decide) (by decide) (by decide) (Nat.le_of_ble_eq_true rfl) (Nat.le_of_ble_eq_true rfl)) hZ (hw _ (List.mem_of_getElem? (i := 5) rfl)) (hw _ (List.mem_of_getElem? (i := 4) rfl)) (by decide) (by decide)) (g := (mkF m 49 #[.val (.int p1), .val (.int p2), .val (.int p3), .val (.int ch), .val (.int (3 : Int32)), .val (.ref b1), .unset, .unset, .unset, .unset, .unset] [(.int (3 : Int32)), (.ref b1), (.int ch)])) rfl (by rw [hml]; rfl) (argsL := [(.int ch), (.ref b1), (.int (3 : Int32))]) (rest := []) (lenOf pd_0_0 rfl) rfl (by show 2 * 0 + _ ≤ _; exact Nat.le_of_eq rfl) (hb hby at_49) (fun _ _ => ⟨rfl, e7, (by decide : 1 + 0 ≤ _), (by decide : 6 + 0 ≤ _)⟩)
        dsimp only [Pt.U, Pt.locs, Pt.cells, Pt.slots] at X187 l187 y187 z187 st187 hQ187
        subst l187 y187 z187
        obtain ⟨rfl, N187q, K187, o187⟩ := hQ187
        have N187 := Fr.app N7 N187q
        have Z187 : n0 ≤ T187.heap.size := Nat.le_trans Z7 K187.1
        refine own_st st187 ?_
        show own_Fin _ _ _ _ _ _ _ (T187.setTop (mkF m 52 #[.val (.int p1), .val (.int p2), .val (.int p3), .val (.int ch), .val (.int (3 : Int32)), .val (.ref b1), .unset, .unset, .unset, .unset, .unset] [(.int (own_wr ch (3 : Int32)))]))
        have Vx187 : Arv Z T187.heap b1 k1 .int (6 : Int32) [(.int p3), (.int p3), (.int p3), (.int (ch + (1 : Int32))), (.int p3), (.int p3)] (.int (0 : Int32)) := by have q := o187; unfold own_wv at q; rw [if_neg hA, if_neg hB] at q; exact q
        have rx187 : (own_wr ch (3 : Int32)) = (4 : Int32) := by unfold own_wr; rw [if_neg hA, if_neg hB]; rfl
        rw [rx187]
        show own_Fin _ _ _ _ _ _ _ (T187.setTop (mkF m 52 #[.val (.int p1), .val (.int p2), .val (.int p3), .val (.int ch), .val (.int (3 : Int32)), .val (.ref b1), .unset, .unset, .unset, .unset, .unset] [(.int (4 : Int32))]))
        refine own_st (fun t k => XS.istore X187.here hx rfl (hb hby at_52) rfl (l' := #[.val (.int p1), .val (.int p2), .val (.int p3), .val (.int ch), .val (.int (3 : Int32)), .val (.ref b1), .val (.int (4 : Int32)), .unset, .unset, .unset, .unset]) rfl k) ?_
        show own_Fin _ _ _ _ _ _ _ (T187.setTop (mkF m 54 #[.val (.int p1), .val (.int p2), .val (.int p3), .val (.int ch), .val (.int (3 : Int32)), .val (.ref b1), .val (.int (4 : Int32)), .unset, .unset, .unset, .unset] []))
        refine own_st (fun t k => XS.iload X187.here hx rfl (hb hby at_54) rfl k) ?_
        show own_Fin _ _ _ _ _ _ _ (T187.setTop (mkF m 56 #[.val (.int p1), .val (.int p2), .val (.int p3), .val (.int ch), .val (.int (3 : Int32)), .val (.ref b1), .val (.int (4 : Int32)), .unset, .unset, .unset, .unset] [(.int (4 : Int32))]))
        refine own_st (fun t k => XS.iload X187.here hx rfl (hb hby at_56) rfl k) ?_
        show own_Fin _ _ _ _ _ _ _ (T187.setTop (mkF m 58 #[.val (.int p1), .val (.int p2), .val (.int p3), .val (.int ch), .val (.int (3 : Int32)), .val (.ref b1), .val (.int (4 : Int32)), .unset, .unset, .unset, .unset] [(.int (3 : Int32)), (.int (4 : Int32))]))
        refine own_st (fun t k => XS.isub X187.here hx rfl (hb hby at_58) rfl k) ?_
        show own_Fin _ _ _ _ _ _ _ (T187.setTop (mkF m 59 #[.val (.int p1), .val (.int p2), .val (.int p3), .val (.int ch), .val (.int (3 : Int32)), .val (.ref b1), .val (.int (4 : Int32)), .unset, .unset, .unset, .unset] [(.int (1 : Int32))]))
        refine own_st (fun t k => XS.istore X187.here hx rfl (hb hby at_59) rfl (l' := #[.val (.int p1), .val (.int p2), .val (.int p3), .val (.int ch), .val (.int (3 : Int32)), .val (.ref b1), .val (.int (4 : Int32)), .val (.int (1 : Int32)), .unset, .unset, .unset]) rfl k) ?_
        show own_Fin _ _ _ _ _ _ _ (T187.setTop (mkF m 61 #[.val (.int p1), .val (.int p2), .val (.int p3), .val (.int ch), .val (.int (3 : Int32)), .val (.ref b1), .val (.int (4 : Int32)), .val (.int (1 : Int32)), .unset, .unset, .unset] []))
        refine own_st (fun t k => XS.iload X187.here hx rfl (hb hby at_61) rfl k) ?_
        show own_Fin _ _ _ _ _ _ _ (T187.setTop (mkF m 63 #[.val (.int p1), .val (.int p2), .val (.int p3), .val (.int ch), .val (.int (3 : Int32)), .val (.ref b1), .val (.int (4 : Int32)), .val (.int (1 : Int32)), .unset, .unset, .unset] [(.int (1 : Int32))]))
        refine own_st (fun t k => XS.iconst X187.here hx rfl (hb hby at_63) k) ?_
        show own_Fin _ _ _ _ _ _ _ (T187.setTop (mkF m 64 #[.val (.int p1), .val (.int p2), .val (.int p3), .val (.int ch), .val (.int (3 : Int32)), .val (.ref b1), .val (.int (4 : Int32)), .val (.int (1 : Int32)), .unset, .unset, .unset] [(.int (1 : Int32)), (.int (1 : Int32))]))
        refine own_st (fun t k => XS.icmpNo X187.here hx rfl (hb hby at_64) rfl (flt (by decide : ¬ ((1 : Int32) < (1 : Int32)))).1 k) ?_
        show own_Fin _ _ _ _ _ _ _ (T187.setTop (mkF m 67 #[.val (.int p1), .val (.int p2), .val (.int p3), .val (.int ch), .val (.int (3 : Int32)), .val (.ref b1), .val (.int (4 : Int32)), .val (.int (1 : Int32)), .unset, .unset, .unset] []))
        refine own_st (fun t k => XS.iload X187.here hx rfl (hb hby at_67) rfl k) ?_
        show own_Fin _ _ _ _ _ _ _ (T187.setTop (mkF m 69 #[.val (.int p1), .val (.int p2), .val (.int p3), .val (.int ch), .val (.int (3 : Int32)), .val (.ref b1), .val (.int (4 : Int32)), .val (.int (1 : Int32)), .unset, .unset, .unset] [(.int (1 : Int32))]))
        refine own_st (fun t k => XS.iconst X187.here hx rfl (hb hby at_69) k) ?_
        show own_Fin _ _ _ _ _ _ _ (T187.setTop (mkF m 70 #[.val (.int p1), .val (.int p2), .val (.int p3), .val (.int ch), .val (.int (3 : Int32)), .val (.ref b1), .val (.int (4 : Int32)), .val (.int (1 : Int32)), .unset, .unset, .unset] [(.int (2 : Int32)), (.int (1 : Int32))]))
        refine own_st (fun t k => XS.icmpYes X187.here hx rfl (pc0 := 70) (pc' := 75) rfl (hb hby at_70) rfl (flt (by decide : ¬ ((2 : Int32) < (1 : Int32)))).2.2.2 (by decide) (by decide) k) ?_
        show own_Fin _ _ _ _ _ _ _ (T187.setTop (mkF m 75 #[.val (.int p1), .val (.int p2), .val (.int p3), .val (.int ch), .val (.int (3 : Int32)), .val (.ref b1), .val (.int (4 : Int32)), .val (.int (1 : Int32)), .unset, .unset, .unset] []))
        refine own_st (fun t k => XS.aload X187.here hx rfl (hb hby at_75) rfl rfl k) ?_
        show own_Fin _ _ _ _ _ _ _ (T187.setTop (mkF m 77 #[.val (.int p1), .val (.int p2), .val (.int p3), .val (.int ch), .val (.int (3 : Int32)), .val (.ref b1), .val (.int (4 : Int32)), .val (.int (1 : Int32)), .unset, .unset, .unset] [(.ref b1)]))
        refine own_st (fun t k => XS.iload X187.here hx rfl (hb hby at_77) rfl k) ?_
        show own_Fin _ _ _ _ _ _ _ (T187.setTop (mkF m 79 #[.val (.int p1), .val (.int p2), .val (.int p3), .val (.int ch), .val (.int (3 : Int32)), .val (.ref b1), .val (.int (4 : Int32)), .val (.int (1 : Int32)), .unset, .unset, .unset] [(.int (3 : Int32)), (.ref b1)]))
        obtain ⟨cl188, Ar188, Cq188, Sz188, Mn188, Hs188, Gf188⟩ := id Vx187
        have hin188 := inb_of Sz188 (j := (3 : Int32)) ⟨by decide, by decide⟩
        refine own_st (X187.iaload hx (j := (3 : Int32)) (v := (.int (ch + (1 : Int32)))) Ar188.1 (State.isArrayOf_alike hZ.alike Ar188.2.1) Ar188.2.2 hin188 (Hs188.at hin188 rfl) (g := (mkF m 79 #[.val (.int p1), .val (.int p2), .val (.int p3), .val (.int ch), .val (.int (3 : Int32)), .val (.ref b1), .val (.int (4 : Int32)), .val (.int (1 : Int32)), .unset, .unset, .unset] [(.int (3 : Int32)), (.ref b1)])) rfl rfl (hb hby at_79)) ?_
        show own_Fin _ _ _ _ _ _ _ (T187.setTop (mkF m 80 #[.val (.int p1), .val (.int p2), .val (.int p3), .val (.int ch), .val (.int (3 : Int32)), .val (.ref b1), .val (.int (4 : Int32)), .val (.int (1 : Int32)), .unset, .unset, .unset] [(.int (ch + (1 : Int32)))]))
        refine own_st (fun t k => XS.istore X187.here hx rfl (hb hby at_80) rfl (l' := #[.val (.int p1), .val (.int p2), .val (.int p3), .val (.int ch), .val (.int (3 : Int32)), .val (.ref b1), .val (.int (4 : Int32)), .val (.int (1 : Int32)), .val (.int (ch + (1 : Int32))), .unset, .unset]) rfl k) ?_
        show own_Fin _ _ _ _ _ _ _ (T187.setTop (mkF m 82 #[.val (.int p1), .val (.int p2), .val (.int p3), .val (.int ch), .val (.int (3 : Int32)), .val (.ref b1), .val (.int (4 : Int32)), .val (.int (1 : Int32)), .val (.int (ch + (1 : Int32))), .unset, .unset] []))
        refine own_st (fun t k => XS.iload X187.here hx rfl (hb hby at_82) rfl k) ?_
        show own_Fin _ _ _ _ _ _ _ (T187.setTop (mkF m 84 #[.val (.int p1), .val (.int p2), .val (.int p3), .val (.int ch), .val (.int (3 : Int32)), .val (.ref b1), .val (.int (4 : Int32)), .val (.int (1 : Int32)), .val (.int (ch + (1 : Int32))), .unset, .unset] [(.int (ch + (1 : Int32)))]))
        refine own_st (fun t k => XS.iconst X187.here hx rfl (hb hby at_84) k) ?_
        show own_Fin _ _ _ _ _ _ _ (T187.setTop (mkF m 85 #[.val (.int p1), .val (.int p2), .val (.int p3), .val (.int ch), .val (.int (3 : Int32)), .val (.ref b1), .val (.int (4 : Int32)), .val (.int (1 : Int32)), .val (.int (ch + (1 : Int32))), .unset, .unset] [(.int (1 : Int32)), (.int (ch + (1 : Int32)))]))
        have hd85_189 : ¬ ((ch + (1 : Int32)) < (1 : Int32)) := (own_lo hc0.1 hB).1
        refine own_st (fun t k => XS.icmpNo X187.here hx rfl (hb hby at_85) rfl (flt hd85_189).1 k) ?_
        show own_Fin _ _ _ _ _ _ _ (T187.setTop (mkF m 88 #[.val (.int p1), .val (.int p2), .val (.int p3), .val (.int ch), .val (.int (3 : Int32)), .val (.ref b1), .val (.int (4 : Int32)), .val (.int (1 : Int32)), .val (.int (ch + (1 : Int32))), .unset, .unset] []))
        refine own_st (fun t k => XS.iload X187.here hx rfl (hb hby at_88) rfl k) ?_
        show own_Fin _ _ _ _ _ _ _ (T187.setTop (mkF m 90 #[.val (.int p1), .val (.int p2), .val (.int p3), .val (.int ch), .val (.int (3 : Int32)), .val (.ref b1), .val (.int (4 : Int32)), .val (.int (1 : Int32)), .val (.int (ch + (1 : Int32))), .unset, .unset] [(.int (ch + (1 : Int32)))]))
        refine own_st (fun t k => XS.sipush X187.here hx rfl (hb hby at_90) k) ?_
        show own_Fin _ _ _ _ _ _ _ (T187.setTop (mkF m 93 #[.val (.int p1), .val (.int p2), .val (.int p3), .val (.int ch), .val (.int (3 : Int32)), .val (.ref b1), .val (.int (4 : Int32)), .val (.int (1 : Int32)), .val (.int (ch + (1 : Int32))), .unset, .unset] [(.int (128 : Int32)), (.int (ch + (1 : Int32)))]))
        have hd93_190 : ¬ ((128 : Int32) < (ch + (1 : Int32))) := (own_lo hc0.1 hB).2.1
        refine own_st (fun t k => XS.icmpNo X187.here hx rfl (hb hby at_93) rfl (flt hd93_190).2.2.1 k) ?_
        show own_Fin _ _ _ _ _ _ _ (T187.setTop (mkF m 96 #[.val (.int p1), .val (.int p2), .val (.int p3), .val (.int ch), .val (.int (3 : Int32)), .val (.ref b1), .val (.int (4 : Int32)), .val (.int (1 : Int32)), .val (.int (ch + (1 : Int32))), .unset, .unset] []))
        refine own_st (fun t k => XS.iload X187.here hx rfl (hb hby at_96) rfl k) ?_
        show own_Fin _ _ _ _ _ _ _ (T187.setTop (mkF m 98 #[.val (.int p1), .val (.int p2), .val (.int p3), .val (.int ch), .val (.int (3 : Int32)), .val (.ref b1), .val (.int (4 : Int32)), .val (.int (1 : Int32)), .val (.int (ch + (1 : Int32))), .unset, .unset] [(.int (1 : Int32))]))
        refine own_st (fun t k => XS.iconst X187.here hx rfl (hb hby at_98) k) ?_
        show own_Fin _ _ _ _ _ _ _ (T187.setTop (mkF m 99 #[.val (.int p1), .val (.int p2), .val (.int p3), .val (.int ch), .val (.int (3 : Int32)), .val (.ref b1), .val (.int (4 : Int32)), .val (.int (1 : Int32)), .val (.int (ch + (1 : Int32))), .unset, .unset] [(.int (1 : Int32)), (.int (1 : Int32))]))
        refine own_st (fun t k => XS.icmpYes X187.here hx rfl (pc0 := 99) (pc' := 104) rfl (hb hby at_99) rfl (teq (by decide : (1 : Int32) = (1 : Int32))).1 (by decide) (by decide) k) ?_
        show own_Fin _ _ _ _ _ _ _ (T187.setTop (mkF m 104 #[.val (.int p1), .val (.int p2), .val (.int p3), .val (.int ch), .val (.int (3 : Int32)), .val (.ref b1), .val (.int (4 : Int32)), .val (.int (1 : Int32)), .val (.int (ch + (1 : Int32))), .unset, .unset] []))
        refine own_st (fun t k => XS.iload X187.here hx rfl (hb hby at_104) rfl k) ?_
        show own_Fin _ _ _ _ _ _ _ (T187.setTop (mkF m 106 #[.val (.int p1), .val (.int p2), .val (.int p3), .val (.int ch), .val (.int (3 : Int32)), .val (.ref b1), .val (.int (4 : Int32)), .val (.int (1 : Int32)), .val (.int (ch + (1 : Int32))), .unset, .unset] [(.int (ch + (1 : Int32)))]))
        refine own_st (fun t k => XS.iconst X187.here hx rfl (hb hby at_106) k) ?_
        show own_Fin _ _ _ _ _ _ _ (T187.setTop (mkF m 107 #[.val (.int p1), .val (.int p2), .val (.int p3), .val (.int ch), .val (.int (3 : Int32)), .val (.ref b1), .val (.int (4 : Int32)), .val (.int (1 : Int32)), .val (.int (ch + (1 : Int32))), .unset, .unset] [(.int (1 : Int32)), (.int (ch + (1 : Int32)))]))
        refine own_st (fun t k => XS.isub X187.here hx rfl (hb hby at_107) rfl k) ?_
        show own_Fin _ _ _ _ _ _ _ (T187.setTop (mkF m 108 #[.val (.int p1), .val (.int p2), .val (.int p3), .val (.int ch), .val (.int (3 : Int32)), .val (.ref b1), .val (.int (4 : Int32)), .val (.int (1 : Int32)), .val (.int (ch + (1 : Int32))), .unset, .unset] [(.int ((ch + (1 : Int32)) - (1 : Int32)))]))
        refine own_st (fun t k => XS.istore X187.here hx rfl (hb hby at_108) rfl (l' := #[.val (.int p1), .val (.int p2), .val (.int p3), .val (.int ch), .val (.int (3 : Int32)), .val (.ref b1), .val (.int (4 : Int32)), .val (.int (1 : Int32)), .val (.int (ch + (1 : Int32))), .val (.int ((ch + (1 : Int32)) - (1 : Int32))), .unset]) rfl k) ?_
        show own_Fin _ _ _ _ _ _ _ (T187.setTop (mkF m 110 #[.val (.int p1), .val (.int p2), .val (.int p3), .val (.int ch), .val (.int (3 : Int32)), .val (.ref b1), .val (.int (4 : Int32)), .val (.int (1 : Int32)), .val (.int (ch + (1 : Int32))), .val (.int ((ch + (1 : Int32)) - (1 : Int32))), .unset] []))
        refine own_st (fun t k => XS.goto X187.here hx rfl (pc0 := 110) (pc' := 193) rfl (hb hby at_110) (by decide) (by decide) k) ?_
        show own_Fin _ _ _ _ _ _ _ (T187.setTop (mkF m 193 #[.val (.int p1), .val (.int p2), .val (.int p3), .val (.int ch), .val (.int (3 : Int32)), .val (.ref b1), .val (.int (4 : Int32)), .val (.int (1 : Int32)), .val (.int (ch + (1 : Int32))), .val (.int ((ch + (1 : Int32)) - (1 : Int32))), .unset] []))
        refine own_st (fun t k => XS.iload X187.here hx rfl (hb hby at_193) rfl k) ?_
        show own_Fin _ _ _ _ _ _ _ (T187.setTop (mkF m 195 #[.val (.int p1), .val (.int p2), .val (.int p3), .val (.int ch), .val (.int (3 : Int32)), .val (.ref b1), .val (.int (4 : Int32)), .val (.int (1 : Int32)), .val (.int (ch + (1 : Int32))), .val (.int ((ch + (1 : Int32)) - (1 : Int32))), .unset] [(.int ((ch + (1 : Int32)) - (1 : Int32)))]))
        refine own_st (fun t k => XS.iloadN X187.here hx rfl (hb hby at_195) rfl k) ?_
        show own_Fin _ _ _ _ _ _ _ (T187.setTop (mkF m 196 #[.val (.int p1), .val (.int p2), .val (.int p3), .val (.int ch), .val (.int (3 : Int32)), .val (.ref b1), .val (.int (4 : Int32)), .val (.int (1 : Int32)), .val (.int (ch + (1 : Int32))), .val (.int ((ch + (1 : Int32)) - (1 : Int32))), .unset] [(.int ch), (.int ((ch + (1 : Int32)) - (1 : Int32)))]))
        have hd196_191 : ((ch + (1 : Int32)) - (1 : Int32)) = ch := (own_lo hc0.1 hB).2.2
        refine own_st (fun t k => XS.icmpNo X187.here hx rfl (hb hby at_196) rfl (teq hd196_191).2 k) ?_
        show own_Fin _ _ _ _ _ _ _ (T187.setTop (mkF m 199 #[.val (.int p1), .val (.int p2), .val (.int p3), .val (.int ch), .val (.int (3 : Int32)), .val (.ref b1), .val (.int (4 : Int32)), .val (.int (1 : Int32)), .val (.int (ch + (1 : Int32))), .val (.int ((ch + (1 : Int32)) - (1 : Int32))), .unset] []))
        refine own_st (fun t k => XS.aload X187.here hx rfl (hb hby at_199) rfl rfl k) ?_
        show own_Fin _ _ _ _ _ _ _ (T187.setTop (mkF m 201 #[.val (.int p1), .val (.int p2), .val (.int p3), .val (.int ch), .val (.int (3 : Int32)), .val (.ref b1), .val (.int (4 : Int32)), .val (.int (1 : Int32)), .val (.int (ch + (1 : Int32))), .val (.int ((ch + (1 : Int32)) - (1 : Int32))), .unset] [(.ref b1)]))
        refine own_st (fun t k => XS.iconst X187.here hx rfl (hb hby at_201) k) ?_
        show own_Fin _ _ _ _ _ _ _ (T187.setTop (mkF m 202 #[.val (.int p1), .val (.int p2), .val (.int p3), .val (.int ch), .val (.int (3 : Int32)), .val (.ref b1), .val (.int (4 : Int32)), .val (.int (1 : Int32)), .val (.int (ch + (1 : Int32))), .val (.int ((ch + (1 : Int32)) - (1 : Int32))), .unset] [(.int (0 : Int32)), (.ref b1)]))
        refine own_st (fun t k => XS.iload X187.here hx rfl (hb hby at_202) rfl k) ?_
        show own_Fin _ _ _ _ _ _ _ (T187.setTop (mkF m 204 #[.val (.int p1), .val (.int p2), .val (.int p3), .val (.int ch), .val (.int (3 : Int32)), .val (.ref b1), .val (.int (4 : Int32)), .val (.int (1 : Int32)), .val (.int (ch + (1 : Int32))), .val (.int ((ch + (1 : Int32)) - (1 : Int32))), .unset] [(.int (3 : Int32)), (.int (0 : Int32)), (.ref b1)]))
        refine own_st (fun t k => XS.iload X187.here hx rfl (hb hby at_204) rfl k) ?_
        show own_Fin _ _ _ _ _ _ _ (T187.setTop (mkF m 206 #[.val (.int p1), .val (.int p2), .val (.int p3), .val (.int ch), .val (.int (3 : Int32)), .val (.ref b1), .val (.int (4 : Int32)), .val (.int (1 : Int32)), .val (.int (ch + (1 : Int32))), .val (.int ((ch + (1 : Int32)) - (1 : Int32))), .unset] [(.int (4 : Int32)), (.int (3 : Int32)), (.int (0 : Int32)), (.ref b1)]))
        refine own_st (fun t k => XS.iloadN X187.here hx rfl (hb hby at_206) rfl k) ?_
        show own_Fin _ _ _ _ _ _ _ (T187.setTop (mkF m 207 #[.val (.int p1), .val (.int p2), .val (.int p3), .val (.int ch), .val (.int (3 : Int32)), .val (.ref b1), .val (.int (4 : Int32)), .val (.int (1 : Int32)), .val (.int (ch + (1 : Int32))), .val (.int ((ch + (1 : Int32)) - (1 : Int32))), .unset] [(.int p3), (.int (4 : Int32)), (.int (3 : Int32)), (.int (0 : Int32)), (.ref b1)]))
        obtain ⟨_, _, ⟨T192, L192, k192, n192⟩, -, X192, ⟨Lc192, hQ192, l192, y192, z192⟩, st192⟩ := Jvm.LawKit.callS X187 hx (y := (⟨"com/example/quietzone/quietzone/datamatrix/AsciiEncodationWritePinLaw", "untouched", "([IIIII)Z"⟩ : MethodName)) hown (mvT hZ (hw _ (List.mem_of_getElem? (i := 6) rfl))) (mvT hZ (hw _ (List.mem_of_getElem? (i := 7) rfl))) (mvT hZ (hw _ (List.mem_of_getElem? (i := 8) rfl))) (mvT hZ (hw _ (List.mem_of_getElem? (i := 9) rfl))) (by decide) (backOf (W := 0) (rm2 l Z a0 hw [] b1 (0 : Int32) (3 : Int32) (4 : Int32) p3 k1 (6 : Int32) [(.int p3), (.int p3), (.int p3), (.int (ch + (1 : Int32))), (.int p3), (.int p3)] p3 T187.heap n0 Z187 Vx187 (by decide) (by decide) rfl) hZ (hw _ (List.mem_of_getElem? (i := 9) rfl)) (hw _ (List.mem_of_getElem? (i := 8) rfl)) (by decide) (by decide)) (g := (mkF m 207 #[.val (.int p1), .val (.int p2), .val (.int p3), .val (.int ch), .val (.int (3 : Int32)), .val (.ref b1), .val (.int (4 : Int32)), .val (.int (1 : Int32)), .val (.int (ch + (1 : Int32))), .val (.int ((ch + (1 : Int32)) - (1 : Int32))), .unset] [(.int p3), (.int (4 : Int32)), (.int (3 : Int32)), (.int (0 : Int32)), (.ref b1)])) rfl (by rw [hml]; rfl) (argsL := [(.ref b1), (.int (0 : Int32)), (.int (3 : Int32)), (.int (4 : Int32)), (.int p3)]) (rest := []) (lenOf pd_0_1 rfl) rfl (by show 2 * 0 + _ ≤ _; exact Nat.le_of_eq rfl) (hb hby at_207) (fun _ _ => ⟨rfl, rfl, (by decide : 1 + 0 ≤ _), (by decide : 6 + 0 ≤ _)⟩)
        dsimp only [Pt.U, Pt.locs, Pt.cells, Pt.slots] at X192 l192 y192 z192 st192 hQ192
        subst l192 y192 z192
        obtain ⟨rfl, N192q, e192⟩ := hQ192
        have N192 := Fr.app N187 N192q
        refine own_st st192 ?_
        show own_Fin _ _ _ _ _ _ _ (T192.setTop (mkF m 210 #[.val (.int p1), .val (.int p2), .val (.int p3), .val (.int ch), .val (.int (3 : Int32)), .val (.ref b1), .val (.int (4 : Int32)), .val (.int (1 : Int32)), .val (.int (ch + (1 : Int32))), .val (.int ((ch + (1 : Int32)) - (1 : Int32))), .unset] [(.int (own_un (0 : Int32) (3 : Int32) (4 : Int32) p3 p3))]))
        have hd210_193 : ¬ ((own_un (0 : Int32) (3 : Int32) (4 : Int32) p3 p3) = (0 : Int32)) := by unfold own_un; simp
        refine own_st (fun t k => XS.ifNo X192.here hx rfl (hb hby at_210) rfl ((if0 _ _).trans (feq hd210_193).1) k) ?_
        show own_Fin _ _ _ _ _ _ _ (T192.setTop (mkF m 213 #[.val (.int p1), .val (.int p2), .val (.int p3), .val (.int ch), .val (.int (3 : Int32)), .val (.ref b1), .val (.int (4 : Int32)), .val (.int (1 : Int32)), .val (.int (ch + (1 : Int32))), .val (.int ((ch + (1 : Int32)) - (1 : Int32))), .unset] []))
        refine own_st (fun t k => XS.aload X192.here hx rfl (hb hby at_213) rfl rfl k) ?_
        show own_Fin _ _ _ _ _ _ _ (T192.setTop (mkF m 215 #[.val (.int p1), .val (.int p2), .val (.int p3), .val (.int ch), .val (.int (3 : Int32)), .val (.ref b1), .val (.int (4 : Int32)), .val (.int (1 : Int32)), .val (.int (ch + (1 : Int32))), .val (.int ((ch + (1 : Int32)) - (1 : Int32))), .unset] [(.ref b1)]))
        refine own_st (fun t k => XS.iconst X192.here hx rfl (hb hby at_215) k) ?_
        show own_Fin _ _ _ _ _ _ _ (T192.setTop (mkF m 216 #[.val (.int p1), .val (.int p2), .val (.int p3), .val (.int ch), .val (.int (3 : Int32)), .val (.ref b1), .val (.int (4 : Int32)), .val (.int (1 : Int32)), .val (.int (ch + (1 : Int32))), .val (.int ((ch + (1 : Int32)) - (1 : Int32))), .unset] [(.int (1 : Int32)), (.ref b1)]))
        refine own_st (fun t k => XS.iload X192.here hx rfl (hb hby at_216) rfl k) ?_
        show own_Fin _ _ _ _ _ _ _ (T192.setTop (mkF m 218 #[.val (.int p1), .val (.int p2), .val (.int p3), .val (.int ch), .val (.int (3 : Int32)), .val (.ref b1), .val (.int (4 : Int32)), .val (.int (1 : Int32)), .val (.int (ch + (1 : Int32))), .val (.int ((ch + (1 : Int32)) - (1 : Int32))), .unset] [(.int (3 : Int32)), (.int (1 : Int32)), (.ref b1)]))
        refine own_st (fun t k => XS.iload X192.here hx rfl (hb hby at_218) rfl k) ?_
        show own_Fin _ _ _ _ _ _ _ (T192.setTop (mkF m 220 #[.val (.int p1), .val (.int p2), .val (.int p3), .val (.int ch), .val (.int (3 : Int32)), .val (.ref b1), .val (.int (4 : Int32)), .val (.int (1 : Int32)), .val (.int (ch + (1 : Int32))), .val (.int ((ch + (1 : Int32)) - (1 : Int32))), .unset] [(.int (4 : Int32)), (.int (3 : Int32)), (.int (1 : Int32)), (.ref b1)]))
        refine own_st (fun t k => XS.iloadN X192.here hx rfl (hb hby at_220) rfl k) ?_
        show own_Fin _ _ _ _ _ _ _ (T192.setTop (mkF m 221 #[.val (.int p1), .val (.int p2), .val (.int p3), .val (.int ch), .val (.int (3 : Int32)), .val (.ref b1), .val (.int (4 : Int32)), .val (.int (1 : Int32)), .val (.int (ch + (1 : Int32))), .val (.int ((ch + (1 : Int32)) - (1 : Int32))), .unset] [(.int p3), (.int (4 : Int32)), (.int (3 : Int32)), (.int (1 : Int32)), (.ref b1)]))
        obtain ⟨_, _, ⟨T194, L194, k194, n194⟩, -, X194, ⟨Lc194, hQ194, l194, y194, z194⟩, st194⟩ := Jvm.LawKit.callS X192 hx (y := (⟨"com/example/quietzone/quietzone/datamatrix/AsciiEncodationWritePinLaw", "untouched", "([IIIII)Z"⟩ : MethodName)) hown (mvT hZ (hw _ (List.mem_of_getElem? (i := 6) rfl))) (mvT hZ (hw _ (List.mem_of_getElem? (i := 7) rfl))) (mvT hZ (hw _ (List.mem_of_getElem? (i := 8) rfl))) (mvT hZ (hw _ (List.mem_of_getElem? (i := 9) rfl))) (by decide) (backOf (W := 0) (rm2 l Z a0 hw [] b1 (1 : Int32) (3 : Int32) (4 : Int32) p3 k1 (6 : Int32) [(.int p3), (.int p3), (.int p3), (.int (ch + (1 : Int32))), (.int p3), (.int p3)] p3 T187.heap n0 Z187 Vx187 (by decide) (by decide) rfl) hZ (hw _ (List.mem_of_getElem? (i := 9) rfl)) (hw _ (List.mem_of_getElem? (i := 8) rfl)) (by decide) (by decide)) (g := (mkF m 221 #[.val (.int p1), .val (.int p2), .val (.int p3), .val (.int ch), .val (.int (3 : Int32)), .val (.ref b1), .val (.int (4 : Int32)), .val (.int (1 : Int32)), .val (.int (ch + (1 : Int32))), .val (.int ((ch + (1 : Int32)) - (1 : Int32))), .unset] [(.int p3), (.int (4 : Int32)), (.int (3 : Int32)), (.int (1 : Int32)), (.ref b1)])) rfl (by rw [hml]; rfl) (argsL := [(.ref b1), (.int (1 : Int32)), (.int (3 : Int32)), (.int (4 : Int32)), (.int p3)]) (rest := []) (lenOf pd_0_1 rfl) rfl (by show 2 * 0 + _ ≤ _; exact Nat.le_of_eq rfl) (hb hby at_221) (fun _ _ => ⟨rfl, e192, (by decide : 1 + 0 ≤ _), (by decide : 6 + 0 ≤ _)⟩)
        dsimp only [Pt.U, Pt.locs, Pt.cells, Pt.slots] at X194 l194 y194 z194 st194 hQ194
        subst l194 y194 z194
        obtain ⟨rfl, N194q, e194⟩ := hQ194
        have N194 := Fr.app N192 N194q
        refine own_st st194 ?_
        show own_Fin _ _ _ _ _ _ _ (T194.setTop (mkF m 224 #[.val (.int p1), .val (.int p2), .val (.int p3), .val (.int ch), .val (.int (3 : Int32)), .val (.ref b1), .val (.int (4 : Int32)), .val (.int (1 : Int32)), .val (.int (ch + (1 : Int32))), .val (.int ((ch + (1 : Int32)) - (1 : Int32))), .unset] [(.int (own_un (1 : Int32) (3 : Int32) (4 : Int32) p3 p3))]))
        have hd224_195 : ¬ ((own_un (1 : Int32) (3 : Int32) (4 : Int32) p3 p3) = (0 : Int32)) := by unfold own_un; simp
        refine own_st (fun t k => XS.ifNo X194.here hx rfl (hb hby at_224) rfl ((if0 _ _).trans (feq hd224_195).1) k) ?_
        show own_Fin _ _ _ _ _ _ _ (T194.setTop (mkF m 227 #[.val (.int p1), .val (.int p2), .val (.int p3), .val (.int ch), .val (.int (3 : Int32)), .val (.ref b1), .val (.int (4 : Int32)), .val (.int (1 : Int32)), .val (.int (ch + (1 : Int32))), .val (.int ((ch + (1 : Int32)) - (1 : Int32))), .unset] []))
        refine own_st (fun t k => XS.aload X194.here hx rfl (hb hby at_227) rfl rfl k) ?_
        show own_Fin _ _ _ _ _ _ _ (T194.setTop (mkF m 229 #[.val (.int p1), .val (.int p2), .val (.int p3), .val (.int ch), .val (.int (3 : Int32)), .val (.ref b1), .val (.int (4 : Int32)), .val (.int (1 : Int32)), .val (.int (ch + (1 : Int32))), .val (.int ((ch + (1 : Int32)) - (1 : Int32))), .unset] [(.ref b1)]))
        refine own_st (fun t k => XS.iconst X194.here hx rfl (hb hby at_229) k) ?_
        show own_Fin _ _ _ _ _ _ _ (T194.setTop (mkF m 230 #[.val (.int p1), .val (.int p2), .val (.int p3), .val (.int ch), .val (.int (3 : Int32)), .val (.ref b1), .val (.int (4 : Int32)), .val (.int (1 : Int32)), .val (.int (ch + (1 : Int32))), .val (.int ((ch + (1 : Int32)) - (1 : Int32))), .unset] [(.int (2 : Int32)), (.ref b1)]))
        refine own_st (fun t k => XS.iload X194.here hx rfl (hb hby at_230) rfl k) ?_
        show own_Fin _ _ _ _ _ _ _ (T194.setTop (mkF m 232 #[.val (.int p1), .val (.int p2), .val (.int p3), .val (.int ch), .val (.int (3 : Int32)), .val (.ref b1), .val (.int (4 : Int32)), .val (.int (1 : Int32)), .val (.int (ch + (1 : Int32))), .val (.int ((ch + (1 : Int32)) - (1 : Int32))), .unset] [(.int (3 : Int32)), (.int (2 : Int32)), (.ref b1)]))
        refine own_st (fun t k => XS.iload X194.here hx rfl (hb hby at_232) rfl k) ?_
        show own_Fin _ _ _ _ _ _ _ (T194.setTop (mkF m 234 #[.val (.int p1), .val (.int p2), .val (.int p3), .val (.int ch), .val (.int (3 : Int32)), .val (.ref b1), .val (.int (4 : Int32)), .val (.int (1 : Int32)), .val (.int (ch + (1 : Int32))), .val (.int ((ch + (1 : Int32)) - (1 : Int32))), .unset] [(.int (4 : Int32)), (.int (3 : Int32)), (.int (2 : Int32)), (.ref b1)]))
        refine own_st (fun t k => XS.iloadN X194.here hx rfl (hb hby at_234) rfl k) ?_
        show own_Fin _ _ _ _ _ _ _ (T194.setTop (mkF m 235 #[.val (.int p1), .val (.int p2), .val (.int p3), .val (.int ch), .val (.int (3 : Int32)), .val (.ref b1), .val (.int (4 : Int32)), .val (.int (1 : Int32)), .val (.int (ch + (1 : Int32))), .val (.int ((ch + (1 : Int32)) - (1 : Int32))), .unset] [(.int p3), (.int (4 : Int32)), (.int (3 : Int32)), (.int (2 : Int32)), (.ref b1)]))
        obtain ⟨_, _, ⟨T196, L196, k196, n196⟩, -, X196, ⟨Lc196, hQ196, l196, y196, z196⟩, st196⟩ := Jvm.LawKit.callS X194 hx (y := (⟨"com/example/quietzone/quietzone/datamatrix/AsciiEncodationWritePinLaw", "untouched", "([IIIII)Z"⟩ : MethodName)) hown (mvT hZ (hw _ (List.mem_of_getElem? (i := 6) rfl))) (mvT hZ (hw _ (List.mem_of_getElem? (i := 7) rfl))) (mvT hZ (hw _ (List.mem_of_getElem? (i := 8) rfl))) (mvT hZ (hw _ (List.mem_of_getElem? (i := 9) rfl))) (by decide) (backOf (W := 0) (rm2 l Z a0 hw [] b1 (2 : Int32) (3 : Int32) (4 : Int32) p3 k1 (6 : Int32) [(.int p3), (.int p3), (.int p3), (.int (ch + (1 : Int32))), (.int p3), (.int p3)] p3 T187.heap n0 Z187 Vx187 (by decide) (by decide) rfl) hZ (hw _ (List.mem_of_getElem? (i := 9) rfl)) (hw _ (List.mem_of_getElem? (i := 8) rfl)) (by decide) (by decide)) (g := (mkF m 235 #[.val (.int p1), .val (.int p2), .val (.int p3), .val (.int ch), .val (.int (3 : Int32)), .val (.ref b1), .val (.int (4 : Int32)), .val (.int (1 : Int32)), .val (.int (ch + (1 : Int32))), .val (.int ((ch + (1 : Int32)) - (1 : Int32))), .unset] [(.int p3), (.int (4 : Int32)), (.int (3 : Int32)), (.int (2 : Int32)), (.ref b1)])) rfl (by rw [hml]; rfl) (argsL := [(.ref b1), (.int (2 : Int32)), (.int (3 : Int32)), (.int (4 : Int32)), (.int p3)]) (rest := []) (lenOf pd_0_1 rfl) rfl (by show 2 * 0 + _ ≤ _; exact Nat.le_of_eq rfl) (hb hby at_235) (fun _ _ => ⟨rfl, e194, (by decide : 1 + 0 ≤ _), (by decide : 6 + 0 ≤ _)⟩)
        dsimp only [Pt.U, Pt.locs, Pt.cells, Pt.slots] at X196 l196 y196 z196 st196 hQ196
        subst l196 y196 z196
        obtain ⟨rfl, N196q, e196⟩ := hQ196
        have N196 := Fr.app N194 N196q
        refine own_st st196 ?_
        show own_Fin _ _ _ _ _ _ _ (T196.setTop (mkF m 238 #[.val (.int p1), .val (.int p2), .val (.int p3), .val (.int ch), .val (.int (3 : Int32)), .val (.ref b1), .val (.int (4 : Int32)), .val (.int (1 : Int32)), .val (.int (ch + (1 : Int32))), .val (.int ((ch + (1 : Int32)) - (1 : Int32))), .unset] [(.int (own_un (2 : Int32) (3 : Int32) (4 : Int32) p3 p3))]))
        have hd238_197 : ¬ ((own_un (2 : Int32) (3 : Int32) (4 : Int32) p3 p3) = (0 : Int32)) := by unfold own_un; simp
        refine own_st (fun t k => XS.ifNo X196.here hx rfl (hb hby at_238) rfl ((if0 _ _).trans (feq hd238_197).1) k) ?_
        show own_Fin _ _ _ _ _ _ _ (T196.setTop (mkF m 241 #[.val (.int p1), .val (.int p2), .val (.int p3), .val (.int ch), .val (.int (3 : Int32)), .val (.ref b1), .val (.int (4 : Int32)), .val (.int (1 : Int32)), .val (.int (ch + (1 : Int32))), .val (.int ((ch + (1 : Int32)) - (1 : Int32))), .unset] []))
        refine own_st (fun t k => XS.aload X196.here hx rfl (hb hby at_241) rfl rfl k) ?_
        show own_Fin _ _ _ _ _ _ _ (T196.setTop (mkF m 243 #[.val (.int p1), .val (.int p2), .val (.int p3), .val (.int ch), .val (.int (3 : Int32)), .val (.ref b1), .val (.int (4 : Int32)), .val (.int (1 : Int32)), .val (.int (ch + (1 : Int32))), .val (.int ((ch + (1 : Int32)) - (1 : Int32))), .unset] [(.ref b1)]))
        refine own_st (fun t k => XS.iconst X196.here hx rfl (hb hby at_243) k) ?_
        show own_Fin _ _ _ _ _ _ _ (T196.setTop (mkF m 244 #[.val (.int p1), .val (.int p2), .val (.int p3), .val (.int ch), .val (.int (3 : Int32)), .val (.ref b1), .val (.int (4 : Int32)), .val (.int (1 : Int32)), .val (.int (ch + (1 : Int32))), .val (.int ((ch + (1 : Int32)) - (1 : Int32))), .unset] [(.int (3 : Int32)), (.ref b1)]))
        refine own_st (fun t k => XS.iload X196.here hx rfl (hb hby at_244) rfl k) ?_
        show own_Fin _ _ _ _ _ _ _ (T196.setTop (mkF m 246 #[.val (.int p1), .val (.int p2), .val (.int p3), .val (.int ch), .val (.int (3 : Int32)), .val (.ref b1), .val (.int (4 : Int32)), .val (.int (1 : Int32)), .val (.int (ch + (1 : Int32))), .val (.int ((ch + (1 : Int32)) - (1 : Int32))), .unset] [(.int (3 : Int32)), (.int (3 : Int32)), (.ref b1)]))
        refine own_st (fun t k => XS.iload X196.here hx rfl (hb hby at_246) rfl k) ?_
        show own_Fin _ _ _ _ _ _ _ (T196.setTop (mkF m 248 #[.val (.int p1), .val (.int p2), .val (.int p3), .val (.int ch), .val (.int (3 : Int32)), .val (.ref b1), .val (.int (4 : Int32)), .val (.int (1 : Int32)), .val (.int (ch + (1 : Int32))), .val (.int ((ch + (1 : Int32)) - (1 : Int32))), .unset] [(.int (4 : Int32)), (.int (3 : Int32)), (.int (3 : Int32)), (.ref b1)]))
        refine own_st (fun t k => XS.iloadN X196.here hx rfl (hb hby at_248) rfl k) ?_
        show own_Fin _ _ _ _ _ _ _ (T196.setTop (mkF m 249 #[.val (.int p1), .val (.int p2), .val (.int p3), .val (.int ch), .val (.int (3 : Int32)), .val (.ref b1), .val (.int (4 : Int32)), .val (.int (1 : Int32)), .val (.int (ch + (1 : Int32))), .val (.int ((ch + (1 : Int32)) - (1 : Int32))), .unset] [(.int p3), (.int (4 : Int32)), (.int (3 : Int32)), (.int (3 : Int32)), (.ref b1)]))
        obtain ⟨_, _, ⟨T198, L198, k198, n198⟩, -, X198, ⟨Lc198, hQ198, l198, y198, z198⟩, st198⟩ := Jvm.LawKit.callS X196 hx (y := (⟨"com/example/quietzone/quietzone/datamatrix/AsciiEncodationWritePinLaw", "untouched", "([IIIII)Z"⟩ : MethodName)) hown (mvT hZ (hw _ (List.mem_of_getElem? (i := 6) rfl))) (mvT hZ (hw _ (List.mem_of_getElem? (i := 7) rfl))) (mvT hZ (hw _ (List.mem_of_getElem? (i := 8) rfl))) (mvT hZ (hw _ (List.mem_of_getElem? (i := 9) rfl))) (by decide) (backOf (W := 0) (rm2 l Z a0 hw [] b1 (3 : Int32) (3 : Int32) (4 : Int32) p3 k1 (6 : Int32) [(.int p3), (.int p3), (.int p3), (.int (ch + (1 : Int32))), (.int p3), (.int p3)] (ch + (1 : Int32)) T187.heap n0 Z187 Vx187 (by decide) (by decide) rfl) hZ (hw _ (List.mem_of_getElem? (i := 9) rfl)) (hw _ (List.mem_of_getElem? (i := 8) rfl)) (by decide) (by decide)) (g := (mkF m 249 #[.val (.int p1), .val (.int p2), .val (.int p3), .val (.int ch), .val (.int (3 : Int32)), .val (.ref b1), .val (.int (4 : Int32)), .val (.int (1 : Int32)), .val (.int (ch + (1 : Int32))), .val (.int ((ch + (1 : Int32)) - (1 : Int32))), .unset] [(.int p3), (.int (4 : Int32)), (.int (3 : Int32)), (.int (3 : Int32)), (.ref b1)])) rfl (by rw [hml]; rfl) (argsL := [(.ref b1), (.int (3 : Int32)), (.int (3 : Int32)), (.int (4 : Int32)), (.int p3)]) (rest := []) (lenOf pd_0_1 rfl) rfl (by show 2 * 0 + _ ≤ _; exact Nat.le_of_eq rfl) (hb hby at_249) (fun _ _ => ⟨rfl, e196, (by decide : 1 + 0 ≤ _), (by decide : 6 + 0 ≤ _)⟩)
        dsimp only [Pt.U, Pt.locs, Pt.cells, Pt.slots] at X198 l198 y198 z198 st198 hQ198
        subst l198 y198 z198
        obtain ⟨rfl, N198q, e198⟩ := hQ198
        have N198 := Fr.app N196 N198q
        refine own_st st198 ?_
        show own_Fin _ _ _ _ _ _ _ (T198.setTop (mkF m 252 #[.val (.int p1), .val (.int p2), .val (.int p3), .val (.int ch), .val (.int (3 : Int32)), .val (.ref b1), .val (.int (4 : Int32)), .val (.int (1 : Int32)), .val (.int (ch + (1 : Int32))), .val (.int ((ch + (1 : Int32)) - (1 : Int32))), .unset] [(.int (own_un (3 : Int32) (3 : Int32) (4 : Int32) p3 (ch + (1 : Int32))))]))
        have hd252_199 : ¬ ((own_un (3 : Int32) (3 : Int32) (4 : Int32) p3 (ch + (1 : Int32))) = (0 : Int32)) := by unfold own_un; simp
        refine own_st (fun t k => XS.ifNo X198.here hx rfl (hb hby at_252) rfl ((if0 _ _).trans (feq hd252_199).1) k) ?_
        show own_Fin _ _ _ _ _ _ _ (T198.setTop (mkF m 255 #[.val (.int p1), .val (.int p2), .val (.int p3), .val (.int ch), .val (.int (3 : Int32)), .val (.ref b1), .val (.int (4 : Int32)), .val (.int (1 : Int32)), .val (.int (ch + (1 : Int32))), .val (.int ((ch + (1 : Int32)) - (1 : Int32))), .unset] []))
        refine own_st (fun t k => XS.aload X198.here hx rfl (hb hby at_255) rfl rfl k) ?_
        show own_Fin _ _ _ _ _ _ _ (T198.setTop (mkF m 257 #[.val (.int p1), .val (.int p2), .val (.int p3), .val (.int ch), .val (.int (3 : Int32)), .val (.ref b1), .val (.int (4 : Int32)), .val (.int (1 : Int32)), .val (.int (ch + (1 : Int32))), .val (.int ((ch + (1 : Int32)) - (1 : Int32))), .unset] [(.ref b1)]))
        refine own_st (fun t k => XS.iconst X198.here hx rfl (hb hby at_257) k) ?_
        show own_Fin _ _ _ _ _ _ _ (T198.setTop (mkF m 258 #[.val (.int p1), .val (.int p2), .val (.int p3), .val (.int ch), .val (.int (3 : Int32)), .val (.ref b1), .val (.int (4 : Int32)), .val (.int (1 : Int32)), .val (.int (ch + (1 : Int32))), .val (.int ((ch + (1 : Int32)) - (1 : Int32))), .unset] [(.int (4 : Int32)), (.ref b1)]))
        refine own_st (fun t k => XS.iload X198.here hx rfl (hb hby at_258) rfl k) ?_
        show own_Fin _ _ _ _ _ _ _ (T198.setTop (mkF m 260 #[.val (.int p1), .val (.int p2), .val (.int p3), .val (.int ch), .val (.int (3 : Int32)), .val (.ref b1), .val (.int (4 : Int32)), .val (.int (1 : Int32)), .val (.int (ch + (1 : Int32))), .val (.int ((ch + (1 : Int32)) - (1 : Int32))), .unset] [(.int (3 : Int32)), (.int (4 : Int32)), (.ref b1)]))
        refine own_st (fun t k => XS.iload X198.here hx rfl (hb hby at_260) rfl k) ?_
        show own_Fin _ _ _ _ _ _ _ (T198.setTop (mkF m 262 #[.val (.int p1), .val (.int p2), .val (.int p3), .val (.int ch), .val (.int (3 : Int32)), .val (.ref b1), .val (.int (4 : Int32)), .val (.int (1 : Int32)), .val (.int (ch + (1 : Int32))), .val (.int ((ch + (1 : Int32)) - (1 : Int32))), .unset] [(.int (4 : Int32)), (.int (3 : Int32)), (.int (4 : Int32)), (.ref b1)]))
        refine own_st (fun t k => XS.iloadN X198.here hx rfl (hb hby at_262) rfl k) ?_
        show own_Fin _ _ _ _ _ _ _ (T198.setTop (mkF m 263 #[.val (.int p1), .val (.int p2), .val (.int p3), .val (.int ch), .val (.int (3 : Int32)), .val (.ref b1), .val (.int (4 : Int32)), .val (.int (1 : Int32)), .val (.int (ch + (1 : Int32))), .val (.int ((ch + (1 : Int32)) - (1 : Int32))), .unset] [(.int p3), (.int (4 : Int32)), (.int (3 : Int32)), (.int (4 : Int32)), (.ref b1)]))
        obtain ⟨_, _, ⟨T200, L200, k200, n200⟩, -, X200, ⟨Lc200, hQ200, l200, y200, z200⟩, st200⟩ := Jvm.LawKit.callS X198 hx (y := (⟨"com/example/quietzone/quietzone/datamatrix/AsciiEncodationWritePinLaw", "untouched", "([IIIII)Z"⟩ : MethodName)) hown (mvT hZ (hw _ (List.mem_of_getElem? (i := 6) rfl))) (mvT hZ (hw _ (List.mem_of_getElem? (i := 7) rfl))) (mvT hZ (hw _ (List.mem_of_getElem? (i := 8) rfl))) (mvT hZ (hw _ (List.mem_of_getElem? (i := 9) rfl))) (by decide) (backOf (W := 0) (rm2 l Z a0 hw [] b1 (4 : Int32) (3 : Int32) (4 : Int32) p3 k1 (6 : Int32) [(.int p3), (.int p3), (.int p3), (.int (ch + (1 : Int32))), (.int p3), (.int p3)] p3 T187.heap n0 Z187 Vx187 (by decide) (by decide) rfl) hZ (hw _ (List.mem_of_getElem? (i := 9) rfl)) (hw _ (List.mem_of_getElem? (i := 8) rfl)) (by decide) (by decide)) (g := (mkF m 263 #[.val (.int p1), .val (.int p2), .val (.int p3), .val (.int ch), .val (.int (3 : Int32)), .val (.ref b1), .val (.int (4 : Int32)), .val (.int (1 : Int32)), .val (.int (ch + (1 : Int32))), .val (.int ((ch + (1 : Int32)) - (1 : Int32))), .unset] [(.int p3), (.int (4 : Int32)), (.int (3 : Int32)), (.int (4 : Int32)), (.ref b1)])) rfl (by rw [hml]; rfl) (argsL := [(.ref b1), (.int (4 : Int32)), (.int (3 : Int32)), (.int (4 : Int32)), (.int p3)]) (rest := []) (lenOf pd_0_1 rfl) rfl (by show 2 * 0 + _ ≤ _; exact Nat.le_of_eq rfl) (hb hby at_263) (fun _ _ => ⟨rfl, e198, (by decide : 1 + 0 ≤ _), (by decide : 6 + 0 ≤ _)⟩)
        dsimp only [Pt.U, Pt.locs, Pt.cells, Pt.slots] at X200 l200 y200 z200 st200 hQ200
        subst l200 y200 z200
        obtain ⟨rfl, N200q, e200⟩ := hQ200
        have N200 := Fr.app N198 N200q
        refine own_st st200 ?_
        show own_Fin _ _ _ _ _ _ _ (T200.setTop (mkF m 266 #[.val (.int p1), .val (.int p2), .val (.int p3), .val (.int ch), .val (.int (3 : Int32)), .val (.ref b1), .val (.int (4 : Int32)), .val (.int (1 : Int32)), .val (.int (ch + (1 : Int32))), .val (.int ((ch + (1 : Int32)) - (1 : Int32))), .unset] [(.int (own_un (4 : Int32) (3 : Int32) (4 : Int32) p3 p3))]))
        have hd266_201 : ¬ ((own_un (4 : Int32) (3 : Int32) (4 : Int32) p3 p3) = (0 : Int32)) := by unfold own_un; simp
        refine own_st (fun t k => XS.ifNo X200.here hx rfl (hb hby at_266) rfl ((if0 _ _).trans (feq hd266_201).1) k) ?_
        show own_Fin _ _ _ _ _ _ _ (T200.setTop (mkF m 269 #[.val (.int p1), .val (.int p2), .val (.int p3), .val (.int ch), .val (.int (3 : Int32)), .val (.ref b1), .val (.int (4 : Int32)), .val (.int (1 : Int32)), .val (.int (ch + (1 : Int32))), .val (.int ((ch + (1 : Int32)) - (1 : Int32))), .unset] []))
        refine own_st (fun t k => XS.aload X200.here hx rfl (hb hby at_269) rfl rfl k) ?_
        show own_Fin _ _ _ _ _ _ _ (T200.setTop (mkF m 271 #[.val (.int p1), .val (.int p2), .val (.int p3), .val (.int ch), .val (.int (3 : Int32)), .val (.ref b1), .val (.int (4 : Int32)), .val (.int (1 : Int32)), .val (.int (ch + (1 : Int32))), .val (.int ((ch + (1 : Int32)) - (1 : Int32))), .unset] [(.ref b1)]))
        refine own_st (fun t k => XS.iconst X200.here hx rfl (hb hby at_271) k) ?_
        show own_Fin _ _ _ _ _ _ _ (T200.setTop (mkF m 272 #[.val (.int p1), .val (.int p2), .val (.int p3), .val (.int ch), .val (.int (3 : Int32)), .val (.ref b1), .val (.int (4 : Int32)), .val (.int (1 : Int32)), .val (.int (ch + (1 : Int32))), .val (.int ((ch + (1 : Int32)) - (1 : Int32))), .unset] [(.int (5 : Int32)), (.ref b1)]))
        refine own_st (fun t k => XS.iload X200.here hx rfl (hb hby at_272) rfl k) ?_
        show own_Fin _ _ _ _ _ _ _ (T200.setTop (mkF m 274 #[.val (.int p1), .val (.int p2), .val (.int p3), .val (.int ch), .val (.int (3 : Int32)), .val (.ref b1), .val (.int (4 : Int32)), .val (.int (1 : Int32)), .val (.int (ch + (1 : Int32))), .val (.int ((ch + (1 : Int32)) - (1 : Int32))), .unset] [(.int (3 : Int32)), (.int (5 : Int32)), (.ref b1)]))
        refine own_st (fun t k => XS.iload X200.here hx rfl (hb hby at_274) rfl k) ?_
        show own_Fin _ _ _ _ _ _ _ (T200.setTop (mkF m 276 #[.val (.int p1), .val (.int p2), .val (.int p3), .val (.int ch), .val (.int (3 : Int32)), .val (.ref b1), .val (.int (4 : Int32)), .val (.int (1 : Int32)), .val (.int (ch + (1 : Int32))), .val (.int ((ch + (1 : Int32)) - (1 : Int32))), .unset] [(.int (4 : Int32)), (.int (3 : Int32)), (.int (5 : Int32)), (.ref b1)]))
        refine own_st (fun t k => XS.iloadN X200.here hx rfl (hb hby at_276) rfl k) ?_
        show own_Fin _ _ _ _ _ _ _ (T200.setTop (mkF m 277 #[.val (.int p1), .val (.int p2), .val (.int p3), .val (.int ch), .val (.int (3 : Int32)), .val (.ref b1), .val (.int (4 : Int32)), .val (.int (1 : Int32)), .val (.int (ch + (1 : Int32))), .val (.int ((ch + (1 : Int32)) - (1 : Int32))), .unset] [(.int p3), (.int (4 : Int32)), (.int (3 : Int32)), (.int (5 : Int32)), (.ref b1)]))
        obtain ⟨_, _, ⟨T202, L202, k202, n202⟩, -, X202, ⟨Lc202, hQ202, l202, y202, z202⟩, st202⟩ := Jvm.LawKit.callS X200 hx (y := (⟨"com/example/quietzone/quietzone/datamatrix/AsciiEncodationWritePinLaw", "untouched", "([IIIII)Z"⟩ : MethodName)) hown (mvT hZ (hw _ (List.mem_of_getElem? (i := 6) rfl))) (mvT hZ (hw _ (List.mem_of_getElem? (i := 7) rfl))) (mvT hZ (hw _ (List.mem_of_getElem? (i := 8) rfl))) (mvT hZ (hw _ (List.mem_of_getElem? (i := 9) rfl))) (by decide) (backOf (W := 0) (rm2 l Z a0 hw [] b1 (5 : Int32) (3 : Int32) (4 : Int32) p3 k1 (6 : Int32) [(.int p3), (.int p3), (.int p3), (.int (ch + (1 : Int32))), (.int p3), (.int p3)] p3 T187.heap n0 Z187 Vx187 (by decide) (by decide) rfl) hZ (hw _ (List.mem_of_getElem? (i := 9) rfl)) (hw _ (List.mem_of_getElem? (i := 8) rfl)) (by decide) (by decide)) (g := (mkF m 277 #[.val (.int p1), .val (.int p2), .val (.int p3), .val (.int ch), .val (.int (3 : Int32)), .val (.ref b1), .val (.int (4 : Int32)), .val (.int (1 : Int32)), .val (.int (ch + (1 : Int32))), .val (.int ((ch + (1 : Int32)) - (1 : Int32))), .unset] [(.int p3), (.int (4 : Int32)), (.int (3 : Int32)), (.int (5 : Int32)), (.ref b1)])) rfl (by rw [hml]; rfl) (argsL := [(.ref b1), (.int (5 : Int32)), (.int (3 : Int32)), (.int (4 : Int32)), (.int p3)]) (rest := []) (lenOf pd_0_1 rfl) rfl (by show 2 * 0 + _ ≤ _; exact Nat.le_of_eq rfl) (hb hby at_277) (fun _ _ => ⟨rfl, e200, (by decide : 1 + 0 ≤ _), (by decide : 6 + 0 ≤ _)⟩)
        dsimp only [Pt.U, Pt.locs, Pt.cells, Pt.slots] at X202 l202 y202 z202 st202 hQ202
        subst l202 y202 z202
        obtain ⟨rfl, N202q, e202⟩ := hQ202
        have N202 := Fr.app N200 N202q
        refine own_st st202 ?_
        show own_Fin _ _ _ _ _ _ _ (T202.setTop (mkF m 280 #[.val (.int p1), .val (.int p2), .val (.int p3), .val (.int ch), .val (.int (3 : Int32)), .val (.ref b1), .val (.int (4 : Int32)), .val (.int (1 : Int32)), .val (.int (ch + (1 : Int32))), .val (.int ((ch + (1 : Int32)) - (1 : Int32))), .unset] [(.int (own_un (5 : Int32) (3 : Int32) (4 : Int32) p3 p3))]))
        have hd280_203 : ¬ ((own_un (5 : Int32) (3 : Int32) (4 : Int32) p3 p3) = (0 : Int32)) := by unfold own_un; simp
        refine own_st (fun t k => XS.ifNo X202.here hx rfl (hb hby at_280) rfl ((if0 _ _).trans (feq hd280_203).1) k) ?_
        show own_Fin _ _ _ _ _ _ _ (T202.setTop (mkF m 283 #[.val (.int p1), .val (.int p2), .val (.int p3), .val (.int ch), .val (.int (3 : Int32)), .val (.ref b1), .val (.int (4 : Int32)), .val (.int (1 : Int32)), .val (.int (ch + (1 : Int32))), .val (.int ((ch + (1 : Int32)) - (1 : Int32))), .unset] []))
        refine own_st (fun t k => XS.iconst X202.here hx rfl (hb hby at_283) k) ?_
        show own_Fin _ _ _ _ _ _ _ (T202.setTop (mkF m 284 #[.val (.int p1), .val (.int p2), .val (.int p3), .val (.int ch), .val (.int (3 : Int32)), .val (.ref b1), .val (.int (4 : Int32)), .val (.int (1 : Int32)), .val (.int (ch + (1 : Int32))), .val (.int ((ch + (1 : Int32)) - (1 : Int32))), .unset] [(.int (1 : Int32))]))
        refine own_st (fun t k => XS.goto X202.here hx rfl (pc0 := 284) (pc' := 288) rfl (hb hby at_284) (by decide) (by decide) k) ?_
        show own_Fin _ _ _ _ _ _ _ (T202.setTop (mkF m 288 #[.val (.int p1), .val (.int p2), .val (.int p3), .val (.int ch), .val (.int (3 : Int32)), .val (.ref b1), .val (.int (4 : Int32)), .val (.int (1 : Int32)), .val (.int (ch + (1 : Int32))), .val (.int ((ch + (1 : Int32)) - (1 : Int32))), .unset] [(.int (1 : Int32))]))
        exact own_retN X202 hx Bd.notSynchronized (t := .boolean) Bd.returns (by simp) (hb hby at_288) (by decide) (by decide) ⟨rfl, N202, trivial⟩
set_option maxRecDepth 65536 in
set_option maxHeartbeats 40000000 in
theorem comes_1 {Post : Tables → Env → Array Value → State → Outcome → State → Prop} (hpost : ∀ tb e args s v u, (limb_1_1.after args s (.returned v) u = true ∧ limb_1_2.after args s (.returned v) u = true ∧ True) → FrameEnd s (.returned v) u (Jvm.fieldLocs frame_1_writes args s ++ Jvm.arrayLocs frame_1_arrays args s ++ Jvm.staticLocs frame_1_statics s) 16 128 → Post tb e args s (.returned v) u) :
    ArmFor flags0 classFile x code maxLocals ret World_1 tables_1 room_1 Calls_1 rest_1 Pre_1 Post := by
  intro l hfl _ _ p e ha hc hk s m args below hf hA hF happ hP
  obtain ⟨hcalls, hrest, hpre⟩ := hP
  obtain ⟨-, -, -, hnamed, -, -, -, hat⟩ := (Spec.applies_iff hf).mp happ
  obtain ⟨hg, hn⟩ := and_e (Cond.before_iff.mp (show (Jvm.Cond.and given_1 narrow_1).before args s = true from hpre))
  obtain ⟨g3, g4⟩ := and_e hg
  obtain ⟨g5, g6⟩ := and_e g4
  obtain ⟨g7, g8⟩ := and_e g6
  obtain ⟨w0, w1, w2, rfl⟩ : ∃ w0 w1 w2 : Value, args = #[w0, w1, w2] := by
    have hs : args.size = 3 := by simpa [Cond.value, given_1] using g3
    obtain ⟨L⟩ := args
    match L, hs with
    | [w0, w1, w2], _ => exact ⟨w0, w1, w2, rfl⟩
  have hw := fun d (hd : d ∈ tables_1) => atoms_spec (ws := Jvm.Cond.code x code maxLocals ret :: tables_1) hat d (List.mem_cons_of_mem _ hd)
  obtain ⟨i0, ei0⟩ := is_v g5
  obtain rfl : w0 = (.int i0) := Option.some.inj ei0
  obtain ⟨i1, ei1⟩ := is_v g7
  obtain rfl : w1 = (.int i1) := Option.some.inj ei1
  obtain ⟨i2, ei2⟩ := is_v g8
  obtain rfl : w2 = (.int i2) := Option.some.inj ei2
  obtain ⟨n, o, h1, h2, h3, v, L, rfl, ⟨hv, N, -⟩, hq⟩ := rm0 l s _ hw tables_1 i0 i1 i2 s.heap s.heap.size (Nat.le_refl _) p e ha hc hk s m _ below hf ((Spec.applies_iff_loose hf).mp happ).1 ⟨rfl, State.Warmed39.refl s, rfl⟩ trivial
  subst hv
  refine ⟨n, _, h1, h2, h3, hpost _ _ _ _ _ _ ⟨Cond.after_iff.mpr rfl, Cond.after_iff.mpr (eq_i res_at (Term.int_eval (1)) rfl), trivial⟩ ⟨hq.1, hq.2.1, (hq.2.2.sift fun y hy => Or.inr (N y hy)).mono (by decide) (by decide)⟩⟩
theorem main_1_1 : Claimed_1_1 := comes_1 fun _ _ _ _ _ _ h hF => ⟨h.1, hF⟩
theorem main_1_2 : Claimed_1_2 := comes_1 fun _ _ _ _ _ _ h hF => ⟨h.2.1, hF⟩
end Jvm.Pilot.@@N@@
namespace Jvm.Pilot.@@N@@
open Jvm Jvm.ClassFile Sem Op Lib Jvm.Free Jvm.Stand Jvm.Pilot.@@N@@.Jvm.D
/-! MADE BY PROGRAM (witnessworld.py) out of the Statement's table words and the real class files: 9 classes; the members and pool entries that the words name. The judged class is class 1, her method 2. -/
namespace start1
open Jvm.ClassFile
def u (s : String) : CpInfo := .utf8 (stringToUtf16 s)
/-- a pool by its gaps: so many unusable entries, then the entry; so many at the end -/
def gap : Nat → List CpInfo → List CpInfo
  | 0, r => r
  | n + 1, r => .unusable :: gap n r
def poolList (es : List (Nat × CpInfo)) (last : Nat) : List CpInfo := es.foldr (fun e r => gap e.1 (e.2 :: r)) (gap last [])
def pool (es : List (Nat × CpInfo)) (last : Nat) : Array CpInfo := ⟨poolList es last⟩
def fileOf (pool : Array CpInfo) (this : Nat) (attrs : Array Attribute := #[]) (ms : Array MethodInfo := #[]) (fl : Nat := 33) (sup : Nat := 0) (ifs : Array Nat := #[]) (fds : Array FieldInfo := #[]) : ClassFile where
  minorVersion := 0
  majorVersion := 65
  constantPool := pool
  accessFlags := fl
  thisClass := this
  superClass := sup
  interfaces := ifs
  fields := fds
  methods := ms
  attributes := attrs
def plain (name : String) (sup : Option ClassId) : Class where
  name := name
  kind := .ordinary
  loader := none
  accessFlags := 33
  super := sup
  interfaces := #[]
  cf := none
  fields := #[]
  methods := #[]
  instanceTypes := #[]
  staticTypes := #[]
  resolved := #[]
  callSites := []
  init := .initialized
  statics := none
  mirror := none

def pool0 : Array CpInfo := pool [(5, u "<init>"), (0, u "()V"), (1, .class_ 10), (1, u "java/lang/Object")] 113

def k0m0 : Method := { name := "<init>", desc := "()V", sig := { parameters := [], returnType := none }, accessFlags := 1, code := none }
/-- java/lang/Object -/
def k0 : Class := { plain "java/lang/Object" none with
  accessFlags := 33
  interfaces := #[]
  cf := some (fileOf pool0 8 #[] #[{ accessFlags := 1, nameIndex := 5, descriptorIndex := 6, attributes := #[] }] 33 0 #[] #[])
  fields := #[]
  methods := #[k0m0]
  instanceTypes := #[]
  staticTypes := #[]
  resolved := Array.replicate 124 none
  statics := none }

def pool1 : Array CpInfo := pool [(2, .class_ 4), (1, u "java/lang/Object"), (0, u "<init>"), (0, u "()V"), (0, .integer 2147483647), (0, .methodref 9 10), (0, .class_ 11), (0, .nameAndType 12 13), (0, u "com/example/quietzone/quietzone/datamatrix/AsciiEncodation"), (0, u "write"), (0, u "(I[II)I"), (0, .methodref 15 16), (0, .class_ 17), (0, .nameAndType 18 19), (0, u "com/example/quietzone/quietzone/datamatrix/AsciiEncodationWritePinLaw"), (0, u "untouched"), (0, u "([IIIII)Z"), (3, u "law"), (0, u "(III)Z")] 4

def k1m0 : Method := { name := "<init>", desc := "()V", sig := { parameters := [], returnType := none }, accessFlags := 2, code := none }
def k1c1 : Code := { maxStack := 2, maxLocals := 5, code := method_2_code, exceptionTable := #[], attributes := #[] }
def k1m1 : Method := { name := "untouched", desc := "([IIIII)Z", sig := { parameters := [(.array .int), .int, .int, .int, .int], returnType := some .boolean }, accessFlags := 10, code := some k1c1 }
def k1c2 : Code := { maxStack := 5, maxLocals := 11, code := code, exceptionTable := #[], attributes := #[] }
def k1m2 : Method := { name := "law", desc := "(III)Z", sig := { parameters := [.int, .int, .int], returnType := some .boolean }, accessFlags := 9, code := some k1c2 }
/-- com/example/quietzone/quietzone/datamatrix/AsciiEncodationWritePinLaw -/
def k1 : Class := { plain "com/example/quietzone/quietzone/datamatrix/AsciiEncodationWritePinLaw" (some 0) with
  accessFlags := 49
  interfaces := #[]
  cf := some (fileOf pool1 15 #[] #[{ accessFlags := 2, nameIndex := 5, descriptorIndex := 6, attributes := #[] }, { accessFlags := 10, nameIndex := 18, descriptorIndex := 19, attributes := #[] }, { accessFlags := 9, nameIndex := 23, descriptorIndex := 24, attributes := #[] }] 49 2 #[] #[])
  fields := #[]
  methods := #[k1m0, k1m1, k1m2]
  instanceTypes := #[]
  staticTypes := #[]
  resolved := Array.replicate 29 none
  statics := none }

def pool2 : Array CpInfo := pool [(2, .class_ 4), (1, u "java/lang/Object"), (0, u "<init>"), (0, u "()V"), (0, .class_ 8), (0, u "com/example/quietzone/quietzone/datamatrix/AsciiEncodation"), (13, u "FNC1"), (0, u "I"), (2, u "UNLATCH"), (1, u "DIGIT_PAIR"), (1, u "FNC1_CODEWORD"), (1, u "UPPER_SHIFT"), (1, u "ECI"), (1, u "PAD"), (8, u "write"), (0, u "(I[II)I")] 9

def k2m0 : Method := { name := "<init>", desc := "()V", sig := { parameters := [], returnType := none }, accessFlags := 2, code := none }
def k2c1 : Code := { maxStack := 4, maxLocals := 3, code := prog_33_method_4_code, exceptionTable := #[], attributes := #[] }
def k2m1 : Method := { name := "write", desc := "(I[II)I", sig := { parameters := [.int, (.array .int), .int], returnType := some .int }, accessFlags := 8, code := some k2c1 }
/-- com/example/quietzone/quietzone/datamatrix/AsciiEncodation -/
def k2 : Class := { plain "com/example/quietzone/quietzone/datamatrix/AsciiEncodation" (some 0) with
  accessFlags := 48
  interfaces := #[]
  cf := some (fileOf pool2 7 #[] #[{ accessFlags := 2, nameIndex := 5, descriptorIndex := 6, attributes := #[] }, { accessFlags := 8, nameIndex := 45, descriptorIndex := 46, attributes := #[] }] 48 2 #[] #[{ accessFlags := 24, nameIndex := 22, descriptorIndex := 23, attributes := #[] }, { accessFlags := 24, nameIndex := 26, descriptorIndex := 23, attributes := #[] }, { accessFlags := 26, nameIndex := 28, descriptorIndex := 23, attributes := #[] }, { accessFlags := 26, nameIndex := 30, descriptorIndex := 23, attributes := #[] }, { accessFlags := 26, nameIndex := 32, descriptorIndex := 23, attributes := #[] }, { accessFlags := 26, nameIndex := 34, descriptorIndex := 23, attributes := #[] }, { accessFlags := 26, nameIndex := 36, descriptorIndex := 23, attributes := #[] }])
  fields := #[{ name := "FNC1", type := .int, accessFlags := 24, slot := 0, constantValue := 0 }, { name := "UNLATCH", type := .int, accessFlags := 24, slot := 1, constantValue := 0 }, { name := "DIGIT_PAIR", type := .int, accessFlags := 26, slot := 2, constantValue := 0 }, { name := "FNC1_CODEWORD", type := .int, accessFlags := 26, slot := 3, constantValue := 0 }, { name := "UPPER_SHIFT", type := .int, accessFlags := 26, slot := 4, constantValue := 0 }, { name := "ECI", type := .int, accessFlags := 26, slot := 5, constantValue := 0 }, { name := "PAD", type := .int, accessFlags := 26, slot := 6, constantValue := 0 }]
  methods := #[k2m0, k2m1]
  instanceTypes := #[]
  staticTypes := #[.int, .int, .int, .int, .int, .int, .int]
  resolved := Array.replicate 56 none
  statics := none }

def pool3 : Array CpInfo := pool [(1, u "java/lang/Cloneable"), (0, .class_ 1), (0, u "java/lang/Object"), (0, .class_ 3)] 3

/-- java/lang/Cloneable -/
def k3 : Class := { plain "java/lang/Cloneable" (some 0) with
  accessFlags := 1537
  interfaces := #[]
  cf := some (fileOf pool3 2 #[] #[] 1537 4 #[] #[])
  fields := #[]
  methods := #[]
  instanceTypes := #[]
  staticTypes := #[]
  resolved := Array.replicate 8 none
  statics := none }

def pool4 : Array CpInfo := pool [(1, u "java/io/Serializable"), (0, .class_ 1), (0, u "java/lang/Object"), (0, .class_ 3)] 3

/-- java/io/Serializable -/
def k4 : Class := { plain "java/io/Serializable" (some 0) with
  accessFlags := 1537
  interfaces := #[]
  cf := some (fileOf pool4 2 #[] #[] 1537 4 #[] #[])
  fields := #[]
  methods := #[]
  instanceTypes := #[]
  staticTypes := #[]
  resolved := Array.replicate 8 none
  statics := none }

/-- the primitive byte -/
def k5 : Class := { plain "byte" none with kind := .primitive 'B', accessFlags := 0x411 }
/-- [B -/
def k6 : Class := { plain "[B" (some 0) with kind := .array 5 .byte, interfaces := #[3, 4], accessFlags := 1041 }

/-- the primitive int -/
def k7 : Class := { plain "int" none with kind := .primitive 'I', accessFlags := 0x411 }
/-- [I -/
def k8 : Class := { plain "[I" (some 0) with kind := .array 7 .int, interfaces := #[3, 4], accessFlags := 1041 }

def heap : Heap := #[]
def classes : Array Class := #[k0, k1, k2, k3, k4, k5, k6, k7, k8]
def interned : List (Array UInt16 × Addr) := []
def slotsUsed : Nat := 0
def theMethod : MethodId := ⟨1, 2⟩
def args0 : Array Value := #[.int 5, .int 0, .int 0]
def aboutOver (below : List Frame) : State where
  vm := { classes := classes, interned := interned.toArray }
  heap := heap
  slotsUsed := slotsUsed
  threads := #[{ frames := .invoking theMethod args0 :: below }]
def below0 : List Frame := [.native { method := ⟨0, 0⟩, args := #[] }]
def about1 : State := aboutOver below0
def p0 : Program := .bare "" "" ""
def e0 : Env := launch0.env 0 0 0
theorem w_frames : about1.frames = Frame.invoking theMethod args0 :: below0 := rfl
set_option maxRecDepth 65536 in
theorem w_args : argsFit about1.vm theMethod args0 = true := by decide +kernel
set_option maxRecDepth 65536 in
theorem w_heap : heapFits about1 = true := by decide +kernel
set_option maxRecDepth 65536 in
theorem w_runnable : about1.curStatus? = some .runnable := by decide +kernel
set_option maxRecDepth 65536 in
theorem w_alone : about1.alone = true := by decide +kernel
set_option maxRecDepth 65536 in
theorem w_named : about1.methodNamed? x = some theMethod := by decide +kernel
set_option maxRecDepth 65536 in
theorem w_hears : about1.hears theMethod below0 = true := by decide +kernel
set_option maxRecDepth 65536 in
theorem w_ripe : about1.ripe theMethod args0 below0 = true := by decide +kernel
theorem w_running : about1.status = .running := rfl
set_option maxRecDepth 65536 in
theorem w_room : about1.hasRoom e0.platform room_1 = true :=
  launch0.hasRoom_least _ room_1 (by decide +kernel) (by decide +kernel) (by decide +kernel) (by decide +kernel) (by decide +kernel) (by decide +kernel)
theorem allAtoms_all (ts : List Jvm.Cond) (a : Array Jvm.Value) (st : Jvm.State) : (allAtoms ts).before a st = ts.all (fun c => c.before a st) := by
  induction ts with
  | nil => rfl
  | cons c t ih =>
    show (Jvm.Cond.and c (allAtoms t)).before a st = _
    rw [Jvm.Cond.before_and, ih, List.all_cons]
def words1 : List Jvm.Cond := Jvm.Cond.code x code maxLocals ret :: tables_1
/-- a 'code' word, met by the world's own term for the bytes: nothing is compared byte by byte -/
theorem code_word {y : MethodName} {bytes : ByteArray} {mx : Nat} {rt : Option FieldType} {a : Array Value} {s : State} {m : MethodId} {meth : Method} {c : Code} (h1 : s.methodNamed? y = some m) (h2 : s.vm.method? m = some meth) (h3 : meth.code = some c) (h4 : c.code = bytes)
    (h5 : (c.maxLocals == mx && c.exceptionTable.isEmpty && decide (c.maxStack ≤ mostOperands) && decide (meth.sig.returnType = rt) && !meth.locks && decide (parseMethodDescriptor y.desc = some meth.sig)) = true) : (Jvm.Cond.code y bytes mx rt).before a s = true := by
  simp only [Bool.and_eq_true, beq_iff_eq, Bool.not_eq_true', decide_eq_true_eq] at h5
  obtain ⟨⟨⟨⟨⟨g1, g2⟩, g3⟩, g4⟩, g5⟩, g6⟩ := h5
  simp [Cond.before, Cond.holds, Cond.value, h1, h2, h3, h4, g1, g2, g3, g4, g5, g6]
def isCode : Jvm.Cond → Bool
  | .code _ _ _ _ => true
  | _ => false
theorem all_split {L : List Jvm.Cond} {P : Jvm.Cond → Bool} (h1 : L.all (fun c => isCode c || P c) = true) (h2 : ∀ c ∈ L.filter isCode, P c = true) : L.all P = true := by
  refine List.all_eq_true.mpr fun c hc => ?_
  have h := List.all_eq_true.mp h1 c hc
  rcases Bool.eq_false_or_eq_true (isCode c) with hi | hi
  · exact h2 c (List.mem_filter.mpr ⟨hc, hi⟩)
  · simpa [hi] using h
set_option maxRecDepth 65536 in
theorem w_c0 : (Jvm.Cond.code x code maxLocals ret).before args0 about1 = true := code_word (m := ⟨1, 2⟩) (meth := k1m2) (c := k1c2) (by decide +kernel) rfl rfl rfl (by decide +kernel)
set_option maxRecDepth 65536 in
theorem w_c1 : (Jvm.Cond.code ({ cls := "com/example/quietzone/quietzone/datamatrix/AsciiEncodation", name := "write", desc := "(I[II)I" } : Jvm.MethodName) prog_33_method_4_code (3 : Nat) (Option.some Jvm.ClassFile.FieldType.int)).before args0 about1 = true := code_word (m := ⟨2, 1⟩) (meth := k2m1) (c := k2c1) (by decide +kernel) rfl rfl rfl (by decide +kernel)
set_option maxRecDepth 65536 in
theorem w_c2 : (Jvm.Cond.code ({ cls := "com/example/quietzone/quietzone/datamatrix/AsciiEncodationWritePinLaw", name := "untouched", desc := "([IIIII)Z" } : Jvm.MethodName) method_2_code (5 : Nat) (Option.some Jvm.ClassFile.FieldType.boolean)).before args0 about1 = true := code_word (m := ⟨1, 1⟩) (meth := k1m1) (c := k1c1) (by decide +kernel) rfl rfl rfl (by decide +kernel)
def codes1 : List Jvm.Cond := [Jvm.Cond.code x code maxLocals ret, Jvm.Cond.code ({ cls := "com/example/quietzone/quietzone/datamatrix/AsciiEncodation", name := "write", desc := "(I[II)I" } : Jvm.MethodName) prog_33_method_4_code (3 : Nat) (Option.some Jvm.ClassFile.FieldType.int), Jvm.Cond.code ({ cls := "com/example/quietzone/quietzone/datamatrix/AsciiEncodationWritePinLaw", name := "untouched", desc := "([IIIII)Z" } : Jvm.MethodName) method_2_code (5 : Nat) (Option.some Jvm.ClassFile.FieldType.boolean)]
set_option maxRecDepth 65536 in
theorem codes_eq : words1.filter isCode = codes1 := rfl
theorem w_codes : ∀ c ∈ words1.filter isCode, c.before args0 about1 = true := by
  rw [codes_eq]
  intro c hc
  simp only [codes1, List.mem_cons, List.not_mem_nil, or_false] at hc
  rcases hc with rfl | rfl | rfl
  · exact w_c0
  · exact w_c1
  · exact w_c2
set_option maxRecDepth 65536 in
theorem w_t1 : words1.all (fun c => isCode c || c.before args0 about1) = true := by decide +kernel
theorem w_tables : (allAtoms (Jvm.Cond.code x code maxLocals ret :: tables_1)).before args0 about1 = true := by
  rw [allAtoms_all]
  show words1.all (fun c => c.before args0 about1) = true
  refine all_split ?_ w_codes
  rw [w_t1]
set_option maxRecDepth 65536 in
theorem w_case : (Jvm.Cond.and given_1 narrow_1).before args0 about1 = true := by decide +kernel
theorem w_applies : (headSpec (Jvm.Cond.code x code maxLocals ret :: tables_1) room_1).applies x e0.platform about1 = true :=
  (Spec.applies_iff w_frames).mpr ⟨w_running, w_runnable, w_alone, w_named, w_hears, w_ripe, w_room, w_tables⟩
theorem atStart : AtStart classFile x code maxLocals ret World_1 tables_1 room_1 Calls_1 rest_1 Pre_1 launch0 p0 e0 about1 theMethod args0 below0 :=
  ⟨lists_1, trivial, launch0.admits_env _ _ _, launch0.least_env, fairChoices_fair.cas, fairChoices_fair.clock, w_frames, w_args, w_heap, w_applies, trivial, trivial, w_case⟩
end start1
theorem witness_1 : WitnessClaimed_1 := ⟨start1.p0, start1.e0, start1.about1, start1.theMethod, start1.args0, start1.below0, start1.atStart⟩
end Jvm.Pilot.@@N@@
