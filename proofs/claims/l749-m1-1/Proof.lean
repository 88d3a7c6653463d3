import JvmDerived
import JvmDerived.Pilot.@@N@@Statement
import JvmDerived.Pilot.@@N@@Code
set_option linter.unusedVariables false
set_option linter.unusedSimpArgs false
namespace Jvm.RoadKit
open Sem ClassFile Op Lib Jvm.Stand Jvm.Free Jvm.LawKit
section New
variable {p : Program} {l : Launch} {e : Env} {R : Room} {s : State} {m : MethodId} {args : Array Value} {below : List Frame} {meth : Method} {c : Code} {T : State} {locs : List Loc} {cells slots : Nat}
theorem retI (X : Stand p l e R s m args below meth c T locs cells slots) (hx : p.tables.exec = Jvm.exec) {pc : Nat} {Ls : Array Slot} {z : Int32} {rest : List Value} (hret : meth.sig.returnType = some .int) (hd : decode c.code pc = .ok (.ireturn, 1)) {fs : List Frame}
    (hl : ∀ (f : JFrame) (acts : List Action), f.method = m → f.locked = none → f.entered = [] → (doReturn e (T.setTop f) acts (some (.int z))).1 = T.setFrames fs) : Steps p.tables e below (T.setTop (mkF m pc Ls (.int z :: rest))) (T.setFrames fs) := by
  have hm' : T.vm.method? m = some meth := X.method'
  have hn : narrow .int (.int z) = .int z := rfl
  show Steps p.tables e below (T.setTop { method := m, pc := pc, locals := Ls, stack := _ :: rest, locked := none }) _
  jvm_step X.here [X.here.top, hx, hd, hm', hret, hn]
  first | (intro acts; rw [hl _ acts rfl rfl rfl]) | rw [hl _ _ rfl rfl rfl]
  exact Steps.refl _
theorem retAddr (X : Stand p l e R s m args below meth c T locs cells slots) (hx : p.tables.exec = Jvm.exec) {pc : Nat} {Ls : Array Slot} {z : Addr} {rest : List Value} {t : FieldType} (hret : meth.sig.returnType = some t) (ht : t.isReference = true) (hd : decode c.code pc = .ok (.areturn, 1)) {fs : List Frame}
    (hl : ∀ (f : JFrame) (acts : List Action), f.method = m → f.locked = none → f.entered = [] → (doReturn e (T.setTop f) acts (some (.ref z))).1 = T.setFrames fs) : Steps p.tables e below (T.setTop (mkF m pc Ls (.ref z :: rest))) (T.setFrames fs) := by
  have hm' : T.vm.method? m = some meth := X.method'
  show Steps p.tables e below (T.setTop { method := m, pc := pc, locals := Ls, stack := _ :: rest, locked := none }) _
  jvm_step X.here [X.here.top, hx, hd, hm', hret, ht, Value.isRef]
  first | (intro acts; rw [hl _ acts rfl rfl rfl]) | rw [hl _ _ rfl rfl rfl]
  exact Steps.refl _
end New
end Jvm.RoadKit
namespace Jvm.Pilot.@@N@@
open Jvm Jvm.ClassFile Sem Op Lib Jvm.Free Jvm.Stand Jvm.LawKit Jvm.RoadKit Bundle Jvm.Pilot.@@N@@.Jvm.D
/-- from A the run ends, returning, as Q says of the value, the heap and the places written -/
def own_Fin (tb : Tables) (e : Env) (below : List Frame) (s : State) (C S : Nat) (Q : Option Value → Heap → List Loc → Prop) (A : State) : Prop :=
  ∃ s₂ o, Steps tb e below A s₂ ∧ s₂.status = .running ∧ Ended s₂ below o ∧ ∃ v L, o = .returned v ∧ Q v s₂.heap L ∧ FrameEnd s o s₂ L C S
theorem own_st {tb : Tables} {e : Env} {below : List Frame} {s : State} {C S : Nat} {Q : Option Value → Heap → List Loc → Prop} {A B : State} (h : ∀ t, Steps tb e below B t → Steps tb e below A t) (k : own_Fin tb e below s C S Q B) : own_Fin tb e below s C S Q A := by
  obtain ⟨s₂, o, h1, h2⟩ := k
  exact ⟨s₂, o, h _ h1, h2⟩
section Ret
variable {p : Program} {l : Launch} {e : Env} {R : Room} {s : State} {m : MethodId} {args : Array Value} {below : List Frame} {meth : Method} {c : Code} {T : State} {locs : List Loc} {cells slots : Nat} {Q : Option Value → Heap → List Loc → Prop} {C S : Nat}
theorem own_retN (X : Stand p l e R s m args below meth c T locs cells slots) (hx : p.tables.exec = Jvm.exec) (hk : meth.locks = false) {t : FieldType} (hret : meth.sig.returnType = some t) (ht : t = .boolean ∨ t = .byte ∨ t = .char ∨ t = .short) {pc : Nat} {Ls : Array Slot} {z : Int32} {rest : List Value} (hd : decode c.code pc = .ok (.ireturn, 1)) (hC : cells ≤ C) (hS : slots ≤ S) (hq : Q (some (.int (nar t z))) T.heap locs) : own_Fin p.tables e below s C S Q (T.setTop (mkF m pc Ls (.int z :: rest))) := by
  obtain ⟨fs, hr, hrun, hended, hW, hsame⟩ := X.leave (v := some (.int (nar t z))) (fun h => by rw [hret] at h; cases h)
  exact ⟨_, _, retN X hx hret ht hd hr, hrun, hended, _, _, rfl, hq, ⟨_, rfl⟩, hW, hsame.mono hC hS⟩
theorem own_retI (X : Stand p l e R s m args below meth c T locs cells slots) (hx : p.tables.exec = Jvm.exec) (hk : meth.locks = false) (hret : meth.sig.returnType = some .int) {pc : Nat} {Ls : Array Slot} {z : Int32} {rest : List Value} (hd : decode c.code pc = .ok (.ireturn, 1)) (hC : cells ≤ C) (hS : slots ≤ S) (hq : Q (some (.int z)) T.heap locs) : own_Fin p.tables e below s C S Q (T.setTop (mkF m pc Ls (.int z :: rest))) := by
  obtain ⟨fs, hr, hrun, hended, hW, hsame⟩ := X.leave (v := some (.int z)) (fun h => by rw [hret] at h; cases h)
  exact ⟨_, _, retI X hx hret hd hr, hrun, hended, _, _, rfl, hq, ⟨_, rfl⟩, hW, hsame.mono hC hS⟩
theorem own_retA (X : Stand p l e R s m args below meth c T locs cells slots) (hx : p.tables.exec = Jvm.exec) (hk : meth.locks = false) {t : FieldType} (hret : meth.sig.returnType = some t) (ht : t.isReference = true) {pc : Nat} {Ls : Array Slot} {z : Addr} {rest : List Value} (hd : decode c.code pc = .ok (.areturn, 1)) (hC : cells ≤ C) (hS : slots ≤ S) (hq : Q (some (.ref z)) T.heap locs) : own_Fin p.tables e below s C S Q (T.setTop (mkF m pc Ls (.ref z :: rest))) := by
  obtain ⟨fs, hr, hrun, hended, hW, hsame⟩ := X.leave (v := some (.ref z)) (fun h => by rw [hret] at h; cases h)
  exact ⟨_, _, retAddr X hx hret ht hd hr, hrun, hended, _, _, rfl, hq, ⟨_, rfl⟩, hW, hsame.mono hC hS⟩
theorem own_retJ (X : Stand p l e R s m args below meth c T locs cells slots) (hx : p.tables.exec = Jvm.exec) (hk : meth.locks = false) (hret : meth.sig.returnType = some .long) {pc : Nat} {Ls : Array Slot} {z : Int64} (hd : decode c.code pc = .ok (.lreturn, 1)) (hC : cells ≤ C) (hS : slots ≤ S) (hq : Q (some (.long z)) T.heap locs) : own_Fin p.tables e below s C S Q (T.setTop (mkF m pc Ls [.long z])) := by
  obtain ⟨fs, hr, hrun, hended, hW, hsame⟩ := X.leave (v := some (.long z)) (fun h => by rw [hret] at h; cases h)
  exact ⟨_, _, X.lreturnOut hx hret hd hr, hrun, hended, _, _, rfl, hq, ⟨_, rfl⟩, hW, hsame.mono hC hS⟩
theorem own_retV (X : Stand p l e R s m args below meth c T locs cells slots) (hx : p.tables.exec = Jvm.exec) (hk : meth.locks = false) (hret : meth.sig.returnType = none) {pc : Nat} {Ls : Array Slot} (hd : decode c.code pc = .ok (.return_, 1)) (hC : cells ≤ C) (hS : slots ≤ S) (hq : Q none T.heap locs) : own_Fin p.tables e below s C S Q (T.setTop (mkF m pc Ls [])) := by
  obtain ⟨fs, hr, hrun, hended, hW, hsame⟩ := X.leave (v := none) (fun _ => rfl)
  exact ⟨_, _, X.returnOut hx hret hd hr, hrun, hended, _, _, rfl, hq, ⟨_, rfl⟩, hW, hsame.mono hC hS⟩
end Ret
theorem own_ltT {a b : Int64} (h : a < b) : ifCond.holds .lt (lcmpW a b) = true ∧ ifCond.holds .ge (lcmpW a b) = false := by
  have q := (lw_lt a b).mpr h
  exact ⟨(if0 _ _).trans (tlt q).1, (if0 _ _).trans (tlt q).2.1⟩
theorem own_ltF {a b : Int64} (h : ¬ a < b) : ifCond.holds .lt (lcmpW a b) = false ∧ ifCond.holds .ge (lcmpW a b) = true := by
  have q := mt (lw_lt a b).mp h
  exact ⟨(if0 _ _).trans (flt q).1, (if0 _ _).trans (flt q).2.1⟩
theorem own_gtT {a b : Int64} (h : b < a) : ifCond.holds .gt (lcmpW a b) = true ∧ ifCond.holds .le (lcmpW a b) = false := by
  have q := (lw_gt a b).mpr h
  exact ⟨(if0 _ _).trans (tlt q).2.2.1, (if0 _ _).trans (tlt q).2.2.2⟩
theorem own_gtF {a b : Int64} (h : ¬ b < a) : ifCond.holds .gt (lcmpW a b) = false ∧ ifCond.holds .le (lcmpW a b) = true := by
  have q := mt (lw_gt a b).mp h
  exact ⟨(if0 _ _).trans (flt q).2.2.1, (if0 _ _).trans (flt q).2.2.2⟩
theorem own_eqT {a b : Int64} (h : a = b) : ifCond.holds .eq (lcmpW a b) = true ∧ ifCond.holds .ne (lcmpW a b) = false := by
  have q := (lw_eq a b).mpr h
  exact ⟨(if0 _ _).trans (teq q).1, (if0 _ _).trans (teq q).2⟩
theorem own_eqF {a b : Int64} (h : ¬ a = b) : ifCond.holds .eq (lcmpW a b) = false ∧ ifCond.holds .ne (lcmpW a b) = true := by
  have q := mt (lw_eq a b).mp h
  exact ⟨(if0 _ _).trans (feq q).1, (if0 _ _).trans (feq q).2⟩
theorem d1_0 : decode prog_25_method_6_code 0 = .ok (.lload_n 0, 1) := by decide +kernel
theorem d1_1 : decode prog_25_method_6_code 1 = .ok (.lconst 0, 1) := by decide +kernel
theorem d1_2 : decode prog_25_method_6_code 2 = .ok (.lcmp, 1) := by decide +kernel
theorem d1_3 : decode prog_25_method_6_code 3 = .ok (.ifCond .ge 7, 3) := by decide +kernel
theorem d1_6 : decode prog_25_method_6_code 6 = .ok (.lload_n 0, 1) := by decide +kernel
theorem d1_7 : decode prog_25_method_6_code 7 = .ok (.goto 5, 3) := by decide +kernel
theorem d1_10 : decode prog_25_method_6_code 10 = .ok (.lload_n 0, 1) := by decide +kernel
theorem d1_11 : decode prog_25_method_6_code 11 = .ok (.lneg, 1) := by decide +kernel
theorem d1_12 : decode prog_25_method_6_code 12 = .ok (.lstore_n 2, 1) := by decide +kernel
theorem d1_13 : decode prog_25_method_6_code 13 = .ok (.iconst 1, 1) := by decide +kernel
theorem d1_14 : decode prog_25_method_6_code 14 = .ok (.istore 4, 2) := by decide +kernel
theorem d1_16 : decode prog_25_method_6_code 16 = .ok (.ldc2_w 81, 3) := by decide +kernel
theorem d1_19 : decode prog_25_method_6_code 19 = .ok (.lstore 5, 2) := by decide +kernel
theorem d1_21 : decode prog_25_method_6_code 21 = .ok (.iload 4, 2) := by decide +kernel
theorem d1_23 : decode prog_25_method_6_code 23 = .ok (.bipush 19, 2) := by decide +kernel
theorem d1_25 : decode prog_25_method_6_code 25 = .ok (.if_icmp .ge 24, 3) := by decide +kernel
theorem d1_28 : decode prog_25_method_6_code 28 = .ok (.lload_n 2, 1) := by decide +kernel
theorem d1_29 : decode prog_25_method_6_code 29 = .ok (.lload 5, 2) := by decide +kernel
theorem d1_31 : decode prog_25_method_6_code 31 = .ok (.lcmp, 1) := by decide +kernel
theorem d1_32 : decode prog_25_method_6_code 32 = .ok (.ifCond .gt 17, 3) := by decide +kernel
theorem d1_35 : decode prog_25_method_6_code 35 = .ok (.iinc 4 1, 3) := by decide +kernel
theorem d1_38 : decode prog_25_method_6_code 38 = .ok (.lload 5, 2) := by decide +kernel
theorem d1_40 : decode prog_25_method_6_code 40 = .ok (.ldc2_w 35, 3) := by decide +kernel
theorem d1_43 : decode prog_25_method_6_code 43 = .ok (.lmul, 1) := by decide +kernel
theorem d1_44 : decode prog_25_method_6_code 44 = .ok (.lstore 5, 2) := by decide +kernel
theorem d1_46 : decode prog_25_method_6_code 46 = .ok (.goto (-25), 3) := by decide +kernel
theorem d1_49 : decode prog_25_method_6_code 49 = .ok (.iload 4, 2) := by decide +kernel
theorem d1_51 : decode prog_25_method_6_code 51 = .ok (.ireturn, 1) := by decide +kernel
theorem pn_1 : plainFor (⟨"hedgerow/Decimal", "digits", "(J)I"⟩ : MethodName) = true := plainFor_of_name (x := (⟨"hedgerow/Decimal", "digits", "(J)I"⟩ : MethodName)) (by first | (simp [plainName, overriddenIn]; done) | decide +kernel)
theorem ef_1 (m : MethodId) (q1 : Int64) : entryFrame m #[(.long q1)] 7 = mkF m 0 #[.val (.long q1), .second, .unset, .unset, .unset, .unset, .unset] [] := by first | (simp [entryFrame, mkF, argsToLocals, Value.category]; done) | rfl
def own_F1 (q1 : Int64) : Int32 := (if q1 < (0 : Int64) then (if (-10 : Int64) < q1 then (1 : Int32) else (if (-100 : Int64) < q1 then (2 : Int32) else (if (-1000 : Int64) < q1 then (3 : Int32) else (if (-10000 : Int64) < q1 then (4 : Int32) else (if (-100000 : Int64) < q1 then (5 : Int32) else (if (-1000000 : Int64) < q1 then (6 : Int32) else (if (-10000000 : Int64) < q1 then (7 : Int32) else (if (-100000000 : Int64) < q1 then (8 : Int32) else (if (-1000000000 : Int64) < q1 then (9 : Int32) else (if (-10000000000 : Int64) < q1 then (10 : Int32) else (if (-100000000000 : Int64) < q1 then (11 : Int32) else (if (-1000000000000 : Int64) < q1 then (12 : Int32) else (if (-10000000000000 : Int64) < q1 then (13 : Int32) else (if (-100000000000000 : Int64) < q1 then (14 : Int32) else (if (-1000000000000000 : Int64) < q1 then (15 : Int32) else (if (-10000000000000000 : Int64) < q1 then (16 : Int32) else (if (-100000000000000000 : Int64) < q1 then (17 : Int32) else (if (-1000000000000000000 : Int64) < q1 then (18 : Int32) else (19 : Int32))))))))))))))))))) else (if (-10 : Int64) < (-q1) then (1 : Int32) else (if (-100 : Int64) < (-q1) then (2 : Int32) else (if (-1000 : Int64) < (-q1) then (3 : Int32) else (if (-10000 : Int64) < (-q1) then (4 : Int32) else (if (-100000 : Int64) < (-q1) then (5 : Int32) else (if (-1000000 : Int64) < (-q1) then (6 : Int32) else (if (-10000000 : Int64) < (-q1) then (7 : Int32) else (if (-100000000 : Int64) < (-q1) then (8 : Int32) else (if (-1000000000 : Int64) < (-q1) then (9 : Int32) else (if (-10000000000 : Int64) < (-q1) then (10 : Int32) else (if (-100000000000 : Int64) < (-q1) then (11 : Int32) else (if (-1000000000000 : Int64) < (-q1) then (12 : Int32) else (if (-10000000000000 : Int64) < (-q1) then (13 : Int32) else (if (-100000000000000 : Int64) < (-q1) then (14 : Int32) else (if (-1000000000000000 : Int64) < (-q1) then (15 : Int32) else (if (-10000000000000000 : Int64) < (-q1) then (16 : Int32) else (if (-100000000000000000 : Int64) < (-q1) then (17 : Int32) else (if (-1000000000000000000 : Int64) < (-q1) then (18 : Int32) else (19 : Int32))))))))))))))))))))
def own_Q1 (q1 : Int64) (h0 : Heap) (n0 : Nat) (v : Option Value) (h : Heap) (L : List Loc) : Prop := v = some (.int (own_F1 q1)) ∧ Fr n0 L ∧ h = h0
set_option maxRecDepth 65536 in
set_option maxHeartbeats 40000000 in
theorem rm1 (l : Launch) (Z : State) (a0 : Array Value) (hw : ∀ d ∈ tables_1, d.before a0 Z = true) (ws : List Jvm.Cond) (q1 : Int64) (h0 : Heap) (n0 : Nat) (Z0 : n0 ≤ h0.size) :
    MetFree l (⟨"hedgerow/Decimal", "digits", "(J)I"⟩ : MethodName) (head1 (Jvm.Cond.code (⟨"hedgerow/Decimal", "digits", "(J)I"⟩ : MethodName) prog_25_method_6_code 7 (some .int) :: ws) ({ frames := 0, cells := 0, slots := 0, locals := 0 } : Room)) (fun a U => a = #[(.long q1)] ∧ Z.Warmed39 U.vm ∧ U.heap = h0) (fun _ _ _ _ _ => True) (fun _ U o U' => ∃ v L, o = .returned v ∧ own_Q1 q1 h0 n0 v U'.heap L ∧ FrameEnd U o U' L ({ frames := 0, cells := 0, slots := 0, locals := 0 } : Room).cells ({ frames := 0, cells := 0, slots := 0, locals := 0 } : Room).slots) := by
  refine MetFree.of_bodySF pn_1 hisR ?_
  intro p e s m args below meth c s₁ Bd hml0 hP hK
  obtain ⟨rfl, hZ, hh⟩ := hP
  have hx := Bd.exec
  have hby := Bd.bytes
  have hml : c.maxLocals = 7 := hml0
  have hown : s.vm.findClass "hedgerow/Decimal" = some m.cls := findClass_of_methodNamed Bd.named
  have X0 : Stand p l e ({ frames := 0, cells := 0, slots := 0, locals := 0 } : Room) s m #[(.long q1)] below meth c s₁ [] 0 0 := Stand.of_body Bd
  have e0 : s₁.heap = h0 := by rw [← hh, Bd.state]; rfl
  have N0 := Fr.nil n0
  show own_Fin p.tables e below s (({ frames := 0, cells := 0, slots := 0, locals := 0 } : Room).cells) (({ frames := 0, cells := 0, slots := 0, locals := 0 } : Room).slots) (own_Q1 q1 h0 n0) (s₁.setTop (entryFrame m #[(.long q1)] 7))
  rw [ef_1 m q1]
  show own_Fin _ _ _ _ _ _ _ (s₁.setTop (mkF m 0 #[.val (.long q1), .second, .unset, .unset, .unset, .unset, .unset] []))
  refine own_st (fun t k => XS.lloadN X0.here hx rfl (hb hby d1_0) rfl k) ?_
  show own_Fin _ _ _ _ _ _ _ (s₁.setTop (mkF m 1 #[.val (.long q1), .second, .unset, .unset, .unset, .unset, .unset] [(.long q1)]))
  refine own_st (fun t k => XS.lconst X0.here hx rfl (hb hby d1_1) k) ?_
  show own_Fin _ _ _ _ _ _ _ (s₁.setTop (mkF m 2 #[.val (.long q1), .second, .unset, .unset, .unset, .unset, .unset] [(.long (0 : Int64)), (.long q1)]))
  refine own_st (fun t k => XS.lcmp X0.here hx rfl (hb hby d1_2) rfl k) ?_
  show own_Fin _ _ _ _ _ _ _ (s₁.setTop (mkF m 3 #[.val (.long q1), .second, .unset, .unset, .unset, .unset, .unset] [(.int (lcmpW q1 (0 : Int64)))]))
  by_cases hc3_1 : q1 < (0 : Int64)
  · refine own_st (fun t k => XS.ifNo X0.here hx rfl (hb hby d1_3) rfl (own_ltT hc3_1).2 k) ?_
    show own_Fin _ _ _ _ _ _ _ (s₁.setTop (mkF m 6 #[.val (.long q1), .second, .unset, .unset, .unset, .unset, .unset] []))
    refine own_st (fun t k => XS.lloadN X0.here hx rfl (hb hby d1_6) rfl k) ?_
    show own_Fin _ _ _ _ _ _ _ (s₁.setTop (mkF m 7 #[.val (.long q1), .second, .unset, .unset, .unset, .unset, .unset] [(.long q1)]))
    refine own_st (fun t k => XS.goto X0.here hx rfl (pc0 := 7) (pc' := 12) rfl (hb hby d1_7) (by decide) (by decide) k) ?_
    show own_Fin _ _ _ _ _ _ _ (s₁.setTop (mkF m 12 #[.val (.long q1), .second, .unset, .unset, .unset, .unset, .unset] [(.long q1)]))
    refine own_st (fun t k => XS.lstoreN X0.here hx rfl (hb hby d1_12) rfl (l' := #[.val (.long q1), .second, .val (.long q1), .second, .unset, .unset, .unset]) rfl k) ?_
    show own_Fin _ _ _ _ _ _ _ (s₁.setTop (mkF m 13 #[.val (.long q1), .second, .val (.long q1), .second, .unset, .unset, .unset] []))
    refine own_st (fun t k => XS.iconst X0.here hx rfl (hb hby d1_13) k) ?_
    show own_Fin _ _ _ _ _ _ _ (s₁.setTop (mkF m 14 #[.val (.long q1), .second, .val (.long q1), .second, .unset, .unset, .unset] [(.int (1 : Int32))]))
    refine own_st (fun t k => XS.istore X0.here hx rfl (hb hby d1_14) rfl (l' := #[.val (.long q1), .second, .val (.long q1), .second, .val (.int (1 : Int32)), .unset, .unset]) rfl k) ?_
    show own_Fin _ _ _ _ _ _ _ (s₁.setTop (mkF m 16 #[.val (.long q1), .second, .val (.long q1), .second, .val (.int (1 : Int32)), .unset, .unset] []))
    refine own_st (X0.ldc2Long hx hown (mvT hZ (hw _ (List.mem_of_getElem? (i := 24) rfl))) (g := (mkF m 16 #[.val (.long q1), .second, .val (.long q1), .second, .val (.int (1 : Int32)), .unset, .unset] [])) rfl (hb hby d1_16)) ?_
    show own_Fin _ _ _ _ _ _ _ (s₁.setTop (mkF m 19 #[.val (.long q1), .second, .val (.long q1), .second, .val (.int (1 : Int32)), .unset, .unset] [(.long (-10 : Int64))]))
    refine own_st (fun t k => XS.lstore X0.here hx rfl (hb hby d1_19) rfl (l' := #[.val (.long q1), .second, .val (.long q1), .second, .val (.int (1 : Int32)), .val (.long (-10 : Int64)), .second]) rfl k) ?_
    show own_Fin _ _ _ _ _ _ _ (s₁.setTop (mkF m 21 #[.val (.long q1), .second, .val (.long q1), .second, .val (.int (1 : Int32)), .val (.long (-10 : Int64)), .second] []))
    refine own_st (fun t k => XS.iload X0.here hx rfl (hb hby d1_21) rfl k) ?_
    show own_Fin _ _ _ _ _ _ _ (s₁.setTop (mkF m 23 #[.val (.long q1), .second, .val (.long q1), .second, .val (.int (1 : Int32)), .val (.long (-10 : Int64)), .second] [(.int (1 : Int32))]))
    refine own_st (fun t k => XS.bipush X0.here hx rfl (hb hby d1_23) k) ?_
    show own_Fin _ _ _ _ _ _ _ (s₁.setTop (mkF m 25 #[.val (.long q1), .second, .val (.long q1), .second, .val (.int (1 : Int32)), .val (.long (-10 : Int64)), .second] [(.int (19 : Int32)), (.int (1 : Int32))]))
    refine own_st (fun t k => XS.icmpNo X0.here hx rfl (hb hby d1_25) rfl (tlt (by decide : (1 : Int32) < (19 : Int32))).2.1 k) ?_
    show own_Fin _ _ _ _ _ _ _ (s₁.setTop (mkF m 28 #[.val (.long q1), .second, .val (.long q1), .second, .val (.int (1 : Int32)), .val (.long (-10 : Int64)), .second] []))
    refine own_st (fun t k => XS.lloadN X0.here hx rfl (hb hby d1_28) rfl k) ?_
    show own_Fin _ _ _ _ _ _ _ (s₁.setTop (mkF m 29 #[.val (.long q1), .second, .val (.long q1), .second, .val (.int (1 : Int32)), .val (.long (-10 : Int64)), .second] [(.long q1)]))
    refine own_st (fun t k => XS.lload X0.here hx rfl (hb hby d1_29) rfl k) ?_
    show own_Fin _ _ _ _ _ _ _ (s₁.setTop (mkF m 31 #[.val (.long q1), .second, .val (.long q1), .second, .val (.int (1 : Int32)), .val (.long (-10 : Int64)), .second] [(.long (-10 : Int64)), (.long q1)]))
    refine own_st (fun t k => XS.lcmp X0.here hx rfl (hb hby d1_31) rfl k) ?_
    show own_Fin _ _ _ _ _ _ _ (s₁.setTop (mkF m 32 #[.val (.long q1), .second, .val (.long q1), .second, .val (.int (1 : Int32)), .val (.long (-10 : Int64)), .second] [(.int (lcmpW q1 (-10 : Int64)))]))
    by_cases hc32_2 : (-10 : Int64) < q1
    · refine own_st (fun t k => XS.ifYes X0.here hx rfl (pc0 := 32) (pc' := 49) rfl (hb hby d1_32) rfl (own_gtT hc32_2).1 (by decide) (by decide) k) ?_
      show own_Fin _ _ _ _ _ _ _ (s₁.setTop (mkF m 49 #[.val (.long q1), .second, .val (.long q1), .second, .val (.int (1 : Int32)), .val (.long (-10 : Int64)), .second] []))
      refine own_st (fun t k => XS.iload X0.here hx rfl (hb hby d1_49) rfl k) ?_
      show own_Fin _ _ _ _ _ _ _ (s₁.setTop (mkF m 51 #[.val (.long q1), .second, .val (.long q1), .second, .val (.int (1 : Int32)), .val (.long (-10 : Int64)), .second] [(.int (1 : Int32))]))
      have hv : own_F1 q1 = (1 : Int32) := by unfold own_F1; rw [if_pos hc3_1, if_pos hc32_2]
      exact own_retI X0 hx Bd.notSynchronized Bd.returns (hb hby d1_51) (by decide) (by decide) ⟨congrArg (fun z => some (Value.int z)) hv.symm, N0, e0⟩
    · refine own_st (fun t k => XS.ifNo X0.here hx rfl (hb hby d1_32) rfl (own_gtF hc32_2).1 k) ?_
      show own_Fin _ _ _ _ _ _ _ (s₁.setTop (mkF m 35 #[.val (.long q1), .second, .val (.long q1), .second, .val (.int (1 : Int32)), .val (.long (-10 : Int64)), .second] []))
      refine own_st (fun t k => XS.iinc X0.here hx rfl (hb hby d1_35) rfl (l' := #[.val (.long q1), .second, .val (.long q1), .second, .val (.int (2 : Int32)), .val (.long (-10 : Int64)), .second]) rfl k) ?_
      show own_Fin _ _ _ _ _ _ _ (s₁.setTop (mkF m 38 #[.val (.long q1), .second, .val (.long q1), .second, .val (.int (2 : Int32)), .val (.long (-10 : Int64)), .second] []))
      refine own_st (fun t k => XS.lload X0.here hx rfl (hb hby d1_38) rfl k) ?_
      show own_Fin _ _ _ _ _ _ _ (s₁.setTop (mkF m 40 #[.val (.long q1), .second, .val (.long q1), .second, .val (.int (2 : Int32)), .val (.long (-10 : Int64)), .second] [(.long (-10 : Int64))]))
      refine own_st (X0.ldc2Long hx hown (mvT hZ (hw _ (List.mem_of_getElem? (i := 25) rfl))) (g := (mkF m 40 #[.val (.long q1), .second, .val (.long q1), .second, .val (.int (2 : Int32)), .val (.long (-10 : Int64)), .second] [(.long (-10 : Int64))])) rfl (hb hby d1_40)) ?_
      show own_Fin _ _ _ _ _ _ _ (s₁.setTop (mkF m 43 #[.val (.long q1), .second, .val (.long q1), .second, .val (.int (2 : Int32)), .val (.long (-10 : Int64)), .second] [(.long (10 : Int64)), (.long (-10 : Int64))]))
      refine own_st (fun t k => XS.lmul X0.here hx rfl (hb hby d1_43) rfl k) ?_
      show own_Fin _ _ _ _ _ _ _ (s₁.setTop (mkF m 44 #[.val (.long q1), .second, .val (.long q1), .second, .val (.int (2 : Int32)), .val (.long (-10 : Int64)), .second] [(.long (-100 : Int64))]))
      refine own_st (fun t k => XS.lstore X0.here hx rfl (hb hby d1_44) rfl (l' := #[.val (.long q1), .second, .val (.long q1), .second, .val (.int (2 : Int32)), .val (.long (-100 : Int64)), .second]) rfl k) ?_
      show own_Fin _ _ _ _ _ _ _ (s₁.setTop (mkF m 46 #[.val (.long q1), .second, .val (.long q1), .second, .val (.int (2 : Int32)), .val (.long (-100 : Int64)), .second] []))
      refine own_st (fun t k => XS.goto X0.here hx rfl (pc0 := 46) (pc' := 21) rfl (hb hby d1_46) (by decide) (by decide) k) ?_
      show own_Fin _ _ _ _ _ _ _ (s₁.setTop (mkF m 21 #[.val (.long q1), .second, .val (.long q1), .second, .val (.int (2 : Int32)), .val (.long (-100 : Int64)), .second] []))
      refine own_st (fun t k => XS.iload X0.here hx rfl (hb hby d1_21) rfl k) ?_
      show own_Fin _ _ _ _ _ _ _ (s₁.setTop (mkF m 23 #[.val (.long q1), .second, .val (.long q1), .second, .val (.int (2 : Int32)), .val (.long (-100 : Int64)), .second] [(.int (2 : Int32))]))
      refine own_st (fun t k => XS.bipush X0.here hx rfl (hb hby d1_23) k) ?_
      show own_Fin _ _ _ _ _ _ _ (s₁.setTop (mkF m 25 #[.val (.long q1), .second, .val (.long q1), .second, .val (.int (2 : Int32)), .val (.long (-100 : Int64)), .second] [(.int (19 : Int32)), (.int (2 : Int32))]))
      refine own_st (fun t k => XS.icmpNo X0.here hx rfl (hb hby d1_25) rfl (tlt (by decide : (2 : Int32) < (19 : Int32))).2.1 k) ?_
      show own_Fin _ _ _ _ _ _ _ (s₁.setTop (mkF m 28 #[.val (.long q1), .second, .val (.long q1), .second, .val (.int (2 : Int32)), .val (.long (-100 : Int64)), .second] []))
      refine own_st (fun t k => XS.lloadN X0.here hx rfl (hb hby d1_28) rfl k) ?_
      show own_Fin _ _ _ _ _ _ _ (s₁.setTop (mkF m 29 #[.val (.long q1), .second, .val (.long q1), .second, .val (.int (2 : Int32)), .val (.long (-100 : Int64)), .second] [(.long q1)]))
      refine own_st (fun t k => XS.lload X0.here hx rfl (hb hby d1_29) rfl k) ?_
      show own_Fin _ _ _ _ _ _ _ (s₁.setTop (mkF m 31 #[.val (.long q1), .second, .val (.long q1), .second, .val (.int (2 : Int32)), .val (.long (-100 : Int64)), .second] [(.long (-100 : Int64)), (.long q1)]))
      refine own_st (fun t k => XS.lcmp X0.here hx rfl (hb hby d1_31) rfl k) ?_
      show own_Fin _ _ _ _ _ _ _ (s₁.setTop (mkF m 32 #[.val (.long q1), .second, .val (.long q1), .second, .val (.int (2 : Int32)), .val (.long (-100 : Int64)), .second] [(.int (lcmpW q1 (-100 : Int64)))]))
      by_cases hc32_3 : (-100 : Int64) < q1
      · refine own_st (fun t k => XS.ifYes X0.here hx rfl (pc0 := 32) (pc' := 49) rfl (hb hby d1_32) rfl (own_gtT hc32_3).1 (by decide) (by decide) k) ?_
        show own_Fin _ _ _ _ _ _ _ (s₁.setTop (mkF m 49 #[.val (.long q1), .second, .val (.long q1), .second, .val (.int (2 : Int32)), .val (.long (-100 : Int64)), .second] []))
        refine own_st (fun t k => XS.iload X0.here hx rfl (hb hby d1_49) rfl k) ?_
        show own_Fin _ _ _ _ _ _ _ (s₁.setTop (mkF m 51 #[.val (.long q1), .second, .val (.long q1), .second, .val (.int (2 : Int32)), .val (.long (-100 : Int64)), .second] [(.int (2 : Int32))]))
        have hv : own_F1 q1 = (2 : Int32) := by unfold own_F1; rw [if_pos hc3_1, if_neg hc32_2, if_pos hc32_3]
        exact own_retI X0 hx Bd.notSynchronized Bd.returns (hb hby d1_51) (by decide) (by decide) ⟨congrArg (fun z => some (Value.int z)) hv.symm, N0, e0⟩
      · refine own_st (fun t k => XS.ifNo X0.here hx rfl (hb hby d1_32) rfl (own_gtF hc32_3).1 k) ?_
        show own_Fin _ _ _ _ _ _ _ (s₁.setTop (mkF m 35 #[.val (.long q1), .second, .val (.long q1), .second, .val (.int (2 : Int32)), .val (.long (-100 : Int64)), .second] []))
        refine own_st (fun t k => XS.iinc X0.here hx rfl (hb hby d1_35) rfl (l' := #[.val (.long q1), .second, .val (.long q1), .second, .val (.int (3 : Int32)), .val (.long (-100 : Int64)), .second]) rfl k) ?_
        show own_Fin _ _ _ _ _ _ _ (s₁.setTop (mkF m 38 #[.val (.long q1), .second, .val (.long q1), .second, .val (.int (3 : Int32)), .val (.long (-100 : Int64)), .second] []))
        refine own_st (fun t k => XS.lload X0.here hx rfl (hb hby d1_38) rfl k) ?_
        show own_Fin _ _ _ _ _ _ _ (s₁.setTop (mkF m 40 #[.val (.long q1), .second, .val (.long q1), .second, .val (.int (3 : Int32)), .val (.long (-100 : Int64)), .second] [(.long (-100 : Int64))]))
        refine own_st (X0.ldc2Long hx hown (mvT hZ (hw _ (List.mem_of_getElem? (i := 25) rfl))) (g := (mkF m 40 #[.val (.long q1), .second, .val (.long q1), .second, .val (.int (3 : Int32)), .val (.long (-100 : Int64)), .second] [(.long (-100 : Int64))])) rfl (hb hby d1_40)) ?_
        show own_Fin _ _ _ _ _ _ _ (s₁.setTop (mkF m 43 #[.val (.long q1), .second, .val (.long q1), .second, .val (.int (3 : Int32)), .val (.long (-100 : Int64)), .second] [(.long (10 : Int64)), (.long (-100 : Int64))]))
        refine own_st (fun t k => XS.lmul X0.here hx rfl (hb hby d1_43) rfl k) ?_
        show own_Fin _ _ _ _ _ _ _ (s₁.setTop (mkF m 44 #[.val (.long q1), .second, .val (.long q1), .second, .val (.int (3 : Int32)), .val (.long (-100 : Int64)), .second] [(.long (-1000 : Int64))]))
        refine own_st (fun t k => XS.lstore X0.here hx rfl (hb hby d1_44) rfl (l' := #[.val (.long q1), .second, .val (.long q1), .second, .val (.int (3 : Int32)), .val (.long (-1000 : Int64)), .second]) rfl k) ?_
        show own_Fin _ _ _ _ _ _ _ (s₁.setTop (mkF m 46 #[.val (.long q1), .second, .val (.long q1), .second, .val (.int (3 : Int32)), .val (.long (-1000 : Int64)), .second] []))
        refine own_st (fun t k => XS.goto X0.here hx rfl (pc0 := 46) (pc' := 21) rfl (hb hby d1_46) (by decide) (by decide) k) ?_
        show own_Fin _ _ _ _ _ _ _ (s₁.setTop (mkF m 21 #[.val (.long q1), .second, .val (.long q1), .second, .val (.int (3 : Int32)), .val (.long (-1000 : Int64)), .second] []))
        refine own_st (fun t k => XS.iload X0.here hx rfl (hb hby d1_21) rfl k) ?_
        show own_Fin _ _ _ _ _ _ _ (s₁.setTop (mkF m 23 #[.val (.long q1), .second, .val (.long q1), .second, .val (.int (3 : Int32)), .val (.long (-1000 : Int64)), .second] [(.int (3 : Int32))]))
        refine own_st (fun t k => XS.bipush X0.here hx rfl (hb hby d1_23) k) ?_
        show own_Fin _ _ _ _ _ _ _ (s₁.setTop (mkF m 25 #[.val (.long q1), .second, .val (.long q1), .second, .val (.int (3 : Int32)), .val (.long (-1000 : Int64)), .second] [(.int (19 : Int32)), (.int (3 : Int32))]))
        refine own_st (fun t k => XS.icmpNo X0.here hx rfl (hb hby d1_25) rfl (tlt (by decide : (3 : Int32) < (19 : Int32))).2.1 k) ?_
        show own_Fin _ _ _ _ _ _ _ (s₁.setTop (mkF m 28 #[.val (.long q1), .second, .val (.long q1), .second, .val (.int (3 : Int32)), .val (.long (-1000 : Int64)), .second] []))
        refine own_st (fun t k => XS.lloadN X0.here hx rfl (hb hby d1_28) rfl k) ?_
        show own_Fin _ _ _ _ _ _ _ (s₁.setTop (mkF m 29 #[.val (.long q1), .second, .val (.long q1), .second, .val (.int (3 : Int32)), .val (.long (-1000 : Int64)), .second] [(.long q1)]))
        refine own_st (fun t k => XS.lload X0.here hx rfl (hb hby d1_29) rfl k) ?_
        show own_Fin _ _ _ _ _ _ _ (s₁.setTop (mkF m 31 #[.val (.long q1), .second, .val (.long q1), .second, .val (.int (3 : Int32)), .val (.long (-1000 : Int64)), .second] [(.long (-1000 : Int64)), (.long q1)]))
        refine own_st (fun t k => XS.lcmp X0.here hx rfl (hb hby d1_31) rfl k) ?_
        show own_Fin _ _ _ _ _ _ _ (s₁.setTop (mkF m 32 #[.val (.long q1), .second, .val (.long q1), .second, .val (.int (3 : Int32)), .val (.long (-1000 : Int64)), .second] [(.int (lcmpW q1 (-1000 : Int64)))]))
        by_cases hc32_4 : (-1000 : Int64) < q1
        · refine own_st (fun t k => XS.ifYes X0.here hx rfl (pc0 := 32) (pc' := 49) rfl (hb hby d1_32) rfl (own_gtT hc32_4).1 (by decide) (by decide) k) ?_
          show own_Fin _ _ _ _ _ _ _ (s₁.setTop (mkF m 49 #[.val (.long q1), .second, .val (.long q1), .second, .val (.int (3 : Int32)), .val (.long (-1000 : Int64)), .second] []))
          refine own_st (fun t k => XS.iload X0.here hx rfl (hb hby d1_49) rfl k) ?_
          show own_Fin _ _ _ _ _ _ _ (s₁.setTop (mkF m 51 #[.val (.long q1), .second, .val (.long q1), .second, .val (.int (3 : Int32)), .val (.long (-1000 : Int64)), .second] [(.int (3 : Int32))]))
          have hv : own_F1 q1 = (3 : Int32) := by unfold own_F1; rw [if_pos hc3_1, if_neg hc32_2, if_neg hc32_3, if_pos hc32_4]
          exact own_retI X0 hx Bd.notSynchronized Bd.returns (hb hby d1_51) (by decide) (by decide) ⟨congrArg (fun z => some (Value.int z)) hv.symm, N0, e0⟩
        · refine own_st (fun t k => XS.ifNo X0.here hx rfl (hb hby d1_32) rfl (own_gtF hc32_4).1 k) ?_
          show own_Fin _ _ _ _ _ _ _ (s₁.setTop (mkF m 35 #[.val (.long q1), .second, .val (.long q1), .second, .val (.int (3 : Int32)), .val (.long (-1000 : Int64)), .second] []))
          refine own_st (fun t k => XS.iinc X0.here hx rfl (hb hby d1_35) rfl (l' := #[.val (.long q1), .second, .val (.long q1), .second, .val (.int (4 : Int32)), .val (.long (-1000 : Int64)), .second]) rfl k) ?_
          show own_Fin _ _ _ _ _ _ _ (s₁.setTop (mkF m 38 #[.val (.long q1), .second, .val (.long q1), .second, .val (.int (4 : Int32)), .val (.long (-1000 : Int64)), .second] []))
          refine own_st (fun t k => XS.lload X0.here hx rfl (hb hby d1_38) rfl k) ?_
          show own_Fin _ _ _ _ _ _ _ (s₁.setTop (mkF m 40 #[.val (.long q1), .second, .val (.long q1), .second, .val (.int (4 : Int32)), .val (.long (-1000 : Int64)), .second] [(.long (-1000 : Int64))]))
          refine own_st (X0.ldc2Long hx hown (mvT hZ (hw _ (List.mem_of_getElem? (i := 25) rfl))) (g := (mkF m 40 #[.val (.long q1), .second, .val (.long q1), .second, .val (.int (4 : Int32)), .val (.long (-1000 : Int64)), .second] [(.long (-1000 : Int64))])) rfl (hb hby d1_40)) ?_
          show own_Fin _ _ _ _ _ _ _ (s₁.setTop (mkF m 43 #[.val (.long q1), .second, .val (.long q1), .second, .val (.int (4 : Int32)), .val (.long (-1000 : Int64)), .second] [(.long (10 : Int64)), (.long (-1000 : Int64))]))
          refine own_st (fun t k => XS.lmul X0.here hx rfl (hb hby d1_43) rfl k) ?_
          show own_Fin _ _ _ _ _ _ _ (s₁.setTop (mkF m 44 #[.val (.long q1), .second, .val (.long q1), .second, .val (.int (4 : Int32)), .val (.long (-1000 : Int64)), .second] [(.long (-10000 : Int64))]))
          refine own_st (fun t k => XS.lstore X0.here hx rfl (hb hby d1_44) rfl (l' := #[.val (.long q1), .second, .val (.long q1), .second, .val (.int (4 : Int32)), .val (.long (-10000 : Int64)), .second]) rfl k) ?_
          show own_Fin _ _ _ _ _ _ _ (s₁.setTop (mkF m 46 #[.val (.long q1), .second, .val (.long q1), .second, .val (.int (4 : Int32)), .val (.long (-10000 : Int64)), .second] []))
          refine own_st (fun t k => XS.goto X0.here hx rfl (pc0 := 46) (pc' := 21) rfl (hb hby d1_46) (by decide) (by decide) k) ?_
          show own_Fin _ _ _ _ _ _ _ (s₁.setTop (mkF m 21 #[.val (.long q1), .second, .val (.long q1), .second, .val (.int (4 : Int32)), .val (.long (-10000 : Int64)), .second] []))
          refine own_st (fun t k => XS.iload X0.here hx rfl (hb hby d1_21) rfl k) ?_
          show own_Fin _ _ _ _ _ _ _ (s₁.setTop (mkF m 23 #[.val (.long q1), .second, .val (.long q1), .second, .val (.int (4 : Int32)), .val (.long (-10000 : Int64)), .second] [(.int (4 : Int32))]))
          refine own_st (fun t k => XS.bipush X0.here hx rfl (hb hby d1_23) k) ?_
          show own_Fin _ _ _ _ _ _ _ (s₁.setTop (mkF m 25 #[.val (.long q1), .second, .val (.long q1), .second, .val (.int (4 : Int32)), .val (.long (-10000 : Int64)), .second] [(.int (19 : Int32)), (.int (4 : Int32))]))
          refine own_st (fun t k => XS.icmpNo X0.here hx rfl (hb hby d1_25) rfl (tlt (by decide : (4 : Int32) < (19 : Int32))).2.1 k) ?_
          show own_Fin _ _ _ _ _ _ _ (s₁.setTop (mkF m 28 #[.val (.long q1), .second, .val (.long q1), .second, .val (.int (4 : Int32)), .val (.long (-10000 : Int64)), .second] []))
          refine own_st (fun t k => XS.lloadN X0.here hx rfl (hb hby d1_28) rfl k) ?_
          show own_Fin _ _ _ _ _ _ _ (s₁.setTop (mkF m 29 #[.val (.long q1), .second, .val (.long q1), .second, .val (.int (4 : Int32)), .val (.long (-10000 : Int64)), .second] [(.long q1)]))
          refine own_st (fun t k => XS.lload X0.here hx rfl (hb hby d1_29) rfl k) ?_
          show own_Fin _ _ _ _ _ _ _ (s₁.setTop (mkF m 31 #[.val (.long q1), .second, .val (.long q1), .second, .val (.int (4 : Int32)), .val (.long (-10000 : Int64)), .second] [(.long (-10000 : Int64)), (.long q1)]))
          refine own_st (fun t k => XS.lcmp X0.here hx rfl (hb hby d1_31) rfl k) ?_
          show own_Fin _ _ _ _ _ _ _ (s₁.setTop (mkF m 32 #[.val (.long q1), .second, .val (.long q1), .second, .val (.int (4 : Int32)), .val (.long (-10000 : Int64)), .second] [(.int (lcmpW q1 (-10000 : Int64)))]))
          by_cases hc32_5 : (-10000 : Int64) < q1
          · refine own_st (fun t k => XS.ifYes X0.here hx rfl (pc0 := 32) (pc' := 49) rfl (hb hby d1_32) rfl (own_gtT hc32_5).1 (by decide) (by decide) k) ?_
            show own_Fin _ _ _ _ _ _ _ (s₁.setTop (mkF m 49 #[.val (.long q1), .second, .val (.long q1), .second, .val (.int (4 : Int32)), .val (.long (-10000 : Int64)), .second] []))
            refine own_st (fun t k => XS.iload X0.here hx rfl (hb hby d1_49) rfl k) ?_
            show own_Fin _ _ _ _ _ _ _ (s₁.setTop (mkF m 51 #[.val (.long q1), .second, .val (.long q1), .second, .val (.int (4 : Int32)), .val (.long (-10000 : Int64)), .second] [(.int (4 : Int32))]))
            have hv : own_F1 q1 = (4 : Int32) := by unfold own_F1; rw [if_pos hc3_1, if_neg hc32_2, if_neg hc32_3, if_neg hc32_4, if_pos hc32_5]
            exact own_retI X0 hx Bd.notSynchronized Bd.returns (hb hby d1_51) (by decide) (by decide) ⟨congrArg (fun z => some (Value.int z)) hv.symm, N0, e0⟩
          · refine own_st (fun t k => XS.ifNo X0.here hx rfl (hb hby d1_32) rfl (own_gtF hc32_5).1 k) ?_
            show own_Fin _ _ _ _ _ _ _ (s₁.setTop (mkF m 35 #[.val (.long q1), .second, .val (.long q1), .second, .val (.int (4 : Int32)), .val (.long (-10000 : Int64)), .second] []))
            refine own_st (fun t k => XS.iinc X0.here hx rfl (hb hby d1_35) rfl (l' := #[.val (.long q1), .second, .val (.long q1), .second, .val (.int (5 : Int32)), .val (.long (-10000 : Int64)), .second]) rfl k) ?_
            show own_Fin _ _ _ _ _ _ _ (s₁.setTop (mkF m 38 #[.val (.long q1), .second, .val (.long q1), .second, .val (.int (5 : Int32)), .val (.long (-10000 : Int64)), .second] []))
            refine own_st (fun t k => XS.lload X0.here hx rfl (hb hby d1_38) rfl k) ?_
            show own_Fin _ _ _ _ _ _ _ (s₁.setTop (mkF m 40 #[.val (.long q1), .second, .val (.long q1), .second, .val (.int (5 : Int32)), .val (.long (-10000 : Int64)), .second] [(.long (-10000 : Int64))]))
            refine own_st (X0.ldc2Long hx hown (mvT hZ (hw _ (List.mem_of_getElem? (i := 25) rfl))) (g := (mkF m 40 #[.val (.long q1), .second, .val (.long q1), .second, .val (.int (5 : Int32)), .val (.long (-10000 : Int64)), .second] [(.long (-10000 : Int64))])) rfl (hb hby d1_40)) ?_
            show own_Fin _ _ _ _ _ _ _ (s₁.setTop (mkF m 43 #[.val (.long q1), .second, .val (.long q1), .second, .val (.int (5 : Int32)), .val (.long (-10000 : Int64)), .second] [(.long (10 : Int64)), (.long (-10000 : Int64))]))
            refine own_st (fun t k => XS.lmul X0.here hx rfl (hb hby d1_43) rfl k) ?_
            show own_Fin _ _ _ _ _ _ _ (s₁.setTop (mkF m 44 #[.val (.long q1), .second, .val (.long q1), .second, .val (.int (5 : Int32)), .val (.long (-10000 : Int64)), .second] [(.long (-100000 : Int64))]))
            refine own_st (fun t k => XS.lstore X0.here hx rfl (hb hby d1_44) rfl (l' := #[.val (.long q1), .second, .val (.long q1), .second, .val (.int (5 : Int32)), .val (.long (-100000 : Int64)), .second]) rfl k) ?_
            show own_Fin _ _ _ _ _ _ _ (s₁.setTop (mkF m 46 #[.val (.long q1), .second, .val (.long q1), .second, .val (.int (5 : Int32)), .val (.long (-100000 : Int64)), .second] []))
            refine own_st (fun t k => XS.goto X0.here hx rfl (pc0 := 46) (pc' := 21) rfl (hb hby d1_46) (by decide) (by decide) k) ?_
            show own_Fin _ _ _ _ _ _ _ (s₁.setTop (mkF m 21 #[.val (.long q1), .second, .val (.long q1), .second, .val (.int (5 : Int32)), .val (.long (-100000 : Int64)), .second] []))
            refine own_st (fun t k => XS.iload X0.here hx rfl (hb hby d1_21) rfl k) ?_
            show own_Fin _ _ _ _ _ _ _ (s₁.setTop (mkF m 23 #[.val (.long q1), .second, .val (.long q1), .second, .val (.int (5 : Int32)), .val (.long (-100000 : Int64)), .second] [(.int (5 : Int32))]))
            refine own_st (fun t k => XS.bipush X0.here hx rfl (hb hby d1_23) k) ?_
            show own_Fin _ _ _ _ _ _ _ (s₁.setTop (mkF m 25 #[.val (.long q1), .second, .val (.long q1), .second, .val (.int (5 : Int32)), .val (.long (-100000 : Int64)), .second] [(.int (19 : Int32)), (.int (5 : Int32))]))
            refine own_st (fun t k => XS.icmpNo X0.here hx rfl (hb hby d1_25) rfl (tlt (by decide : (5 : Int32) < (19 : Int32))).2.1 k) ?_
            show own_Fin _ _ _ _ _ _ _ (s₁.setTop (mkF m 28 #[.val (.long q1), .second, .val (.long q1), .second, .val (.int (5 : Int32)), .val (.long (-100000 : Int64)), .second] []))
            refine own_st (fun t k => XS.lloadN X0.here hx rfl (hb hby d1_28) rfl k) ?_
            show own_Fin _ _ _ _ _ _ _ (s₁.setTop (mkF m 29 #[.val (.long q1), .second, .val (.long q1), .second, .val (.int (5 : Int32)), .val (.long (-100000 : Int64)), .second] [(.long q1)]))
            refine own_st (fun t k => XS.lload X0.here hx rfl (hb hby d1_29) rfl k) ?_
            show own_Fin _ _ _ _ _ _ _ (s₁.setTop (mkF m 31 #[.val (.long q1), .second, .val (.long q1), .second, .val (.int (5 : Int32)), .val (.long (-100000 : Int64)), .second] [(.long (-100000 : Int64)), (.long q1)]))
            refine own_st (fun t k => XS.lcmp X0.here hx rfl (hb hby d1_31) rfl k) ?_
            show own_Fin _ _ _ _ _ _ _ (s₁.setTop (mkF m 32 #[.val (.long q1), .second, .val (.long q1), .second, .val (.int (5 : Int32)), .val (.long (-100000 : Int64)), .second] [(.int (lcmpW q1 (-100000 : Int64)))]))
            by_cases hc32_6 : (-100000 : Int64) < q1
            · refine own_st (fun t k => XS.ifYes X0.here hx rfl (pc0 := 32) (pc' := 49) rfl (hb hby d1_32) rfl (own_gtT hc32_6).1 (by decide) (by decide) k) ?_
              show own_Fin _ _ _ _ _ _ _ (s₁.setTop (mkF m 49 #[.val (.long q1), .second, .val (.long q1), .second, .val (.int (5 : Int32)), .val (.long (-100000 : Int64)), .second] []))
              refine own_st (fun t k => XS.iload X0.here hx rfl (hb hby d1_49) rfl k) ?_
              show own_Fin _ _ _ _ _ _ _ (s₁.setTop (mkF m 51 #[.val (.long q1), .second, .val (.long q1), .second, .val (.int (5 : Int32)), .val (.long (-100000 : Int64)), .second] [(.int (5 : Int32))]))
              have hv : own_F1 q1 = (5 : Int32) := by unfold own_F1; rw [if_pos hc3_1, if_neg hc32_2, if_neg hc32_3, if_neg hc32_4, if_neg hc32_5, if_pos hc32_6]
              exact own_retI X0 hx Bd.notSynchronized Bd.returns (hb hby d1_51) (by decide) (by decide) ⟨congrArg (fun z => some (Value.int z)) hv.symm, N0, e0⟩
            · refine own_st (fun t k => XS.ifNo X0.here hx rfl (hb hby d1_32) rfl (own_gtF hc32_6).1 k) ?_
              show own_Fin _ _ _ _ _ _ _ (s₁.setTop (mkF m 35 #[.val (.long q1), .second, .val (.long q1), .second, .val (.int (5 : Int32)), .val (.long (-100000 : Int64)), .second] []))
              refine own_st (fun t k => XS.iinc X0.here hx rfl (hb hby d1_35) rfl (l' := #[.val (.long q1), .second, .val (.long q1), .second, .val (.int (6 : Int32)), .val (.long (-100000 : Int64)), .second]) rfl k) ?_
              show own_Fin _ _ _ _ _ _ _ (s₁.setTop (mkF m 38 #[.val (.long q1), .second, .val (.long q1), .second, .val (.int (6 : Int32)), .val (.long (-100000 : Int64)), .second] []))
              refine own_st (fun t k => XS.lload X0.here hx rfl (hb hby d1_38) rfl k) ?_
              show own_Fin _ _ _ _ _ _ _ (s₁.setTop (mkF m 40 #[.val (.long q1), .second, .val (.long q1), .second, .val (.int (6 : Int32)), .val (.long (-100000 : Int64)), .second] [(.long (-100000 : Int64))]))
              refine own_st (X0.ldc2Long hx hown (mvT hZ (hw _ (List.mem_of_getElem? (i := 25) rfl))) (g := (mkF m 40 #[.val (.long q1), .second, .val (.long q1), .second, .val (.int (6 : Int32)), .val (.long (-100000 : Int64)), .second] [(.long (-100000 : Int64))])) rfl (hb hby d1_40)) ?_
              show own_Fin _ _ _ _ _ _ _ (s₁.setTop (mkF m 43 #[.val (.long q1), .second, .val (.long q1), .second, .val (.int (6 : Int32)), .val (.long (-100000 : Int64)), .second] [(.long (10 : Int64)), (.long (-100000 : Int64))]))
              refine own_st (fun t k => XS.lmul X0.here hx rfl (hb hby d1_43) rfl k) ?_
              show own_Fin _ _ _ _ _ _ _ (s₁.setTop (mkF m 44 #[.val (.long q1), .second, .val (.long q1), .second, .val (.int (6 : Int32)), .val (.long (-100000 : Int64)), .second] [(.long (-1000000 : Int64))]))
              refine own_st (fun t k => XS.lstore X0.here hx rfl (hb hby d1_44) rfl (l' := #[.val (.long q1), .second, .val (.long q1), .second, .val (.int (6 : Int32)), .val (.long (-1000000 : Int64)), .second]) rfl k) ?_
              show own_Fin _ _ _ _ _ _ _ (s₁.setTop (mkF m 46 #[.val (.long q1), .second, .val (.long q1), .second, .val (.int (6 : Int32)), .val (.long (-1000000 : Int64)), .second] []))
              refine own_st (fun t k => XS.goto X0.here hx rfl (pc0 := 46) (pc' := 21) rfl (hb hby d1_46) (by decide) (by decide) k) ?_
              show own_Fin _ _ _ _ _ _ _ (s₁.setTop (mkF m 21 #[.val (.long q1), .second, .val (.long q1), .second, .val (.int (6 : Int32)), .val (.long (-1000000 : Int64)), .second] []))
              refine own_st (fun t k => XS.iload X0.here hx rfl (hb hby d1_21) rfl k) ?_
              show own_Fin _ _ _ _ _ _ _ (s₁.setTop (mkF m 23 #[.val (.long q1), .second, .val (.long q1), .second, .val (.int (6 : Int32)), .val (.long (-1000000 : Int64)), .second] [(.int (6 : Int32))]))
              refine own_st (fun t k => XS.bipush X0.here hx rfl (hb hby d1_23) k) ?_
              show own_Fin _ _ _ _ _ _ _ (s₁.setTop (mkF m 25 #[.val (.long q1), .second, .val (.long q1), .second, .val (.int (6 : Int32)), .val (.long (-1000000 : Int64)), .second] [(.int (19 : Int32)), (.int (6 : Int32))]))
              refine own_st (fun t k => XS.icmpNo X0.here hx rfl (hb hby d1_25) rfl (tlt (by decide : (6 : Int32) < (19 : Int32))).2.1 k) ?_
              show own_Fin _ _ _ _ _ _ _ (s₁.setTop (mkF m 28 #[.val (.long q1), .second, .val (.long q1), .second, .val (.int (6 : Int32)), .val (.long (-1000000 : Int64)), .second] []))
              refine own_st (fun t k => XS.lloadN X0.here hx rfl (hb hby d1_28) rfl k) ?_
              show own_Fin _ _ _ _ _ _ _ (s₁.setTop (mkF m 29 #[.val (.long q1), .second, .val (.long q1), .second, .val (.int (6 : Int32)), .val (.long (-1000000 : Int64)), .second] [(.long q1)]))
              refine own_st (fun t k => XS.lload X0.here hx rfl (hb hby d1_29) rfl k) ?_
              show own_Fin _ _ _ _ _ _ _ (s₁.setTop (mkF m 31 #[.val (.long q1), .second, .val (.long q1), .second, .val (.int (6 : Int32)), .val (.long (-1000000 : Int64)), .second] [(.long (-1000000 : Int64)), (.long q1)]))
              refine own_st (fun t k => XS.lcmp X0.here hx rfl (hb hby d1_31) rfl k) ?_
              show own_Fin _ _ _ _ _ _ _ (s₁.setTop (mkF m 32 #[.val (.long q1), .second, .val (.long q1), .second, .val (.int (6 : Int32)), .val (.long (-1000000 : Int64)), .second] [(.int (lcmpW q1 (-1000000 : Int64)))]))
              by_cases hc32_7 : (-1000000 : Int64) < q1
              · refine own_st (fun t k => XS.ifYes X0.here hx rfl (pc0 := 32) (pc' := 49) rfl (hb hby d1_32) rfl (own_gtT hc32_7).1 (by decide) (by decide) k) ?_
                show own_Fin _ _ _ _ _ _ _ (s₁.setTop (mkF m 49 #[.val (.long q1), .second, .val (.long q1), .second, .val (.int (6 : Int32)), .val (.long (-1000000 : Int64)), .second] []))
                refine own_st (fun t k => XS.iload X0.here hx rfl (hb hby d1_49) rfl k) ?_
                show own_Fin _ _ _ _ _ _ _ (s₁.setTop (mkF m 51 #[.val (.long q1), .second, .val (.long q1), .second, .val (.int (6 : Int32)), .val (.long (-1000000 : Int64)), .second] [(.int (6 : Int32))]))
                have hv : own_F1 q1 = (6 : Int32) := by unfold own_F1; rw [if_pos hc3_1, if_neg hc32_2, if_neg hc32_3, if_neg hc32_4, if_neg hc32_5, if_neg hc32_6, if_pos hc32_7]
                exact own_retI X0 hx Bd.notSynchronized Bd.returns (hb hby d1_51) (by decide) (by decide) ⟨congrArg (fun z => some (Value.int z)) hv.symm, N0, e0⟩
              · refine own_st (fun t k => XS.ifNo X0.here hx rfl (hb hby d1_32) rfl (own_gtF hc32_7).1 k) ?_
                show own_Fin _ _ _ _ _ _ _ (s₁.setTop (mkF m 35 #[.val (.long q1), .second, .val (.long q1), .second, .val (.int (6 : Int32)), .val (.long (-1000000 : Int64)), .second] []))
                refine own_st (fun t k => XS.iinc X0.here hx rfl (hb hby d1_35) rfl (l' := #[.val (.long q1), .second, .val (.long q1), .second, .val (.int (7 : Int32)), .val (.long (-1000000 : Int64)), .second]) rfl k) ?_
                show own_Fin _ _ _ _ _ _ _ (s₁.setTop (mkF m 38 #[.val (.long q1), .second, .val (.long q1), .second, .val (.int (7 : Int32)), .val (.long (-1000000 : Int64)), .second] []))
                refine own_st (fun t k => XS.lload X0.here hx rfl (hb hby d1_38) rfl k) ?_
                show own_Fin _ _ _ _ _ _ _ (s₁.setTop (mkF m 40 #[.val (.long q1), .second, .val (.long q1), .second, .val (.int (7 : Int32)), .val (.long (-1000000 : Int64)), .second] [(.long (-1000000 : Int64))]))
                refine own_st (X0.ldc2Long hx hown (mvT hZ (hw _ (List.mem_of_getElem? (i := 25) rfl))) (g := (mkF m 40 #[.val (.long q1), .second, .val (.long q1), .second, .val (.int (7 : Int32)), .val (.long (-1000000 : Int64)), .second] [(.long (-1000000 : Int64))])) rfl (hb hby d1_40)) ?_
                show own_Fin _ _ _ _ _ _ _ (s₁.setTop (mkF m 43 #[.val (.long q1), .second, .val (.long q1), .second, .val (.int (7 : Int32)), .val (.long (-1000000 : Int64)), .second] [(.long (10 : Int64)), (.long (-1000000 : Int64))]))
                refine own_st (fun t k => XS.lmul X0.here hx rfl (hb hby d1_43) rfl k) ?_
                show own_Fin _ _ _ _ _ _ _ (s₁.setTop (mkF m 44 #[.val (.long q1), .second, .val (.long q1), .second, .val (.int (7 : Int32)), .val (.long (-1000000 : Int64)), .second] [(.long (-10000000 : Int64))]))
                refine own_st (fun t k => XS.lstore X0.here hx rfl (hb hby d1_44) rfl (l' := #[.val (.long q1), .second, .val (.long q1), .second, .val (.int (7 : Int32)), .val (.long (-10000000 : Int64)), .second]) rfl k) ?_
                show own_Fin _ _ _ _ _ _ _ (s₁.setTop (mkF m 46 #[.val (.long q1), .second, .val (.long q1), .second, .val (.int (7 : Int32)), .val (.long (-10000000 : Int64)), .second] []))
                refine own_st (fun t k => XS.goto X0.here hx rfl (pc0 := 46) (pc' := 21) rfl (hb hby d1_46) (by decide) (by decide) k) ?_
                show own_Fin _ _ _ _ _ _ _ (s₁.setTop (mkF m 21 #[.val (.long q1), .second, .val (.long q1), .second, .val (.int (7 : Int32)), .val (.long (-10000000 : Int64)), .second] []))
                refine own_st (fun t k => XS.iload X0.here hx rfl (hb hby d1_21) rfl k) ?_
                show own_Fin _ _ _ _ _ _ _ (s₁.setTop (mkF m 23 #[.val (.long q1), .second, .val (.long q1), .second, .val (.int (7 : Int32)), .val (.long (-10000000 : Int64)), .second] [(.int (7 : Int32))]))
                refine own_st (fun t k => XS.bipush X0.here hx rfl (hb hby d1_23) k) ?_
                show own_Fin _ _ _ _ _ _ _ (s₁.setTop (mkF m 25 #[.val (.long q1), .second, .val (.long q1), .second, .val (.int (7 : Int32)), .val (.long (-10000000 : Int64)), .second] [(.int (19 : Int32)), (.int (7 : Int32))]))
                refine own_st (fun t k => XS.icmpNo X0.here hx rfl (hb hby d1_25) rfl (tlt (by decide : (7 : Int32) < (19 : Int32))).2.1 k) ?_
                show own_Fin _ _ _ _ _ _ _ (s₁.setTop (mkF m 28 #[.val (.long q1), .second, .val (.long q1), .second, .val (.int (7 : Int32)), .val (.long (-10000000 : Int64)), .second] []))
                refine own_st (fun t k => XS.lloadN X0.here hx rfl (hb hby d1_28) rfl k) ?_
                show own_Fin _ _ _ _ _ _ _ (s₁.setTop (mkF m 29 #[.val (.long q1), .second, .val (.long q1), .second, .val (.int (7 : Int32)), .val (.long (-10000000 : Int64)), .second] [(.long q1)]))
                refine own_st (fun t k => XS.lload X0.here hx rfl (hb hby d1_29) rfl k) ?_
                show own_Fin _ _ _ _ _ _ _ (s₁.setTop (mkF m 31 #[.val (.long q1), .second, .val (.long q1), .second, .val (.int (7 : Int32)), .val (.long (-10000000 : Int64)), .second] [(.long (-10000000 : Int64)), (.long q1)]))
                refine own_st (fun t k => XS.lcmp X0.here hx rfl (hb hby d1_31) rfl k) ?_
                show own_Fin _ _ _ _ _ _ _ (s₁.setTop (mkF m 32 #[.val (.long q1), .second, .val (.long q1), .second, .val (.int (7 : Int32)), .val (.long (-10000000 : Int64)), .second] [(.int (lcmpW q1 (-10000000 : Int64)))]))
                by_cases hc32_8 : (-10000000 : Int64) < q1
                · refine own_st (fun t k => XS.ifYes X0.here hx rfl (pc0 := 32) (pc' := 49) rfl (hb hby d1_32) rfl (own_gtT hc32_8).1 (by decide) (by decide) k) ?_
                  show own_Fin _ _ _ _ _ _ _ (s₁.setTop (mkF m 49 #[.val (.long q1), .second, .val (.long q1), .second, .val (.int (7 : Int32)), .val (.long (-10000000 : Int64)), .second] []))
                  refine own_st (fun t k => XS.iload X0.here hx rfl (hb hby d1_49) rfl k) ?_
                  show own_Fin _ _ _ _ _ _ _ (s₁.setTop (mkF m 51 #[.val (.long q1), .second, .val (.long q1), .second, .val (.int (7 : Int32)), .val (.long (-10000000 : Int64)), .second] [(.int (7 : Int32))]))
                  have hv : own_F1 q1 = (7 : Int32) := by unfold own_F1; rw [if_pos hc3_1, if_neg hc32_2, if_neg hc32_3, if_neg hc32_4, if_neg hc32_5, if_neg hc32_6, if_neg hc32_7, if_pos hc32_8]
                  exact own_retI X0 hx Bd.notSynchronized Bd.returns (hb hby d1_51) (by decide) (by decide) ⟨congrArg (fun z => some (Value.int z)) hv.symm, N0, e0⟩
                · refine own_st (fun t k => XS.ifNo X0.here hx rfl (hb hby d1_32) rfl (own_gtF hc32_8).1 k) ?_
                  show own_Fin _ _ _ _ _ _ _ (s₁.setTop (mkF m 35 #[.val (.long q1), .second, .val (.long q1), .second, .val (.int (7 : Int32)), .val (.long (-10000000 : Int64)), .second] []))
                  refine own_st (fun t k => XS.iinc X0.here hx rfl (hb hby d1_35) rfl (l' := #[.val (.long q1), .second, .val (.long q1), .second, .val (.int (8 : Int32)), .val (.long (-10000000 : Int64)), .second]) rfl k) ?_
                  show own_Fin _ _ _ _ _ _ _ (s₁.setTop (mkF m 38 #[.val (.long q1), .second, .val (.long q1), .second, .val (.int (8 : Int32)), .val (.long (-10000000 : Int64)), .second] []))
                  refine own_st (fun t k => XS.lload X0.here hx rfl (hb hby d1_38) rfl k) ?_
                  show own_Fin _ _ _ _ _ _ _ (s₁.setTop (mkF m 40 #[.val (.long q1), .second, .val (.long q1), .second, .val (.int (8 : Int32)), .val (.long (-10000000 : Int64)), .second] [(.long (-10000000 : Int64))]))
                  refine own_st (X0.ldc2Long hx hown (mvT hZ (hw _ (List.mem_of_getElem? (i := 25) rfl))) (g := (mkF m 40 #[.val (.long q1), .second, .val (.long q1), .second, .val (.int (8 : Int32)), .val (.long (-10000000 : Int64)), .second] [(.long (-10000000 : Int64))])) rfl (hb hby d1_40)) ?_
                  show own_Fin _ _ _ _ _ _ _ (s₁.setTop (mkF m 43 #[.val (.long q1), .second, .val (.long q1), .second, .val (.int (8 : Int32)), .val (.long (-10000000 : Int64)), .second] [(.long (10 : Int64)), (.long (-10000000 : Int64))]))
                  refine own_st (fun t k => XS.lmul X0.here hx rfl (hb hby d1_43) rfl k) ?_
                  show own_Fin _ _ _ _ _ _ _ (s₁.setTop (mkF m 44 #[.val (.long q1), .second, .val (.long q1), .second, .val (.int (8 : Int32)), .val (.long (-10000000 : Int64)), .second] [(.long (-100000000 : Int64))]))
                  refine own_st (fun t k => XS.lstore X0.here hx rfl (hb hby d1_44) rfl (l' := #[.val (.long q1), .second, .val (.long q1), .second, .val (.int (8 : Int32)), .val (.long (-100000000 : Int64)), .second]) rfl k) ?_
                  show own_Fin _ _ _ _ _ _ _ (s₁.setTop (mkF m 46 #[.val (.long q1), .second, .val (.long q1), .second, .val (.int (8 : Int32)), .val (.long (-100000000 : Int64)), .second] []))
                  refine own_st (fun t k => XS.goto X0.here hx rfl (pc0 := 46) (pc' := 21) rfl (hb hby d1_46) (by decide) (by decide) k) ?_
                  show own_Fin _ _ _ _ _ _ _ (s₁.setTop (mkF m 21 #[.val (.long q1), .second, .val (.long q1), .second, .val (.int (8 : Int32)), .val (.long (-100000000 : Int64)), .second] []))
                  refine own_st (fun t k => XS.iload X0.here hx rfl (hb hby d1_21) rfl k) ?_
                  show own_Fin _ _ _ _ _ _ _ (s₁.setTop (mkF m 23 #[.val (.long q1), .second, .val (.long q1), .second, .val (.int (8 : Int32)), .val (.long (-100000000 : Int64)), .second] [(.int (8 : Int32))]))
                  refine own_st (fun t k => XS.bipush X0.here hx rfl (hb hby d1_23) k) ?_
                  show own_Fin _ _ _ _ _ _ _ (s₁.setTop (mkF m 25 #[.val (.long q1), .second, .val (.long q1), .second, .val (.int (8 : Int32)), .val (.long (-100000000 : Int64)), .second] [(.int (19 : Int32)), (.int (8 : Int32))]))
                  refine own_st (fun t k => XS.icmpNo X0.here hx rfl (hb hby d1_25) rfl (tlt (by decide : (8 : Int32) < (19 : Int32))).2.1 k) ?_
                  show own_Fin _ _ _ _ _ _ _ (s₁.setTop (mkF m 28 #[.val (.long q1), .second, .val (.long q1), .second, .val (.int (8 : Int32)), .val (.long (-100000000 : Int64)), .second] []))
                  refine own_st (fun t k => XS.lloadN X0.here hx rfl (hb hby d1_28) rfl k) ?_
                  show own_Fin _ _ _ _ _ _ _ (s₁.setTop (mkF m 29 #[.val (.long q1), .second, .val (.long q1), .second, .val (.int (8 : Int32)), .val (.long (-100000000 : Int64)), .second] [(.long q1)]))
                  refine own_st (fun t k => XS.lload X0.here hx rfl (hb hby d1_29) rfl k) ?_
                  show own_Fin _ _ _ _ _ _ _ (s₁.setTop (mkF m 31 #[.val (.long q1), .second, .val (.long q1), .second, .val (.int (8 : Int32)), .val (.long (-100000000 : Int64)), .second] [(.long (-100000000 : Int64)), (.long q1)]))
                  refine own_st (fun t k => XS.lcmp X0.here hx rfl (hb hby d1_31) rfl k) ?_
                  show own_Fin _ _ _ _ _ _ _ (s₁.setTop (mkF m 32 #[.val (.long q1), .second, .val (.long q1), .second, .val (.int (8 : Int32)), .val (.long (-100000000 : Int64)), .second] [(.int (lcmpW q1 (-100000000 : Int64)))]))
                  by_cases hc32_9 : (-100000000 : Int64) < q1
                  · refine own_st (fun t k => XS.ifYes X0.here hx rfl (pc0 := 32) (pc' := 49) rfl (hb hby d1_32) rfl (own_gtT hc32_9).1 (by decide) (by decide) k) ?_
                    show own_Fin _ _ _ _ _ _ _ (s₁.setTop (mkF m 49 #[.val (.long q1), .second, .val (.long q1), .second, .val (.int (8 : Int32)), .val (.long (-100000000 : Int64)), .second] []))
                    refine own_st (fun t k => XS.iload X0.here hx rfl (hb hby d1_49) rfl k) ?_
                    show own_Fin _ _ _ _ _ _ _ (s₁.setTop (mkF m 51 #[.val (.long q1), .second, .val (.long q1), .second, .val (.int (8 : Int32)), .val (.long (-100000000 : Int64)), .second] [(.int (8 : Int32))]))
                    have hv : own_F1 q1 = (8 : Int32) := by unfold own_F1; rw [if_pos hc3_1, if_neg hc32_2, if_neg hc32_3, if_neg hc32_4, if_neg hc32_5, if_neg hc32_6, if_neg hc32_7, if_neg hc32_8, if_pos hc32_9]
                    exact own_retI X0 hx Bd.notSynchronized Bd.returns (hb hby d1_51) (by decide) (by decide) ⟨congrArg (fun z => some (Value.int z)) hv.symm, N0, e0⟩
                  · refine own_st (fun t k => XS.ifNo X0.here hx rfl (hb hby d1_32) rfl (own_gtF hc32_9).1 k) ?_
                    show own_Fin _ _ _ _ _ _ _ (s₁.setTop (mkF m 35 #[.val (.long q1), .second, .val (.long q1), .second, .val (.int (8 : Int32)), .val (.long (-100000000 : Int64)), .second] []))
                    refine own_st (fun t k => XS.iinc X0.here hx rfl (hb hby d1_35) rfl (l' := #[.val (.long q1), .second, .val (.long q1), .second, .val (.int (9 : Int32)), .val (.long (-100000000 : Int64)), .second]) rfl k) ?_
                    show own_Fin _ _ _ _ _ _ _ (s₁.setTop (mkF m 38 #[.val (.long q1), .second, .val (.long q1), .second, .val (.int (9 : Int32)), .val (.long (-100000000 : Int64)), .second] []))
                    refine own_st (fun t k => XS.lload X0.here hx rfl (hb hby d1_38) rfl k) ?_
                    show own_Fin _ _ _ _ _ _ _ (s₁.setTop (mkF m 40 #[.val (.long q1), .second, .val (.long q1), .second, .val (.int (9 : Int32)), .val (.long (-100000000 : Int64)), .second] [(.long (-100000000 : Int64))]))
                    refine own_st (X0.ldc2Long hx hown (mvT hZ (hw _ (List.mem_of_getElem? (i := 25) rfl))) (g := (mkF m 40 #[.val (.long q1), .second, .val (.long q1), .second, .val (.int (9 : Int32)), .val (.long (-100000000 : Int64)), .second] [(.long (-100000000 : Int64))])) rfl (hb hby d1_40)) ?_
                    show own_Fin _ _ _ _ _ _ _ (s₁.setTop (mkF m 43 #[.val (.long q1), .second, .val (.long q1), .second, .val (.int (9 : Int32)), .val (.long (-100000000 : Int64)), .second] [(.long (10 : Int64)), (.long (-100000000 : Int64))]))
                    refine own_st (fun t k => XS.lmul X0.here hx rfl (hb hby d1_43) rfl k) ?_
                    show own_Fin _ _ _ _ _ _ _ (s₁.setTop (mkF m 44 #[.val (.long q1), .second, .val (.long q1), .second, .val (.int (9 : Int32)), .val (.long (-100000000 : Int64)), .second] [(.long (-1000000000 : Int64))]))
                    refine own_st (fun t k => XS.lstore X0.here hx rfl (hb hby d1_44) rfl (l' := #[.val (.long q1), .second, .val (.long q1), .second, .val (.int (9 : Int32)), .val (.long (-1000000000 : Int64)), .second]) rfl k) ?_
                    show own_Fin _ _ _ _ _ _ _ (s₁.setTop (mkF m 46 #[.val (.long q1), .second, .val (.long q1), .second, .val (.int (9 : Int32)), .val (.long (-1000000000 : Int64)), .second] []))
                    refine own_st (fun t k => XS.goto X0.here hx rfl (pc0 := 46) (pc' := 21) rfl (hb hby d1_46) (by decide) (by decide) k) ?_
                    show own_Fin _ _ _ _ _ _ _ (s₁.setTop (mkF m 21 #[.val (.long q1), .second, .val (.long q1), .second, .val (.int (9 : Int32)), .val (.long (-1000000000 : Int64)), .second] []))
                    refine own_st (fun t k => XS.iload X0.here hx rfl (hb hby d1_21) rfl k) ?_
                    show own_Fin _ _ _ _ _ _ _ (s₁.setTop (mkF m 23 #[.val (.long q1), .second, .val (.long q1), .second, .val (.int (9 : Int32)), .val (.long (-1000000000 : Int64)), .second] [(.int (9 : Int32))]))
                    refine own_st (fun t k => XS.bipush X0.here hx rfl (hb hby d1_23) k) ?_
                    show own_Fin _ _ _ _ _ _ _ (s₁.setTop (mkF m 25 #[.val (.long q1), .second, .val (.long q1), .second, .val (.int (9 : Int32)), .val (.long (-1000000000 : Int64)), .second] [(.int (19 : Int32)), (.int (9 : Int32))]))
                    refine own_st (fun t k => XS.icmpNo X0.here hx rfl (hb hby d1_25) rfl (tlt (by decide : (9 : Int32) < (19 : Int32))).2.1 k) ?_
                    show own_Fin _ _ _ _ _ _ _ (s₁.setTop (mkF m 28 #[.val (.long q1), .second, .val (.long q1), .second, .val (.int (9 : Int32)), .val (.long (-1000000000 : Int64)), .second] []))
                    refine own_st (fun t k => XS.lloadN X0.here hx rfl (hb hby d1_28) rfl k) ?_
                    show own_Fin _ _ _ _ _ _ _ (s₁.setTop (mkF m 29 #[.val (.long q1), .second, .val (.long q1), .second, .val (.int (9 : Int32)), .val (.long (-1000000000 : Int64)), .second] [(.long q1)]))
                    refine own_st (fun t k => XS.lload X0.here hx rfl (hb hby d1_29) rfl k) ?_
                    show own_Fin _ _ _ _ _ _ _ (s₁.setTop (mkF m 31 #[.val (.long q1), .second, .val (.long q1), .second, .val (.int (9 : Int32)), .val (.long (-1000000000 : Int64)), .second] [(.long (-1000000000 : Int64)), (.long q1)]))
                    refine own_st (fun t k => XS.lcmp X0.here hx rfl (hb hby d1_31) rfl k) ?_
                    show own_Fin _ _ _ _ _ _ _ (s₁.setTop (mkF m 32 #[.val (.long q1), .second, .val (.long q1), .second, .val (.int (9 : Int32)), .val (.long (-1000000000 : Int64)), .second] [(.int (lcmpW q1 (-1000000000 : Int64)))]))
                    by_cases hc32_10 : (-1000000000 : Int64) < q1
                    · refine own_st (fun t k => XS.ifYes X0.here hx rfl (pc0 := 32) (pc' := 49) rfl (hb hby d1_32) rfl (own_gtT hc32_10).1 (by decide) (by decide) k) ?_
                      show own_Fin _ _ _ _ _ _ _ (s₁.setTop (mkF m 49 #[.val (.long q1), .second, .val (.long q1), .second, .val (.int (9 : Int32)), .val (.long (-1000000000 : Int64)), .second] []))
                      refine own_st (fun t k => XS.iload X0.here hx rfl (hb hby d1_49) rfl k) ?_
                      show own_Fin _ _ _ _ _ _ _ (s₁.setTop (mkF m 51 #[.val (.long q1), .second, .val (.long q1), .second, .val (.int (9 : Int32)), .val (.long (-1000000000 : Int64)), .second] [(.int (9 : Int32))]))
                      have hv : own_F1 q1 = (9 : Int32) := by unfold own_F1; rw [if_pos hc3_1, if_neg hc32_2, if_neg hc32_3, if_neg hc32_4, if_neg hc32_5, if_neg hc32_6, if_neg hc32_7, if_neg hc32_8, if_neg hc32_9, if_pos hc32_10]
                      exact own_retI X0 hx Bd.notSynchronized Bd.returns (hb hby d1_51) (by decide) (by decide) ⟨congrArg (fun z => some (Value.int z)) hv.symm, N0, e0⟩
                    · refine own_st (fun t k => XS.ifNo X0.here hx rfl (hb hby d1_32) rfl (own_gtF hc32_10).1 k) ?_
                      show own_Fin _ _ _ _ _ _ _ (s₁.setTop (mkF m 35 #[.val (.long q1), .second, .val (.long q1), .second, .val (.int (9 : Int32)), .val (.long (-1000000000 : Int64)), .second] []))
                      refine own_st (fun t k => XS.iinc X0.here hx rfl (hb hby d1_35) rfl (l' := #[.val (.long q1), .second, .val (.long q1), .second, .val (.int (10 : Int32)), .val (.long (-1000000000 : Int64)), .second]) rfl k) ?_
                      show own_Fin _ _ _ _ _ _ _ (s₁.setTop (mkF m 38 #[.val (.long q1), .second, .val (.long q1), .second, .val (.int (10 : Int32)), .val (.long (-1000000000 : Int64)), .second] []))
                      refine own_st (fun t k => XS.lload X0.here hx rfl (hb hby d1_38) rfl k) ?_
                      show own_Fin _ _ _ _ _ _ _ (s₁.setTop (mkF m 40 #[.val (.long q1), .second, .val (.long q1), .second, .val (.int (10 : Int32)), .val (.long (-1000000000 : Int64)), .second] [(.long (-1000000000 : Int64))]))
                      refine own_st (X0.ldc2Long hx hown (mvT hZ (hw _ (List.mem_of_getElem? (i := 25) rfl))) (g := (mkF m 40 #[.val (.long q1), .second, .val (.long q1), .second, .val (.int (10 : Int32)), .val (.long (-1000000000 : Int64)), .second] [(.long (-1000000000 : Int64))])) rfl (hb hby d1_40)) ?_
                      show own_Fin _ _ _ _ _ _ _ (s₁.setTop (mkF m 43 #[.val (.long q1), .second, .val (.long q1), .second, .val (.int (10 : Int32)), .val (.long (-1000000000 : Int64)), .second] [(.long (10 : Int64)), (.long (-1000000000 : Int64))]))
                      refine own_st (fun t k => XS.lmul X0.here hx rfl (hb hby d1_43) rfl k) ?_
                      show own_Fin _ _ _ _ _ _ _ (s₁.setTop (mkF m 44 #[.val (.long q1), .second, .val (.long q1), .second, .val (.int (10 : Int32)), .val (.long (-1000000000 : Int64)), .second] [(.long (-10000000000 : Int64))]))
                      refine own_st (fun t k => XS.lstore X0.here hx rfl (hb hby d1_44) rfl (l' := #[.val (.long q1), .second, .val (.long q1), .second, .val (.int (10 : Int32)), .val (.long (-10000000000 : Int64)), .second]) rfl k) ?_
                      show own_Fin _ _ _ _ _ _ _ (s₁.setTop (mkF m 46 #[.val (.long q1), .second, .val (.long q1), .second, .val (.int (10 : Int32)), .val (.long (-10000000000 : Int64)), .second] []))
                      refine own_st (fun t k => XS.goto X0.here hx rfl (pc0 := 46) (pc' := 21) rfl (hb hby d1_46) (by decide) (by decide) k) ?_
                      show own_Fin _ _ _ _ _ _ _ (s₁.setTop (mkF m 21 #[.val (.long q1), .second, .val (.long q1), .second, .val (.int (10 : Int32)), .val (.long (-10000000000 : Int64)), .second] []))
                      refine own_st (fun t k => XS.iload X0.here hx rfl (hb hby d1_21) rfl k) ?_
                      show own_Fin _ _ _ _ _ _ _ (s₁.setTop (mkF m 23 #[.val (.long q1), .second, .val (.long q1), .second, .val (.int (10 : Int32)), .val (.long (-10000000000 : Int64)), .second] [(.int (10 : Int32))]))
                      refine own_st (fun t k => XS.bipush X0.here hx rfl (hb hby d1_23) k) ?_
                      show own_Fin _ _ _ _ _ _ _ (s₁.setTop (mkF m 25 #[.val (.long q1), .second, .val (.long q1), .second, .val (.int (10 : Int32)), .val (.long (-10000000000 : Int64)), .second] [(.int (19 : Int32)), (.int (10 : Int32))]))
                      refine own_st (fun t k => XS.icmpNo X0.here hx rfl (hb hby d1_25) rfl (tlt (by decide : (10 : Int32) < (19 : Int32))).2.1 k) ?_
                      show own_Fin _ _ _ _ _ _ _ (s₁.setTop (mkF m 28 #[.val (.long q1), .second, .val (.long q1), .second, .val (.int (10 : Int32)), .val (.long (-10000000000 : Int64)), .second] []))
                      refine own_st (fun t k => XS.lloadN X0.here hx rfl (hb hby d1_28) rfl k) ?_
                      show own_Fin _ _ _ _ _ _ _ (s₁.setTop (mkF m 29 #[.val (.long q1), .second, .val (.long q1), .second, .val (.int (10 : Int32)), .val (.long (-10000000000 : Int64)), .second] [(.long q1)]))
                      refine own_st (fun t k => XS.lload X0.here hx rfl (hb hby d1_29) rfl k) ?_
                      show own_Fin _ _ _ _ _ _ _ (s₁.setTop (mkF m 31 #[.val (.long q1), .second, .val (.long q1), .second, .val (.int (10 : Int32)), .val (.long (-10000000000 : Int64)), .second] [(.long (-10000000000 : Int64)), (.long q1)]))
                      refine own_st (fun t k => XS.lcmp X0.here hx rfl (hb hby d1_31) rfl k) ?_
                      show own_Fin _ _ _ _ _ _ _ (s₁.setTop (mkF m 32 #[.val (.long q1), .second, .val (.long q1), .second, .val (.int (10 : Int32)), .val (.long (-10000000000 : Int64)), .second] [(.int (lcmpW q1 (-10000000000 : Int64)))]))
                      by_cases hc32_11 : (-10000000000 : Int64) < q1
                      · refine own_st (fun t k => XS.ifYes X0.here hx rfl (pc0 := 32) (pc' := 49) rfl (hb hby d1_32) rfl (own_gtT hc32_11).1 (by decide) (by decide) k) ?_
                        show own_Fin _ _ _ _ _ _ _ (s₁.setTop (mkF m 49 #[.val (.long q1), .second, .val (.long q1), .second, .val (.int (10 : Int32)), .val (.long (-10000000000 : Int64)), .second] []))
                        refine own_st (fun t k => XS.iload X0.here hx rfl (hb hby d1_49) rfl k) ?_
                        show own_Fin _ _ _ _ _ _ _ (s₁.setTop (mkF m 51 #[.val (.long q1), .second, .val (.long q1), .second, .val (.int (10 : Int32)), .val (.long (-10000000000 : Int64)), .second] [(.int (10 : Int32))]))
                        have hv : own_F1 q1 = (10 : Int32) := by unfold own_F1; rw [if_pos hc3_1, if_neg hc32_2, if_neg hc32_3, if_neg hc32_4, if_neg hc32_5, if_neg hc32_6, if_neg hc32_7, if_neg hc32_8, if_neg hc32_9, if_neg hc32_10, if_pos hc32_11]
                        exact own_retI X0 hx Bd.notSynchronized Bd.returns (hb hby d1_51) (by decide) (by decide) ⟨congrArg (fun z => some (Value.int z)) hv.symm, N0, e0⟩
                      · refine own_st (fun t k => XS.ifNo X0.here hx rfl (hb hby d1_32) rfl (own_gtF hc32_11).1 k) ?_
                        show own_Fin _ _ _ _ _ _ _ (s₁.setTop (mkF m 35 #[.val (.long q1), .second, .val (.long q1), .second, .val (.int (10 : Int32)), .val (.long (-10000000000 : Int64)), .second] []))
                        refine own_st (fun t k => XS.iinc X0.here hx rfl (hb hby d1_35) rfl (l' := #[.val (.long q1), .second, .val (.long q1), .second, .val (.int (11 : Int32)), .val (.long (-10000000000 : Int64)), .second]) rfl k) ?_
                        show own_Fin _ _ _ _ _ _ _ (s₁.setTop (mkF m 38 #[.val (.long q1), .second, .val (.long q1), .second, .val (.int (11 : Int32)), .val (.long (-10000000000 : Int64)), .second] []))
                        refine own_st (fun t k => XS.lload X0.here hx rfl (hb hby d1_38) rfl k) ?_
                        show own_Fin _ _ _ _ _ _ _ (s₁.setTop (mkF m 40 #[.val (.long q1), .second, .val (.long q1), .second, .val (.int (11 : Int32)), .val (.long (-10000000000 : Int64)), .second] [(.long (-10000000000 : Int64))]))
                        refine own_st (X0.ldc2Long hx hown (mvT hZ (hw _ (List.mem_of_getElem? (i := 25) rfl))) (g := (mkF m 40 #[.val (.long q1), .second, .val (.long q1), .second, .val (.int (11 : Int32)), .val (.long (-10000000000 : Int64)), .second] [(.long (-10000000000 : Int64))])) rfl (hb hby d1_40)) ?_
                        show own_Fin _ _ _ _ _ _ _ (s₁.setTop (mkF m 43 #[.val (.long q1), .second, .val (.long q1), .second, .val (.int (11 : Int32)), .val (.long (-10000000000 : Int64)), .second] [(.long (10 : Int64)), (.long (-10000000000 : Int64))]))
                        refine own_st (fun t k => XS.lmul X0.here hx rfl (hb hby d1_43) rfl k) ?_
                        show own_Fin _ _ _ _ _ _ _ (s₁.setTop (mkF m 44 #[.val (.long q1), .second, .val (.long q1), .second, .val (.int (11 : Int32)), .val (.long (-10000000000 : Int64)), .second] [(.long (-100000000000 : Int64))]))
                        refine own_st (fun t k => XS.lstore X0.here hx rfl (hb hby d1_44) rfl (l' := #[.val (.long q1), .second, .val (.long q1), .second, .val (.int (11 : Int32)), .val (.long (-100000000000 : Int64)), .second]) rfl k) ?_
                        show own_Fin _ _ _ _ _ _ _ (s₁.setTop (mkF m 46 #[.val (.long q1), .second, .val (.long q1), .second, .val (.int (11 : Int32)), .val (.long (-100000000000 : Int64)), .second] []))
                        refine own_st (fun t k => XS.goto X0.here hx rfl (pc0 := 46) (pc' := 21) rfl (hb hby d1_46) (by decide) (by decide) k) ?_
                        show own_Fin _ _ _ _ _ _ _ (s₁.setTop (mkF m 21 #[.val (.long q1), .second, .val (.long q1), .second, .val (.int (11 : Int32)), .val (.long (-100000000000 : Int64)), .second] []))
                        refine own_st (fun t k => XS.iload X0.here hx rfl (hb hby d1_21) rfl k) ?_
                        show own_Fin _ _ _ _ _ _ _ (s₁.setTop (mkF m 23 #[.val (.long q1), .second, .val (.long q1), .second, .val (.int (11 : Int32)), .val (.long (-100000000000 : Int64)), .second] [(.int (11 : Int32))]))
                        refine own_st (fun t k => XS.bipush X0.here hx rfl (hb hby d1_23) k) ?_
                        show own_Fin _ _ _ _ _ _ _ (s₁.setTop (mkF m 25 #[.val (.long q1), .second, .val (.long q1), .second, .val (.int (11 : Int32)), .val (.long (-100000000000 : Int64)), .second] [(.int (19 : Int32)), (.int (11 : Int32))]))
                        refine own_st (fun t k => XS.icmpNo X0.here hx rfl (hb hby d1_25) rfl (tlt (by decide : (11 : Int32) < (19 : Int32))).2.1 k) ?_
                        show own_Fin _ _ _ _ _ _ _ (s₁.setTop (mkF m 28 #[.val (.long q1), .second, .val (.long q1), .second, .val (.int (11 : Int32)), .val (.long (-100000000000 : Int64)), .second] []))
                        refine own_st (fun t k => XS.lloadN X0.here hx rfl (hb hby d1_28) rfl k) ?_
                        show own_Fin _ _ _ _ _ _ _ (s₁.setTop (mkF m 29 #[.val (.long q1), .second, .val (.long q1), .second, .val (.int (11 : Int32)), .val (.long (-100000000000 : Int64)), .second] [(.long q1)]))
                        refine own_st (fun t k => XS.lload X0.here hx rfl (hb hby d1_29) rfl k) ?_
                        show own_Fin _ _ _ _ _ _ _ (s₁.setTop (mkF m 31 #[.val (.long q1), .second, .val (.long q1), .second, .val (.int (11 : Int32)), .val (.long (-100000000000 : Int64)), .second] [(.long (-100000000000 : Int64)), (.long q1)]))
                        refine own_st (fun t k => XS.lcmp X0.here hx rfl (hb hby d1_31) rfl k) ?_
                        show own_Fin _ _ _ _ _ _ _ (s₁.setTop (mkF m 32 #[.val (.long q1), .second, .val (.long q1), .second, .val (.int (11 : Int32)), .val (.long (-100000000000 : Int64)), .second] [(.int (lcmpW q1 (-100000000000 : Int64)))]))
                        by_cases hc32_12 : (-100000000000 : Int64) < q1
                        · refine own_st (fun t k => XS.ifYes X0.here hx rfl (pc0 := 32) (pc' := 49) rfl (hb hby d1_32) rfl (own_gtT hc32_12).1 (by decide) (by decide) k) ?_
                          show own_Fin _ _ _ _ _ _ _ (s₁.setTop (mkF m 49 #[.val (.long q1), .second, .val (.long q1), .second, .val (.int (11 : Int32)), .val (.long (-100000000000 : Int64)), .second] []))
                          refine own_st (fun t k => XS.iload X0.here hx rfl (hb hby d1_49) rfl k) ?_
                          show own_Fin _ _ _ _ _ _ _ (s₁.setTop (mkF m 51 #[.val (.long q1), .second, .val (.long q1), .second, .val (.int (11 : Int32)), .val (.long (-100000000000 : Int64)), .second] [(.int (11 : Int32))]))
                          have hv : own_F1 q1 = (11 : Int32) := by unfold own_F1; rw [if_pos hc3_1, if_neg hc32_2, if_neg hc32_3, if_neg hc32_4, if_neg hc32_5, if_neg hc32_6, if_neg hc32_7, if_neg hc32_8, if_neg hc32_9, if_neg hc32_10, if_neg hc32_11, if_pos hc32_12]
                          exact own_retI X0 hx Bd.notSynchronized Bd.returns (hb hby d1_51) (by decide) (by decide) ⟨congrArg (fun z => some (Value.int z)) hv.symm, N0, e0⟩
                        · refine own_st (fun t k => XS.ifNo X0.here hx rfl (hb hby d1_32) rfl (own_gtF hc32_12).1 k) ?_
                          show own_Fin _ _ _ _ _ _ _ (s₁.setTop (mkF m 35 #[.val (.long q1), .second, .val (.long q1), .second, .val (.int (11 : Int32)), .val (.long (-100000000000 : Int64)), .second] []))
                          refine own_st (fun t k => XS.iinc X0.here hx rfl (hb hby d1_35) rfl (l' := #[.val (.long q1), .second, .val (.long q1), .second, .val (.int (12 : Int32)), .val (.long (-100000000000 : Int64)), .second]) rfl k) ?_
                          show own_Fin _ _ _ _ _ _ _ (s₁.setTop (mkF m 38 #[.val (.long q1), .second, .val (.long q1), .second, .val (.int (12 : Int32)), .val (.long (-100000000000 : Int64)), .second] []))
                          refine own_st (fun t k => XS.lload X0.here hx rfl (hb hby d1_38) rfl k) ?_
                          show own_Fin _ _ _ _ _ _ _ (s₁.setTop (mkF m 40 #[.val (.long q1), .second, .val (.long q1), .second, .val (.int (12 : Int32)), .val (.long (-100000000000 : Int64)), .second] [(.long (-100000000000 : Int64))]))
                          refine own_st (X0.ldc2Long hx hown (mvT hZ (hw _ (List.mem_of_getElem? (i := 25) rfl))) (g := (mkF m 40 #[.val (.long q1), .second, .val (.long q1), .second, .val (.int (12 : Int32)), .val (.long (-100000000000 : Int64)), .second] [(.long (-100000000000 : Int64))])) rfl (hb hby d1_40)) ?_
                          show own_Fin _ _ _ _ _ _ _ (s₁.setTop (mkF m 43 #[.val (.long q1), .second, .val (.long q1), .second, .val (.int (12 : Int32)), .val (.long (-100000000000 : Int64)), .second] [(.long (10 : Int64)), (.long (-100000000000 : Int64))]))
                          refine own_st (fun t k => XS.lmul X0.here hx rfl (hb hby d1_43) rfl k) ?_
                          show own_Fin _ _ _ _ _ _ _ (s₁.setTop (mkF m 44 #[.val (.long q1), .second, .val (.long q1), .second, .val (.int (12 : Int32)), .val (.long (-100000000000 : Int64)), .second] [(.long (-1000000000000 : Int64))]))
                          refine own_st (fun t k => XS.lstore X0.here hx rfl (hb hby d1_44) rfl (l' := #[.val (.long q1), .second, .val (.long q1), .second, .val (.int (12 : Int32)), .val (.long (-1000000000000 : Int64)), .second]) rfl k) ?_
                          show own_Fin _ _ _ _ _ _ _ (s₁.setTop (mkF m 46 #[.val (.long q1), .second, .val (.long q1), .second, .val (.int (12 : Int32)), .val (.long (-1000000000000 : Int64)), .second] []))
                          refine own_st (fun t k => XS.goto X0.here hx rfl (pc0 := 46) (pc' := 21) rfl (hb hby d1_46) (by decide) (by decide) k) ?_
                          show own_Fin _ _ _ _ _ _ _ (s₁.setTop (mkF m 21 #[.val (.long q1), .second, .val (.long q1), .second, .val (.int (12 : Int32)), .val (.long (-1000000000000 : Int64)), .second] []))
                          refine own_st (fun t k => XS.iload X0.here hx rfl (hb hby d1_21) rfl k) ?_
                          show own_Fin _ _ _ _ _ _ _ (s₁.setTop (mkF m 23 #[.val (.long q1), .second, .val (.long q1), .second, .val (.int (12 : Int32)), .val (.long (-1000000000000 : Int64)), .second] [(.int (12 : Int32))]))
                          refine own_st (fun t k => XS.bipush X0.here hx rfl (hb hby d1_23) k) ?_
                          show own_Fin _ _ _ _ _ _ _ (s₁.setTop (mkF m 25 #[.val (.long q1), .second, .val (.long q1), .second, .val (.int (12 : Int32)), .val (.long (-1000000000000 : Int64)), .second] [(.int (19 : Int32)), (.int (12 : Int32))]))
                          refine own_st (fun t k => XS.icmpNo X0.here hx rfl (hb hby d1_25) rfl (tlt (by decide : (12 : Int32) < (19 : Int32))).2.1 k) ?_
                          show own_Fin _ _ _ _ _ _ _ (s₁.setTop (mkF m 28 #[.val (.long q1), .second, .val (.long q1), .second, .val (.int (12 : Int32)), .val (.long (-1000000000000 : Int64)), .second] []))
                          refine own_st (fun t k => XS.lloadN X0.here hx rfl (hb hby d1_28) rfl k) ?_
                          show own_Fin _ _ _ _ _ _ _ (s₁.setTop (mkF m 29 #[.val (.long q1), .second, .val (.long q1), .second, .val (.int (12 : Int32)), .val (.long (-1000000000000 : Int64)), .second] [(.long q1)]))
                          refine own_st (fun t k => XS.lload X0.here hx rfl (hb hby d1_29) rfl k) ?_
                          show own_Fin _ _ _ _ _ _ _ (s₁.setTop (mkF m 31 #[.val (.long q1), .second, .val (.long q1), .second, .val (.int (12 : Int32)), .val (.long (-1000000000000 : Int64)), .second] [(.long (-1000000000000 : Int64)), (.long q1)]))
                          refine own_st (fun t k => XS.lcmp X0.here hx rfl (hb hby d1_31) rfl k) ?_
                          show own_Fin _ _ _ _ _ _ _ (s₁.setTop (mkF m 32 #[.val (.long q1), .second, .val (.long q1), .second, .val (.int (12 : Int32)), .val (.long (-1000000000000 : Int64)), .second] [(.int (lcmpW q1 (-1000000000000 : Int64)))]))
                          by_cases hc32_13 : (-1000000000000 : Int64) < q1
                          · refine own_st (fun t k => XS.ifYes X0.here hx rfl (pc0 := 32) (pc' := 49) rfl (hb hby d1_32) rfl (own_gtT hc32_13).1 (by decide) (by decide) k) ?_
                            show own_Fin _ _ _ _ _ _ _ (s₁.setTop (mkF m 49 #[.val (.long q1), .second, .val (.long q1), .second, .val (.int (12 : Int32)), .val (.long (-1000000000000 : Int64)), .second] []))
                            refine own_st (fun t k => XS.iload X0.here hx rfl (hb hby d1_49) rfl k) ?_
                            show own_Fin _ _ _ _ _ _ _ (s₁.setTop (mkF m 51 #[.val (.long q1), .second, .val (.long q1), .second, .val (.int (12 : Int32)), .val (.long (-1000000000000 : Int64)), .second] [(.int (12 : Int32))]))
                            have hv : own_F1 q1 = (12 : Int32) := by unfold own_F1; rw [if_pos hc3_1, if_neg hc32_2, if_neg hc32_3, if_neg hc32_4, if_neg hc32_5, if_neg hc32_6, if_neg hc32_7, if_neg hc32_8, if_neg hc32_9, if_neg hc32_10, if_neg hc32_11, if_neg hc32_12, if_pos hc32_13]
                            exact own_retI X0 hx Bd.notSynchronized Bd.returns (hb hby d1_51) (by decide) (by decide) ⟨congrArg (fun z => some (Value.int z)) hv.symm, N0, e0⟩
                          · refine own_st (fun t k => XS.ifNo X0.here hx rfl (hb hby d1_32) rfl (own_gtF hc32_13).1 k) ?_
                            show own_Fin _ _ _ _ _ _ _ (s₁.setTop (mkF m 35 #[.val (.long q1), .second, .val (.long q1), .second, .val (.int (12 : Int32)), .val (.long (-1000000000000 : Int64)), .second] []))
                            refine own_st (fun t k => XS.iinc X0.here hx rfl (hb hby d1_35) rfl (l' := #[.val (.long q1), .second, .val (.long q1), .second, .val (.int (13 : Int32)), .val (.long (-1000000000000 : Int64)), .second]) rfl k) ?_
                            show own_Fin _ _ _ _ _ _ _ (s₁.setTop (mkF m 38 #[.val (.long q1), .second, .val (.long q1), .second, .val (.int (13 : Int32)), .val (.long (-1000000000000 : Int64)), .second] []))
                            refine own_st (fun t k => XS.lload X0.here hx rfl (hb hby d1_38) rfl k) ?_
                            show own_Fin _ _ _ _ _ _ _ (s₁.setTop (mkF m 40 #[.val (.long q1), .second, .val (.long q1), .second, .val (.int (13 : Int32)), .val (.long (-1000000000000 : Int64)), .second] [(.long (-1000000000000 : Int64))]))
                            refine own_st (X0.ldc2Long hx hown (mvT hZ (hw _ (List.mem_of_getElem? (i := 25) rfl))) (g := (mkF m 40 #[.val (.long q1), .second, .val (.long q1), .second, .val (.int (13 : Int32)), .val (.long (-1000000000000 : Int64)), .second] [(.long (-1000000000000 : Int64))])) rfl (hb hby d1_40)) ?_
                            show own_Fin _ _ _ _ _ _ _ (s₁.setTop (mkF m 43 #[.val (.long q1), .second, .val (.long q1), .second, .val (.int (13 : Int32)), .val (.long (-1000000000000 : Int64)), .second] [(.long (10 : Int64)), (.long (-1000000000000 : Int64))]))
                            refine own_st (fun t k => XS.lmul X0.here hx rfl (hb hby d1_43) rfl k) ?_
                            show own_Fin _ _ _ _ _ _ _ (s₁.setTop (mkF m 44 #[.val (.long q1), .second, .val (.long q1), .second, .val (.int (13 : Int32)), .val (.long (-1000000000000 : Int64)), .second] [(.long (-10000000000000 : Int64))]))
                            refine own_st (fun t k => XS.lstore X0.here hx rfl (hb hby d1_44) rfl (l' := #[.val (.long q1), .second, .val (.long q1), .second, .val (.int (13 : Int32)), .val (.long (-10000000000000 : Int64)), .second]) rfl k) ?_
                            show own_Fin _ _ _ _ _ _ _ (s₁.setTop (mkF m 46 #[.val (.long q1), .second, .val (.long q1), .second, .val (.int (13 : Int32)), .val (.long (-10000000000000 : Int64)), .second] []))
                            refine own_st (fun t k => XS.goto X0.here hx rfl (pc0 := 46) (pc' := 21) rfl (hb hby d1_46) (by decide) (by decide) k) ?_
                            show own_Fin _ _ _ _ _ _ _ (s₁.setTop (mkF m 21 #[.val (.long q1), .second, .val (.long q1), .second, .val (.int (13 : Int32)), .val (.long (-10000000000000 : Int64)), .second] []))
                            refine own_st (fun t k => XS.iload X0.here hx rfl (hb hby d1_21) rfl k) ?_
                            show own_Fin _ _ _ _ _ _ _ (s₁.setTop (mkF m 23 #[.val (.long q1), .second, .val (.long q1), .second, .val (.int (13 : Int32)), .val (.long (-10000000000000 : Int64)), .second] [(.int (13 : Int32))]))
                            refine own_st (fun t k => XS.bipush X0.here hx rfl (hb hby d1_23) k) ?_
                            show own_Fin _ _ _ _ _ _ _ (s₁.setTop (mkF m 25 #[.val (.long q1), .second, .val (.long q1), .second, .val (.int (13 : Int32)), .val (.long (-10000000000000 : Int64)), .second] [(.int (19 : Int32)), (.int (13 : Int32))]))
                            refine own_st (fun t k => XS.icmpNo X0.here hx rfl (hb hby d1_25) rfl (tlt (by decide : (13 : Int32) < (19 : Int32))).2.1 k) ?_
                            show own_Fin _ _ _ _ _ _ _ (s₁.setTop (mkF m 28 #[.val (.long q1), .second, .val (.long q1), .second, .val (.int (13 : Int32)), .val (.long (-10000000000000 : Int64)), .second] []))
                            refine own_st (fun t k => XS.lloadN X0.here hx rfl (hb hby d1_28) rfl k) ?_
                            show own_Fin _ _ _ _ _ _ _ (s₁.setTop (mkF m 29 #[.val (.long q1), .second, .val (.long q1), .second, .val (.int (13 : Int32)), .val (.long (-10000000000000 : Int64)), .second] [(.long q1)]))
                            refine own_st (fun t k => XS.lload X0.here hx rfl (hb hby d1_29) rfl k) ?_
                            show own_Fin _ _ _ _ _ _ _ (s₁.setTop (mkF m 31 #[.val (.long q1), .second, .val (.long q1), .second, .val (.int (13 : Int32)), .val (.long (-10000000000000 : Int64)), .second] [(.long (-10000000000000 : Int64)), (.long q1)]))
                            refine own_st (fun t k => XS.lcmp X0.here hx rfl (hb hby d1_31) rfl k) ?_
                            show own_Fin _ _ _ _ _ _ _ (s₁.setTop (mkF m 32 #[.val (.long q1), .second, .val (.long q1), .second, .val (.int (13 : Int32)), .val (.long (-10000000000000 : Int64)), .second] [(.int (lcmpW q1 (-10000000000000 : Int64)))]))
                            by_cases hc32_14 : (-10000000000000 : Int64) < q1
                            · refine own_st (fun t k => XS.ifYes X0.here hx rfl (pc0 := 32) (pc' := 49) rfl (hb hby d1_32) rfl (own_gtT hc32_14).1 (by decide) (by decide) k) ?_
                              show own_Fin _ _ _ _ _ _ _ (s₁.setTop (mkF m 49 #[.val (.long q1), .second, .val (.long q1), .second, .val (.int (13 : Int32)), .val (.long (-10000000000000 : Int64)), .second] []))
                              refine own_st (fun t k => XS.iload X0.here hx rfl (hb hby d1_49) rfl k) ?_
                              show own_Fin _ _ _ _ _ _ _ (s₁.setTop (mkF m 51 #[.val (.long q1), .second, .val (.long q1), .second, .val (.int (13 : Int32)), .val (.long (-10000000000000 : Int64)), .second] [(.int (13 : Int32))]))
                              have hv : own_F1 q1 = (13 : Int32) := by unfold own_F1; rw [if_pos hc3_1, if_neg hc32_2, if_neg hc32_3, if_neg hc32_4, if_neg hc32_5, if_neg hc32_6, if_neg hc32_7, if_neg hc32_8, if_neg hc32_9, if_neg hc32_10, if_neg hc32_11, if_neg hc32_12, if_neg hc32_13, if_pos hc32_14]
                              exact own_retI X0 hx Bd.notSynchronized Bd.returns (hb hby d1_51) (by decide) (by decide) ⟨congrArg (fun z => some (Value.int z)) hv.symm, N0, e0⟩
                            · refine own_st (fun t k => XS.ifNo X0.here hx rfl (hb hby d1_32) rfl (own_gtF hc32_14).1 k) ?_
                              show own_Fin _ _ _ _ _ _ _ (s₁.setTop (mkF m 35 #[.val (.long q1), .second, .val (.long q1), .second, .val (.int (13 : Int32)), .val (.long (-10000000000000 : Int64)), .second] []))
                              refine own_st (fun t k => XS.iinc X0.here hx rfl (hb hby d1_35) rfl (l' := #[.val (.long q1), .second, .val (.long q1), .second, .val (.int (14 : Int32)), .val (.long (-10000000000000 : Int64)), .second]) rfl k) ?_
                              show own_Fin _ _ _ _ _ _ _ (s₁.setTop (mkF m 38 #[.val (.long q1), .second, .val (.long q1), .second, .val (.int (14 : Int32)), .val (.long (-10000000000000 : Int64)), .second] []))
                              refine own_st (fun t k => XS.lload X0.here hx rfl (hb hby d1_38) rfl k) ?_
                              show own_Fin _ _ _ _ _ _ _ (s₁.setTop (mkF m 40 #[.val (.long q1), .second, .val (.long q1), .second, .val (.int (14 : Int32)), .val (.long (-10000000000000 : Int64)), .second] [(.long (-10000000000000 : Int64))]))
                              refine own_st (X0.ldc2Long hx hown (mvT hZ (hw _ (List.mem_of_getElem? (i := 25) rfl))) (g := (mkF m 40 #[.val (.long q1), .second, .val (.long q1), .second, .val (.int (14 : Int32)), .val (.long (-10000000000000 : Int64)), .second] [(.long (-10000000000000 : Int64))])) rfl (hb hby d1_40)) ?_
                              show own_Fin _ _ _ _ _ _ _ (s₁.setTop (mkF m 43 #[.val (.long q1), .second, .val (.long q1), .second, .val (.int (14 : Int32)), .val (.long (-10000000000000 : Int64)), .second] [(.long (10 : Int64)), (.long (-10000000000000 : Int64))]))
                              refine own_st (fun t k => XS.lmul X0.here hx rfl (hb hby d1_43) rfl k) ?_
                              show own_Fin _ _ _ _ _ _ _ (s₁.setTop (mkF m 44 #[.val (.long q1), .second, .val (.long q1), .second, .val (.int (14 : Int32)), .val (.long (-10000000000000 : Int64)), .second] [(.long (-100000000000000 : Int64))]))
                              refine own_st (fun t k => XS.lstore X0.here hx rfl (hb hby d1_44) rfl (l' := #[.val (.long q1), .second, .val (.long q1), .second, .val (.int (14 : Int32)), .val (.long (-100000000000000 : Int64)), .second]) rfl k) ?_
                              show own_Fin _ _ _ _ _ _ _ (s₁.setTop (mkF m 46 #[.val (.long q1), .second, .val (.long q1), .second, .val (.int (14 : Int32)), .val (.long (-100000000000000 : Int64)), .second] []))
                              refine own_st (fun t k => XS.goto X0.here hx rfl (pc0 := 46) (pc' := 21) rfl (hb hby d1_46) (by decide) (by decide) k) ?_
                              show own_Fin _ _ _ _ _ _ _ (s₁.setTop (mkF m 21 #[.val (.long q1), .second, .val (.long q1), .second, .val (.int (14 : Int32)), .val (.long (-100000000000000 : Int64)), .second] []))
                              refine own_st (fun t k => XS.iload X0.here hx rfl (hb hby d1_21) rfl k) ?_
                              show own_Fin _ _ _ _ _ _ _ (s₁.setTop (mkF m 23 #[.val (.long q1), .second, .val (.long q1), .second, .val (.int (14 : Int32)), .val (.long (-100000000000000 : Int64)), .second] [(.int (14 : Int32))]))
                              refine own_st (fun t k => XS.bipush X0.here hx rfl (hb hby d1_23) k) ?_
                              show own_Fin _ _ _ _ _ _ _ (s₁.setTop (mkF m 25 #[.val (.long q1), .second, .val (.long q1), .second, .val (.int (14 : Int32)), .val (.long (-100000000000000 : Int64)), .second] [(.int (19 : Int32)), (.int (14 : Int32))]))
                              refine own_st (fun t k => XS.icmpNo X0.here hx rfl (hb hby d1_25) rfl (tlt (by decide : (14 : Int32) < (19 : Int32))).2.1 k) ?_
                              show own_Fin _ _ _ _ _ _ _ (s₁.setTop (mkF m 28 #[.val (.long q1), .second, .val (.long q1), .second, .val (.int (14 : Int32)), .val (.long (-100000000000000 : Int64)), .second] []))
                              refine own_st (fun t k => XS.lloadN X0.here hx rfl (hb hby d1_28) rfl k) ?_
                              show own_Fin _ _ _ _ _ _ _ (s₁.setTop (mkF m 29 #[.val (.long q1), .second, .val (.long q1), .second, .val (.int (14 : Int32)), .val (.long (-100000000000000 : Int64)), .second] [(.long q1)]))
                              refine own_st (fun t k => XS.lload X0.here hx rfl (hb hby d1_29) rfl k) ?_
                              show own_Fin _ _ _ _ _ _ _ (s₁.setTop (mkF m 31 #[.val (.long q1), .second, .val (.long q1), .second, .val (.int (14 : Int32)), .val (.long (-100000000000000 : Int64)), .second] [(.long (-100000000000000 : Int64)), (.long q1)]))
                              refine own_st (fun t k => XS.lcmp X0.here hx rfl (hb hby d1_31) rfl k) ?_
                              show own_Fin _ _ _ _ _ _ _ (s₁.setTop (mkF m 32 #[.val (.long q1), .second, .val (.long q1), .second, .val (.int (14 : Int32)), .val (.long (-100000000000000 : Int64)), .second] [(.int (lcmpW q1 (-100000000000000 : Int64)))]))
                              by_cases hc32_15 : (-100000000000000 : Int64) < q1
                              · refine own_st (fun t k => XS.ifYes X0.here hx rfl (pc0 := 32) (pc' := 49) rfl (hb hby d1_32) rfl (own_gtT hc32_15).1 (by decide) (by decide) k) ?_
                                show own_Fin _ _ _ _ _ _ _ (s₁.setTop (mkF m 49 #[.val (.long q1), .second, .val (.long q1), .second, .val (.int (14 : Int32)), .val (.long (-100000000000000 : Int64)), .second] []))
                                refine own_st (fun t k => XS.iload X0.here hx rfl (hb hby d1_49) rfl k) ?_
                                show own_Fin _ _ _ _ _ _ _ (s₁.setTop (mkF m 51 #[.val (.long q1), .second, .val (.long q1), .second, .val (.int (14 : Int32)), .val (.long (-100000000000000 : Int64)), .second] [(.int (14 : Int32))]))
                                have hv : own_F1 q1 = (14 : Int32) := by unfold own_F1; rw [if_pos hc3_1, if_neg hc32_2, if_neg hc32_3, if_neg hc32_4, if_neg hc32_5, if_neg hc32_6, if_neg hc32_7, if_neg hc32_8, if_neg hc32_9, if_neg hc32_10, if_neg hc32_11, if_neg hc32_12, if_neg hc32_13, if_neg hc32_14, if_pos hc32_15]
                                exact own_retI X0 hx Bd.notSynchronized Bd.returns (hb hby d1_51) (by decide) (by decide) ⟨congrArg (fun z => some (Value.int z)) hv.symm, N0, e0⟩
                              · refine own_st (fun t k => XS.ifNo X0.here hx rfl (hb hby d1_32) rfl (own_gtF hc32_15).1 k) ?_
                                show own_Fin _ _ _ _ _ _ _ (s₁.setTop (mkF m 35 #[.val (.long q1), .second, .val (.long q1), .second, .val (.int (14 : Int32)), .val (.long (-100000000000000 : Int64)), .second] []))
                                refine own_st (fun t k => XS.iinc X0.here hx rfl (hb hby d1_35) rfl (l' := #[.val (.long q1), .second, .val (.long q1), .second, .val (.int (15 : Int32)), .val (.long (-100000000000000 : Int64)), .second]) rfl k) ?_
                                show own_Fin _ _ _ _ _ _ _ (s₁.setTop (mkF m 38 #[.val (.long q1), .second, .val (.long q1), .second, .val (.int (15 : Int32)), .val (.long (-100000000000000 : Int64)), .second] []))
                                refine own_st (fun t k => XS.lload X0.here hx rfl (hb hby d1_38) rfl k) ?_
                                show own_Fin _ _ _ _ _ _ _ (s₁.setTop (mkF m 40 #[.val (.long q1), .second, .val (.long q1), .second, .val (.int (15 : Int32)), .val (.long (-100000000000000 : Int64)), .second] [(.long (-100000000000000 : Int64))]))
                                refine own_st (X0.ldc2Long hx hown (mvT hZ (hw _ (List.mem_of_getElem? (i := 25) rfl))) (g := (mkF m 40 #[.val (.long q1), .second, .val (.long q1), .second, .val (.int (15 : Int32)), .val (.long (-100000000000000 : Int64)), .second] [(.long (-100000000000000 : Int64))])) rfl (hb hby d1_40)) ?_
                                show own_Fin _ _ _ _ _ _ _ (s₁.setTop (mkF m 43 #[.val (.long q1), .second, .val (.long q1), .second, .val (.int (15 : Int32)), .val (.long (-100000000000000 : Int64)), .second] [(.long (10 : Int64)), (.long (-100000000000000 : Int64))]))
                                refine own_st (fun t k => XS.lmul X0.here hx rfl (hb hby d1_43) rfl k) ?_
                                show own_Fin _ _ _ _ _ _ _ (s₁.setTop (mkF m 44 #[.val (.long q1), .second, .val (.long q1), .second, .val (.int (15 : Int32)), .val (.long (-100000000000000 : Int64)), .second] [(.long (-1000000000000000 : Int64))]))
                                refine own_st (fun t k => XS.lstore X0.here hx rfl (hb hby d1_44) rfl (l' := #[.val (.long q1), .second, .val (.long q1), .second, .val (.int (15 : Int32)), .val (.long (-1000000000000000 : Int64)), .second]) rfl k) ?_
                                show own_Fin _ _ _ _ _ _ _ (s₁.setTop (mkF m 46 #[.val (.long q1), .second, .val (.long q1), .second, .val (.int (15 : Int32)), .val (.long (-1000000000000000 : Int64)), .second] []))
                                refine own_st (fun t k => XS.goto X0.here hx rfl (pc0 := 46) (pc' := 21) rfl (hb hby d1_46) (by decide) (by decide) k) ?_
                                show own_Fin _ _ _ _ _ _ _ (s₁.setTop (mkF m 21 #[.val (.long q1), .second, .val (.long q1), .second, .val (.int (15 : Int32)), .val (.long (-1000000000000000 : Int64)), .second] []))
                                refine own_st (fun t k => XS.iload X0.here hx rfl (hb hby d1_21) rfl k) ?_
                                show own_Fin _ _ _ _ _ _ _ (s₁.setTop (mkF m 23 #[.val (.long q1), .second, .val (.long q1), .second, .val (.int (15 : Int32)), .val (.long (-1000000000000000 : Int64)), .second] [(.int (15 : Int32))]))
                                refine own_st (fun t k => XS.bipush X0.here hx rfl (hb hby d1_23) k) ?_
                                show own_Fin _ _ _ _ _ _ _ (s₁.setTop (mkF m 25 #[.val (.long q1), .second, .val (.long q1), .second, .val (.int (15 : Int32)), .val (.long (-1000000000000000 : Int64)), .second] [(.int (19 : Int32)), (.int (15 : Int32))]))
                                refine own_st (fun t k => XS.icmpNo X0.here hx rfl (hb hby d1_25) rfl (tlt (by decide : (15 : Int32) < (19 : Int32))).2.1 k) ?_
                                show own_Fin _ _ _ _ _ _ _ (s₁.setTop (mkF m 28 #[.val (.long q1), .second, .val (.long q1), .second, .val (.int (15 : Int32)), .val (.long (-1000000000000000 : Int64)), .second] []))
                                refine own_st (fun t k => XS.lloadN X0.here hx rfl (hb hby d1_28) rfl k) ?_
                                show own_Fin _ _ _ _ _ _ _ (s₁.setTop (mkF m 29 #[.val (.long q1), .second, .val (.long q1), .second, .val (.int (15 : Int32)), .val (.long (-1000000000000000 : Int64)), .second] [(.long q1)]))
                                refine own_st (fun t k => XS.lload X0.here hx rfl (hb hby d1_29) rfl k) ?_
                                show own_Fin _ _ _ _ _ _ _ (s₁.setTop (mkF m 31 #[.val (.long q1), .second, .val (.long q1), .second, .val (.int (15 : Int32)), .val (.long (-1000000000000000 : Int64)), .second] [(.long (-1000000000000000 : Int64)), (.long q1)]))
                                refine own_st (fun t k => XS.lcmp X0.here hx rfl (hb hby d1_31) rfl k) ?_
                                show own_Fin _ _ _ _ _ _ _ (s₁.setTop (mkF m 32 #[.val (.long q1), .second, .val (.long q1), .second, .val (.int (15 : Int32)), .val (.long (-1000000000000000 : Int64)), .second] [(.int (lcmpW q1 (-1000000000000000 : Int64)))]))
                                by_cases hc32_16 : (-1000000000000000 : Int64) < q1
                                · refine own_st (fun t k => XS.ifYes X0.here hx rfl (pc0 := 32) (pc' := 49) rfl (hb hby d1_32) rfl (own_gtT hc32_16).1 (by decide) (by decide) k) ?_
                                  show own_Fin _ _ _ _ _ _ _ (s₁.setTop (mkF m 49 #[.val (.long q1), .second, .val (.long q1), .second, .val (.int (15 : Int32)), .val (.long (-1000000000000000 : Int64)), .second] []))
                                  refine own_st (fun t k => XS.iload X0.here hx rfl (hb hby d1_49) rfl k) ?_
                                  show own_Fin _ _ _ _ _ _ _ (s₁.setTop (mkF m 51 #[.val (.long q1), .second, .val (.long q1), .second, .val (.int (15 : Int32)), .val (.long (-1000000000000000 : Int64)), .second] [(.int (15 : Int32))]))
                                  have hv : own_F1 q1 = (15 : Int32) := by unfold own_F1; rw [if_pos hc3_1, if_neg hc32_2, if_neg hc32_3, if_neg hc32_4, if_neg hc32_5, if_neg hc32_6, if_neg hc32_7, if_neg hc32_8, if_neg hc32_9, if_neg hc32_10, if_neg hc32_11, if_neg hc32_12, if_neg hc32_13, if_neg hc32_14, if_neg hc32_15, if_pos hc32_16]
                                  exact own_retI X0 hx Bd.notSynchronized Bd.returns (hb hby d1_51) (by decide) (by decide) ⟨congrArg (fun z => some (Value.int z)) hv.symm, N0, e0⟩
                                · refine own_st (fun t k => XS.ifNo X0.here hx rfl (hb hby d1_32) rfl (own_gtF hc32_16).1 k) ?_
                                  show own_Fin _ _ _ _ _ _ _ (s₁.setTop (mkF m 35 #[.val (.long q1), .second, .val (.long q1), .second, .val (.int (15 : Int32)), .val (.long (-1000000000000000 : Int64)), .second] []))
                                  refine own_st (fun t k => XS.iinc X0.here hx rfl (hb hby d1_35) rfl (l' := #[.val (.long q1), .second, .val (.long q1), .second, .val (.int (16 : Int32)), .val (.long (-1000000000000000 : Int64)), .second]) rfl k) ?_
                                  show own_Fin _ _ _ _ _ _ _ (s₁.setTop (mkF m 38 #[.val (.long q1), .second, .val (.long q1), .second, .val (.int (16 : Int32)), .val (.long (-1000000000000000 : Int64)), .second] []))
                                  refine own_st (fun t k => XS.lload X0.here hx rfl (hb hby d1_38) rfl k) ?_
                                  show own_Fin _ _ _ _ _ _ _ (s₁.setTop (mkF m 40 #[.val (.long q1), .second, .val (.long q1), .second, .val (.int (16 : Int32)), .val (.long (-1000000000000000 : Int64)), .second] [(.long (-1000000000000000 : Int64))]))
                                  refine own_st (X0.ldc2Long hx hown (mvT hZ (hw _ (List.mem_of_getElem? (i := 25) rfl))) (g := (mkF m 40 #[.val (.long q1), .second, .val (.long q1), .second, .val (.int (16 : Int32)), .val (.long (-1000000000000000 : Int64)), .second] [(.long (-1000000000000000 : Int64))])) rfl (hb hby d1_40)) ?_
                                  show own_Fin _ _ _ _ _ _ _ (s₁.setTop (mkF m 43 #[.val (.long q1), .second, .val (.long q1), .second, .val (.int (16 : Int32)), .val (.long (-1000000000000000 : Int64)), .second] [(.long (10 : Int64)), (.long (-1000000000000000 : Int64))]))
                                  refine own_st (fun t k => XS.lmul X0.here hx rfl (hb hby d1_43) rfl k) ?_
                                  show own_Fin _ _ _ _ _ _ _ (s₁.setTop (mkF m 44 #[.val (.long q1), .second, .val (.long q1), .second, .val (.int (16 : Int32)), .val (.long (-1000000000000000 : Int64)), .second] [(.long (-10000000000000000 : Int64))]))
                                  refine own_st (fun t k => XS.lstore X0.here hx rfl (hb hby d1_44) rfl (l' := #[.val (.long q1), .second, .val (.long q1), .second, .val (.int (16 : Int32)), .val (.long (-10000000000000000 : Int64)), .second]) rfl k) ?_
                                  show own_Fin _ _ _ _ _ _ _ (s₁.setTop (mkF m 46 #[.val (.long q1), .second, .val (.long q1), .second, .val (.int (16 : Int32)), .val (.long (-10000000000000000 : Int64)), .second] []))
                                  refine own_st (fun t k => XS.goto X0.here hx rfl (pc0 := 46) (pc' := 21) rfl (hb hby d1_46) (by decide) (by decide) k) ?_
                                  show own_Fin _ _ _ _ _ _ _ (s₁.setTop (mkF m 21 #[.val (.long q1), .second, .val (.long q1), .second, .val (.int (16 : Int32)), .val (.long (-10000000000000000 : Int64)), .second] []))
                                  refine own_st (fun t k => XS.iload X0.here hx rfl (hb hby d1_21) rfl k) ?_
                                  show own_Fin _ _ _ _ _ _ _ (s₁.setTop (mkF m 23 #[.val (.long q1), .second, .val (.long q1), .second, .val (.int (16 : Int32)), .val (.long (-10000000000000000 : Int64)), .second] [(.int (16 : Int32))]))
                                  refine own_st (fun t k => XS.bipush X0.here hx rfl (hb hby d1_23) k) ?_
                                  show own_Fin _ _ _ _ _ _ _ (s₁.setTop (mkF m 25 #[.val (.long q1), .second, .val (.long q1), .second, .val (.int (16 : Int32)), .val (.long (-10000000000000000 : Int64)), .second] [(.int (19 : Int32)), (.int (16 : Int32))]))
                                  refine own_st (fun t k => XS.icmpNo X0.here hx rfl (hb hby d1_25) rfl (tlt (by decide : (16 : Int32) < (19 : Int32))).2.1 k) ?_
                                  show own_Fin _ _ _ _ _ _ _ (s₁.setTop (mkF m 28 #[.val (.long q1), .second, .val (.long q1), .second, .val (.int (16 : Int32)), .val (.long (-10000000000000000 : Int64)), .second] []))
                                  refine own_st (fun t k => XS.lloadN X0.here hx rfl (hb hby d1_28) rfl k) ?_
                                  show own_Fin _ _ _ _ _ _ _ (s₁.setTop (mkF m 29 #[.val (.long q1), .second, .val (.long q1), .second, .val (.int (16 : Int32)), .val (.long (-10000000000000000 : Int64)), .second] [(.long q1)]))
                                  refine own_st (fun t k => XS.lload X0.here hx rfl (hb hby d1_29) rfl k) ?_
                                  show own_Fin _ _ _ _ _ _ _ (s₁.setTop (mkF m 31 #[.val (.long q1), .second, .val (.long q1), .second, .val (.int (16 : Int32)), .val (.long (-10000000000000000 : Int64)), .second] [(.long (-10000000000000000 : Int64)), (.long q1)]))
                                  refine own_st (fun t k => XS.lcmp X0.here hx rfl (hb hby d1_31) rfl k) ?_
                                  show own_Fin _ _ _ _ _ _ _ (s₁.setTop (mkF m 32 #[.val (.long q1), .second, .val (.long q1), .second, .val (.int (16 : Int32)), .val (.long (-10000000000000000 : Int64)), .second] [(.int (lcmpW q1 (-10000000000000000 : Int64)))]))
                                  by_cases hc32_17 : (-10000000000000000 : Int64) < q1
                                  · refine own_st (fun t k => XS.ifYes X0.here hx rfl (pc0 := 32) (pc' := 49) rfl (hb hby d1_32) rfl (own_gtT hc32_17).1 (by decide) (by decide) k) ?_
                                    show own_Fin _ _ _ _ _ _ _ (s₁.setTop (mkF m 49 #[.val (.long q1), .second, .val (.long q1), .second, .val (.int (16 : Int32)), .val (.long (-10000000000000000 : Int64)), .second] []))
                                    refine own_st (fun t k => XS.iload X0.here hx rfl (hb hby d1_49) rfl k) ?_
                                    show own_Fin _ _ _ _ _ _ _ (s₁.setTop (mkF m 51 #[.val (.long q1), .second, .val (.long q1), .second, .val (.int (16 : Int32)), .val (.long (-10000000000000000 : Int64)), .second] [(.int (16 : Int32))]))
                                    have hv : own_F1 q1 = (16 : Int32) := by unfold own_F1; rw [if_pos hc3_1, if_neg hc32_2, if_neg hc32_3, if_neg hc32_4, if_neg hc32_5, if_neg hc32_6, if_neg hc32_7, if_neg hc32_8, if_neg hc32_9, if_neg hc32_10, if_neg hc32_11, if_neg hc32_12, if_neg hc32_13, if_neg hc32_14, if_neg hc32_15, if_neg hc32_16, if_pos hc32_17]
                                    exact own_retI X0 hx Bd.notSynchronized Bd.returns (hb hby d1_51) (by decide) (by decide) ⟨congrArg (fun z => some (Value.int z)) hv.symm, N0, e0⟩
                                  · refine own_st (fun t k => XS.ifNo X0.here hx rfl (hb hby d1_32) rfl (own_gtF hc32_17).1 k) ?_
                                    show own_Fin _ _ _ _ _ _ _ (s₁.setTop (mkF m 35 #[.val (.long q1), .second, .val (.long q1), .second, .val (.int (16 : Int32)), .val (.long (-10000000000000000 : Int64)), .second] []))
                                    refine own_st (fun t k => XS.iinc X0.here hx rfl (hb hby d1_35) rfl (l' := #[.val (.long q1), .second, .val (.long q1), .second, .val (.int (17 : Int32)), .val (.long (-10000000000000000 : Int64)), .second]) rfl k) ?_
                                    show own_Fin _ _ _ _ _ _ _ (s₁.setTop (mkF m 38 #[.val (.long q1), .second, .val (.long q1), .second, .val (.int (17 : Int32)), .val (.long (-10000000000000000 : Int64)), .second] []))
                                    refine own_st (fun t k => XS.lload X0.here hx rfl (hb hby d1_38) rfl k) ?_
                                    show own_Fin _ _ _ _ _ _ _ (s₁.setTop (mkF m 40 #[.val (.long q1), .second, .val (.long q1), .second, .val (.int (17 : Int32)), .val (.long (-10000000000000000 : Int64)), .second] [(.long (-10000000000000000 : Int64))]))
                                    refine own_st (X0.ldc2Long hx hown (mvT hZ (hw _ (List.mem_of_getElem? (i := 25) rfl))) (g := (mkF m 40 #[.val (.long q1), .second, .val (.long q1), .second, .val (.int (17 : Int32)), .val (.long (-10000000000000000 : Int64)), .second] [(.long (-10000000000000000 : Int64))])) rfl (hb hby d1_40)) ?_
                                    show own_Fin _ _ _ _ _ _ _ (s₁.setTop (mkF m 43 #[.val (.long q1), .second, .val (.long q1), .second, .val (.int (17 : Int32)), .val (.long (-10000000000000000 : Int64)), .second] [(.long (10 : Int64)), (.long (-10000000000000000 : Int64))]))
                                    refine own_st (fun t k => XS.lmul X0.here hx rfl (hb hby d1_43) rfl k) ?_
                                    show own_Fin _ _ _ _ _ _ _ (s₁.setTop (mkF m 44 #[.val (.long q1), .second, .val (.long q1), .second, .val (.int (17 : Int32)), .val (.long (-10000000000000000 : Int64)), .second] [(.long (-100000000000000000 : Int64))]))
                                    refine own_st (fun t k => XS.lstore X0.here hx rfl (hb hby d1_44) rfl (l' := #[.val (.long q1), .second, .val (.long q1), .second, .val (.int (17 : Int32)), .val (.long (-100000000000000000 : Int64)), .second]) rfl k) ?_
                                    show own_Fin _ _ _ _ _ _ _ (s₁.setTop (mkF m 46 #[.val (.long q1), .second, .val (.long q1), .second, .val (.int (17 : Int32)), .val (.long (-100000000000000000 : Int64)), .second] []))
                                    refine own_st (fun t k => XS.goto X0.here hx rfl (pc0 := 46) (pc' := 21) rfl (hb hby d1_46) (by decide) (by decide) k) ?_
                                    show own_Fin _ _ _ _ _ _ _ (s₁.setTop (mkF m 21 #[.val (.long q1), .second, .val (.long q1), .second, .val (.int (17 : Int32)), .val (.long (-100000000000000000 : Int64)), .second] []))
                                    refine own_st (fun t k => XS.iload X0.here hx rfl (hb hby d1_21) rfl k) ?_
                                    show own_Fin _ _ _ _ _ _ _ (s₁.setTop (mkF m 23 #[.val (.long q1), .second, .val (.long q1), .second, .val (.int (17 : Int32)), .val (.long (-100000000000000000 : Int64)), .second] [(.int (17 : Int32))]))
                                    refine own_st (fun t k => XS.bipush X0.here hx rfl (hb hby d1_23) k) ?_
                                    show own_Fin _ _ _ _ _ _ _ (s₁.setTop (mkF m 25 #[.val (.long q1), .second, .val (.long q1), .second, .val (.int (17 : Int32)), .val (.long (-100000000000000000 : Int64)), .second] [(.int (19 : Int32)), (.int (17 : Int32))]))
                                    refine own_st (fun t k => XS.icmpNo X0.here hx rfl (hb hby d1_25) rfl (tlt (by decide : (17 : Int32) < (19 : Int32))).2.1 k) ?_
                                    show own_Fin _ _ _ _ _ _ _ (s₁.setTop (mkF m 28 #[.val (.long q1), .second, .val (.long q1), .second, .val (.int (17 : Int32)), .val (.long (-100000000000000000 : Int64)), .second] []))
                                    refine own_st (fun t k => XS.lloadN X0.here hx rfl (hb hby d1_28) rfl k) ?_
                                    show own_Fin _ _ _ _ _ _ _ (s₁.setTop (mkF m 29 #[.val (.long q1), .second, .val (.long q1), .second, .val (.int (17 : Int32)), .val (.long (-100000000000000000 : Int64)), .second] [(.long q1)]))
                                    refine own_st (fun t k => XS.lload X0.here hx rfl (hb hby d1_29) rfl k) ?_
                                    show own_Fin _ _ _ _ _ _ _ (s₁.setTop (mkF m 31 #[.val (.long q1), .second, .val (.long q1), .second, .val (.int (17 : Int32)), .val (.long (-100000000000000000 : Int64)), .second] [(.long (-100000000000000000 : Int64)), (.long q1)]))
                                    refine own_st (fun t k => XS.lcmp X0.here hx rfl (hb hby d1_31) rfl k) ?_
                                    show own_Fin _ _ _ _ _ _ _ (s₁.setTop (mkF m 32 #[.val (.long q1), .second, .val (.long q1), .second, .val (.int (17 : Int32)), .val (.long (-100000000000000000 : Int64)), .second] [(.int (lcmpW q1 (-100000000000000000 : Int64)))]))
                                    by_cases hc32_18 : (-100000000000000000 : Int64) < q1
                                    · refine own_st (fun t k => XS.ifYes X0.here hx rfl (pc0 := 32) (pc' := 49) rfl (hb hby d1_32) rfl (own_gtT hc32_18).1 (by decide) (by decide) k) ?_
                                      show own_Fin _ _ _ _ _ _ _ (s₁.setTop (mkF m 49 #[.val (.long q1), .second, .val (.long q1), .second, .val (.int (17 : Int32)), .val (.long (-100000000000000000 : Int64)), .second] []))
                                      refine own_st (fun t k => XS.iload X0.here hx rfl (hb hby d1_49) rfl k) ?_
                                      show own_Fin _ _ _ _ _ _ _ (s₁.setTop (mkF m 51 #[.val (.long q1), .second, .val (.long q1), .second, .val (.int (17 : Int32)), .val (.long (-100000000000000000 : Int64)), .second] [(.int (17 : Int32))]))
                                      have hv : own_F1 q1 = (17 : Int32) := by unfold own_F1; rw [if_pos hc3_1, if_neg hc32_2, if_neg hc32_3, if_neg hc32_4, if_neg hc32_5, if_neg hc32_6, if_neg hc32_7, if_neg hc32_8, if_neg hc32_9, if_neg hc32_10, if_neg hc32_11, if_neg hc32_12, if_neg hc32_13, if_neg hc32_14, if_neg hc32_15, if_neg hc32_16, if_neg hc32_17, if_pos hc32_18]
                                      exact own_retI X0 hx Bd.notSynchronized Bd.returns (hb hby d1_51) (by decide) (by decide) ⟨congrArg (fun z => some (Value.int z)) hv.symm, N0, e0⟩
                                    · refine own_st (fun t k => XS.ifNo X0.here hx rfl (hb hby d1_32) rfl (own_gtF hc32_18).1 k) ?_
                                      show own_Fin _ _ _ _ _ _ _ (s₁.setTop (mkF m 35 #[.val (.long q1), .second, .val (.long q1), .second, .val (.int (17 : Int32)), .val (.long (-100000000000000000 : Int64)), .second] []))
                                      refine own_st (fun t k => XS.iinc X0.here hx rfl (hb hby d1_35) rfl (l' := #[.val (.long q1), .second, .val (.long q1), .second, .val (.int (18 : Int32)), .val (.long (-100000000000000000 : Int64)), .second]) rfl k) ?_
                                      show own_Fin _ _ _ _ _ _ _ (s₁.setTop (mkF m 38 #[.val (.long q1), .second, .val (.long q1), .second, .val (.int (18 : Int32)), .val (.long (-100000000000000000 : Int64)), .second] []))
                                      refine own_st (fun t k => XS.lload X0.here hx rfl (hb hby d1_38) rfl k) ?_
                                      show own_Fin _ _ _ _ _ _ _ (s₁.setTop (mkF m 40 #[.val (.long q1), .second, .val (.long q1), .second, .val (.int (18 : Int32)), .val (.long (-100000000000000000 : Int64)), .second] [(.long (-100000000000000000 : Int64))]))
                                      refine own_st (X0.ldc2Long hx hown (mvT hZ (hw _ (List.mem_of_getElem? (i := 25) rfl))) (g := (mkF m 40 #[.val (.long q1), .second, .val (.long q1), .second, .val (.int (18 : Int32)), .val (.long (-100000000000000000 : Int64)), .second] [(.long (-100000000000000000 : Int64))])) rfl (hb hby d1_40)) ?_
                                      show own_Fin _ _ _ _ _ _ _ (s₁.setTop (mkF m 43 #[.val (.long q1), .second, .val (.long q1), .second, .val (.int (18 : Int32)), .val (.long (-100000000000000000 : Int64)), .second] [(.long (10 : Int64)), (.long (-100000000000000000 : Int64))]))
                                      refine own_st (fun t k => XS.lmul X0.here hx rfl (hb hby d1_43) rfl k) ?_
                                      show own_Fin _ _ _ _ _ _ _ (s₁.setTop (mkF m 44 #[.val (.long q1), .second, .val (.long q1), .second, .val (.int (18 : Int32)), .val (.long (-100000000000000000 : Int64)), .second] [(.long (-1000000000000000000 : Int64))]))
                                      refine own_st (fun t k => XS.lstore X0.here hx rfl (hb hby d1_44) rfl (l' := #[.val (.long q1), .second, .val (.long q1), .second, .val (.int (18 : Int32)), .val (.long (-1000000000000000000 : Int64)), .second]) rfl k) ?_
                                      show own_Fin _ _ _ _ _ _ _ (s₁.setTop (mkF m 46 #[.val (.long q1), .second, .val (.long q1), .second, .val (.int (18 : Int32)), .val (.long (-1000000000000000000 : Int64)), .second] []))
                                      refine own_st (fun t k => XS.goto X0.here hx rfl (pc0 := 46) (pc' := 21) rfl (hb hby d1_46) (by decide) (by decide) k) ?_
                                      show own_Fin _ _ _ _ _ _ _ (s₁.setTop (mkF m 21 #[.val (.long q1), .second, .val (.long q1), .second, .val (.int (18 : Int32)), .val (.long (-1000000000000000000 : Int64)), .second] []))
                                      refine own_st (fun t k => XS.iload X0.here hx rfl (hb hby d1_21) rfl k) ?_
                                      show own_Fin _ _ _ _ _ _ _ (s₁.setTop (mkF m 23 #[.val (.long q1), .second, .val (.long q1), .second, .val (.int (18 : Int32)), .val (.long (-1000000000000000000 : Int64)), .second] [(.int (18 : Int32))]))
                                      refine own_st (fun t k => XS.bipush X0.here hx rfl (hb hby d1_23) k) ?_
                                      show own_Fin _ _ _ _ _ _ _ (s₁.setTop (mkF m 25 #[.val (.long q1), .second, .val (.long q1), .second, .val (.int (18 : Int32)), .val (.long (-1000000000000000000 : Int64)), .second] [(.int (19 : Int32)), (.int (18 : Int32))]))
                                      refine own_st (fun t k => XS.icmpNo X0.here hx rfl (hb hby d1_25) rfl (tlt (by decide : (18 : Int32) < (19 : Int32))).2.1 k) ?_
                                      show own_Fin _ _ _ _ _ _ _ (s₁.setTop (mkF m 28 #[.val (.long q1), .second, .val (.long q1), .second, .val (.int (18 : Int32)), .val (.long (-1000000000000000000 : Int64)), .second] []))
                                      refine own_st (fun t k => XS.lloadN X0.here hx rfl (hb hby d1_28) rfl k) ?_
                                      show own_Fin _ _ _ _ _ _ _ (s₁.setTop (mkF m 29 #[.val (.long q1), .second, .val (.long q1), .second, .val (.int (18 : Int32)), .val (.long (-1000000000000000000 : Int64)), .second] [(.long q1)]))
                                      refine own_st (fun t k => XS.lload X0.here hx rfl (hb hby d1_29) rfl k) ?_
                                      show own_Fin _ _ _ _ _ _ _ (s₁.setTop (mkF m 31 #[.val (.long q1), .second, .val (.long q1), .second, .val (.int (18 : Int32)), .val (.long (-1000000000000000000 : Int64)), .second] [(.long (-1000000000000000000 : Int64)), (.long q1)]))
                                      refine own_st (fun t k => XS.lcmp X0.here hx rfl (hb hby d1_31) rfl k) ?_
                                      show own_Fin _ _ _ _ _ _ _ (s₁.setTop (mkF m 32 #[.val (.long q1), .second, .val (.long q1), .second, .val (.int (18 : Int32)), .val (.long (-1000000000000000000 : Int64)), .second] [(.int (lcmpW q1 (-1000000000000000000 : Int64)))]))
                                      by_cases hc32_19 : (-1000000000000000000 : Int64) < q1
                                      · refine own_st (fun t k => XS.ifYes X0.here hx rfl (pc0 := 32) (pc' := 49) rfl (hb hby d1_32) rfl (own_gtT hc32_19).1 (by decide) (by decide) k) ?_
                                        show own_Fin _ _ _ _ _ _ _ (s₁.setTop (mkF m 49 #[.val (.long q1), .second, .val (.long q1), .second, .val (.int (18 : Int32)), .val (.long (-1000000000000000000 : Int64)), .second] []))
                                        refine own_st (fun t k => XS.iload X0.here hx rfl (hb hby d1_49) rfl k) ?_
                                        show own_Fin _ _ _ _ _ _ _ (s₁.setTop (mkF m 51 #[.val (.long q1), .second, .val (.long q1), .second, .val (.int (18 : Int32)), .val (.long (-1000000000000000000 : Int64)), .second] [(.int (18 : Int32))]))
                                        have hv : own_F1 q1 = (18 : Int32) := by unfold own_F1; rw [if_pos hc3_1, if_neg hc32_2, if_neg hc32_3, if_neg hc32_4, if_neg hc32_5, if_neg hc32_6, if_neg hc32_7, if_neg hc32_8, if_neg hc32_9, if_neg hc32_10, if_neg hc32_11, if_neg hc32_12, if_neg hc32_13, if_neg hc32_14, if_neg hc32_15, if_neg hc32_16, if_neg hc32_17, if_neg hc32_18, if_pos hc32_19]
                                        exact own_retI X0 hx Bd.notSynchronized Bd.returns (hb hby d1_51) (by decide) (by decide) ⟨congrArg (fun z => some (Value.int z)) hv.symm, N0, e0⟩
                                      · refine own_st (fun t k => XS.ifNo X0.here hx rfl (hb hby d1_32) rfl (own_gtF hc32_19).1 k) ?_
                                        show own_Fin _ _ _ _ _ _ _ (s₁.setTop (mkF m 35 #[.val (.long q1), .second, .val (.long q1), .second, .val (.int (18 : Int32)), .val (.long (-1000000000000000000 : Int64)), .second] []))
                                        refine own_st (fun t k => XS.iinc X0.here hx rfl (hb hby d1_35) rfl (l' := #[.val (.long q1), .second, .val (.long q1), .second, .val (.int (19 : Int32)), .val (.long (-1000000000000000000 : Int64)), .second]) rfl k) ?_
                                        show own_Fin _ _ _ _ _ _ _ (s₁.setTop (mkF m 38 #[.val (.long q1), .second, .val (.long q1), .second, .val (.int (19 : Int32)), .val (.long (-1000000000000000000 : Int64)), .second] []))
                                        refine own_st (fun t k => XS.lload X0.here hx rfl (hb hby d1_38) rfl k) ?_
                                        show own_Fin _ _ _ _ _ _ _ (s₁.setTop (mkF m 40 #[.val (.long q1), .second, .val (.long q1), .second, .val (.int (19 : Int32)), .val (.long (-1000000000000000000 : Int64)), .second] [(.long (-1000000000000000000 : Int64))]))
                                        refine own_st (X0.ldc2Long hx hown (mvT hZ (hw _ (List.mem_of_getElem? (i := 25) rfl))) (g := (mkF m 40 #[.val (.long q1), .second, .val (.long q1), .second, .val (.int (19 : Int32)), .val (.long (-1000000000000000000 : Int64)), .second] [(.long (-1000000000000000000 : Int64))])) rfl (hb hby d1_40)) ?_
                                        show own_Fin _ _ _ _ _ _ _ (s₁.setTop (mkF m 43 #[.val (.long q1), .second, .val (.long q1), .second, .val (.int (19 : Int32)), .val (.long (-1000000000000000000 : Int64)), .second] [(.long (10 : Int64)), (.long (-1000000000000000000 : Int64))]))
                                        refine own_st (fun t k => XS.lmul X0.here hx rfl (hb hby d1_43) rfl k) ?_
                                        show own_Fin _ _ _ _ _ _ _ (s₁.setTop (mkF m 44 #[.val (.long q1), .second, .val (.long q1), .second, .val (.int (19 : Int32)), .val (.long (-1000000000000000000 : Int64)), .second] [(.long (8446744073709551616 : Int64))]))
                                        refine own_st (fun t k => XS.lstore X0.here hx rfl (hb hby d1_44) rfl (l' := #[.val (.long q1), .second, .val (.long q1), .second, .val (.int (19 : Int32)), .val (.long (8446744073709551616 : Int64)), .second]) rfl k) ?_
                                        show own_Fin _ _ _ _ _ _ _ (s₁.setTop (mkF m 46 #[.val (.long q1), .second, .val (.long q1), .second, .val (.int (19 : Int32)), .val (.long (8446744073709551616 : Int64)), .second] []))
                                        refine own_st (fun t k => XS.goto X0.here hx rfl (pc0 := 46) (pc' := 21) rfl (hb hby d1_46) (by decide) (by decide) k) ?_
                                        show own_Fin _ _ _ _ _ _ _ (s₁.setTop (mkF m 21 #[.val (.long q1), .second, .val (.long q1), .second, .val (.int (19 : Int32)), .val (.long (8446744073709551616 : Int64)), .second] []))
                                        refine own_st (fun t k => XS.iload X0.here hx rfl (hb hby d1_21) rfl k) ?_
                                        show own_Fin _ _ _ _ _ _ _ (s₁.setTop (mkF m 23 #[.val (.long q1), .second, .val (.long q1), .second, .val (.int (19 : Int32)), .val (.long (8446744073709551616 : Int64)), .second] [(.int (19 : Int32))]))
                                        refine own_st (fun t k => XS.bipush X0.here hx rfl (hb hby d1_23) k) ?_
                                        show own_Fin _ _ _ _ _ _ _ (s₁.setTop (mkF m 25 #[.val (.long q1), .second, .val (.long q1), .second, .val (.int (19 : Int32)), .val (.long (8446744073709551616 : Int64)), .second] [(.int (19 : Int32)), (.int (19 : Int32))]))
                                        refine own_st (fun t k => XS.icmpYes X0.here hx rfl (pc0 := 25) (pc' := 49) rfl (hb hby d1_25) rfl (flt (by decide : ¬ ((19 : Int32) < (19 : Int32)))).2.1 (by decide) (by decide) k) ?_
                                        show own_Fin _ _ _ _ _ _ _ (s₁.setTop (mkF m 49 #[.val (.long q1), .second, .val (.long q1), .second, .val (.int (19 : Int32)), .val (.long (8446744073709551616 : Int64)), .second] []))
                                        refine own_st (fun t k => XS.iload X0.here hx rfl (hb hby d1_49) rfl k) ?_
                                        show own_Fin _ _ _ _ _ _ _ (s₁.setTop (mkF m 51 #[.val (.long q1), .second, .val (.long q1), .second, .val (.int (19 : Int32)), .val (.long (8446744073709551616 : Int64)), .second] [(.int (19 : Int32))]))
                                        have hv : own_F1 q1 = (19 : Int32) := by unfold own_F1; rw [if_pos hc3_1, if_neg hc32_2, if_neg hc32_3, if_neg hc32_4, if_neg hc32_5, if_neg hc32_6, if_neg hc32_7, if_neg hc32_8, if_neg hc32_9, if_neg hc32_10, if_neg hc32_11, if_neg hc32_12, if_neg hc32_13, if_neg hc32_14, if_neg hc32_15, if_neg hc32_16, if_neg hc32_17, if_neg hc32_18, if_neg hc32_19]
                                        exact own_retI X0 hx Bd.notSynchronized Bd.returns (hb hby d1_51) (by decide) (by decide) ⟨congrArg (fun z => some (Value.int z)) hv.symm, N0, e0⟩
  · refine own_st (fun t k => XS.ifYes X0.here hx rfl (pc0 := 3) (pc' := 10) rfl (hb hby d1_3) rfl (own_ltF hc3_1).2 (by decide) (by decide) k) ?_
    show own_Fin _ _ _ _ _ _ _ (s₁.setTop (mkF m 10 #[.val (.long q1), .second, .unset, .unset, .unset, .unset, .unset] []))
    refine own_st (fun t k => XS.lloadN X0.here hx rfl (hb hby d1_10) rfl k) ?_
    show own_Fin _ _ _ _ _ _ _ (s₁.setTop (mkF m 11 #[.val (.long q1), .second, .unset, .unset, .unset, .unset, .unset] [(.long q1)]))
    refine own_st (fun t k => XS.lneg X0.here hx rfl (hb hby d1_11) rfl k) ?_
    show own_Fin _ _ _ _ _ _ _ (s₁.setTop (mkF m 12 #[.val (.long q1), .second, .unset, .unset, .unset, .unset, .unset] [(.long (-q1))]))
    refine own_st (fun t k => XS.lstoreN X0.here hx rfl (hb hby d1_12) rfl (l' := #[.val (.long q1), .second, .val (.long (-q1)), .second, .unset, .unset, .unset]) rfl k) ?_
    show own_Fin _ _ _ _ _ _ _ (s₁.setTop (mkF m 13 #[.val (.long q1), .second, .val (.long (-q1)), .second, .unset, .unset, .unset] []))
    refine own_st (fun t k => XS.iconst X0.here hx rfl (hb hby d1_13) k) ?_
    show own_Fin _ _ _ _ _ _ _ (s₁.setTop (mkF m 14 #[.val (.long q1), .second, .val (.long (-q1)), .second, .unset, .unset, .unset] [(.int (1 : Int32))]))
    refine own_st (fun t k => XS.istore X0.here hx rfl (hb hby d1_14) rfl (l' := #[.val (.long q1), .second, .val (.long (-q1)), .second, .val (.int (1 : Int32)), .unset, .unset]) rfl k) ?_
    show own_Fin _ _ _ _ _ _ _ (s₁.setTop (mkF m 16 #[.val (.long q1), .second, .val (.long (-q1)), .second, .val (.int (1 : Int32)), .unset, .unset] []))
    refine own_st (X0.ldc2Long hx hown (mvT hZ (hw _ (List.mem_of_getElem? (i := 24) rfl))) (g := (mkF m 16 #[.val (.long q1), .second, .val (.long (-q1)), .second, .val (.int (1 : Int32)), .unset, .unset] [])) rfl (hb hby d1_16)) ?_
    show own_Fin _ _ _ _ _ _ _ (s₁.setTop (mkF m 19 #[.val (.long q1), .second, .val (.long (-q1)), .second, .val (.int (1 : Int32)), .unset, .unset] [(.long (-10 : Int64))]))
    refine own_st (fun t k => XS.lstore X0.here hx rfl (hb hby d1_19) rfl (l' := #[.val (.long q1), .second, .val (.long (-q1)), .second, .val (.int (1 : Int32)), .val (.long (-10 : Int64)), .second]) rfl k) ?_
    show own_Fin _ _ _ _ _ _ _ (s₁.setTop (mkF m 21 #[.val (.long q1), .second, .val (.long (-q1)), .second, .val (.int (1 : Int32)), .val (.long (-10 : Int64)), .second] []))
    refine own_st (fun t k => XS.iload X0.here hx rfl (hb hby d1_21) rfl k) ?_
    show own_Fin _ _ _ _ _ _ _ (s₁.setTop (mkF m 23 #[.val (.long q1), .second, .val (.long (-q1)), .second, .val (.int (1 : Int32)), .val (.long (-10 : Int64)), .second] [(.int (1 : Int32))]))
    refine own_st (fun t k => XS.bipush X0.here hx rfl (hb hby d1_23) k) ?_
    show own_Fin _ _ _ _ _ _ _ (s₁.setTop (mkF m 25 #[.val (.long q1), .second, .val (.long (-q1)), .second, .val (.int (1 : Int32)), .val (.long (-10 : Int64)), .second] [(.int (19 : Int32)), (.int (1 : Int32))]))
    refine own_st (fun t k => XS.icmpNo X0.here hx rfl (hb hby d1_25) rfl (tlt (by decide : (1 : Int32) < (19 : Int32))).2.1 k) ?_
    show own_Fin _ _ _ _ _ _ _ (s₁.setTop (mkF m 28 #[.val (.long q1), .second, .val (.long (-q1)), .second, .val (.int (1 : Int32)), .val (.long (-10 : Int64)), .second] []))
    refine own_st (fun t k => XS.lloadN X0.here hx rfl (hb hby d1_28) rfl k) ?_
    show own_Fin _ _ _ _ _ _ _ (s₁.setTop (mkF m 29 #[.val (.long q1), .second, .val (.long (-q1)), .second, .val (.int (1 : Int32)), .val (.long (-10 : Int64)), .second] [(.long (-q1))]))
    refine own_st (fun t k => XS.lload X0.here hx rfl (hb hby d1_29) rfl k) ?_
    show own_Fin _ _ _ _ _ _ _ (s₁.setTop (mkF m 31 #[.val (.long q1), .second, .val (.long (-q1)), .second, .val (.int (1 : Int32)), .val (.long (-10 : Int64)), .second] [(.long (-10 : Int64)), (.long (-q1))]))
    refine own_st (fun t k => XS.lcmp X0.here hx rfl (hb hby d1_31) rfl k) ?_
    show own_Fin _ _ _ _ _ _ _ (s₁.setTop (mkF m 32 #[.val (.long q1), .second, .val (.long (-q1)), .second, .val (.int (1 : Int32)), .val (.long (-10 : Int64)), .second] [(.int (lcmpW (-q1) (-10 : Int64)))]))
    by_cases hc32_20 : (-10 : Int64) < (-q1)
    · refine own_st (fun t k => XS.ifYes X0.here hx rfl (pc0 := 32) (pc' := 49) rfl (hb hby d1_32) rfl (own_gtT hc32_20).1 (by decide) (by decide) k) ?_
      show own_Fin _ _ _ _ _ _ _ (s₁.setTop (mkF m 49 #[.val (.long q1), .second, .val (.long (-q1)), .second, .val (.int (1 : Int32)), .val (.long (-10 : Int64)), .second] []))
      refine own_st (fun t k => XS.iload X0.here hx rfl (hb hby d1_49) rfl k) ?_
      show own_Fin _ _ _ _ _ _ _ (s₁.setTop (mkF m 51 #[.val (.long q1), .second, .val (.long (-q1)), .second, .val (.int (1 : Int32)), .val (.long (-10 : Int64)), .second] [(.int (1 : Int32))]))
      have hv : own_F1 q1 = (1 : Int32) := by unfold own_F1; rw [if_neg hc3_1, if_pos hc32_20]
      exact own_retI X0 hx Bd.notSynchronized Bd.returns (hb hby d1_51) (by decide) (by decide) ⟨congrArg (fun z => some (Value.int z)) hv.symm, N0, e0⟩
    · refine own_st (fun t k => XS.ifNo X0.here hx rfl (hb hby d1_32) rfl (own_gtF hc32_20).1 k) ?_
      show own_Fin _ _ _ _ _ _ _ (s₁.setTop (mkF m 35 #[.val (.long q1), .second, .val (.long (-q1)), .second, .val (.int (1 : Int32)), .val (.long (-10 : Int64)), .second] []))
      refine own_st (fun t k => XS.iinc X0.here hx rfl (hb hby d1_35) rfl (l' := #[.val (.long q1), .second, .val (.long (-q1)), .second, .val (.int (2 : Int32)), .val (.long (-10 : Int64)), .second]) rfl k) ?_
      show own_Fin _ _ _ _ _ _ _ (s₁.setTop (mkF m 38 #[.val (.long q1), .second, .val (.long (-q1)), .second, .val (.int (2 : Int32)), .val (.long (-10 : Int64)), .second] []))
      refine own_st (fun t k => XS.lload X0.here hx rfl (hb hby d1_38) rfl k) ?_
      show own_Fin _ _ _ _ _ _ _ (s₁.setTop (mkF m 40 #[.val (.long q1), .second, .val (.long (-q1)), .second, .val (.int (2 : Int32)), .val (.long (-10 : Int64)), .second] [(.long (-10 : Int64))]))
      refine own_st (X0.ldc2Long hx hown (mvT hZ (hw _ (List.mem_of_getElem? (i := 25) rfl))) (g := (mkF m 40 #[.val (.long q1), .second, .val (.long (-q1)), .second, .val (.int (2 : Int32)), .val (.long (-10 : Int64)), .second] [(.long (-10 : Int64))])) rfl (hb hby d1_40)) ?_
      show own_Fin _ _ _ _ _ _ _ (s₁.setTop (mkF m 43 #[.val (.long q1), .second, .val (.long (-q1)), .second, .val (.int (2 : Int32)), .val (.long (-10 : Int64)), .second] [(.long (10 : Int64)), (.long (-10 : Int64))]))
      refine own_st (fun t k => XS.lmul X0.here hx rfl (hb hby d1_43) rfl k) ?_
      show own_Fin _ _ _ _ _ _ _ (s₁.setTop (mkF m 44 #[.val (.long q1), .second, .val (.long (-q1)), .second, .val (.int (2 : Int32)), .val (.long (-10 : Int64)), .second] [(.long (-100 : Int64))]))
      refine own_st (fun t k => XS.lstore X0.here hx rfl (hb hby d1_44) rfl (l' := #[.val (.long q1), .second, .val (.long (-q1)), .second, .val (.int (2 : Int32)), .val (.long (-100 : Int64)), .second]) rfl k) ?_
      show own_Fin _ _ _ _ _ _ _ (s₁.setTop (mkF m 46 #[.val (.long q1), .second, .val (.long (-q1)), .second, .val (.int (2 : Int32)), .val (.long (-100 : Int64)), .second] []))
      refine own_st (fun t k => XS.goto X0.here hx rfl (pc0 := 46) (pc' := 21) rfl (hb hby d1_46) (by decide) (by decide) k) ?_
      show own_Fin _ _ _ _ _ _ _ (s₁.setTop (mkF m 21 #[.val (.long q1), .second, .val (.long (-q1)), .second, .val (.int (2 : Int32)), .val (.long (-100 : Int64)), .second] []))
      refine own_st (fun t k => XS.iload X0.here hx rfl (hb hby d1_21) rfl k) ?_
      show own_Fin _ _ _ _ _ _ _ (s₁.setTop (mkF m 23 #[.val (.long q1), .second, .val (.long (-q1)), .second, .val (.int (2 : Int32)), .val (.long (-100 : Int64)), .second] [(.int (2 : Int32))]))
      refine own_st (fun t k => XS.bipush X0.here hx rfl (hb hby d1_23) k) ?_
      show own_Fin _ _ _ _ _ _ _ (s₁.setTop (mkF m 25 #[.val (.long q1), .second, .val (.long (-q1)), .second, .val (.int (2 : Int32)), .val (.long (-100 : Int64)), .second] [(.int (19 : Int32)), (.int (2 : Int32))]))
      refine own_st (fun t k => XS.icmpNo X0.here hx rfl (hb hby d1_25) rfl (tlt (by decide : (2 : Int32) < (19 : Int32))).2.1 k) ?_
      show own_Fin _ _ _ _ _ _ _ (s₁.setTop (mkF m 28 #[.val (.long q1), .second, .val (.long (-q1)), .second, .val (.int (2 : Int32)), .val (.long (-100 : Int64)), .second] []))
      refine own_st (fun t k => XS.lloadN X0.here hx rfl (hb hby d1_28) rfl k) ?_
      show own_Fin _ _ _ _ _ _ _ (s₁.setTop (mkF m 29 #[.val (.long q1), .second, .val (.long (-q1)), .second, .val (.int (2 : Int32)), .val (.long (-100 : Int64)), .second] [(.long (-q1))]))
      refine own_st (fun t k => XS.lload X0.here hx rfl (hb hby d1_29) rfl k) ?_
      show own_Fin _ _ _ _ _ _ _ (s₁.setTop (mkF m 31 #[.val (.long q1), .second, .val (.long (-q1)), .second, .val (.int (2 : Int32)), .val (.long (-100 : Int64)), .second] [(.long (-100 : Int64)), (.long (-q1))]))
      refine own_st (fun t k => XS.lcmp X0.here hx rfl (hb hby d1_31) rfl k) ?_
      show own_Fin _ _ _ _ _ _ _ (s₁.setTop (mkF m 32 #[.val (.long q1), .second, .val (.long (-q1)), .second, .val (.int (2 : Int32)), .val (.long (-100 : Int64)), .second] [(.int (lcmpW (-q1) (-100 : Int64)))]))
      by_cases hc32_21 : (-100 : Int64) < (-q1)
      · refine own_st (fun t k => XS.ifYes X0.here hx rfl (pc0 := 32) (pc' := 49) rfl (hb hby d1_32) rfl (own_gtT hc32_21).1 (by decide) (by decide) k) ?_
        show own_Fin _ _ _ _ _ _ _ (s₁.setTop (mkF m 49 #[.val (.long q1), .second, .val (.long (-q1)), .second, .val (.int (2 : Int32)), .val (.long (-100 : Int64)), .second] []))
        refine own_st (fun t k => XS.iload X0.here hx rfl (hb hby d1_49) rfl k) ?_
        show own_Fin _ _ _ _ _ _ _ (s₁.setTop (mkF m 51 #[.val (.long q1), .second, .val (.long (-q1)), .second, .val (.int (2 : Int32)), .val (.long (-100 : Int64)), .second] [(.int (2 : Int32))]))
        have hv : own_F1 q1 = (2 : Int32) := by unfold own_F1; rw [if_neg hc3_1, if_neg hc32_20, if_pos hc32_21]
        exact own_retI X0 hx Bd.notSynchronized Bd.returns (hb hby d1_51) (by decide) (by decide) ⟨congrArg (fun z => some (Value.int z)) hv.symm, N0, e0⟩
      · refine own_st (fun t k => XS.ifNo X0.here hx rfl (hb hby d1_32) rfl (own_gtF hc32_21).1 k) ?_
        show own_Fin _ _ _ _ _ _ _ (s₁.setTop (mkF m 35 #[.val (.long q1), .second, .val (.long (-q1)), .second, .val (.int (2 : Int32)), .val (.long (-100 : Int64)), .second] []))
        refine own_st (fun t k => XS.iinc X0.here hx rfl (hb hby d1_35) rfl (l' := #[.val (.long q1), .second, .val (.long (-q1)), .second, .val (.int (3 : Int32)), .val (.long (-100 : Int64)), .second]) rfl k) ?_
        show own_Fin _ _ _ _ _ _ _ (s₁.setTop (mkF m 38 #[.val (.long q1), .second, .val (.long (-q1)), .second, .val (.int (3 : Int32)), .val (.long (-100 : Int64)), .second] []))
        refine own_st (fun t k => XS.lload X0.here hx rfl (hb hby d1_38) rfl k) ?_
        show own_Fin _ _ _ _ _ _ _ (s₁.setTop (mkF m 40 #[.val (.long q1), .second, .val (.long (-q1)), .second, .val (.int (3 : Int32)), .val (.long (-100 : Int64)), .second] [(.long (-100 : Int64))]))
        refine own_st (X0.ldc2Long hx hown (mvT hZ (hw _ (List.mem_of_getElem? (i := 25) rfl))) (g := (mkF m 40 #[.val (.long q1), .second, .val (.long (-q1)), .second, .val (.int (3 : Int32)), .val (.long (-100 : Int64)), .second] [(.long (-100 : Int64))])) rfl (hb hby d1_40)) ?_
        show own_Fin _ _ _ _ _ _ _ (s₁.setTop (mkF m 43 #[.val (.long q1), .second, .val (.long (-q1)), .second, .val (.int (3 : Int32)), .val (.long (-100 : Int64)), .second] [(.long (10 : Int64)), (.long (-100 : Int64))]))
        refine own_st (fun t k => XS.lmul X0.here hx rfl (hb hby d1_43) rfl k) ?_
        show own_Fin _ _ _ _ _ _ _ (s₁.setTop (mkF m 44 #[.val (.long q1), .second, .val (.long (-q1)), .second, .val (.int (3 : Int32)), .val (.long (-100 : Int64)), .second] [(.long (-1000 : Int64))]))
        refine own_st (fun t k => XS.lstore X0.here hx rfl (hb hby d1_44) rfl (l' := #[.val (.long q1), .second, .val (.long (-q1)), .second, .val (.int (3 : Int32)), .val (.long (-1000 : Int64)), .second]) rfl k) ?_
        show own_Fin _ _ _ _ _ _ _ (s₁.setTop (mkF m 46 #[.val (.long q1), .second, .val (.long (-q1)), .second, .val (.int (3 : Int32)), .val (.long (-1000 : Int64)), .second] []))
        refine own_st (fun t k => XS.goto X0.here hx rfl (pc0 := 46) (pc' := 21) rfl (hb hby d1_46) (by decide) (by decide) k) ?_
        show own_Fin _ _ _ _ _ _ _ (s₁.setTop (mkF m 21 #[.val (.long q1), .second, .val (.long (-q1)), .second, .val (.int (3 : Int32)), .val (.long (-1000 : Int64)), .second] []))
        refine own_st (fun t k => XS.iload X0.here hx rfl (hb hby d1_21) rfl k) ?_
        show own_Fin _ _ _ _ _ _ _ (s₁.setTop (mkF m 23 #[.val (.long q1), .second, .val (.long (-q1)), .second, .val (.int (3 : Int32)), .val (.long (-1000 : Int64)), .second] [(.int (3 : Int32))]))
        refine own_st (fun t k => XS.bipush X0.here hx rfl (hb hby d1_23) k) ?_
        show own_Fin _ _ _ _ _ _ _ (s₁.setTop (mkF m 25 #[.val (.long q1), .second, .val (.long (-q1)), .second, .val (.int (3 : Int32)), .val (.long (-1000 : Int64)), .second] [(.int (19 : Int32)), (.int (3 : Int32))]))
        refine own_st (fun t k => XS.icmpNo X0.here hx rfl (hb hby d1_25) rfl (tlt (by decide : (3 : Int32) < (19 : Int32))).2.1 k) ?_
        show own_Fin _ _ _ _ _ _ _ (s₁.setTop (mkF m 28 #[.val (.long q1), .second, .val (.long (-q1)), .second, .val (.int (3 : Int32)), .val (.long (-1000 : Int64)), .second] []))
        refine own_st (fun t k => XS.lloadN X0.here hx rfl (hb hby d1_28) rfl k) ?_
        show own_Fin _ _ _ _ _ _ _ (s₁.setTop (mkF m 29 #[.val (.long q1), .second, .val (.long (-q1)), .second, .val (.int (3 : Int32)), .val (.long (-1000 : Int64)), .second] [(.long (-q1))]))
        refine own_st (fun t k => XS.lload X0.here hx rfl (hb hby d1_29) rfl k) ?_
        show own_Fin _ _ _ _ _ _ _ (s₁.setTop (mkF m 31 #[.val (.long q1), .second, .val (.long (-q1)), .second, .val (.int (3 : Int32)), .val (.long (-1000 : Int64)), .second] [(.long (-1000 : Int64)), (.long (-q1))]))
        refine own_st (fun t k => XS.lcmp X0.here hx rfl (hb hby d1_31) rfl k) ?_
        show own_Fin _ _ _ _ _ _ _ (s₁.setTop (mkF m 32 #[.val (.long q1), .second, .val (.long (-q1)), .second, .val (.int (3 : Int32)), .val (.long (-1000 : Int64)), .second] [(.int (lcmpW (-q1) (-1000 : Int64)))]))
        by_cases hc32_22 : (-1000 : Int64) < (-q1)
        · refine own_st (fun t k => XS.ifYes X0.here hx rfl (pc0 := 32) (pc' := 49) rfl (hb hby d1_32) rfl (own_gtT hc32_22).1 (by decide) (by decide) k) ?_
          show own_Fin _ _ _ _ _ _ _ (s₁.setTop (mkF m 49 #[.val (.long q1), .second, .val (.long (-q1)), .second, .val (.int (3 : Int32)), .val (.long (-1000 : Int64)), .second] []))
          refine own_st (fun t k => XS.iload X0.here hx rfl (hb hby d1_49) rfl k) ?_
          show own_Fin _ _ _ _ _ _ _ (s₁.setTop (mkF m 51 #[.val (.long q1), .second, .val (.long (-q1)), .second, .val (.int (3 : Int32)), .val (.long (-1000 : Int64)), .second] [(.int (3 : Int32))]))
          have hv : own_F1 q1 = (3 : Int32) := by unfold own_F1; rw [if_neg hc3_1, if_neg hc32_20, if_neg hc32_21, if_pos hc32_22]
          exact own_retI X0 hx Bd.notSynchronized Bd.returns (hb hby d1_51) (by decide) (by decide) ⟨congrArg (fun z => some (Value.int z)) hv.symm, N0, e0⟩
        · refine own_st (fun t k => XS.ifNo X0.here hx rfl (hb hby d1_32) rfl (own_gtF hc32_22).1 k) ?_
          show own_Fin _ _ _ _ _ _ _ (s₁.setTop (mkF m 35 #[.val (.long q1), .second, .val (.long (-q1)), .second, .val (.int (3 : Int32)), .val (.long (-1000 : Int64)), .second] []))
          refine own_st (fun t k => XS.iinc X0.here hx rfl (hb hby d1_35) rfl (l' := #[.val (.long q1), .second, .val (.long (-q1)), .second, .val (.int (4 : Int32)), .val (.long (-1000 : Int64)), .second]) rfl k) ?_
          show own_Fin _ _ _ _ _ _ _ (s₁.setTop (mkF m 38 #[.val (.long q1), .second, .val (.long (-q1)), .second, .val (.int (4 : Int32)), .val (.long (-1000 : Int64)), .second] []))
          refine own_st (fun t k => XS.lload X0.here hx rfl (hb hby d1_38) rfl k) ?_
          show own_Fin _ _ _ _ _ _ _ (s₁.setTop (mkF m 40 #[.val (.long q1), .second, .val (.long (-q1)), .second, .val (.int (4 : Int32)), .val (.long (-1000 : Int64)), .second] [(.long (-1000 : Int64))]))
          refine own_st (X0.ldc2Long hx hown (mvT hZ (hw _ (List.mem_of_getElem? (i := 25) rfl))) (g := (mkF m 40 #[.val (.long q1), .second, .val (.long (-q1)), .second, .val (.int (4 : Int32)), .val (.long (-1000 : Int64)), .second] [(.long (-1000 : Int64))])) rfl (hb hby d1_40)) ?_
          show own_Fin _ _ _ _ _ _ _ (s₁.setTop (mkF m 43 #[.val (.long q1), .second, .val (.long (-q1)), .second, .val (.int (4 : Int32)), .val (.long (-1000 : Int64)), .second] [(.long (10 : Int64)), (.long (-1000 : Int64))]))
          refine own_st (fun t k => XS.lmul X0.here hx rfl (hb hby d1_43) rfl k) ?_
          show own_Fin _ _ _ _ _ _ _ (s₁.setTop (mkF m 44 #[.val (.long q1), .second, .val (.long (-q1)), .second, .val (.int (4 : Int32)), .val (.long (-1000 : Int64)), .second] [(.long (-10000 : Int64))]))
          refine own_st (fun t k => XS.lstore X0.here hx rfl (hb hby d1_44) rfl (l' := #[.val (.long q1), .second, .val (.long (-q1)), .second, .val (.int (4 : Int32)), .val (.long (-10000 : Int64)), .second]) rfl k) ?_
          show own_Fin _ _ _ _ _ _ _ (s₁.setTop (mkF m 46 #[.val (.long q1), .second, .val (.long (-q1)), .second, .val (.int (4 : Int32)), .val (.long (-10000 : Int64)), .second] []))
          refine own_st (fun t k => XS.goto X0.here hx rfl (pc0 := 46) (pc' := 21) rfl (hb hby d1_46) (by decide) (by decide) k) ?_
          show own_Fin _ _ _ _ _ _ _ (s₁.setTop (mkF m 21 #[.val (.long q1), .second, .val (.long (-q1)), .second, .val (.int (4 : Int32)), .val (.long (-10000 : Int64)), .second] []))
          refine own_st (fun t k => XS.iload X0.here hx rfl (hb hby d1_21) rfl k) ?_
          show own_Fin _ _ _ _ _ _ _ (s₁.setTop (mkF m 23 #[.val (.long q1), .second, .val (.long (-q1)), .second, .val (.int (4 : Int32)), .val (.long (-10000 : Int64)), .second] [(.int (4 : Int32))]))
          refine own_st (fun t k => XS.bipush X0.here hx rfl (hb hby d1_23) k) ?_
          show own_Fin _ _ _ _ _ _ _ (s₁.setTop (mkF m 25 #[.val (.long q1), .second, .val (.long (-q1)), .second, .val (.int (4 : Int32)), .val (.long (-10000 : Int64)), .second] [(.int (19 : Int32)), (.int (4 : Int32))]))
          refine own_st (fun t k => XS.icmpNo X0.here hx rfl (hb hby d1_25) rfl (tlt (by decide : (4 : Int32) < (19 : Int32))).2.1 k) ?_
          show own_Fin _ _ _ _ _ _ _ (s₁.setTop (mkF m 28 #[.val (.long q1), .second, .val (.long (-q1)), .second, .val (.int (4 : Int32)), .val (.long (-10000 : Int64)), .second] []))
          refine own_st (fun t k => XS.lloadN X0.here hx rfl (hb hby d1_28) rfl k) ?_
          show own_Fin _ _ _ _ _ _ _ (s₁.setTop (mkF m 29 #[.val (.long q1), .second, .val (.long (-q1)), .second, .val (.int (4 : Int32)), .val (.long (-10000 : Int64)), .second] [(.long (-q1))]))
          refine own_st (fun t k => XS.lload X0.here hx rfl (hb hby d1_29) rfl k) ?_
          show own_Fin _ _ _ _ _ _ _ (s₁.setTop (mkF m 31 #[.val (.long q1), .second, .val (.long (-q1)), .second, .val (.int (4 : Int32)), .val (.long (-10000 : Int64)), .second] [(.long (-10000 : Int64)), (.long (-q1))]))
          refine own_st (fun t k => XS.lcmp X0.here hx rfl (hb hby d1_31) rfl k) ?_
          show own_Fin _ _ _ _ _ _ _ (s₁.setTop (mkF m 32 #[.val (.long q1), .second, .val (.long (-q1)), .second, .val (.int (4 : Int32)), .val (.long (-10000 : Int64)), .second] [(.int (lcmpW (-q1) (-10000 : Int64)))]))
          by_cases hc32_23 : (-10000 : Int64) < (-q1)
          · refine own_st (fun t k => XS.ifYes X0.here hx rfl (pc0 := 32) (pc' := 49) rfl (hb hby d1_32) rfl (own_gtT hc32_23).1 (by decide) (by decide) k) ?_
            show own_Fin _ _ _ _ _ _ _ (s₁.setTop (mkF m 49 #[.val (.long q1), .second, .val (.long (-q1)), .second, .val (.int (4 : Int32)), .val (.long (-10000 : Int64)), .second] []))
            refine own_st (fun t k => XS.iload X0.here hx rfl (hb hby d1_49) rfl k) ?_
            show own_Fin _ _ _ _ _ _ _ (s₁.setTop (mkF m 51 #[.val (.long q1), .second, .val (.long (-q1)), .second, .val (.int (4 : Int32)), .val (.long (-10000 : Int64)), .second] [(.int (4 : Int32))]))
            have hv : own_F1 q1 = (4 : Int32) := by unfold own_F1; rw [if_neg hc3_1, if_neg hc32_20, if_neg hc32_21, if_neg hc32_22, if_pos hc32_23]
            exact own_retI X0 hx Bd.notSynchronized Bd.returns (hb hby d1_51) (by decide) (by decide) ⟨congrArg (fun z => some (Value.int z)) hv.symm, N0, e0⟩
          · refine own_st (fun t k => XS.ifNo X0.here hx rfl (hb hby d1_32) rfl (own_gtF hc32_23).1 k) ?_
            show own_Fin _ _ _ _ _ _ _ (s₁.setTop (mkF m 35 #[.val (.long q1), .second, .val (.long (-q1)), .second, .val (.int (4 : Int32)), .val (.long (-10000 : Int64)), .second] []))
            refine own_st (fun t k => XS.iinc X0.here hx rfl (hb hby d1_35) rfl (l' := #[.val (.long q1), .second, .val (.long (-q1)), .second, .val (.int (5 : Int32)), .val (.long (-10000 : Int64)), .second]) rfl k) ?_
            show own_Fin _ _ _ _ _ _ _ (s₁.setTop (mkF m 38 #[.val (.long q1), .second, .val (.long (-q1)), .second, .val (.int (5 : Int32)), .val (.long (-10000 : Int64)), .second] []))
            refine own_st (fun t k => XS.lload X0.here hx rfl (hb hby d1_38) rfl k) ?_
            show own_Fin _ _ _ _ _ _ _ (s₁.setTop (mkF m 40 #[.val (.long q1), .second, .val (.long (-q1)), .second, .val (.int (5 : Int32)), .val (.long (-10000 : Int64)), .second] [(.long (-10000 : Int64))]))
            refine own_st (X0.ldc2Long hx hown (mvT hZ (hw _ (List.mem_of_getElem? (i := 25) rfl))) (g := (mkF m 40 #[.val (.long q1), .second, .val (.long (-q1)), .second, .val (.int (5 : Int32)), .val (.long (-10000 : Int64)), .second] [(.long (-10000 : Int64))])) rfl (hb hby d1_40)) ?_
            show own_Fin _ _ _ _ _ _ _ (s₁.setTop (mkF m 43 #[.val (.long q1), .second, .val (.long (-q1)), .second, .val (.int (5 : Int32)), .val (.long (-10000 : Int64)), .second] [(.long (10 : Int64)), (.long (-10000 : Int64))]))
            refine own_st (fun t k => XS.lmul X0.here hx rfl (hb hby d1_43) rfl k) ?_
            show own_Fin _ _ _ _ _ _ _ (s₁.setTop (mkF m 44 #[.val (.long q1), .second, .val (.long (-q1)), .second, .val (.int (5 : Int32)), .val (.long (-10000 : Int64)), .second] [(.long (-100000 : Int64))]))
            refine own_st (fun t k => XS.lstore X0.here hx rfl (hb hby d1_44) rfl (l' := #[.val (.long q1), .second, .val (.long (-q1)), .second, .val (.int (5 : Int32)), .val (.long (-100000 : Int64)), .second]) rfl k) ?_
            show own_Fin _ _ _ _ _ _ _ (s₁.setTop (mkF m 46 #[.val (.long q1), .second, .val (.long (-q1)), .second, .val (.int (5 : Int32)), .val (.long (-100000 : Int64)), .second] []))
            refine own_st (fun t k => XS.goto X0.here hx rfl (pc0 := 46) (pc' := 21) rfl (hb hby d1_46) (by decide) (by decide) k) ?_
            show own_Fin _ _ _ _ _ _ _ (s₁.setTop (mkF m 21 #[.val (.long q1), .second, .val (.long (-q1)), .second, .val (.int (5 : Int32)), .val (.long (-100000 : Int64)), .second] []))
            refine own_st (fun t k => XS.iload X0.here hx rfl (hb hby d1_21) rfl k) ?_
            show own_Fin _ _ _ _ _ _ _ (s₁.setTop (mkF m 23 #[.val (.long q1), .second, .val (.long (-q1)), .second, .val (.int (5 : Int32)), .val (.long (-100000 : Int64)), .second] [(.int (5 : Int32))]))
            refine own_st (fun t k => XS.bipush X0.here hx rfl (hb hby d1_23) k) ?_
            show own_Fin _ _ _ _ _ _ _ (s₁.setTop (mkF m 25 #[.val (.long q1), .second, .val (.long (-q1)), .second, .val (.int (5 : Int32)), .val (.long (-100000 : Int64)), .second] [(.int (19 : Int32)), (.int (5 : Int32))]))
            refine own_st (fun t k => XS.icmpNo X0.here hx rfl (hb hby d1_25) rfl (tlt (by decide : (5 : Int32) < (19 : Int32))).2.1 k) ?_
            show own_Fin _ _ _ _ _ _ _ (s₁.setTop (mkF m 28 #[.val (.long q1), .second, .val (.long (-q1)), .second, .val (.int (5 : Int32)), .val (.long (-100000 : Int64)), .second] []))
            refine own_st (fun t k => XS.lloadN X0.here hx rfl (hb hby d1_28) rfl k) ?_
            show own_Fin _ _ _ _ _ _ _ (s₁.setTop (mkF m 29 #[.val (.long q1), .second, .val (.long (-q1)), .second, .val (.int (5 : Int32)), .val (.long (-100000 : Int64)), .second] [(.long (-q1))]))
            refine own_st (fun t k => XS.lload X0.here hx rfl (hb hby d1_29) rfl k) ?_
            show own_Fin _ _ _ _ _ _ _ (s₁.setTop (mkF m 31 #[.val (.long q1), .second, .val (.long (-q1)), .second, .val (.int (5 : Int32)), .val (.long (-100000 : Int64)), .second] [(.long (-100000 : Int64)), (.long (-q1))]))
            refine own_st (fun t k => XS.lcmp X0.here hx rfl (hb hby d1_31) rfl k) ?_
            show own_Fin _ _ _ _ _ _ _ (s₁.setTop (mkF m 32 #[.val (.long q1), .second, .val (.long (-q1)), .second, .val (.int (5 : Int32)), .val (.long (-100000 : Int64)), .second] [(.int (lcmpW (-q1) (-100000 : Int64)))]))
            by_cases hc32_24 : (-100000 : Int64) < (-q1)
            · refine own_st (fun t k => XS.ifYes X0.here hx rfl (pc0 := 32) (pc' := 49) rfl (hb hby d1_32) rfl (own_gtT hc32_24).1 (by decide) (by decide) k) ?_
              show own_Fin _ _ _ _ _ _ _ (s₁.setTop (mkF m 49 #[.val (.long q1), .second, .val (.long (-q1)), .second, .val (.int (5 : Int32)), .val (.long (-100000 : Int64)), .second] []))
              refine own_st (fun t k => XS.iload X0.here hx rfl (hb hby d1_49) rfl k) ?_
              show own_Fin _ _ _ _ _ _ _ (s₁.setTop (mkF m 51 #[.val (.long q1), .second, .val (.long (-q1)), .second, .val (.int (5 : Int32)), .val (.long (-100000 : Int64)), .second] [(.int (5 : Int32))]))
              have hv : own_F1 q1 = (5 : Int32) := by unfold own_F1; rw [if_neg hc3_1, if_neg hc32_20, if_neg hc32_21, if_neg hc32_22, if_neg hc32_23, if_pos hc32_24]
              exact own_retI X0 hx Bd.notSynchronized Bd.returns (hb hby d1_51) (by decide) (by decide) ⟨congrArg (fun z => some (Value.int z)) hv.symm, N0, e0⟩
            · refine own_st (fun t k => XS.ifNo X0.here hx rfl (hb hby d1_32) rfl (own_gtF hc32_24).1 k) ?_
              show own_Fin _ _ _ _ _ _ _ (s₁.setTop (mkF m 35 #[.val (.long q1), .second, .val (.long (-q1)), .second, .val (.int (5 : Int32)), .val (.long (-100000 : Int64)), .second] []))
              refine own_st (fun t k => XS.iinc X0.here hx rfl (hb hby d1_35) rfl (l' := #[.val (.long q1), .second, .val (.long (-q1)), .second, .val (.int (6 : Int32)), .val (.long (-100000 : Int64)), .second]) rfl k) ?_
              show own_Fin _ _ _ _ _ _ _ (s₁.setTop (mkF m 38 #[.val (.long q1), .second, .val (.long (-q1)), .second, .val (.int (6 : Int32)), .val (.long (-100000 : Int64)), .second] []))
              refine own_st (fun t k => XS.lload X0.here hx rfl (hb hby d1_38) rfl k) ?_
              show own_Fin _ _ _ _ _ _ _ (s₁.setTop (mkF m 40 #[.val (.long q1), .second, .val (.long (-q1)), .second, .val (.int (6 : Int32)), .val (.long (-100000 : Int64)), .second] [(.long (-100000 : Int64))]))
              refine own_st (X0.ldc2Long hx hown (mvT hZ (hw _ (List.mem_of_getElem? (i := 25) rfl))) (g := (mkF m 40 #[.val (.long q1), .second, .val (.long (-q1)), .second, .val (.int (6 : Int32)), .val (.long (-100000 : Int64)), .second] [(.long (-100000 : Int64))])) rfl (hb hby d1_40)) ?_
              show own_Fin _ _ _ _ _ _ _ (s₁.setTop (mkF m 43 #[.val (.long q1), .second, .val (.long (-q1)), .second, .val (.int (6 : Int32)), .val (.long (-100000 : Int64)), .second] [(.long (10 : Int64)), (.long (-100000 : Int64))]))
              refine own_st (fun t k => XS.lmul X0.here hx rfl (hb hby d1_43) rfl k) ?_
              show own_Fin _ _ _ _ _ _ _ (s₁.setTop (mkF m 44 #[.val (.long q1), .second, .val (.long (-q1)), .second, .val (.int (6 : Int32)), .val (.long (-100000 : Int64)), .second] [(.long (-1000000 : Int64))]))
              refine own_st (fun t k => XS.lstore X0.here hx rfl (hb hby d1_44) rfl (l' := #[.val (.long q1), .second, .val (.long (-q1)), .second, .val (.int (6 : Int32)), .val (.long (-1000000 : Int64)), .second]) rfl k) ?_
              show own_Fin _ _ _ _ _ _ _ (s₁.setTop (mkF m 46 #[.val (.long q1), .second, .val (.long (-q1)), .second, .val (.int (6 : Int32)), .val (.long (-1000000 : Int64)), .second] []))
              refine own_st (fun t k => XS.goto X0.here hx rfl (pc0 := 46) (pc' := 21) rfl (hb hby d1_46) (by decide) (by decide) k) ?_
              show own_Fin _ _ _ _ _ _ _ (s₁.setTop (mkF m 21 #[.val (.long q1), .second, .val (.long (-q1)), .second, .val (.int (6 : Int32)), .val (.long (-1000000 : Int64)), .second] []))
              refine own_st (fun t k => XS.iload X0.here hx rfl (hb hby d1_21) rfl k) ?_
              show own_Fin _ _ _ _ _ _ _ (s₁.setTop (mkF m 23 #[.val (.long q1), .second, .val (.long (-q1)), .second, .val (.int (6 : Int32)), .val (.long (-1000000 : Int64)), .second] [(.int (6 : Int32))]))
              refine own_st (fun t k => XS.bipush X0.here hx rfl (hb hby d1_23) k) ?_
              show own_Fin _ _ _ _ _ _ _ (s₁.setTop (mkF m 25 #[.val (.long q1), .second, .val (.long (-q1)), .second, .val (.int (6 : Int32)), .val (.long (-1000000 : Int64)), .second] [(.int (19 : Int32)), (.int (6 : Int32))]))
              refine own_st (fun t k => XS.icmpNo X0.here hx rfl (hb hby d1_25) rfl (tlt (by decide : (6 : Int32) < (19 : Int32))).2.1 k) ?_
              show own_Fin _ _ _ _ _ _ _ (s₁.setTop (mkF m 28 #[.val (.long q1), .second, .val (.long (-q1)), .second, .val (.int (6 : Int32)), .val (.long (-1000000 : Int64)), .second] []))
              refine own_st (fun t k => XS.lloadN X0.here hx rfl (hb hby d1_28) rfl k) ?_
              show own_Fin _ _ _ _ _ _ _ (s₁.setTop (mkF m 29 #[.val (.long q1), .second, .val (.long (-q1)), .second, .val (.int (6 : Int32)), .val (.long (-1000000 : Int64)), .second] [(.long (-q1))]))
              refine own_st (fun t k => XS.lload X0.here hx rfl (hb hby d1_29) rfl k) ?_
              show own_Fin _ _ _ _ _ _ _ (s₁.setTop (mkF m 31 #[.val (.long q1), .second, .val (.long (-q1)), .second, .val (.int (6 : Int32)), .val (.long (-1000000 : Int64)), .second] [(.long (-1000000 : Int64)), (.long (-q1))]))
              refine own_st (fun t k => XS.lcmp X0.here hx rfl (hb hby d1_31) rfl k) ?_
              show own_Fin _ _ _ _ _ _ _ (s₁.setTop (mkF m 32 #[.val (.long q1), .second, .val (.long (-q1)), .second, .val (.int (6 : Int32)), .val (.long (-1000000 : Int64)), .second] [(.int (lcmpW (-q1) (-1000000 : Int64)))]))
              by_cases hc32_25 : (-1000000 : Int64) < (-q1)
              · refine own_st (fun t k => XS.ifYes X0.here hx rfl (pc0 := 32) (pc' := 49) rfl (hb hby d1_32) rfl (own_gtT hc32_25).1 (by decide) (by decide) k) ?_
                show own_Fin _ _ _ _ _ _ _ (s₁.setTop (mkF m 49 #[.val (.long q1), .second, .val (.long (-q1)), .second, .val (.int (6 : Int32)), .val (.long (-1000000 : Int64)), .second] []))
                refine own_st (fun t k => XS.iload X0.here hx rfl (hb hby d1_49) rfl k) ?_
                show own_Fin _ _ _ _ _ _ _ (s₁.setTop (mkF m 51 #[.val (.long q1), .second, .val (.long (-q1)), .second, .val (.int (6 : Int32)), .val (.long (-1000000 : Int64)), .second] [(.int (6 : Int32))]))
                have hv : own_F1 q1 = (6 : Int32) := by unfold own_F1; rw [if_neg hc3_1, if_neg hc32_20, if_neg hc32_21, if_neg hc32_22, if_neg hc32_23, if_neg hc32_24, if_pos hc32_25]
                exact own_retI X0 hx Bd.notSynchronized Bd.returns (hb hby d1_51) (by decide) (by decide) ⟨congrArg (fun z => some (Value.int z)) hv.symm, N0, e0⟩
              · refine own_st (fun t k => XS.ifNo X0.here hx rfl (hb hby d1_32) rfl (own_gtF hc32_25).1 k) ?_
                show own_Fin _ _ _ _ _ _ _ (s₁.setTop (mkF m 35 #[.val (.long q1), .second, .val (.long (-q1)), .second, .val (.int (6 : Int32)), .val (.long (-1000000 : Int64)), .second] []))
                refine own_st (fun t k => XS.iinc X0.here hx rfl (hb hby d1_35) rfl (l' := #[.val (.long q1), .second, .val (.long (-q1)), .second, .val (.int (7 : Int32)), .val (.long (-1000000 : Int64)), .second]) rfl k) ?_
                show own_Fin _ _ _ _ _ _ _ (s₁.setTop (mkF m 38 #[.val (.long q1), .second, .val (.long (-q1)), .second, .val (.int (7 : Int32)), .val (.long (-1000000 : Int64)), .second] []))
                refine own_st (fun t k => XS.lload X0.here hx rfl (hb hby d1_38) rfl k) ?_
                show own_Fin _ _ _ _ _ _ _ (s₁.setTop (mkF m 40 #[.val (.long q1), .second, .val (.long (-q1)), .second, .val (.int (7 : Int32)), .val (.long (-1000000 : Int64)), .second] [(.long (-1000000 : Int64))]))
                refine own_st (X0.ldc2Long hx hown (mvT hZ (hw _ (List.mem_of_getElem? (i := 25) rfl))) (g := (mkF m 40 #[.val (.long q1), .second, .val (.long (-q1)), .second, .val (.int (7 : Int32)), .val (.long (-1000000 : Int64)), .second] [(.long (-1000000 : Int64))])) rfl (hb hby d1_40)) ?_
                show own_Fin _ _ _ _ _ _ _ (s₁.setTop (mkF m 43 #[.val (.long q1), .second, .val (.long (-q1)), .second, .val (.int (7 : Int32)), .val (.long (-1000000 : Int64)), .second] [(.long (10 : Int64)), (.long (-1000000 : Int64))]))
                refine own_st (fun t k => XS.lmul X0.here hx rfl (hb hby d1_43) rfl k) ?_
                show own_Fin _ _ _ _ _ _ _ (s₁.setTop (mkF m 44 #[.val (.long q1), .second, .val (.long (-q1)), .second, .val (.int (7 : Int32)), .val (.long (-1000000 : Int64)), .second] [(.long (-10000000 : Int64))]))
                refine own_st (fun t k => XS.lstore X0.here hx rfl (hb hby d1_44) rfl (l' := #[.val (.long q1), .second, .val (.long (-q1)), .second, .val (.int (7 : Int32)), .val (.long (-10000000 : Int64)), .second]) rfl k) ?_
                show own_Fin _ _ _ _ _ _ _ (s₁.setTop (mkF m 46 #[.val (.long q1), .second, .val (.long (-q1)), .second, .val (.int (7 : Int32)), .val (.long (-10000000 : Int64)), .second] []))
                refine own_st (fun t k => XS.goto X0.here hx rfl (pc0 := 46) (pc' := 21) rfl (hb hby d1_46) (by decide) (by decide) k) ?_
                show own_Fin _ _ _ _ _ _ _ (s₁.setTop (mkF m 21 #[.val (.long q1), .second, .val (.long (-q1)), .second, .val (.int (7 : Int32)), .val (.long (-10000000 : Int64)), .second] []))
                refine own_st (fun t k => XS.iload X0.here hx rfl (hb hby d1_21) rfl k) ?_
                show own_Fin _ _ _ _ _ _ _ (s₁.setTop (mkF m 23 #[.val (.long q1), .second, .val (.long (-q1)), .second, .val (.int (7 : Int32)), .val (.long (-10000000 : Int64)), .second] [(.int (7 : Int32))]))
                refine own_st (fun t k => XS.bipush X0.here hx rfl (hb hby d1_23) k) ?_
                show own_Fin _ _ _ _ _ _ _ (s₁.setTop (mkF m 25 #[.val (.long q1), .second, .val (.long (-q1)), .second, .val (.int (7 : Int32)), .val (.long (-10000000 : Int64)), .second] [(.int (19 : Int32)), (.int (7 : Int32))]))
                refine own_st (fun t k => XS.icmpNo X0.here hx rfl (hb hby d1_25) rfl (tlt (by decide : (7 : Int32) < (19 : Int32))).2.1 k) ?_
                show own_Fin _ _ _ _ _ _ _ (s₁.setTop (mkF m 28 #[.val (.long q1), .second, .val (.long (-q1)), .second, .val (.int (7 : Int32)), .val (.long (-10000000 : Int64)), .second] []))
                refine own_st (fun t k => XS.lloadN X0.here hx rfl (hb hby d1_28) rfl k) ?_
                show own_Fin _ _ _ _ _ _ _ (s₁.setTop (mkF m 29 #[.val (.long q1), .second, .val (.long (-q1)), .second, .val (.int (7 : Int32)), .val (.long (-10000000 : Int64)), .second] [(.long (-q1))]))
                refine own_st (fun t k => XS.lload X0.here hx rfl (hb hby d1_29) rfl k) ?_
                show own_Fin _ _ _ _ _ _ _ (s₁.setTop (mkF m 31 #[.val (.long q1), .second, .val (.long (-q1)), .second, .val (.int (7 : Int32)), .val (.long (-10000000 : Int64)), .second] [(.long (-10000000 : Int64)), (.long (-q1))]))
                refine own_st (fun t k => XS.lcmp X0.here hx rfl (hb hby d1_31) rfl k) ?_
                show own_Fin _ _ _ _ _ _ _ (s₁.setTop (mkF m 32 #[.val (.long q1), .second, .val (.long (-q1)), .second, .val (.int (7 : Int32)), .val (.long (-10000000 : Int64)), .second] [(.int (lcmpW (-q1) (-10000000 : Int64)))]))
                by_cases hc32_26 : (-10000000 : Int64) < (-q1)
                · refine own_st (fun t k => XS.ifYes X0.here hx rfl (pc0 := 32) (pc' := 49) rfl (hb hby d1_32) rfl (own_gtT hc32_26).1 (by decide) (by decide) k) ?_
                  show own_Fin _ _ _ _ _ _ _ (s₁.setTop (mkF m 49 #[.val (.long q1), .second, .val (.long (-q1)), .second, .val (.int (7 : Int32)), .val (.long (-10000000 : Int64)), .second] []))
                  refine own_st (fun t k => XS.iload X0.here hx rfl (hb hby d1_49) rfl k) ?_
                  show own_Fin _ _ _ _ _ _ _ (s₁.setTop (mkF m 51 #[.val (.long q1), .second, .val (.long (-q1)), .second, .val (.int (7 : Int32)), .val (.long (-10000000 : Int64)), .second] [(.int (7 : Int32))]))
                  have hv : own_F1 q1 = (7 : Int32) := by unfold own_F1; rw [if_neg hc3_1, if_neg hc32_20, if_neg hc32_21, if_neg hc32_22, if_neg hc32_23, if_neg hc32_24, if_neg hc32_25, if_pos hc32_26]
                  exact own_retI X0 hx Bd.notSynchronized Bd.returns (hb hby d1_51) (by decide) (by decide) ⟨congrArg (fun z => some (Value.int z)) hv.symm, N0, e0⟩
                · refine own_st (fun t k => XS.ifNo X0.here hx rfl (hb hby d1_32) rfl (own_gtF hc32_26).1 k) ?_
                  show own_Fin _ _ _ _ _ _ _ (s₁.setTop (mkF m 35 #[.val (.long q1), .second, .val (.long (-q1)), .second, .val (.int (7 : Int32)), .val (.long (-10000000 : Int64)), .second] []))
                  refine own_st (fun t k => XS.iinc X0.here hx rfl (hb hby d1_35) rfl (l' := #[.val (.long q1), .second, .val (.long (-q1)), .second, .val (.int (8 : Int32)), .val (.long (-10000000 : Int64)), .second]) rfl k) ?_
                  show own_Fin _ _ _ _ _ _ _ (s₁.setTop (mkF m 38 #[.val (.long q1), .second, .val (.long (-q1)), .second, .val (.int (8 : Int32)), .val (.long (-10000000 : Int64)), .second] []))
                  refine own_st (fun t k => XS.lload X0.here hx rfl (hb hby d1_38) rfl k) ?_
                  show own_Fin _ _ _ _ _ _ _ (s₁.setTop (mkF m 40 #[.val (.long q1), .second, .val (.long (-q1)), .second, .val (.int (8 : Int32)), .val (.long (-10000000 : Int64)), .second] [(.long (-10000000 : Int64))]))
                  refine own_st (X0.ldc2Long hx hown (mvT hZ (hw _ (List.mem_of_getElem? (i := 25) rfl))) (g := (mkF m 40 #[.val (.long q1), .second, .val (.long (-q1)), .second, .val (.int (8 : Int32)), .val (.long (-10000000 : Int64)), .second] [(.long (-10000000 : Int64))])) rfl (hb hby d1_40)) ?_
                  show own_Fin _ _ _ _ _ _ _ (s₁.setTop (mkF m 43 #[.val (.long q1), .second, .val (.long (-q1)), .second, .val (.int (8 : Int32)), .val (.long (-10000000 : Int64)), .second] [(.long (10 : Int64)), (.long (-10000000 : Int64))]))
                  refine own_st (fun t k => XS.lmul X0.here hx rfl (hb hby d1_43) rfl k) ?_
                  show own_Fin _ _ _ _ _ _ _ (s₁.setTop (mkF m 44 #[.val (.long q1), .second, .val (.long (-q1)), .second, .val (.int (8 : Int32)), .val (.long (-10000000 : Int64)), .second] [(.long (-100000000 : Int64))]))
                  refine own_st (fun t k => XS.lstore X0.here hx rfl (hb hby d1_44) rfl (l' := #[.val (.long q1), .second, .val (.long (-q1)), .second, .val (.int (8 : Int32)), .val (.long (-100000000 : Int64)), .second]) rfl k) ?_
                  show own_Fin _ _ _ _ _ _ _ (s₁.setTop (mkF m 46 #[.val (.long q1), .second, .val (.long (-q1)), .second, .val (.int (8 : Int32)), .val (.long (-100000000 : Int64)), .second] []))
                  refine own_st (fun t k => XS.goto X0.here hx rfl (pc0 := 46) (pc' := 21) rfl (hb hby d1_46) (by decide) (by decide) k) ?_
                  show own_Fin _ _ _ _ _ _ _ (s₁.setTop (mkF m 21 #[.val (.long q1), .second, .val (.long (-q1)), .second, .val (.int (8 : Int32)), .val (.long (-100000000 : Int64)), .second] []))
                  refine own_st (fun t k => XS.iload X0.here hx rfl (hb hby d1_21) rfl k) ?_
                  show own_Fin _ _ _ _ _ _ _ (s₁.setTop (mkF m 23 #[.val (.long q1), .second, .val (.long (-q1)), .second, .val (.int (8 : Int32)), .val (.long (-100000000 : Int64)), .second] [(.int (8 : Int32))]))
                  refine own_st (fun t k => XS.bipush X0.here hx rfl (hb hby d1_23) k) ?_
                  show own_Fin _ _ _ _ _ _ _ (s₁.setTop (mkF m 25 #[.val (.long q1), .second, .val (.long (-q1)), .second, .val (.int (8 : Int32)), .val (.long (-100000000 : Int64)), .second] [(.int (19 : Int32)), (.int (8 : Int32))]))
                  refine own_st (fun t k => XS.icmpNo X0.here hx rfl (hb hby d1_25) rfl (tlt (by decide : (8 : Int32) < (19 : Int32))).2.1 k) ?_
                  show own_Fin _ _ _ _ _ _ _ (s₁.setTop (mkF m 28 #[.val (.long q1), .second, .val (.long (-q1)), .second, .val (.int (8 : Int32)), .val (.long (-100000000 : Int64)), .second] []))
                  refine own_st (fun t k => XS.lloadN X0.here hx rfl (hb hby d1_28) rfl k) ?_
                  show own_Fin _ _ _ _ _ _ _ (s₁.setTop (mkF m 29 #[.val (.long q1), .second, .val (.long (-q1)), .second, .val (.int (8 : Int32)), .val (.long (-100000000 : Int64)), .second] [(.long (-q1))]))
                  refine own_st (fun t k => XS.lload X0.here hx rfl (hb hby d1_29) rfl k) ?_
                  show own_Fin _ _ _ _ _ _ _ (s₁.setTop (mkF m 31 #[.val (.long q1), .second, .val (.long (-q1)), .second, .val (.int (8 : Int32)), .val (.long (-100000000 : Int64)), .second] [(.long (-100000000 : Int64)), (.long (-q1))]))
                  refine own_st (fun t k => XS.lcmp X0.here hx rfl (hb hby d1_31) rfl k) ?_
                  show own_Fin _ _ _ _ _ _ _ (s₁.setTop (mkF m 32 #[.val (.long q1), .second, .val (.long (-q1)), .second, .val (.int (8 : Int32)), .val (.long (-100000000 : Int64)), .second] [(.int (lcmpW (-q1) (-100000000 : Int64)))]))
                  by_cases hc32_27 : (-100000000 : Int64) < (-q1)
                  · refine own_st (fun t k => XS.ifYes X0.here hx rfl (pc0 := 32) (pc' := 49) rfl (hb hby d1_32) rfl (own_gtT hc32_27).1 (by decide) (by decide) k) ?_
                    show own_Fin _ _ _ _ _ _ _ (s₁.setTop (mkF m 49 #[.val (.long q1), .second, .val (.long (-q1)), .second, .val (.int (8 : Int32)), .val (.long (-100000000 : Int64)), .second] []))
                    refine own_st (fun t k => XS.iload X0.here hx rfl (hb hby d1_49) rfl k) ?_
                    show own_Fin _ _ _ _ _ _ _ (s₁.setTop (mkF m 51 #[.val (.long q1), .second, .val (.long (-q1)), .second, .val (.int (8 : Int32)), .val (.long (-100000000 : Int64)), .second] [(.int (8 : Int32))]))
                    have hv : own_F1 q1 = (8 : Int32) := by unfold own_F1; rw [if_neg hc3_1, if_neg hc32_20, if_neg hc32_21, if_neg hc32_22, if_neg hc32_23, if_neg hc32_24, if_neg hc32_25, if_neg hc32_26, if_pos hc32_27]
                    exact own_retI X0 hx Bd.notSynchronized Bd.returns (hb hby d1_51) (by decide) (by decide) ⟨congrArg (fun z => some (Value.int z)) hv.symm, N0, e0⟩
                  · refine own_st (fun t k => XS.ifNo X0.here hx rfl (hb hby d1_32) rfl (own_gtF hc32_27).1 k) ?_
                    show own_Fin _ _ _ _ _ _ _ (s₁.setTop (mkF m 35 #[.val (.long q1), .second, .val (.long (-q1)), .second, .val (.int (8 : Int32)), .val (.long (-100000000 : Int64)), .second] []))
                    refine own_st (fun t k => XS.iinc X0.here hx rfl (hb hby d1_35) rfl (l' := #[.val (.long q1), .second, .val (.long (-q1)), .second, .val (.int (9 : Int32)), .val (.long (-100000000 : Int64)), .second]) rfl k) ?_
                    show own_Fin _ _ _ _ _ _ _ (s₁.setTop (mkF m 38 #[.val (.long q1), .second, .val (.long (-q1)), .second, .val (.int (9 : Int32)), .val (.long (-100000000 : Int64)), .second] []))
                    refine own_st (fun t k => XS.lload X0.here hx rfl (hb hby d1_38) rfl k) ?_
                    show own_Fin _ _ _ _ _ _ _ (s₁.setTop (mkF m 40 #[.val (.long q1), .second, .val (.long (-q1)), .second, .val (.int (9 : Int32)), .val (.long (-100000000 : Int64)), .second] [(.long (-100000000 : Int64))]))
                    refine own_st (X0.ldc2Long hx hown (mvT hZ (hw _ (List.mem_of_getElem? (i := 25) rfl))) (g := (mkF m 40 #[.val (.long q1), .second, .val (.long (-q1)), .second, .val (.int (9 : Int32)), .val (.long (-100000000 : Int64)), .second] [(.long (-100000000 : Int64))])) rfl (hb hby d1_40)) ?_
                    show own_Fin _ _ _ _ _ _ _ (s₁.setTop (mkF m 43 #[.val (.long q1), .second, .val (.long (-q1)), .second, .val (.int (9 : Int32)), .val (.long (-100000000 : Int64)), .second] [(.long (10 : Int64)), (.long (-100000000 : Int64))]))
                    refine own_st (fun t k => XS.lmul X0.here hx rfl (hb hby d1_43) rfl k) ?_
                    show own_Fin _ _ _ _ _ _ _ (s₁.setTop (mkF m 44 #[.val (.long q1), .second, .val (.long (-q1)), .second, .val (.int (9 : Int32)), .val (.long (-100000000 : Int64)), .second] [(.long (-1000000000 : Int64))]))
                    refine own_st (fun t k => XS.lstore X0.here hx rfl (hb hby d1_44) rfl (l' := #[.val (.long q1), .second, .val (.long (-q1)), .second, .val (.int (9 : Int32)), .val (.long (-1000000000 : Int64)), .second]) rfl k) ?_
                    show own_Fin _ _ _ _ _ _ _ (s₁.setTop (mkF m 46 #[.val (.long q1), .second, .val (.long (-q1)), .second, .val (.int (9 : Int32)), .val (.long (-1000000000 : Int64)), .second] []))
                    refine own_st (fun t k => XS.goto X0.here hx rfl (pc0 := 46) (pc' := 21) rfl (hb hby d1_46) (by decide) (by decide) k) ?_
                    show own_Fin _ _ _ _ _ _ _ (s₁.setTop (mkF m 21 #[.val (.long q1), .second, .val (.long (-q1)), .second, .val (.int (9 : Int32)), .val (.long (-1000000000 : Int64)), .second] []))
                    refine own_st (fun t k => XS.iload X0.here hx rfl (hb hby d1_21) rfl k) ?_
                    show own_Fin _ _ _ _ _ _ _ (s₁.setTop (mkF m 23 #[.val (.long q1), .second, .val (.long (-q1)), .second, .val (.int (9 : Int32)), .val (.long (-1000000000 : Int64)), .second] [(.int (9 : Int32))]))
                    refine own_st (fun t k => XS.bipush X0.here hx rfl (hb hby d1_23) k) ?_
                    show own_Fin _ _ _ _ _ _ _ (s₁.setTop (mkF m 25 #[.val (.long q1), .second, .val (.long (-q1)), .second, .val (.int (9 : Int32)), .val (.long (-1000000000 : Int64)), .second] [(.int (19 : Int32)), (.int (9 : Int32))]))
                    refine own_st (fun t k => XS.icmpNo X0.here hx rfl (hb hby d1_25) rfl (tlt (by decide : (9 : Int32) < (19 : Int32))).2.1 k) ?_
                    show own_Fin _ _ _ _ _ _ _ (s₁.setTop (mkF m 28 #[.val (.long q1), .second, .val (.long (-q1)), .second, .val (.int (9 : Int32)), .val (.long (-1000000000 : Int64)), .second] []))
                    refine own_st (fun t k => XS.lloadN X0.here hx rfl (hb hby d1_28) rfl k) ?_
                    show own_Fin _ _ _ _ _ _ _ (s₁.setTop (mkF m 29 #[.val (.long q1), .second, .val (.long (-q1)), .second, .val (.int (9 : Int32)), .val (.long (-1000000000 : Int64)), .second] [(.long (-q1))]))
                    refine own_st (fun t k => XS.lload X0.here hx rfl (hb hby d1_29) rfl k) ?_
                    show own_Fin _ _ _ _ _ _ _ (s₁.setTop (mkF m 31 #[.val (.long q1), .second, .val (.long (-q1)), .second, .val (.int (9 : Int32)), .val (.long (-1000000000 : Int64)), .second] [(.long (-1000000000 : Int64)), (.long (-q1))]))
                    refine own_st (fun t k => XS.lcmp X0.here hx rfl (hb hby d1_31) rfl k) ?_
                    show own_Fin _ _ _ _ _ _ _ (s₁.setTop (mkF m 32 #[.val (.long q1), .second, .val (.long (-q1)), .second, .val (.int (9 : Int32)), .val (.long (-1000000000 : Int64)), .second] [(.int (lcmpW (-q1) (-1000000000 : Int64)))]))
                    by_cases hc32_28 : (-1000000000 : Int64) < (-q1)
                    · refine own_st (fun t k => XS.ifYes X0.here hx rfl (pc0 := 32) (pc' := 49) rfl (hb hby d1_32) rfl (own_gtT hc32_28).1 (by decide) (by decide) k) ?_
                      show own_Fin _ _ _ _ _ _ _ (s₁.setTop (mkF m 49 #[.val (.long q1), .second, .val (.long (-q1)), .second, .val (.int (9 : Int32)), .val (.long (-1000000000 : Int64)), .second] []))
                      refine own_st (fun t k => XS.iload X0.here hx rfl (hb hby d1_49) rfl k) ?_
                      show own_Fin _ _ _ _ _ _ _ (s₁.setTop (mkF m 51 #[.val (.long q1), .second, .val (.long (-q1)), .second, .val (.int (9 : Int32)), .val (.long (-1000000000 : Int64)), .second] [(.int (9 : Int32))]))
                      have hv : own_F1 q1 = (9 : Int32) := by unfold own_F1; rw [if_neg hc3_1, if_neg hc32_20, if_neg hc32_21, if_neg hc32_22, if_neg hc32_23, if_neg hc32_24, if_neg hc32_25, if_neg hc32_26, if_neg hc32_27, if_pos hc32_28]
                      exact own_retI X0 hx Bd.notSynchronized Bd.returns (hb hby d1_51) (by decide) (by decide) ⟨congrArg (fun z => some (Value.int z)) hv.symm, N0, e0⟩
                    · refine own_st (fun t k => XS.ifNo X0.here hx rfl (hb hby d1_32) rfl (own_gtF hc32_28).1 k) ?_
                      show own_Fin _ _ _ _ _ _ _ (s₁.setTop (mkF m 35 #[.val (.long q1), .second, .val (.long (-q1)), .second, .val (.int (9 : Int32)), .val (.long (-1000000000 : Int64)), .second] []))
                      refine own_st (fun t k => XS.iinc X0.here hx rfl (hb hby d1_35) rfl (l' := #[.val (.long q1), .second, .val (.long (-q1)), .second, .val (.int (10 : Int32)), .val (.long (-1000000000 : Int64)), .second]) rfl k) ?_
                      show own_Fin _ _ _ _ _ _ _ (s₁.setTop (mkF m 38 #[.val (.long q1), .second, .val (.long (-q1)), .second, .val (.int (10 : Int32)), .val (.long (-1000000000 : Int64)), .second] []))
                      refine own_st (fun t k => XS.lload X0.here hx rfl (hb hby d1_38) rfl k) ?_
                      show own_Fin _ _ _ _ _ _ _ (s₁.setTop (mkF m 40 #[.val (.long q1), .second, .val (.long (-q1)), .second, .val (.int (10 : Int32)), .val (.long (-1000000000 : Int64)), .second] [(.long (-1000000000 : Int64))]))
                      refine own_st (X0.ldc2Long hx hown (mvT hZ (hw _ (List.mem_of_getElem? (i := 25) rfl))) (g := (mkF m 40 #[.val (.long q1), .second, .val (.long (-q1)), .second, .val (.int (10 : Int32)), .val (.long (-1000000000 : Int64)), .second] [(.long (-1000000000 : Int64))])) rfl (hb hby d1_40)) ?_
                      show own_Fin _ _ _ _ _ _ _ (s₁.setTop (mkF m 43 #[.val (.long q1), .second, .val (.long (-q1)), .second, .val (.int (10 : Int32)), .val (.long (-1000000000 : Int64)), .second] [(.long (10 : Int64)), (.long (-1000000000 : Int64))]))
                      refine own_st (fun t k => XS.lmul X0.here hx rfl (hb hby d1_43) rfl k) ?_
                      show own_Fin _ _ _ _ _ _ _ (s₁.setTop (mkF m 44 #[.val (.long q1), .second, .val (.long (-q1)), .second, .val (.int (10 : Int32)), .val (.long (-1000000000 : Int64)), .second] [(.long (-10000000000 : Int64))]))
                      refine own_st (fun t k => XS.lstore X0.here hx rfl (hb hby d1_44) rfl (l' := #[.val (.long q1), .second, .val (.long (-q1)), .second, .val (.int (10 : Int32)), .val (.long (-10000000000 : Int64)), .second]) rfl k) ?_
                      show own_Fin _ _ _ _ _ _ _ (s₁.setTop (mkF m 46 #[.val (.long q1), .second, .val (.long (-q1)), .second, .val (.int (10 : Int32)), .val (.long (-10000000000 : Int64)), .second] []))
                      refine own_st (fun t k => XS.goto X0.here hx rfl (pc0 := 46) (pc' := 21) rfl (hb hby d1_46) (by decide) (by decide) k) ?_
                      show own_Fin _ _ _ _ _ _ _ (s₁.setTop (mkF m 21 #[.val (.long q1), .second, .val (.long (-q1)), .second, .val (.int (10 : Int32)), .val (.long (-10000000000 : Int64)), .second] []))
                      refine own_st (fun t k => XS.iload X0.here hx rfl (hb hby d1_21) rfl k) ?_
                      show own_Fin _ _ _ _ _ _ _ (s₁.setTop (mkF m 23 #[.val (.long q1), .second, .val (.long (-q1)), .second, .val (.int (10 : Int32)), .val (.long (-10000000000 : Int64)), .second] [(.int (10 : Int32))]))
                      refine own_st (fun t k => XS.bipush X0.here hx rfl (hb hby d1_23) k) ?_
                      show own_Fin _ _ _ _ _ _ _ (s₁.setTop (mkF m 25 #[.val (.long q1), .second, .val (.long (-q1)), .second, .val (.int (10 : Int32)), .val (.long (-10000000000 : Int64)), .second] [(.int (19 : Int32)), (.int (10 : Int32))]))
                      refine own_st (fun t k => XS.icmpNo X0.here hx rfl (hb hby d1_25) rfl (tlt (by decide : (10 : Int32) < (19 : Int32))).2.1 k) ?_
                      show own_Fin _ _ _ _ _ _ _ (s₁.setTop (mkF m 28 #[.val (.long q1), .second, .val (.long (-q1)), .second, .val (.int (10 : Int32)), .val (.long (-10000000000 : Int64)), .second] []))
                      refine own_st (fun t k => XS.lloadN X0.here hx rfl (hb hby d1_28) rfl k) ?_
                      show own_Fin _ _ _ _ _ _ _ (s₁.setTop (mkF m 29 #[.val (.long q1), .second, .val (.long (-q1)), .second, .val (.int (10 : Int32)), .val (.long (-10000000000 : Int64)), .second] [(.long (-q1))]))
                      refine own_st (fun t k => XS.lload X0.here hx rfl (hb hby d1_29) rfl k) ?_
                      show own_Fin _ _ _ _ _ _ _ (s₁.setTop (mkF m 31 #[.val (.long q1), .second, .val (.long (-q1)), .second, .val (.int (10 : Int32)), .val (.long (-10000000000 : Int64)), .second] [(.long (-10000000000 : Int64)), (.long (-q1))]))
                      refine own_st (fun t k => XS.lcmp X0.here hx rfl (hb hby d1_31) rfl k) ?_
                      show own_Fin _ _ _ _ _ _ _ (s₁.setTop (mkF m 32 #[.val (.long q1), .second, .val (.long (-q1)), .second, .val (.int (10 : Int32)), .val (.long (-10000000000 : Int64)), .second] [(.int (lcmpW (-q1) (-10000000000 : Int64)))]))
                      by_cases hc32_29 : (-10000000000 : Int64) < (-q1)
                      · refine own_st (fun t k => XS.ifYes X0.here hx rfl (pc0 := 32) (pc' := 49) rfl (hb hby d1_32) rfl (own_gtT hc32_29).1 (by decide) (by decide) k) ?_
                        show own_Fin _ _ _ _ _ _ _ (s₁.setTop (mkF m 49 #[.val (.long q1), .second, .val (.long (-q1)), .second, .val (.int (10 : Int32)), .val (.long (-10000000000 : Int64)), .second] []))
                        refine own_st (fun t k => XS.iload X0.here hx rfl (hb hby d1_49) rfl k) ?_
                        show own_Fin _ _ _ _ _ _ _ (s₁.setTop (mkF m 51 #[.val (.long q1), .second, .val (.long (-q1)), .second, .val (.int (10 : Int32)), .val (.long (-10000000000 : Int64)), .second] [(.int (10 : Int32))]))
                        have hv : own_F1 q1 = (10 : Int32) := by unfold own_F1; rw [if_neg hc3_1, if_neg hc32_20, if_neg hc32_21, if_neg hc32_22, if_neg hc32_23, if_neg hc32_24, if_neg hc32_25, if_neg hc32_26, if_neg hc32_27, if_neg hc32_28, if_pos hc32_29]
                        exact own_retI X0 hx Bd.notSynchronized Bd.returns (hb hby d1_51) (by decide) (by decide) ⟨congrArg (fun z => some (Value.int z)) hv.symm, N0, e0⟩
                      · refine own_st (fun t k => XS.ifNo X0.here hx rfl (hb hby d1_32) rfl (own_gtF hc32_29).1 k) ?_
                        show own_Fin _ _ _ _ _ _ _ (s₁.setTop (mkF m 35 #[.val (.long q1), .second, .val (.long (-q1)), .second, .val (.int (10 : Int32)), .val (.long (-10000000000 : Int64)), .second] []))
                        refine own_st (fun t k => XS.iinc X0.here hx rfl (hb hby d1_35) rfl (l' := #[.val (.long q1), .second, .val (.long (-q1)), .second, .val (.int (11 : Int32)), .val (.long (-10000000000 : Int64)), .second]) rfl k) ?_
                        show own_Fin _ _ _ _ _ _ _ (s₁.setTop (mkF m 38 #[.val (.long q1), .second, .val (.long (-q1)), .second, .val (.int (11 : Int32)), .val (.long (-10000000000 : Int64)), .second] []))
                        refine own_st (fun t k => XS.lload X0.here hx rfl (hb hby d1_38) rfl k) ?_
                        show own_Fin _ _ _ _ _ _ _ (s₁.setTop (mkF m 40 #[.val (.long q1), .second, .val (.long (-q1)), .second, .val (.int (11 : Int32)), .val (.long (-10000000000 : Int64)), .second] [(.long (-10000000000 : Int64))]))
                        refine own_st (X0.ldc2Long hx hown (mvT hZ (hw _ (List.mem_of_getElem? (i := 25) rfl))) (g := (mkF m 40 #[.val (.long q1), .second, .val (.long (-q1)), .second, .val (.int (11 : Int32)), .val (.long (-10000000000 : Int64)), .second] [(.long (-10000000000 : Int64))])) rfl (hb hby d1_40)) ?_
                        show own_Fin _ _ _ _ _ _ _ (s₁.setTop (mkF m 43 #[.val (.long q1), .second, .val (.long (-q1)), .second, .val (.int (11 : Int32)), .val (.long (-10000000000 : Int64)), .second] [(.long (10 : Int64)), (.long (-10000000000 : Int64))]))
                        refine own_st (fun t k => XS.lmul X0.here hx rfl (hb hby d1_43) rfl k) ?_
                        show own_Fin _ _ _ _ _ _ _ (s₁.setTop (mkF m 44 #[.val (.long q1), .second, .val (.long (-q1)), .second, .val (.int (11 : Int32)), .val (.long (-10000000000 : Int64)), .second] [(.long (-100000000000 : Int64))]))
                        refine own_st (fun t k => XS.lstore X0.here hx rfl (hb hby d1_44) rfl (l' := #[.val (.long q1), .second, .val (.long (-q1)), .second, .val (.int (11 : Int32)), .val (.long (-100000000000 : Int64)), .second]) rfl k) ?_
                        show own_Fin _ _ _ _ _ _ _ (s₁.setTop (mkF m 46 #[.val (.long q1), .second, .val (.long (-q1)), .second, .val (.int (11 : Int32)), .val (.long (-100000000000 : Int64)), .second] []))
                        refine own_st (fun t k => XS.goto X0.here hx rfl (pc0 := 46) (pc' := 21) rfl (hb hby d1_46) (by decide) (by decide) k) ?_
                        show own_Fin _ _ _ _ _ _ _ (s₁.setTop (mkF m 21 #[.val (.long q1), .second, .val (.long (-q1)), .second, .val (.int (11 : Int32)), .val (.long (-100000000000 : Int64)), .second] []))
                        refine own_st (fun t k => XS.iload X0.here hx rfl (hb hby d1_21) rfl k) ?_
                        show own_Fin _ _ _ _ _ _ _ (s₁.setTop (mkF m 23 #[.val (.long q1), .second, .val (.long (-q1)), .second, .val (.int (11 : Int32)), .val (.long (-100000000000 : Int64)), .second] [(.int (11 : Int32))]))
                        refine own_st (fun t k => XS.bipush X0.here hx rfl (hb hby d1_23) k) ?_
                        show own_Fin _ _ _ _ _ _ _ (s₁.setTop (mkF m 25 #[.val (.long q1), .second, .val (.long (-q1)), .second, .val (.int (11 : Int32)), .val (.long (-100000000000 : Int64)), .second] [(.int (19 : Int32)), (.int (11 : Int32))]))
                        refine own_st (fun t k => XS.icmpNo X0.here hx rfl (hb hby d1_25) rfl (tlt (by decide : (11 : Int32) < (19 : Int32))).2.1 k) ?_
                        show own_Fin _ _ _ _ _ _ _ (s₁.setTop (mkF m 28 #[.val (.long q1), .second, .val (.long (-q1)), .second, .val (.int (11 : Int32)), .val (.long (-100000000000 : Int64)), .second] []))
                        refine own_st (fun t k => XS.lloadN X0.here hx rfl (hb hby d1_28) rfl k) ?_
                        show own_Fin _ _ _ _ _ _ _ (s₁.setTop (mkF m 29 #[.val (.long q1), .second, .val (.long (-q1)), .second, .val (.int (11 : Int32)), .val (.long (-100000000000 : Int64)), .second] [(.long (-q1))]))
                        refine own_st (fun t k => XS.lload X0.here hx rfl (hb hby d1_29) rfl k) ?_
                        show own_Fin _ _ _ _ _ _ _ (s₁.setTop (mkF m 31 #[.val (.long q1), .second, .val (.long (-q1)), .second, .val (.int (11 : Int32)), .val (.long (-100000000000 : Int64)), .second] [(.long (-100000000000 : Int64)), (.long (-q1))]))
                        refine own_st (fun t k => XS.lcmp X0.here hx rfl (hb hby d1_31) rfl k) ?_
                        show own_Fin _ _ _ _ _ _ _ (s₁.setTop (mkF m 32 #[.val (.long q1), .second, .val (.long (-q1)), .second, .val (.int (11 : Int32)), .val (.long (-100000000000 : Int64)), .second] [(.int (lcmpW (-q1) (-100000000000 : Int64)))]))
                        by_cases hc32_30 : (-100000000000 : Int64) < (-q1)
                        · refine own_st (fun t k => XS.ifYes X0.here hx rfl (pc0 := 32) (pc' := 49) rfl (hb hby d1_32) rfl (own_gtT hc32_30).1 (by decide) (by decide) k) ?_
                          show own_Fin _ _ _ _ _ _ _ (s₁.setTop (mkF m 49 #[.val (.long q1), .second, .val (.long (-q1)), .second, .val (.int (11 : Int32)), .val (.long (-100000000000 : Int64)), .second] []))
                          refine own_st (fun t k => XS.iload X0.here hx rfl (hb hby d1_49) rfl k) ?_
                          show own_Fin _ _ _ _ _ _ _ (s₁.setTop (mkF m 51 #[.val (.long q1), .second, .val (.long (-q1)), .second, .val (.int (11 : Int32)), .val (.long (-100000000000 : Int64)), .second] [(.int (11 : Int32))]))
                          have hv : own_F1 q1 = (11 : Int32) := by unfold own_F1; rw [if_neg hc3_1, if_neg hc32_20, if_neg hc32_21, if_neg hc32_22, if_neg hc32_23, if_neg hc32_24, if_neg hc32_25, if_neg hc32_26, if_neg hc32_27, if_neg hc32_28, if_neg hc32_29, if_pos hc32_30]
                          exact own_retI X0 hx Bd.notSynchronized Bd.returns (hb hby d1_51) (by decide) (by decide) ⟨congrArg (fun z => some (Value.int z)) hv.symm, N0, e0⟩
                        · refine own_st (fun t k => XS.ifNo X0.here hx rfl (hb hby d1_32) rfl (own_gtF hc32_30).1 k) ?_
                          show own_Fin _ _ _ _ _ _ _ (s₁.setTop (mkF m 35 #[.val (.long q1), .second, .val (.long (-q1)), .second, .val (.int (11 : Int32)), .val (.long (-100000000000 : Int64)), .second] []))
                          refine own_st (fun t k => XS.iinc X0.here hx rfl (hb hby d1_35) rfl (l' := #[.val (.long q1), .second, .val (.long (-q1)), .second, .val (.int (12 : Int32)), .val (.long (-100000000000 : Int64)), .second]) rfl k) ?_
                          show own_Fin _ _ _ _ _ _ _ (s₁.setTop (mkF m 38 #[.val (.long q1), .second, .val (.long (-q1)), .second, .val (.int (12 : Int32)), .val (.long (-100000000000 : Int64)), .second] []))
                          refine own_st (fun t k => XS.lload X0.here hx rfl (hb hby d1_38) rfl k) ?_
                          show own_Fin _ _ _ _ _ _ _ (s₁.setTop (mkF m 40 #[.val (.long q1), .second, .val (.long (-q1)), .second, .val (.int (12 : Int32)), .val (.long (-100000000000 : Int64)), .second] [(.long (-100000000000 : Int64))]))
                          refine own_st (X0.ldc2Long hx hown (mvT hZ (hw _ (List.mem_of_getElem? (i := 25) rfl))) (g := (mkF m 40 #[.val (.long q1), .second, .val (.long (-q1)), .second, .val (.int (12 : Int32)), .val (.long (-100000000000 : Int64)), .second] [(.long (-100000000000 : Int64))])) rfl (hb hby d1_40)) ?_
                          show own_Fin _ _ _ _ _ _ _ (s₁.setTop (mkF m 43 #[.val (.long q1), .second, .val (.long (-q1)), .second, .val (.int (12 : Int32)), .val (.long (-100000000000 : Int64)), .second] [(.long (10 : Int64)), (.long (-100000000000 : Int64))]))
                          refine own_st (fun t k => XS.lmul X0.here hx rfl (hb hby d1_43) rfl k) ?_
                          show own_Fin _ _ _ _ _ _ _ (s₁.setTop (mkF m 44 #[.val (.long q1), .second, .val (.long (-q1)), .second, .val (.int (12 : Int32)), .val (.long (-100000000000 : Int64)), .second] [(.long (-1000000000000 : Int64))]))
                          refine own_st (fun t k => XS.lstore X0.here hx rfl (hb hby d1_44) rfl (l' := #[.val (.long q1), .second, .val (.long (-q1)), .second, .val (.int (12 : Int32)), .val (.long (-1000000000000 : Int64)), .second]) rfl k) ?_
                          show own_Fin _ _ _ _ _ _ _ (s₁.setTop (mkF m 46 #[.val (.long q1), .second, .val (.long (-q1)), .second, .val (.int (12 : Int32)), .val (.long (-1000000000000 : Int64)), .second] []))
                          refine own_st (fun t k => XS.goto X0.here hx rfl (pc0 := 46) (pc' := 21) rfl (hb hby d1_46) (by decide) (by decide) k) ?_
                          show own_Fin _ _ _ _ _ _ _ (s₁.setTop (mkF m 21 #[.val (.long q1), .second, .val (.long (-q1)), .second, .val (.int (12 : Int32)), .val (.long (-1000000000000 : Int64)), .second] []))
                          refine own_st (fun t k => XS.iload X0.here hx rfl (hb hby d1_21) rfl k) ?_
                          show own_Fin _ _ _ _ _ _ _ (s₁.setTop (mkF m 23 #[.val (.long q1), .second, .val (.long (-q1)), .second, .val (.int (12 : Int32)), .val (.long (-1000000000000 : Int64)), .second] [(.int (12 : Int32))]))
                          refine own_st (fun t k => XS.bipush X0.here hx rfl (hb hby d1_23) k) ?_
                          show own_Fin _ _ _ _ _ _ _ (s₁.setTop (mkF m 25 #[.val (.long q1), .second, .val (.long (-q1)), .second, .val (.int (12 : Int32)), .val (.long (-1000000000000 : Int64)), .second] [(.int (19 : Int32)), (.int (12 : Int32))]))
                          refine own_st (fun t k => XS.icmpNo X0.here hx rfl (hb hby d1_25) rfl (tlt (by decide : (12 : Int32) < (19 : Int32))).2.1 k) ?_
                          show own_Fin _ _ _ _ _ _ _ (s₁.setTop (mkF m 28 #[.val (.long q1), .second, .val (.long (-q1)), .second, .val (.int (12 : Int32)), .val (.long (-1000000000000 : Int64)), .second] []))
                          refine own_st (fun t k => XS.lloadN X0.here hx rfl (hb hby d1_28) rfl k) ?_
                          show own_Fin _ _ _ _ _ _ _ (s₁.setTop (mkF m 29 #[.val (.long q1), .second, .val (.long (-q1)), .second, .val (.int (12 : Int32)), .val (.long (-1000000000000 : Int64)), .second] [(.long (-q1))]))
                          refine own_st (fun t k => XS.lload X0.here hx rfl (hb hby d1_29) rfl k) ?_
                          show own_Fin _ _ _ _ _ _ _ (s₁.setTop (mkF m 31 #[.val (.long q1), .second, .val (.long (-q1)), .second, .val (.int (12 : Int32)), .val (.long (-1000000000000 : Int64)), .second] [(.long (-1000000000000 : Int64)), (.long (-q1))]))
                          refine own_st (fun t k => XS.lcmp X0.here hx rfl (hb hby d1_31) rfl k) ?_
                          show own_Fin _ _ _ _ _ _ _ (s₁.setTop (mkF m 32 #[.val (.long q1), .second, .val (.long (-q1)), .second, .val (.int (12 : Int32)), .val (.long (-1000000000000 : Int64)), .second] [(.int (lcmpW (-q1) (-1000000000000 : Int64)))]))
                          by_cases hc32_31 : (-1000000000000 : Int64) < (-q1)
                          · refine own_st (fun t k => XS.ifYes X0.here hx rfl (pc0 := 32) (pc' := 49) rfl (hb hby d1_32) rfl (own_gtT hc32_31).1 (by decide) (by decide) k) ?_
                            show own_Fin _ _ _ _ _ _ _ (s₁.setTop (mkF m 49 #[.val (.long q1), .second, .val (.long (-q1)), .second, .val (.int (12 : Int32)), .val (.long (-1000000000000 : Int64)), .second] []))
                            refine own_st (fun t k => XS.iload X0.here hx rfl (hb hby d1_49) rfl k) ?_
                            show own_Fin _ _ _ _ _ _ _ (s₁.setTop (mkF m 51 #[.val (.long q1), .second, .val (.long (-q1)), .second, .val (.int (12 : Int32)), .val (.long (-1000000000000 : Int64)), .second] [(.int (12 : Int32))]))
                            have hv : own_F1 q1 = (12 : Int32) := by unfold own_F1; rw [if_neg hc3_1, if_neg hc32_20, if_neg hc32_21, if_neg hc32_22, if_neg hc32_23, if_neg hc32_24, if_neg hc32_25, if_neg hc32_26, if_neg hc32_27, if_neg hc32_28, if_neg hc32_29, if_neg hc32_30, if_pos hc32_31]
                            exact own_retI X0 hx Bd.notSynchronized Bd.returns (hb hby d1_51) (by decide) (by decide) ⟨congrArg (fun z => some (Value.int z)) hv.symm, N0, e0⟩
                          · refine own_st (fun t k => XS.ifNo X0.here hx rfl (hb hby d1_32) rfl (own_gtF hc32_31).1 k) ?_
                            show own_Fin _ _ _ _ _ _ _ (s₁.setTop (mkF m 35 #[.val (.long q1), .second, .val (.long (-q1)), .second, .val (.int (12 : Int32)), .val (.long (-1000000000000 : Int64)), .second] []))
                            refine own_st (fun t k => XS.iinc X0.here hx rfl (hb hby d1_35) rfl (l' := #[.val (.long q1), .second, .val (.long (-q1)), .second, .val (.int (13 : Int32)), .val (.long (-1000000000000 : Int64)), .second]) rfl k) ?_
                            show own_Fin _ _ _ _ _ _ _ (s₁.setTop (mkF m 38 #[.val (.long q1), .second, .val (.long (-q1)), .second, .val (.int (13 : Int32)), .val (.long (-1000000000000 : Int64)), .second] []))
                            refine own_st (fun t k => XS.lload X0.here hx rfl (hb hby d1_38) rfl k) ?_
                            show own_Fin _ _ _ _ _ _ _ (s₁.setTop (mkF m 40 #[.val (.long q1), .second, .val (.long (-q1)), .second, .val (.int (13 : Int32)), .val (.long (-1000000000000 : Int64)), .second] [(.long (-1000000000000 : Int64))]))
                            refine own_st (X0.ldc2Long hx hown (mvT hZ (hw _ (List.mem_of_getElem? (i := 25) rfl))) (g := (mkF m 40 #[.val (.long q1), .second, .val (.long (-q1)), .second, .val (.int (13 : Int32)), .val (.long (-1000000000000 : Int64)), .second] [(.long (-1000000000000 : Int64))])) rfl (hb hby d1_40)) ?_
                            show own_Fin _ _ _ _ _ _ _ (s₁.setTop (mkF m 43 #[.val (.long q1), .second, .val (.long (-q1)), .second, .val (.int (13 : Int32)), .val (.long (-1000000000000 : Int64)), .second] [(.long (10 : Int64)), (.long (-1000000000000 : Int64))]))
                            refine own_st (fun t k => XS.lmul X0.here hx rfl (hb hby d1_43) rfl k) ?_
                            show own_Fin _ _ _ _ _ _ _ (s₁.setTop (mkF m 44 #[.val (.long q1), .second, .val (.long (-q1)), .second, .val (.int (13 : Int32)), .val (.long (-1000000000000 : Int64)), .second] [(.long (-10000000000000 : Int64))]))
                            refine own_st (fun t k => XS.lstore X0.here hx rfl (hb hby d1_44) rfl (l' := #[.val (.long q1), .second, .val (.long (-q1)), .second, .val (.int (13 : Int32)), .val (.long (-10000000000000 : Int64)), .second]) rfl k) ?_
                            show own_Fin _ _ _ _ _ _ _ (s₁.setTop (mkF m 46 #[.val (.long q1), .second, .val (.long (-q1)), .second, .val (.int (13 : Int32)), .val (.long (-10000000000000 : Int64)), .second] []))
                            refine own_st (fun t k => XS.goto X0.here hx rfl (pc0 := 46) (pc' := 21) rfl (hb hby d1_46) (by decide) (by decide) k) ?_
                            show own_Fin _ _ _ _ _ _ _ (s₁.setTop (mkF m 21 #[.val (.long q1), .second, .val (.long (-q1)), .second, .val (.int (13 : Int32)), .val (.long (-10000000000000 : Int64)), .second] []))
                            refine own_st (fun t k => XS.iload X0.here hx rfl (hb hby d1_21) rfl k) ?_
                            show own_Fin _ _ _ _ _ _ _ (s₁.setTop (mkF m 23 #[.val (.long q1), .second, .val (.long (-q1)), .second, .val (.int (13 : Int32)), .val (.long (-10000000000000 : Int64)), .second] [(.int (13 : Int32))]))
                            refine own_st (fun t k => XS.bipush X0.here hx rfl (hb hby d1_23) k) ?_
                            show own_Fin _ _ _ _ _ _ _ (s₁.setTop (mkF m 25 #[.val (.long q1), .second, .val (.long (-q1)), .second, .val (.int (13 : Int32)), .val (.long (-10000000000000 : Int64)), .second] [(.int (19 : Int32)), (.int (13 : Int32))]))
                            refine own_st (fun t k => XS.icmpNo X0.here hx rfl (hb hby d1_25) rfl (tlt (by decide : (13 : Int32) < (19 : Int32))).2.1 k) ?_
                            show own_Fin _ _ _ _ _ _ _ (s₁.setTop (mkF m 28 #[.val (.long q1), .second, .val (.long (-q1)), .second, .val (.int (13 : Int32)), .val (.long (-10000000000000 : Int64)), .second] []))
                            refine own_st (fun t k => XS.lloadN X0.here hx rfl (hb hby d1_28) rfl k) ?_
                            show own_Fin _ _ _ _ _ _ _ (s₁.setTop (mkF m 29 #[.val (.long q1), .second, .val (.long (-q1)), .second, .val (.int (13 : Int32)), .val (.long (-10000000000000 : Int64)), .second] [(.long (-q1))]))
                            refine own_st (fun t k => XS.lload X0.here hx rfl (hb hby d1_29) rfl k) ?_
                            show own_Fin _ _ _ _ _ _ _ (s₁.setTop (mkF m 31 #[.val (.long q1), .second, .val (.long (-q1)), .second, .val (.int (13 : Int32)), .val (.long (-10000000000000 : Int64)), .second] [(.long (-10000000000000 : Int64)), (.long (-q1))]))
                            refine own_st (fun t k => XS.lcmp X0.here hx rfl (hb hby d1_31) rfl k) ?_
                            show own_Fin _ _ _ _ _ _ _ (s₁.setTop (mkF m 32 #[.val (.long q1), .second, .val (.long (-q1)), .second, .val (.int (13 : Int32)), .val (.long (-10000000000000 : Int64)), .second] [(.int (lcmpW (-q1) (-10000000000000 : Int64)))]))
                            by_cases hc32_32 : (-10000000000000 : Int64) < (-q1)
                            · refine own_st (fun t k => XS.ifYes X0.here hx rfl (pc0 := 32) (pc' := 49) rfl (hb hby d1_32) rfl (own_gtT hc32_32).1 (by decide) (by decide) k) ?_
                              show own_Fin _ _ _ _ _ _ _ (s₁.setTop (mkF m 49 #[.val (.long q1), .second, .val (.long (-q1)), .second, .val (.int (13 : Int32)), .val (.long (-10000000000000 : Int64)), .second] []))
                              refine own_st (fun t k => XS.iload X0.here hx rfl (hb hby d1_49) rfl k) ?_
                              show own_Fin _ _ _ _ _ _ _ (s₁.setTop (mkF m 51 #[.val (.long q1), .second, .val (.long (-q1)), .second, .val (.int (13 : Int32)), .val (.long (-10000000000000 : Int64)), .second] [(.int (13 : Int32))]))
                              have hv : own_F1 q1 = (13 : Int32) := by unfold own_F1; rw [if_neg hc3_1, if_neg hc32_20, if_neg hc32_21, if_neg hc32_22, if_neg hc32_23, if_neg hc32_24, if_neg hc32_25, if_neg hc32_26, if_neg hc32_27, if_neg hc32_28, if_neg hc32_29, if_neg hc32_30, if_neg hc32_31, if_pos hc32_32]
                              exact own_retI X0 hx Bd.notSynchronized Bd.returns (hb hby d1_51) (by decide) (by decide) ⟨congrArg (fun z => some (Value.int z)) hv.symm, N0, e0⟩
                            · refine own_st (fun t k => XS.ifNo X0.here hx rfl (hb hby d1_32) rfl (own_gtF hc32_32).1 k) ?_
                              show own_Fin _ _ _ _ _ _ _ (s₁.setTop (mkF m 35 #[.val (.long q1), .second, .val (.long (-q1)), .second, .val (.int (13 : Int32)), .val (.long (-10000000000000 : Int64)), .second] []))
                              refine own_st (fun t k => XS.iinc X0.here hx rfl (hb hby d1_35) rfl (l' := #[.val (.long q1), .second, .val (.long (-q1)), .second, .val (.int (14 : Int32)), .val (.long (-10000000000000 : Int64)), .second]) rfl k) ?_
                              show own_Fin _ _ _ _ _ _ _ (s₁.setTop (mkF m 38 #[.val (.long q1), .second, .val (.long (-q1)), .second, .val (.int (14 : Int32)), .val (.long (-10000000000000 : Int64)), .second] []))
                              refine own_st (fun t k => XS.lload X0.here hx rfl (hb hby d1_38) rfl k) ?_
                              show own_Fin _ _ _ _ _ _ _ (s₁.setTop (mkF m 40 #[.val (.long q1), .second, .val (.long (-q1)), .second, .val (.int (14 : Int32)), .val (.long (-10000000000000 : Int64)), .second] [(.long (-10000000000000 : Int64))]))
                              refine own_st (X0.ldc2Long hx hown (mvT hZ (hw _ (List.mem_of_getElem? (i := 25) rfl))) (g := (mkF m 40 #[.val (.long q1), .second, .val (.long (-q1)), .second, .val (.int (14 : Int32)), .val (.long (-10000000000000 : Int64)), .second] [(.long (-10000000000000 : Int64))])) rfl (hb hby d1_40)) ?_
                              show own_Fin _ _ _ _ _ _ _ (s₁.setTop (mkF m 43 #[.val (.long q1), .second, .val (.long (-q1)), .second, .val (.int (14 : Int32)), .val (.long (-10000000000000 : Int64)), .second] [(.long (10 : Int64)), (.long (-10000000000000 : Int64))]))
                              refine own_st (fun t k => XS.lmul X0.here hx rfl (hb hby d1_43) rfl k) ?_
                              show own_Fin _ _ _ _ _ _ _ (s₁.setTop (mkF m 44 #[.val (.long q1), .second, .val (.long (-q1)), .second, .val (.int (14 : Int32)), .val (.long (-10000000000000 : Int64)), .second] [(.long (-100000000000000 : Int64))]))
                              refine own_st (fun t k => XS.lstore X0.here hx rfl (hb hby d1_44) rfl (l' := #[.val (.long q1), .second, .val (.long (-q1)), .second, .val (.int (14 : Int32)), .val (.long (-100000000000000 : Int64)), .second]) rfl k) ?_
                              show own_Fin _ _ _ _ _ _ _ (s₁.setTop (mkF m 46 #[.val (.long q1), .second, .val (.long (-q1)), .second, .val (.int (14 : Int32)), .val (.long (-100000000000000 : Int64)), .second] []))
                              refine own_st (fun t k => XS.goto X0.here hx rfl (pc0 := 46) (pc' := 21) rfl (hb hby d1_46) (by decide) (by decide) k) ?_
                              show own_Fin _ _ _ _ _ _ _ (s₁.setTop (mkF m 21 #[.val (.long q1), .second, .val (.long (-q1)), .second, .val (.int (14 : Int32)), .val (.long (-100000000000000 : Int64)), .second] []))
                              refine own_st (fun t k => XS.iload X0.here hx rfl (hb hby d1_21) rfl k) ?_
                              show own_Fin _ _ _ _ _ _ _ (s₁.setTop (mkF m 23 #[.val (.long q1), .second, .val (.long (-q1)), .second, .val (.int (14 : Int32)), .val (.long (-100000000000000 : Int64)), .second] [(.int (14 : Int32))]))
                              refine own_st (fun t k => XS.bipush X0.here hx rfl (hb hby d1_23) k) ?_
                              show own_Fin _ _ _ _ _ _ _ (s₁.setTop (mkF m 25 #[.val (.long q1), .second, .val (.long (-q1)), .second, .val (.int (14 : Int32)), .val (.long (-100000000000000 : Int64)), .second] [(.int (19 : Int32)), (.int (14 : Int32))]))
                              refine own_st (fun t k => XS.icmpNo X0.here hx rfl (hb hby d1_25) rfl (tlt (by decide : (14 : Int32) < (19 : Int32))).2.1 k) ?_
                              show own_Fin _ _ _ _ _ _ _ (s₁.setTop (mkF m 28 #[.val (.long q1), .second, .val (.long (-q1)), .second, .val (.int (14 : Int32)), .val (.long (-100000000000000 : Int64)), .second] []))
                              refine own_st (fun t k => XS.lloadN X0.here hx rfl (hb hby d1_28) rfl k) ?_
                              show own_Fin _ _ _ _ _ _ _ (s₁.setTop (mkF m 29 #[.val (.long q1), .second, .val (.long (-q1)), .second, .val (.int (14 : Int32)), .val (.long (-100000000000000 : Int64)), .second] [(.long (-q1))]))
                              refine own_st (fun t k => XS.lload X0.here hx rfl (hb hby d1_29) rfl k) ?_
                              show own_Fin _ _ _ _ _ _ _ (s₁.setTop (mkF m 31 #[.val (.long q1), .second, .val (.long (-q1)), .second, .val (.int (14 : Int32)), .val (.long (-100000000000000 : Int64)), .second] [(.long (-100000000000000 : Int64)), (.long (-q1))]))
                              refine own_st (fun t k => XS.lcmp X0.here hx rfl (hb hby d1_31) rfl k) ?_
                              show own_Fin _ _ _ _ _ _ _ (s₁.setTop (mkF m 32 #[.val (.long q1), .second, .val (.long (-q1)), .second, .val (.int (14 : Int32)), .val (.long (-100000000000000 : Int64)), .second] [(.int (lcmpW (-q1) (-100000000000000 : Int64)))]))
                              by_cases hc32_33 : (-100000000000000 : Int64) < (-q1)
                              · refine own_st (fun t k => XS.ifYes X0.here hx rfl (pc0 := 32) (pc' := 49) rfl (hb hby d1_32) rfl (own_gtT hc32_33).1 (by decide) (by decide) k) ?_
                                show own_Fin _ _ _ _ _ _ _ (s₁.setTop (mkF m 49 #[.val (.long q1), .second, .val (.long (-q1)), .second, .val (.int (14 : Int32)), .val (.long (-100000000000000 : Int64)), .second] []))
                                refine own_st (fun t k => XS.iload X0.here hx rfl (hb hby d1_49) rfl k) ?_
                                show own_Fin _ _ _ _ _ _ _ (s₁.setTop (mkF m 51 #[.val (.long q1), .second, .val (.long (-q1)), .second, .val (.int (14 : Int32)), .val (.long (-100000000000000 : Int64)), .second] [(.int (14 : Int32))]))
                                have hv : own_F1 q1 = (14 : Int32) := by unfold own_F1; rw [if_neg hc3_1, if_neg hc32_20, if_neg hc32_21, if_neg hc32_22, if_neg hc32_23, if_neg hc32_24, if_neg hc32_25, if_neg hc32_26, if_neg hc32_27, if_neg hc32_28, if_neg hc32_29, if_neg hc32_30, if_neg hc32_31, if_neg hc32_32, if_pos hc32_33]
                                exact own_retI X0 hx Bd.notSynchronized Bd.returns (hb hby d1_51) (by decide) (by decide) ⟨congrArg (fun z => some (Value.int z)) hv.symm, N0, e0⟩
                              · refine own_st (fun t k => XS.ifNo X0.here hx rfl (hb hby d1_32) rfl (own_gtF hc32_33).1 k) ?_
                                show own_Fin _ _ _ _ _ _ _ (s₁.setTop (mkF m 35 #[.val (.long q1), .second, .val (.long (-q1)), .second, .val (.int (14 : Int32)), .val (.long (-100000000000000 : Int64)), .second] []))
                                refine own_st (fun t k => XS.iinc X0.here hx rfl (hb hby d1_35) rfl (l' := #[.val (.long q1), .second, .val (.long (-q1)), .second, .val (.int (15 : Int32)), .val (.long (-100000000000000 : Int64)), .second]) rfl k) ?_
                                show own_Fin _ _ _ _ _ _ _ (s₁.setTop (mkF m 38 #[.val (.long q1), .second, .val (.long (-q1)), .second, .val (.int (15 : Int32)), .val (.long (-100000000000000 : Int64)), .second] []))
                                refine own_st (fun t k => XS.lload X0.here hx rfl (hb hby d1_38) rfl k) ?_
                                show own_Fin _ _ _ _ _ _ _ (s₁.setTop (mkF m 40 #[.val (.long q1), .second, .val (.long (-q1)), .second, .val (.int (15 : Int32)), .val (.long (-100000000000000 : Int64)), .second] [(.long (-100000000000000 : Int64))]))
                                refine own_st (X0.ldc2Long hx hown (mvT hZ (hw _ (List.mem_of_getElem? (i := 25) rfl))) (g := (mkF m 40 #[.val (.long q1), .second, .val (.long (-q1)), .second, .val (.int (15 : Int32)), .val (.long (-100000000000000 : Int64)), .second] [(.long (-100000000000000 : Int64))])) rfl (hb hby d1_40)) ?_
                                show own_Fin _ _ _ _ _ _ _ (s₁.setTop (mkF m 43 #[.val (.long q1), .second, .val (.long (-q1)), .second, .val (.int (15 : Int32)), .val (.long (-100000000000000 : Int64)), .second] [(.long (10 : Int64)), (.long (-100000000000000 : Int64))]))
                                refine own_st (fun t k => XS.lmul X0.here hx rfl (hb hby d1_43) rfl k) ?_
                                show own_Fin _ _ _ _ _ _ _ (s₁.setTop (mkF m 44 #[.val (.long q1), .second, .val (.long (-q1)), .second, .val (.int (15 : Int32)), .val (.long (-100000000000000 : Int64)), .second] [(.long (-1000000000000000 : Int64))]))
                                refine own_st (fun t k => XS.lstore X0.here hx rfl (hb hby d1_44) rfl (l' := #[.val (.long q1), .second, .val (.long (-q1)), .second, .val (.int (15 : Int32)), .val (.long (-1000000000000000 : Int64)), .second]) rfl k) ?_
                                show own_Fin _ _ _ _ _ _ _ (s₁.setTop (mkF m 46 #[.val (.long q1), .second, .val (.long (-q1)), .second, .val (.int (15 : Int32)), .val (.long (-1000000000000000 : Int64)), .second] []))
                                refine own_st (fun t k => XS.goto X0.here hx rfl (pc0 := 46) (pc' := 21) rfl (hb hby d1_46) (by decide) (by decide) k) ?_
                                show own_Fin _ _ _ _ _ _ _ (s₁.setTop (mkF m 21 #[.val (.long q1), .second, .val (.long (-q1)), .second, .val (.int (15 : Int32)), .val (.long (-1000000000000000 : Int64)), .second] []))
                                refine own_st (fun t k => XS.iload X0.here hx rfl (hb hby d1_21) rfl k) ?_
                                show own_Fin _ _ _ _ _ _ _ (s₁.setTop (mkF m 23 #[.val (.long q1), .second, .val (.long (-q1)), .second, .val (.int (15 : Int32)), .val (.long (-1000000000000000 : Int64)), .second] [(.int (15 : Int32))]))
                                refine own_st (fun t k => XS.bipush X0.here hx rfl (hb hby d1_23) k) ?_
                                show own_Fin _ _ _ _ _ _ _ (s₁.setTop (mkF m 25 #[.val (.long q1), .second, .val (.long (-q1)), .second, .val (.int (15 : Int32)), .val (.long (-1000000000000000 : Int64)), .second] [(.int (19 : Int32)), (.int (15 : Int32))]))
                                refine own_st (fun t k => XS.icmpNo X0.here hx rfl (hb hby d1_25) rfl (tlt (by decide : (15 : Int32) < (19 : Int32))).2.1 k) ?_
                                show own_Fin _ _ _ _ _ _ _ (s₁.setTop (mkF m 28 #[.val (.long q1), .second, .val (.long (-q1)), .second, .val (.int (15 : Int32)), .val (.long (-1000000000000000 : Int64)), .second] []))
                                refine own_st (fun t k => XS.lloadN X0.here hx rfl (hb hby d1_28) rfl k) ?_
                                show own_Fin _ _ _ _ _ _ _ (s₁.setTop (mkF m 29 #[.val (.long q1), .second, .val (.long (-q1)), .second, .val (.int (15 : Int32)), .val (.long (-1000000000000000 : Int64)), .second] [(.long (-q1))]))
                                refine own_st (fun t k => XS.lload X0.here hx rfl (hb hby d1_29) rfl k) ?_
                                show own_Fin _ _ _ _ _ _ _ (s₁.setTop (mkF m 31 #[.val (.long q1), .second, .val (.long (-q1)), .second, .val (.int (15 : Int32)), .val (.long (-1000000000000000 : Int64)), .second] [(.long (-1000000000000000 : Int64)), (.long (-q1))]))
                                refine own_st (fun t k => XS.lcmp X0.here hx rfl (hb hby d1_31) rfl k) ?_
                                show own_Fin _ _ _ _ _ _ _ (s₁.setTop (mkF m 32 #[.val (.long q1), .second, .val (.long (-q1)), .second, .val (.int (15 : Int32)), .val (.long (-1000000000000000 : Int64)), .second] [(.int (lcmpW (-q1) (-1000000000000000 : Int64)))]))
                                by_cases hc32_34 : (-1000000000000000 : Int64) < (-q1)
                                · refine own_st (fun t k => XS.ifYes X0.here hx rfl (pc0 := 32) (pc' := 49) rfl (hb hby d1_32) rfl (own_gtT hc32_34).1 (by decide) (by decide) k) ?_
                                  show own_Fin _ _ _ _ _ _ _ (s₁.setTop (mkF m 49 #[.val (.long q1), .second, .val (.long (-q1)), .second, .val (.int (15 : Int32)), .val (.long (-1000000000000000 : Int64)), .second] []))
                                  refine own_st (fun t k => XS.iload X0.here hx rfl (hb hby d1_49) rfl k) ?_
                                  show own_Fin _ _ _ _ _ _ _ (s₁.setTop (mkF m 51 #[.val (.long q1), .second, .val (.long (-q1)), .second, .val (.int (15 : Int32)), .val (.long (-1000000000000000 : Int64)), .second] [(.int (15 : Int32))]))
                                  have hv : own_F1 q1 = (15 : Int32) := by unfold own_F1; rw [if_neg hc3_1, if_neg hc32_20, if_neg hc32_21, if_neg hc32_22, if_neg hc32_23, if_neg hc32_24, if_neg hc32_25, if_neg hc32_26, if_neg hc32_27, if_neg hc32_28, if_neg hc32_29, if_neg hc32_30, if_neg hc32_31, if_neg hc32_32, if_neg hc32_33, if_pos hc32_34]
                                  exact own_retI X0 hx Bd.notSynchronized Bd.returns (hb hby d1_51) (by decide) (by decide) ⟨congrArg (fun z => some (Value.int z)) hv.symm, N0, e0⟩
                                · refine own_st (fun t k => XS.ifNo X0.here hx rfl (hb hby d1_32) rfl (own_gtF hc32_34).1 k) ?_
                                  show own_Fin _ _ _ _ _ _ _ (s₁.setTop (mkF m 35 #[.val (.long q1), .second, .val (.long (-q1)), .second, .val (.int (15 : Int32)), .val (.long (-1000000000000000 : Int64)), .second] []))
                                  refine own_st (fun t k => XS.iinc X0.here hx rfl (hb hby d1_35) rfl (l' := #[.val (.long q1), .second, .val (.long (-q1)), .second, .val (.int (16 : Int32)), .val (.long (-1000000000000000 : Int64)), .second]) rfl k) ?_
                                  show own_Fin _ _ _ _ _ _ _ (s₁.setTop (mkF m 38 #[.val (.long q1), .second, .val (.long (-q1)), .second, .val (.int (16 : Int32)), .val (.long (-1000000000000000 : Int64)), .second] []))
                                  refine own_st (fun t k => XS.lload X0.here hx rfl (hb hby d1_38) rfl k) ?_
                                  show own_Fin _ _ _ _ _ _ _ (s₁.setTop (mkF m 40 #[.val (.long q1), .second, .val (.long (-q1)), .second, .val (.int (16 : Int32)), .val (.long (-1000000000000000 : Int64)), .second] [(.long (-1000000000000000 : Int64))]))
                                  refine own_st (X0.ldc2Long hx hown (mvT hZ (hw _ (List.mem_of_getElem? (i := 25) rfl))) (g := (mkF m 40 #[.val (.long q1), .second, .val (.long (-q1)), .second, .val (.int (16 : Int32)), .val (.long (-1000000000000000 : Int64)), .second] [(.long (-1000000000000000 : Int64))])) rfl (hb hby d1_40)) ?_
                                  show own_Fin _ _ _ _ _ _ _ (s₁.setTop (mkF m 43 #[.val (.long q1), .second, .val (.long (-q1)), .second, .val (.int (16 : Int32)), .val (.long (-1000000000000000 : Int64)), .second] [(.long (10 : Int64)), (.long (-1000000000000000 : Int64))]))
                                  refine own_st (fun t k => XS.lmul X0.here hx rfl (hb hby d1_43) rfl k) ?_
                                  show own_Fin _ _ _ _ _ _ _ (s₁.setTop (mkF m 44 #[.val (.long q1), .second, .val (.long (-q1)), .second, .val (.int (16 : Int32)), .val (.long (-1000000000000000 : Int64)), .second] [(.long (-10000000000000000 : Int64))]))
                                  refine own_st (fun t k => XS.lstore X0.here hx rfl (hb hby d1_44) rfl (l' := #[.val (.long q1), .second, .val (.long (-q1)), .second, .val (.int (16 : Int32)), .val (.long (-10000000000000000 : Int64)), .second]) rfl k) ?_
                                  show own_Fin _ _ _ _ _ _ _ (s₁.setTop (mkF m 46 #[.val (.long q1), .second, .val (.long (-q1)), .second, .val (.int (16 : Int32)), .val (.long (-10000000000000000 : Int64)), .second] []))
                                  refine own_st (fun t k => XS.goto X0.here hx rfl (pc0 := 46) (pc' := 21) rfl (hb hby d1_46) (by decide) (by decide) k) ?_
                                  show own_Fin _ _ _ _ _ _ _ (s₁.setTop (mkF m 21 #[.val (.long q1), .second, .val (.long (-q1)), .second, .val (.int (16 : Int32)), .val (.long (-10000000000000000 : Int64)), .second] []))
                                  refine own_st (fun t k => XS.iload X0.here hx rfl (hb hby d1_21) rfl k) ?_
                                  show own_Fin _ _ _ _ _ _ _ (s₁.setTop (mkF m 23 #[.val (.long q1), .second, .val (.long (-q1)), .second, .val (.int (16 : Int32)), .val (.long (-10000000000000000 : Int64)), .second] [(.int (16 : Int32))]))
                                  refine own_st (fun t k => XS.bipush X0.here hx rfl (hb hby d1_23) k) ?_
                                  show own_Fin _ _ _ _ _ _ _ (s₁.setTop (mkF m 25 #[.val (.long q1), .second, .val (.long (-q1)), .second, .val (.int (16 : Int32)), .val (.long (-10000000000000000 : Int64)), .second] [(.int (19 : Int32)), (.int (16 : Int32))]))
                                  refine own_st (fun t k => XS.icmpNo X0.here hx rfl (hb hby d1_25) rfl (tlt (by decide : (16 : Int32) < (19 : Int32))).2.1 k) ?_
                                  show own_Fin _ _ _ _ _ _ _ (s₁.setTop (mkF m 28 #[.val (.long q1), .second, .val (.long (-q1)), .second, .val (.int (16 : Int32)), .val (.long (-10000000000000000 : Int64)), .second] []))
                                  refine own_st (fun t k => XS.lloadN X0.here hx rfl (hb hby d1_28) rfl k) ?_
                                  show own_Fin _ _ _ _ _ _ _ (s₁.setTop (mkF m 29 #[.val (.long q1), .second, .val (.long (-q1)), .second, .val (.int (16 : Int32)), .val (.long (-10000000000000000 : Int64)), .second] [(.long (-q1))]))
                                  refine own_st (fun t k => XS.lload X0.here hx rfl (hb hby d1_29) rfl k) ?_
                                  show own_Fin _ _ _ _ _ _ _ (s₁.setTop (mkF m 31 #[.val (.long q1), .second, .val (.long (-q1)), .second, .val (.int (16 : Int32)), .val (.long (-10000000000000000 : Int64)), .second] [(.long (-10000000000000000 : Int64)), (.long (-q1))]))
                                  refine own_st (fun t k => XS.lcmp X0.here hx rfl (hb hby d1_31) rfl k) ?_
                                  show own_Fin _ _ _ _ _ _ _ (s₁.setTop (mkF m 32 #[.val (.long q1), .second, .val (.long (-q1)), .second, .val (.int (16 : Int32)), .val (.long (-10000000000000000 : Int64)), .second] [(.int (lcmpW (-q1) (-10000000000000000 : Int64)))]))
                                  by_cases hc32_35 : (-10000000000000000 : Int64) < (-q1)
                                  · refine own_st (fun t k => XS.ifYes X0.here hx rfl (pc0 := 32) (pc' := 49) rfl (hb hby d1_32) rfl (own_gtT hc32_35).1 (by decide) (by decide) k) ?_
                                    show own_Fin _ _ _ _ _ _ _ (s₁.setTop (mkF m 49 #[.val (.long q1), .second, .val (.long (-q1)), .second, .val (.int (16 : Int32)), .val (.long (-10000000000000000 : Int64)), .second] []))
                                    refine own_st (fun t k => XS.iload X0.here hx rfl (hb hby d1_49) rfl k) ?_
                                    show own_Fin _ _ _ _ _ _ _ (s₁.setTop (mkF m 51 #[.val (.long q1), .second, .val (.long (-q1)), .second, .val (.int (16 : Int32)), .val (.long (-10000000000000000 : Int64)), .second] [(.int (16 : Int32))]))
                                    have hv : own_F1 q1 = (16 : Int32) := by unfold own_F1; rw [if_neg hc3_1, if_neg hc32_20, if_neg hc32_21, if_neg hc32_22, if_neg hc32_23, if_neg hc32_24, if_neg hc32_25, if_neg hc32_26, if_neg hc32_27, if_neg hc32_28, if_neg hc32_29, if_neg hc32_30, if_neg hc32_31, if_neg hc32_32, if_neg hc32_33, if_neg hc32_34, if_pos hc32_35]
                                    exact own_retI X0 hx Bd.notSynchronized Bd.returns (hb hby d1_51) (by decide) (by decide) ⟨congrArg (fun z => some (Value.int z)) hv.symm, N0, e0⟩
                                  · refine own_st (fun t k => XS.ifNo X0.here hx rfl (hb hby d1_32) rfl (own_gtF hc32_35).1 k) ?_
                                    show own_Fin _ _ _ _ _ _ _ (s₁.setTop (mkF m 35 #[.val (.long q1), .second, .val (.long (-q1)), .second, .val (.int (16 : Int32)), .val (.long (-10000000000000000 : Int64)), .second] []))
                                    refine own_st (fun t k => XS.iinc X0.here hx rfl (hb hby d1_35) rfl (l' := #[.val (.long q1), .second, .val (.long (-q1)), .second, .val (.int (17 : Int32)), .val (.long (-10000000000000000 : Int64)), .second]) rfl k) ?_
                                    show own_Fin _ _ _ _ _ _ _ (s₁.setTop (mkF m 38 #[.val (.long q1), .second, .val (.long (-q1)), .second, .val (.int (17 : Int32)), .val (.long (-10000000000000000 : Int64)), .second] []))
                                    refine own_st (fun t k => XS.lload X0.here hx rfl (hb hby d1_38) rfl k) ?_
                                    show own_Fin _ _ _ _ _ _ _ (s₁.setTop (mkF m 40 #[.val (.long q1), .second, .val (.long (-q1)), .second, .val (.int (17 : Int32)), .val (.long (-10000000000000000 : Int64)), .second] [(.long (-10000000000000000 : Int64))]))
                                    refine own_st (X0.ldc2Long hx hown (mvT hZ (hw _ (List.mem_of_getElem? (i := 25) rfl))) (g := (mkF m 40 #[.val (.long q1), .second, .val (.long (-q1)), .second, .val (.int (17 : Int32)), .val (.long (-10000000000000000 : Int64)), .second] [(.long (-10000000000000000 : Int64))])) rfl (hb hby d1_40)) ?_
                                    show own_Fin _ _ _ _ _ _ _ (s₁.setTop (mkF m 43 #[.val (.long q1), .second, .val (.long (-q1)), .second, .val (.int (17 : Int32)), .val (.long (-10000000000000000 : Int64)), .second] [(.long (10 : Int64)), (.long (-10000000000000000 : Int64))]))
                                    refine own_st (fun t k => XS.lmul X0.here hx rfl (hb hby d1_43) rfl k) ?_
                                    show own_Fin _ _ _ _ _ _ _ (s₁.setTop (mkF m 44 #[.val (.long q1), .second, .val (.long (-q1)), .second, .val (.int (17 : Int32)), .val (.long (-10000000000000000 : Int64)), .second] [(.long (-100000000000000000 : Int64))]))
                                    refine own_st (fun t k => XS.lstore X0.here hx rfl (hb hby d1_44) rfl (l' := #[.val (.long q1), .second, .val (.long (-q1)), .second, .val (.int (17 : Int32)), .val (.long (-100000000000000000 : Int64)), .second]) rfl k) ?_
                                    show own_Fin _ _ _ _ _ _ _ (s₁.setTop (mkF m 46 #[.val (.long q1), .second, .val (.long (-q1)), .second, .val (.int (17 : Int32)), .val (.long (-100000000000000000 : Int64)), .second] []))
                                    refine own_st (fun t k => XS.goto X0.here hx rfl (pc0 := 46) (pc' := 21) rfl (hb hby d1_46) (by decide) (by decide) k) ?_
                                    show own_Fin _ _ _ _ _ _ _ (s₁.setTop (mkF m 21 #[.val (.long q1), .second, .val (.long (-q1)), .second, .val (.int (17 : Int32)), .val (.long (-100000000000000000 : Int64)), .second] []))
                                    refine own_st (fun t k => XS.iload X0.here hx rfl (hb hby d1_21) rfl k) ?_
                                    show own_Fin _ _ _ _ _ _ _ (s₁.setTop (mkF m 23 #[.val (.long q1), .second, .val (.long (-q1)), .second, .val (.int (17 : Int32)), .val (.long (-100000000000000000 : Int64)), .second] [(.int (17 : Int32))]))
                                    refine own_st (fun t k => XS.bipush X0.here hx rfl (hb hby d1_23) k) ?_
                                    show own_Fin _ _ _ _ _ _ _ (s₁.setTop (mkF m 25 #[.val (.long q1), .second, .val (.long (-q1)), .second, .val (.int (17 : Int32)), .val (.long (-100000000000000000 : Int64)), .second] [(.int (19 : Int32)), (.int (17 : Int32))]))
                                    refine own_st (fun t k => XS.icmpNo X0.here hx rfl (hb hby d1_25) rfl (tlt (by decide : (17 : Int32) < (19 : Int32))).2.1 k) ?_
                                    show own_Fin _ _ _ _ _ _ _ (s₁.setTop (mkF m 28 #[.val (.long q1), .second, .val (.long (-q1)), .second, .val (.int (17 : Int32)), .val (.long (-100000000000000000 : Int64)), .second] []))
                                    refine own_st (fun t k => XS.lloadN X0.here hx rfl (hb hby d1_28) rfl k) ?_
                                    show own_Fin _ _ _ _ _ _ _ (s₁.setTop (mkF m 29 #[.val (.long q1), .second, .val (.long (-q1)), .second, .val (.int (17 : Int32)), .val (.long (-100000000000000000 : Int64)), .second] [(.long (-q1))]))
                                    refine own_st (fun t k => XS.lload X0.here hx rfl (hb hby d1_29) rfl k) ?_
                                    show own_Fin _ _ _ _ _ _ _ (s₁.setTop (mkF m 31 #[.val (.long q1), .second, .val (.long (-q1)), .second, .val (.int (17 : Int32)), .val (.long (-100000000000000000 : Int64)), .second] [(.long (-100000000000000000 : Int64)), (.long (-q1))]))
                                    refine own_st (fun t k => XS.lcmp X0.here hx rfl (hb hby d1_31) rfl k) ?_
                                    show own_Fin _ _ _ _ _ _ _ (s₁.setTop (mkF m 32 #[.val (.long q1), .second, .val (.long (-q1)), .second, .val (.int (17 : Int32)), .val (.long (-100000000000000000 : Int64)), .second] [(.int (lcmpW (-q1) (-100000000000000000 : Int64)))]))
                                    by_cases hc32_36 : (-100000000000000000 : Int64) < (-q1)
                                    · refine own_st (fun t k => XS.ifYes X0.here hx rfl (pc0 := 32) (pc' := 49) rfl (hb hby d1_32) rfl (own_gtT hc32_36).1 (by decide) (by decide) k) ?_
                                      show own_Fin _ _ _ _ _ _ _ (s₁.setTop (mkF m 49 #[.val (.long q1), .second, .val (.long (-q1)), .second, .val (.int (17 : Int32)), .val (.long (-100000000000000000 : Int64)), .second] []))
                                      refine own_st (fun t k => XS.iload X0.here hx rfl (hb hby d1_49) rfl k) ?_
                                      show own_Fin _ _ _ _ _ _ _ (s₁.setTop (mkF m 51 #[.val (.long q1), .second, .val (.long (-q1)), .second, .val (.int (17 : Int32)), .val (.long (-100000000000000000 : Int64)), .second] [(.int (17 : Int32))]))
                                      have hv : own_F1 q1 = (17 : Int32) := by unfold own_F1; rw [if_neg hc3_1, if_neg hc32_20, if_neg hc32_21, if_neg hc32_22, if_neg hc32_23, if_neg hc32_24, if_neg hc32_25, if_neg hc32_26, if_neg hc32_27, if_neg hc32_28, if_neg hc32_29, if_neg hc32_30, if_neg hc32_31, if_neg hc32_32, if_neg hc32_33, if_neg hc32_34, if_neg hc32_35, if_pos hc32_36]
                                      exact own_retI X0 hx Bd.notSynchronized Bd.returns (hb hby d1_51) (by decide) (by decide) ⟨congrArg (fun z => some (Value.int z)) hv.symm, N0, e0⟩
                                    · refine own_st (fun t k => XS.ifNo X0.here hx rfl (hb hby d1_32) rfl (own_gtF hc32_36).1 k) ?_
                                      show own_Fin _ _ _ _ _ _ _ (s₁.setTop (mkF m 35 #[.val (.long q1), .second, .val (.long (-q1)), .second, .val (.int (17 : Int32)), .val (.long (-100000000000000000 : Int64)), .second] []))
                                      refine own_st (fun t k => XS.iinc X0.here hx rfl (hb hby d1_35) rfl (l' := #[.val (.long q1), .second, .val (.long (-q1)), .second, .val (.int (18 : Int32)), .val (.long (-100000000000000000 : Int64)), .second]) rfl k) ?_
                                      show own_Fin _ _ _ _ _ _ _ (s₁.setTop (mkF m 38 #[.val (.long q1), .second, .val (.long (-q1)), .second, .val (.int (18 : Int32)), .val (.long (-100000000000000000 : Int64)), .second] []))
                                      refine own_st (fun t k => XS.lload X0.here hx rfl (hb hby d1_38) rfl k) ?_
                                      show own_Fin _ _ _ _ _ _ _ (s₁.setTop (mkF m 40 #[.val (.long q1), .second, .val (.long (-q1)), .second, .val (.int (18 : Int32)), .val (.long (-100000000000000000 : Int64)), .second] [(.long (-100000000000000000 : Int64))]))
                                      refine own_st (X0.ldc2Long hx hown (mvT hZ (hw _ (List.mem_of_getElem? (i := 25) rfl))) (g := (mkF m 40 #[.val (.long q1), .second, .val (.long (-q1)), .second, .val (.int (18 : Int32)), .val (.long (-100000000000000000 : Int64)), .second] [(.long (-100000000000000000 : Int64))])) rfl (hb hby d1_40)) ?_
                                      show own_Fin _ _ _ _ _ _ _ (s₁.setTop (mkF m 43 #[.val (.long q1), .second, .val (.long (-q1)), .second, .val (.int (18 : Int32)), .val (.long (-100000000000000000 : Int64)), .second] [(.long (10 : Int64)), (.long (-100000000000000000 : Int64))]))
                                      refine own_st (fun t k => XS.lmul X0.here hx rfl (hb hby d1_43) rfl k) ?_
                                      show own_Fin _ _ _ _ _ _ _ (s₁.setTop (mkF m 44 #[.val (.long q1), .second, .val (.long (-q1)), .second, .val (.int (18 : Int32)), .val (.long (-100000000000000000 : Int64)), .second] [(.long (-1000000000000000000 : Int64))]))
                                      refine own_st (fun t k => XS.lstore X0.here hx rfl (hb hby d1_44) rfl (l' := #[.val (.long q1), .second, .val (.long (-q1)), .second, .val (.int (18 : Int32)), .val (.long (-1000000000000000000 : Int64)), .second]) rfl k) ?_
                                      show own_Fin _ _ _ _ _ _ _ (s₁.setTop (mkF m 46 #[.val (.long q1), .second, .val (.long (-q1)), .second, .val (.int (18 : Int32)), .val (.long (-1000000000000000000 : Int64)), .second] []))
                                      refine own_st (fun t k => XS.goto X0.here hx rfl (pc0 := 46) (pc' := 21) rfl (hb hby d1_46) (by decide) (by decide) k) ?_
                                      show own_Fin _ _ _ _ _ _ _ (s₁.setTop (mkF m 21 #[.val (.long q1), .second, .val (.long (-q1)), .second, .val (.int (18 : Int32)), .val (.long (-1000000000000000000 : Int64)), .second] []))
                                      refine own_st (fun t k => XS.iload X0.here hx rfl (hb hby d1_21) rfl k) ?_
                                      show own_Fin _ _ _ _ _ _ _ (s₁.setTop (mkF m 23 #[.val (.long q1), .second, .val (.long (-q1)), .second, .val (.int (18 : Int32)), .val (.long (-1000000000000000000 : Int64)), .second] [(.int (18 : Int32))]))
                                      refine own_st (fun t k => XS.bipush X0.here hx rfl (hb hby d1_23) k) ?_
                                      show own_Fin _ _ _ _ _ _ _ (s₁.setTop (mkF m 25 #[.val (.long q1), .second, .val (.long (-q1)), .second, .val (.int (18 : Int32)), .val (.long (-1000000000000000000 : Int64)), .second] [(.int (19 : Int32)), (.int (18 : Int32))]))
                                      refine own_st (fun t k => XS.icmpNo X0.here hx rfl (hb hby d1_25) rfl (tlt (by decide : (18 : Int32) < (19 : Int32))).2.1 k) ?_
                                      show own_Fin _ _ _ _ _ _ _ (s₁.setTop (mkF m 28 #[.val (.long q1), .second, .val (.long (-q1)), .second, .val (.int (18 : Int32)), .val (.long (-1000000000000000000 : Int64)), .second] []))
                                      refine own_st (fun t k => XS.lloadN X0.here hx rfl (hb hby d1_28) rfl k) ?_
                                      show own_Fin _ _ _ _ _ _ _ (s₁.setTop (mkF m 29 #[.val (.long q1), .second, .val (.long (-q1)), .second, .val (.int (18 : Int32)), .val (.long (-1000000000000000000 : Int64)), .second] [(.long (-q1))]))
                                      refine own_st (fun t k => XS.lload X0.here hx rfl (hb hby d1_29) rfl k) ?_
                                      show own_Fin _ _ _ _ _ _ _ (s₁.setTop (mkF m 31 #[.val (.long q1), .second, .val (.long (-q1)), .second, .val (.int (18 : Int32)), .val (.long (-1000000000000000000 : Int64)), .second] [(.long (-1000000000000000000 : Int64)), (.long (-q1))]))
                                      refine own_st (fun t k => XS.lcmp X0.here hx rfl (hb hby d1_31) rfl k) ?_
                                      show own_Fin _ _ _ _ _ _ _ (s₁.setTop (mkF m 32 #[.val (.long q1), .second, .val (.long (-q1)), .second, .val (.int (18 : Int32)), .val (.long (-1000000000000000000 : Int64)), .second] [(.int (lcmpW (-q1) (-1000000000000000000 : Int64)))]))
                                      by_cases hc32_37 : (-1000000000000000000 : Int64) < (-q1)
                                      · refine own_st (fun t k => XS.ifYes X0.here hx rfl (pc0 := 32) (pc' := 49) rfl (hb hby d1_32) rfl (own_gtT hc32_37).1 (by decide) (by decide) k) ?_
                                        show own_Fin _ _ _ _ _ _ _ (s₁.setTop (mkF m 49 #[.val (.long q1), .second, .val (.long (-q1)), .second, .val (.int (18 : Int32)), .val (.long (-1000000000000000000 : Int64)), .second] []))
                                        refine own_st (fun t k => XS.iload X0.here hx rfl (hb hby d1_49) rfl k) ?_
                                        show own_Fin _ _ _ _ _ _ _ (s₁.setTop (mkF m 51 #[.val (.long q1), .second, .val (.long (-q1)), .second, .val (.int (18 : Int32)), .val (.long (-1000000000000000000 : Int64)), .second] [(.int (18 : Int32))]))
                                        have hv : own_F1 q1 = (18 : Int32) := by unfold own_F1; rw [if_neg hc3_1, if_neg hc32_20, if_neg hc32_21, if_neg hc32_22, if_neg hc32_23, if_neg hc32_24, if_neg hc32_25, if_neg hc32_26, if_neg hc32_27, if_neg hc32_28, if_neg hc32_29, if_neg hc32_30, if_neg hc32_31, if_neg hc32_32, if_neg hc32_33, if_neg hc32_34, if_neg hc32_35, if_neg hc32_36, if_pos hc32_37]
                                        exact own_retI X0 hx Bd.notSynchronized Bd.returns (hb hby d1_51) (by decide) (by decide) ⟨congrArg (fun z => some (Value.int z)) hv.symm, N0, e0⟩
                                      · refine own_st (fun t k => XS.ifNo X0.here hx rfl (hb hby d1_32) rfl (own_gtF hc32_37).1 k) ?_
                                        show own_Fin _ _ _ _ _ _ _ (s₁.setTop (mkF m 35 #[.val (.long q1), .second, .val (.long (-q1)), .second, .val (.int (18 : Int32)), .val (.long (-1000000000000000000 : Int64)), .second] []))
                                        refine own_st (fun t k => XS.iinc X0.here hx rfl (hb hby d1_35) rfl (l' := #[.val (.long q1), .second, .val (.long (-q1)), .second, .val (.int (19 : Int32)), .val (.long (-1000000000000000000 : Int64)), .second]) rfl k) ?_
                                        show own_Fin _ _ _ _ _ _ _ (s₁.setTop (mkF m 38 #[.val (.long q1), .second, .val (.long (-q1)), .second, .val (.int (19 : Int32)), .val (.long (-1000000000000000000 : Int64)), .second] []))
                                        refine own_st (fun t k => XS.lload X0.here hx rfl (hb hby d1_38) rfl k) ?_
                                        show own_Fin _ _ _ _ _ _ _ (s₁.setTop (mkF m 40 #[.val (.long q1), .second, .val (.long (-q1)), .second, .val (.int (19 : Int32)), .val (.long (-1000000000000000000 : Int64)), .second] [(.long (-1000000000000000000 : Int64))]))
                                        refine own_st (X0.ldc2Long hx hown (mvT hZ (hw _ (List.mem_of_getElem? (i := 25) rfl))) (g := (mkF m 40 #[.val (.long q1), .second, .val (.long (-q1)), .second, .val (.int (19 : Int32)), .val (.long (-1000000000000000000 : Int64)), .second] [(.long (-1000000000000000000 : Int64))])) rfl (hb hby d1_40)) ?_
                                        show own_Fin _ _ _ _ _ _ _ (s₁.setTop (mkF m 43 #[.val (.long q1), .second, .val (.long (-q1)), .second, .val (.int (19 : Int32)), .val (.long (-1000000000000000000 : Int64)), .second] [(.long (10 : Int64)), (.long (-1000000000000000000 : Int64))]))
                                        refine own_st (fun t k => XS.lmul X0.here hx rfl (hb hby d1_43) rfl k) ?_
                                        show own_Fin _ _ _ _ _ _ _ (s₁.setTop (mkF m 44 #[.val (.long q1), .second, .val (.long (-q1)), .second, .val (.int (19 : Int32)), .val (.long (-1000000000000000000 : Int64)), .second] [(.long (8446744073709551616 : Int64))]))
                                        refine own_st (fun t k => XS.lstore X0.here hx rfl (hb hby d1_44) rfl (l' := #[.val (.long q1), .second, .val (.long (-q1)), .second, .val (.int (19 : Int32)), .val (.long (8446744073709551616 : Int64)), .second]) rfl k) ?_
                                        show own_Fin _ _ _ _ _ _ _ (s₁.setTop (mkF m 46 #[.val (.long q1), .second, .val (.long (-q1)), .second, .val (.int (19 : Int32)), .val (.long (8446744073709551616 : Int64)), .second] []))
                                        refine own_st (fun t k => XS.goto X0.here hx rfl (pc0 := 46) (pc' := 21) rfl (hb hby d1_46) (by decide) (by decide) k) ?_
                                        show own_Fin _ _ _ _ _ _ _ (s₁.setTop (mkF m 21 #[.val (.long q1), .second, .val (.long (-q1)), .second, .val (.int (19 : Int32)), .val (.long (8446744073709551616 : Int64)), .second] []))
                                        refine own_st (fun t k => XS.iload X0.here hx rfl (hb hby d1_21) rfl k) ?_
                                        show own_Fin _ _ _ _ _ _ _ (s₁.setTop (mkF m 23 #[.val (.long q1), .second, .val (.long (-q1)), .second, .val (.int (19 : Int32)), .val (.long (8446744073709551616 : Int64)), .second] [(.int (19 : Int32))]))
                                        refine own_st (fun t k => XS.bipush X0.here hx rfl (hb hby d1_23) k) ?_
                                        show own_Fin _ _ _ _ _ _ _ (s₁.setTop (mkF m 25 #[.val (.long q1), .second, .val (.long (-q1)), .second, .val (.int (19 : Int32)), .val (.long (8446744073709551616 : Int64)), .second] [(.int (19 : Int32)), (.int (19 : Int32))]))
                                        refine own_st (fun t k => XS.icmpYes X0.here hx rfl (pc0 := 25) (pc' := 49) rfl (hb hby d1_25) rfl (flt (by decide : ¬ ((19 : Int32) < (19 : Int32)))).2.1 (by decide) (by decide) k) ?_
                                        show own_Fin _ _ _ _ _ _ _ (s₁.setTop (mkF m 49 #[.val (.long q1), .second, .val (.long (-q1)), .second, .val (.int (19 : Int32)), .val (.long (8446744073709551616 : Int64)), .second] []))
                                        refine own_st (fun t k => XS.iload X0.here hx rfl (hb hby d1_49) rfl k) ?_
                                        show own_Fin _ _ _ _ _ _ _ (s₁.setTop (mkF m 51 #[.val (.long q1), .second, .val (.long (-q1)), .second, .val (.int (19 : Int32)), .val (.long (8446744073709551616 : Int64)), .second] [(.int (19 : Int32))]))
                                        have hv : own_F1 q1 = (19 : Int32) := by unfold own_F1; rw [if_neg hc3_1, if_neg hc32_20, if_neg hc32_21, if_neg hc32_22, if_neg hc32_23, if_neg hc32_24, if_neg hc32_25, if_neg hc32_26, if_neg hc32_27, if_neg hc32_28, if_neg hc32_29, if_neg hc32_30, if_neg hc32_31, if_neg hc32_32, if_neg hc32_33, if_neg hc32_34, if_neg hc32_35, if_neg hc32_36, if_neg hc32_37]
                                        exact own_retI X0 hx Bd.notSynchronized Bd.returns (hb hby d1_51) (by decide) (by decide) ⟨congrArg (fun z => some (Value.int z)) hv.symm, N0, e0⟩
def own_pw (j : Int32) : Int64 := Int64.ofNat (10 ^ j.toNatClampNeg)
def own_ch (n : Int64) : Int32 := (if (-10 : Int64) < n then (1 : Int32) else (if (-100 : Int64) < n then (2 : Int32) else (if (-1000 : Int64) < n then (3 : Int32) else (if (-10000 : Int64) < n then (4 : Int32) else (if (-100000 : Int64) < n then (5 : Int32) else (if (-1000000 : Int64) < n then (6 : Int32) else (if (-10000000 : Int64) < n then (7 : Int32) else (if (-100000000 : Int64) < n then (8 : Int32) else (if (-1000000000 : Int64) < n then (9 : Int32) else (if (-10000000000 : Int64) < n then (10 : Int32) else (if (-100000000000 : Int64) < n then (11 : Int32) else (if (-1000000000000 : Int64) < n then (12 : Int32) else (if (-10000000000000 : Int64) < n then (13 : Int32) else (if (-100000000000000 : Int64) < n then (14 : Int32) else (if (-1000000000000000 : Int64) < n then (15 : Int32) else (if (-10000000000000000 : Int64) < n then (16 : Int32) else (if (-100000000000000000 : Int64) < n then (17 : Int32) else (if (-1000000000000000000 : Int64) < n then (18 : Int32) else (19 : Int32)))))))))))))))))))
def own_P (n : Int64) (d : Int32) : Prop := ¬ d < (1 : Int32) ∧ ¬ (19 : Int32) < d ∧ (d = (1 : Int32) ∨ ¬ ((-(own_pw (d - (1 : Int32)))) < n)) ∧ (d = (19 : Int32) ∨ (-(own_pw d)) < n)
theorem own_chP (n : Int64) : own_P n (own_ch n) := by
  unfold own_ch
  by_cases h1 : (-10 : Int64) < n
  · rw [if_pos h1]
    exact ⟨by decide, by decide, Or.inl rfl, Or.inr h1⟩
  · rw [if_neg h1]
    by_cases h2 : (-100 : Int64) < n
    · rw [if_pos h2]
      exact ⟨by decide, by decide, Or.inr h1, Or.inr h2⟩
    · rw [if_neg h2]
      by_cases h3 : (-1000 : Int64) < n
      · rw [if_pos h3]
        exact ⟨by decide, by decide, Or.inr h2, Or.inr h3⟩
      · rw [if_neg h3]
        by_cases h4 : (-10000 : Int64) < n
        · rw [if_pos h4]
          exact ⟨by decide, by decide, Or.inr h3, Or.inr h4⟩
        · rw [if_neg h4]
          by_cases h5 : (-100000 : Int64) < n
          · rw [if_pos h5]
            exact ⟨by decide, by decide, Or.inr h4, Or.inr h5⟩
          · rw [if_neg h5]
            by_cases h6 : (-1000000 : Int64) < n
            · rw [if_pos h6]
              exact ⟨by decide, by decide, Or.inr h5, Or.inr h6⟩
            · rw [if_neg h6]
              by_cases h7 : (-10000000 : Int64) < n
              · rw [if_pos h7]
                exact ⟨by decide, by decide, Or.inr h6, Or.inr h7⟩
              · rw [if_neg h7]
                by_cases h8 : (-100000000 : Int64) < n
                · rw [if_pos h8]
                  exact ⟨by decide, by decide, Or.inr h7, Or.inr h8⟩
                · rw [if_neg h8]
                  by_cases h9 : (-1000000000 : Int64) < n
                  · rw [if_pos h9]
                    exact ⟨by decide, by decide, Or.inr h8, Or.inr h9⟩
                  · rw [if_neg h9]
                    by_cases h10 : (-10000000000 : Int64) < n
                    · rw [if_pos h10]
                      exact ⟨by decide, by decide, Or.inr h9, Or.inr h10⟩
                    · rw [if_neg h10]
                      by_cases h11 : (-100000000000 : Int64) < n
                      · rw [if_pos h11]
                        exact ⟨by decide, by decide, Or.inr h10, Or.inr h11⟩
                      · rw [if_neg h11]
                        by_cases h12 : (-1000000000000 : Int64) < n
                        · rw [if_pos h12]
                          exact ⟨by decide, by decide, Or.inr h11, Or.inr h12⟩
                        · rw [if_neg h12]
                          by_cases h13 : (-10000000000000 : Int64) < n
                          · rw [if_pos h13]
                            exact ⟨by decide, by decide, Or.inr h12, Or.inr h13⟩
                          · rw [if_neg h13]
                            by_cases h14 : (-100000000000000 : Int64) < n
                            · rw [if_pos h14]
                              exact ⟨by decide, by decide, Or.inr h13, Or.inr h14⟩
                            · rw [if_neg h14]
                              by_cases h15 : (-1000000000000000 : Int64) < n
                              · rw [if_pos h15]
                                exact ⟨by decide, by decide, Or.inr h14, Or.inr h15⟩
                              · rw [if_neg h15]
                                by_cases h16 : (-10000000000000000 : Int64) < n
                                · rw [if_pos h16]
                                  exact ⟨by decide, by decide, Or.inr h15, Or.inr h16⟩
                                · rw [if_neg h16]
                                  by_cases h17 : (-100000000000000000 : Int64) < n
                                  · rw [if_pos h17]
                                    exact ⟨by decide, by decide, Or.inr h16, Or.inr h17⟩
                                  · rw [if_neg h17]
                                    by_cases h18 : (-1000000000000000000 : Int64) < n
                                    · rw [if_pos h18]
                                      exact ⟨by decide, by decide, Or.inr h17, Or.inr h18⟩
                                    · rw [if_neg h18]
                                      exact ⟨by decide, by decide, Or.inr h18, Or.inl rfl⟩
theorem own_dig (v : Int64) : own_P (if v < (0 : Int64) then v else -v) (own_F1 v) := by
  have e : own_F1 v = own_ch (if v < (0 : Int64) then v else -v) := by
    unfold own_F1 own_ch
    by_cases h : v < (0 : Int64)
    · rw [if_pos h, if_pos h]
    · rw [if_neg h, if_neg h]
  rw [e]
  exact own_chP _
theorem own_i0 (x : Int32) : ¬ ((x &&& (2147483647 : Int32)) % (19 : Int32)) < 0 ∧ ((x &&& (2147483647 : Int32)) % (19 : Int32)) < (19 : Int32) := by
  have b := c_and x (2147483647 : Int32) (by decide)
  have r := (c_irem (x &&& 2147483647) (19 : Int32) 19 (by decide)).1 b.1
  rw [Int32.lt_iff_toInt_lt, Int32.lt_iff_toInt_lt, r, show (0 : Int32).toInt = 0 by decide, show (19 : Int32).toInt = 19 by decide]
  omega
theorem own_i1 {d : Int32} (h1 : ¬ d < (1 : Int32)) (h2 : ¬ (19 : Int32) < d) : ¬ (d - (1 : Int32)) < 0 ∧ (d - (1 : Int32)) < (19 : Int32) := by
  rw [Int32.lt_iff_toInt_lt, show (1 : Int32).toInt = 1 by decide] at h1
  rw [Int32.lt_iff_toInt_lt, show (19 : Int32).toInt = 19 by decide] at h2
  have a := c_isub d (1 : Int32)
  rw [show (1 : Int32).toInt = 1 by decide] at a
  have r := rng32 (d - 1)
  rw [Int32.lt_iff_toInt_lt, Int32.lt_iff_toInt_lt, show (0 : Int32).toInt = 0 by decide, show (19 : Int32).toInt = 19 by decide]
  omega
theorem own_i2 {d : Int32} (h1 : ¬ d < (1 : Int32)) (h2 : ¬ (19 : Int32) < d) (h3 : ¬ d = (19 : Int32)) : ¬ d < 0 ∧ d < (19 : Int32) := by
  rw [Int32.lt_iff_toInt_lt, show (1 : Int32).toInt = 1 by decide] at h1
  rw [Int32.lt_iff_toInt_lt, show (19 : Int32).toInt = 19 by decide] at h2
  have h3' : d.toInt ≠ 19 := fun q => h3 (Int32.toInt_inj.mp (by rw [q]; decide))
  rw [Int32.lt_iff_toInt_lt, Int32.lt_iff_toInt_lt, show (0 : Int32).toInt = 0 by decide, show (19 : Int32).toInt = 19 by decide]
  omega
theorem own_getN : ∀ k, k < 19 → ([(.long (1 : Int64)), (.long (10 : Int64)), (.long (100 : Int64)), (.long (1000 : Int64)), (.long (10000 : Int64)), (.long (100000 : Int64)), (.long (1000000 : Int64)), (.long (10000000 : Int64)), (.long (100000000 : Int64)), (.long (1000000000 : Int64)), (.long (10000000000 : Int64)), (.long (100000000000 : Int64)), (.long (1000000000000 : Int64)), (.long (10000000000000 : Int64)), (.long (100000000000000 : Int64)), (.long (1000000000000000 : Int64)), (.long (10000000000000000 : Int64)), (.long (100000000000000000 : Int64)), (.long (1000000000000000000 : Int64))] : List Value).getD k (.long (0 : Int64)) = .long (Int64.ofNat (10 ^ k)) := by
  intro k hk
  match k, hk with
  | 0, _ => rfl
  | 1, _ => rfl
  | 2, _ => rfl
  | 3, _ => rfl
  | 4, _ => rfl
  | 5, _ => rfl
  | 6, _ => rfl
  | 7, _ => rfl
  | 8, _ => rfl
  | 9, _ => rfl
  | 10, _ => rfl
  | 11, _ => rfl
  | 12, _ => rfl
  | 13, _ => rfl
  | 14, _ => rfl
  | 15, _ => rfl
  | 16, _ => rfl
  | 17, _ => rfl
  | 18, _ => rfl
  | k + 19, h => exact absurd h (by omega)
theorem own_get {j : Int32} (h : ¬ j < 0 ∧ j < (19 : Int32)) : ([(.long (1 : Int64)), (.long (10 : Int64)), (.long (100 : Int64)), (.long (1000 : Int64)), (.long (10000 : Int64)), (.long (100000 : Int64)), (.long (1000000 : Int64)), (.long (10000000 : Int64)), (.long (100000000 : Int64)), (.long (1000000000 : Int64)), (.long (10000000000 : Int64)), (.long (100000000000 : Int64)), (.long (1000000000000 : Int64)), (.long (10000000000000 : Int64)), (.long (100000000000000 : Int64)), (.long (1000000000000000 : Int64)), (.long (10000000000000000 : Int64)), (.long (100000000000000000 : Int64)), (.long (1000000000000000000 : Int64))] : List Value).getD j.toNatClampNeg (.long (0 : Int64)) = .long (own_pw j) := by
  refine own_getN _ ?_
  have h1 := h.1
  have h2 := h.2
  rw [Int32.lt_iff_toInt_lt, show (0 : Int32).toInt = 0 by decide] at h1
  rw [Int32.lt_iff_toInt_lt, show (19 : Int32).toInt = 19 by decide] at h2
  simp only [Int32.toNatClampNeg]
  omega
theorem pn_0 : plainFor x = true := plainFor_of_name (x := x) (by first | (simp [plainName, overriddenIn]; done) | decide +kernel)
theorem pd_0_0 : parseMethodDescriptor "(J)I" = some ⟨[.long], some .int⟩ := by decide +kernel
theorem ef_0 (m : MethodId) (q1 : Int64) (p2 : Int32) (p3 : Int32) (p4 : Int32) : entryFrame m #[(.long q1), (.int p2), (.int p3), (.int p4)] maxLocals = mkF m 0 #[.val (.long q1), .second, .val (.int p2), .val (.int p3), .val (.int p4), .unset, .unset, .unset, .unset, .unset, .unset, .unset, .unset] [] := by first | (simp [entryFrame, mkF, argsToLocals, Value.category, maxLocals]; done) | rfl
def own_Q_rm0 (Z : State) (q1 : Int64) (p2 : Int32) (p3 : Int32) (p4 : Int32)  (h0 : Heap) (n0 : Nat) (v : Option Value) (h : Heap) (L : List Loc) : Prop := v = some (.int (1 : Int32)) ∧ Fr n0 L ∧ True
set_option maxRecDepth 65536 in
set_option maxHeartbeats 40000000 in
theorem rm0 (l : Launch) (Z : State) (a0 : Array Value) (hw : ∀ d ∈ tables_1, d.before a0 Z = true) (ws : List Jvm.Cond) (q1 : Int64) (p2 : Int32) (p3 : Int32) (p4 : Int32)  (h0 : Heap) (n0 : Nat) (Z0 : n0 ≤ h0.size)  :
    MetFree l x (head1 (Jvm.Cond.code x code maxLocals ret :: ws) room_1) (fun a U => a = #[(.long q1), (.int p2), (.int p3), (.int p4)] ∧ Z.Warmed39 U.vm ∧ U.heap = h0) (fun _ _ _ _ _ => True) (fun _ U o U' => ∃ v L, o = .returned v ∧ own_Q_rm0 Z q1 p2 p3 p4 h0 n0 v U'.heap L ∧ FrameEnd U o U' L 16 128) := by
  refine MetFree.of_bodySF pn_0 hisR ?_
  intro p e s m args below meth c s₁ Bd hml0 hP hK
  obtain ⟨rfl, hZ, hh⟩ := hP
  have hx := Bd.exec
  have hby := Bd.bytes
  have hml : c.maxLocals = 13 := hml0
  have hown : s.vm.findClass "hedgerow/DecimalDigitsPinLaw" = some m.cls := findClass_of_methodNamed Bd.named
  have hnm := (name_of_methodNamed Bd.named Bd.method).1
  have X0 : Stand p l e room_1 s m #[(.long q1), (.int p2), (.int p3), (.int p4)] below meth c s₁ [] 0 0 := Stand.of_body Bd
  have e0 : s₁.heap = h0 := by rw [← hh, Bd.state]; rfl
  have N0 := Fr.nil n0
  show own_Fin p.tables e below s (16) (128) (own_Q_rm0 Z q1 p2 p3 p4 h0 n0) (s₁.setTop (entryFrame m #[(.long q1), (.int p2), (.int p3), (.int p4)] maxLocals))
  rw [ef_0 m q1 p2 p3 p4]
  show own_Fin _ _ _ _ _ _ _ (s₁.setTop (mkF m 0 #[.val (.long q1), .second, .val (.int p2), .val (.int p3), .val (.int p4), .unset, .unset, .unset, .unset, .unset, .unset, .unset, .unset] []))
  refine own_st (fun t k => XS.bipush X0.here hx rfl (hb hby at_0) k) ?_
  show own_Fin _ _ _ _ _ _ _ (s₁.setTop (mkF m 2 #[.val (.long q1), .second, .val (.int p2), .val (.int p3), .val (.int p4), .unset, .unset, .unset, .unset, .unset, .unset, .unset, .unset] [(.int (19 : Int32))]))
  obtain ⟨T1, h1, k1, X1, e1, E1, A1, st1⟩ := newP X0 hx hZ (hw _ (List.mem_of_getElem? (i := 0) rfl)) e0 (g := (mkF m 2 #[.val (.long q1), .second, .val (.int p2), .val (.int p3), .val (.int p4), .unset, .unset, .unset, .unset, .unset, .unset, .unset, .unset] [(.int (19 : Int32))])) rfl (hb hby at_2) rfl (by decide) (cap := 19) (by decide) (by decide) (by decide) (by decide)
  obtain ⟨b1, g1⟩ : ∃ z, z = h0.size := ⟨_, rfl⟩
  rw [← g1] at A1 st1
  have ge_b1 : n0 ≤ b1 := Nat.le_trans Z0 (Nat.le_of_eq g1.symm)
  have Z1 : n0 ≤ h1.size := Nat.le_trans Z0 E1.1
  have V1 : Arv Z h1 b1 k1 .long (19 : Int32) [(.long (0 : Int64)), (.long (0 : Int64)), (.long (0 : Int64)), (.long (0 : Int64)), (.long (0 : Int64)), (.long (0 : Int64)), (.long (0 : Int64)), (.long (0 : Int64)), (.long (0 : Int64)), (.long (0 : Int64)), (.long (0 : Int64)), (.long (0 : Int64)), (.long (0 : Int64)), (.long (0 : Int64)), (.long (0 : Int64)), (.long (0 : Int64)), (.long (0 : Int64)), (.long (0 : Int64)), (.long (0 : Int64))] (.long (0 : Int64)) := (Arv.new A1 (by decide)).pad (pad_rep [] (.long (0 : Int64)) 19)
  refine own_st st1 ?_
  show own_Fin _ _ _ _ _ _ _ (T1.setTop (mkF m 4 #[.val (.long q1), .second, .val (.int p2), .val (.int p3), .val (.int p4), .unset, .unset, .unset, .unset, .unset, .unset, .unset, .unset] [(.ref b1)]))
  refine own_st (fun t k => XS.dup X1.here hx rfl (hb hby at_4) rfl rfl k) ?_
  show own_Fin _ _ _ _ _ _ _ (T1.setTop (mkF m 5 #[.val (.long q1), .second, .val (.int p2), .val (.int p3), .val (.int p4), .unset, .unset, .unset, .unset, .unset, .unset, .unset, .unset] [(.ref b1), (.ref b1)]))
  refine own_st (fun t k => XS.iconst X1.here hx rfl (hb hby at_5) k) ?_
  show own_Fin _ _ _ _ _ _ _ (T1.setTop (mkF m 6 #[.val (.long q1), .second, .val (.int p2), .val (.int p3), .val (.int p4), .unset, .unset, .unset, .unset, .unset, .unset, .unset, .unset] [(.int (0 : Int32)), (.ref b1), (.ref b1)]))
  refine own_st (fun t k => XS.lconst X1.here hx rfl (hb hby at_6) k) ?_
  show own_Fin _ _ _ _ _ _ _ (T1.setTop (mkF m 7 #[.val (.long q1), .second, .val (.int p2), .val (.int p3), .val (.int p4), .unset, .unset, .unset, .unset, .unset, .unset, .unset, .unset] [(.long (1 : Int64)), (.int (0 : Int32)), (.ref b1), (.ref b1)]))
  obtain ⟨cl2, Ar2, Cq2, Sz2, Mn2, Hs2, Gf2⟩ := id V1
  obtain ⟨T2, h2, X2, e2, W2, st2⟩ := stJ X1 hx hZ e1 Ar2 (j := (0 : Int32)) (inb_of Sz2 ⟨by decide, by decide⟩) (g := (mkF m 7 #[.val (.long q1), .second, .val (.int p2), .val (.int p3), .val (.int p4), .unset, .unset, .unset, .unset, .unset, .unset, .unset, .unset] [(.long (1 : Int64)), (.int (0 : Int32)), (.ref b1), (.ref b1)])) rfl rfl (hb hby at_7)
  have V2 : Arv Z h2 b1 k1 .long (19 : Int32) [(.long (1 : Int64)), (.long (0 : Int64)), (.long (0 : Int64)), (.long (0 : Int64)), (.long (0 : Int64)), (.long (0 : Int64)), (.long (0 : Int64)), (.long (0 : Int64)), (.long (0 : Int64)), (.long (0 : Int64)), (.long (0 : Int64)), (.long (0 : Int64)), (.long (0 : Int64)), (.long (0 : Int64)), (.long (0 : Int64)), (.long (0 : Int64)), (.long (0 : Int64)), (.long (0 : Int64)), (.long (0 : Int64))] (.long (0 : Int64)) := Arv.set Ar2 Cq2 Sz2 Mn2 Hs2 Gf2 rfl W2 0 rfl (Nat.le_of_ble_eq_true rfl)
  have N2 := Fr.snoc X2 N0 ge_b1
  have Z2 : n0 ≤ h2.size := Nat.le_trans Z1 (Keep.of_wr W2).1
  refine own_st st2 ?_
  show own_Fin _ _ _ _ _ _ _ (T2.setTop (mkF m 8 #[.val (.long q1), .second, .val (.int p2), .val (.int p3), .val (.int p4), .unset, .unset, .unset, .unset, .unset, .unset, .unset, .unset] [(.ref b1)]))
  refine own_st (fun t k => XS.dup X2.here hx rfl (hb hby at_8) rfl rfl k) ?_
  show own_Fin _ _ _ _ _ _ _ (T2.setTop (mkF m 9 #[.val (.long q1), .second, .val (.int p2), .val (.int p3), .val (.int p4), .unset, .unset, .unset, .unset, .unset, .unset, .unset, .unset] [(.ref b1), (.ref b1)]))
  refine own_st (fun t k => XS.iconst X2.here hx rfl (hb hby at_9) k) ?_
  show own_Fin _ _ _ _ _ _ _ (T2.setTop (mkF m 10 #[.val (.long q1), .second, .val (.int p2), .val (.int p3), .val (.int p4), .unset, .unset, .unset, .unset, .unset, .unset, .unset, .unset] [(.int (1 : Int32)), (.ref b1), (.ref b1)]))
  refine own_st (X2.ldc2Long hx hown (mvT hZ (hw _ (List.mem_of_getElem? (i := 1) rfl))) (g := (mkF m 10 #[.val (.long q1), .second, .val (.int p2), .val (.int p3), .val (.int p4), .unset, .unset, .unset, .unset, .unset, .unset, .unset, .unset] [(.int (1 : Int32)), (.ref b1), (.ref b1)])) rfl (hb hby at_10)) ?_
  show own_Fin _ _ _ _ _ _ _ (T2.setTop (mkF m 13 #[.val (.long q1), .second, .val (.int p2), .val (.int p3), .val (.int p4), .unset, .unset, .unset, .unset, .unset, .unset, .unset, .unset] [(.long (10 : Int64)), (.int (1 : Int32)), (.ref b1), (.ref b1)]))
  obtain ⟨cl3, Ar3, Cq3, Sz3, Mn3, Hs3, Gf3⟩ := id V2
  obtain ⟨T3, h3, X3, e3, W3, st3⟩ := stJ X2 hx hZ e2 Ar3 (j := (1 : Int32)) (inb_of Sz3 ⟨by decide, by decide⟩) (g := (mkF m 13 #[.val (.long q1), .second, .val (.int p2), .val (.int p3), .val (.int p4), .unset, .unset, .unset, .unset, .unset, .unset, .unset, .unset] [(.long (10 : Int64)), (.int (1 : Int32)), (.ref b1), (.ref b1)])) rfl rfl (hb hby at_13)
  have V3 : Arv Z h3 b1 k1 .long (19 : Int32) [(.long (1 : Int64)), (.long (10 : Int64)), (.long (0 : Int64)), (.long (0 : Int64)), (.long (0 : Int64)), (.long (0 : Int64)), (.long (0 : Int64)), (.long (0 : Int64)), (.long (0 : Int64)), (.long (0 : Int64)), (.long (0 : Int64)), (.long (0 : Int64)), (.long (0 : Int64)), (.long (0 : Int64)), (.long (0 : Int64)), (.long (0 : Int64)), (.long (0 : Int64)), (.long (0 : Int64)), (.long (0 : Int64))] (.long (0 : Int64)) := Arv.set Ar3 Cq3 Sz3 Mn3 Hs3 Gf3 rfl W3 1 rfl (Nat.le_of_ble_eq_true rfl)
  have N3 := Fr.snoc X3 N2 ge_b1
  have Z3 : n0 ≤ h3.size := Nat.le_trans Z2 (Keep.of_wr W3).1
  refine own_st st3 ?_
  show own_Fin _ _ _ _ _ _ _ (T3.setTop (mkF m 14 #[.val (.long q1), .second, .val (.int p2), .val (.int p3), .val (.int p4), .unset, .unset, .unset, .unset, .unset, .unset, .unset, .unset] [(.ref b1)]))
  refine own_st (fun t k => XS.dup X3.here hx rfl (hb hby at_14) rfl rfl k) ?_
  show own_Fin _ _ _ _ _ _ _ (T3.setTop (mkF m 15 #[.val (.long q1), .second, .val (.int p2), .val (.int p3), .val (.int p4), .unset, .unset, .unset, .unset, .unset, .unset, .unset, .unset] [(.ref b1), (.ref b1)]))
  refine own_st (fun t k => XS.iconst X3.here hx rfl (hb hby at_15) k) ?_
  show own_Fin _ _ _ _ _ _ _ (T3.setTop (mkF m 16 #[.val (.long q1), .second, .val (.int p2), .val (.int p3), .val (.int p4), .unset, .unset, .unset, .unset, .unset, .unset, .unset, .unset] [(.int (2 : Int32)), (.ref b1), (.ref b1)]))
  refine own_st (X3.ldc2Long hx hown (mvT hZ (hw _ (List.mem_of_getElem? (i := 2) rfl))) (g := (mkF m 16 #[.val (.long q1), .second, .val (.int p2), .val (.int p3), .val (.int p4), .unset, .unset, .unset, .unset, .unset, .unset, .unset, .unset] [(.int (2 : Int32)), (.ref b1), (.ref b1)])) rfl (hb hby at_16)) ?_
  show own_Fin _ _ _ _ _ _ _ (T3.setTop (mkF m 19 #[.val (.long q1), .second, .val (.int p2), .val (.int p3), .val (.int p4), .unset, .unset, .unset, .unset, .unset, .unset, .unset, .unset] [(.long (100 : Int64)), (.int (2 : Int32)), (.ref b1), (.ref b1)]))
  obtain ⟨cl4, Ar4, Cq4, Sz4, Mn4, Hs4, Gf4⟩ := id V3
  obtain ⟨T4, h4, X4, e4, W4, st4⟩ := stJ X3 hx hZ e3 Ar4 (j := (2 : Int32)) (inb_of Sz4 ⟨by decide, by decide⟩) (g := (mkF m 19 #[.val (.long q1), .second, .val (.int p2), .val (.int p3), .val (.int p4), .unset, .unset, .unset, .unset, .unset, .unset, .unset, .unset] [(.long (100 : Int64)), (.int (2 : Int32)), (.ref b1), (.ref b1)])) rfl rfl (hb hby at_19)
  have V4 : Arv Z h4 b1 k1 .long (19 : Int32) [(.long (1 : Int64)), (.long (10 : Int64)), (.long (100 : Int64)), (.long (0 : Int64)), (.long (0 : Int64)), (.long (0 : Int64)), (.long (0 : Int64)), (.long (0 : Int64)), (.long (0 : Int64)), (.long (0 : Int64)), (.long (0 : Int64)), (.long (0 : Int64)), (.long (0 : Int64)), (.long (0 : Int64)), (.long (0 : Int64)), (.long (0 : Int64)), (.long (0 : Int64)), (.long (0 : Int64)), (.long (0 : Int64))] (.long (0 : Int64)) := Arv.set Ar4 Cq4 Sz4 Mn4 Hs4 Gf4 rfl W4 2 rfl (Nat.le_of_ble_eq_true rfl)
  have N4 := Fr.snoc X4 N3 ge_b1
  have Z4 : n0 ≤ h4.size := Nat.le_trans Z3 (Keep.of_wr W4).1
  refine own_st st4 ?_
  show own_Fin _ _ _ _ _ _ _ (T4.setTop (mkF m 20 #[.val (.long q1), .second, .val (.int p2), .val (.int p3), .val (.int p4), .unset, .unset, .unset, .unset, .unset, .unset, .unset, .unset] [(.ref b1)]))
  refine own_st (fun t k => XS.dup X4.here hx rfl (hb hby at_20) rfl rfl k) ?_
  show own_Fin _ _ _ _ _ _ _ (T4.setTop (mkF m 21 #[.val (.long q1), .second, .val (.int p2), .val (.int p3), .val (.int p4), .unset, .unset, .unset, .unset, .unset, .unset, .unset, .unset] [(.ref b1), (.ref b1)]))
  refine own_st (fun t k => XS.iconst X4.here hx rfl (hb hby at_21) k) ?_
  show own_Fin _ _ _ _ _ _ _ (T4.setTop (mkF m 22 #[.val (.long q1), .second, .val (.int p2), .val (.int p3), .val (.int p4), .unset, .unset, .unset, .unset, .unset, .unset, .unset, .unset] [(.int (3 : Int32)), (.ref b1), (.ref b1)]))
  refine own_st (X4.ldc2Long hx hown (mvT hZ (hw _ (List.mem_of_getElem? (i := 3) rfl))) (g := (mkF m 22 #[.val (.long q1), .second, .val (.int p2), .val (.int p3), .val (.int p4), .unset, .unset, .unset, .unset, .unset, .unset, .unset, .unset] [(.int (3 : Int32)), (.ref b1), (.ref b1)])) rfl (hb hby at_22)) ?_
  show own_Fin _ _ _ _ _ _ _ (T4.setTop (mkF m 25 #[.val (.long q1), .second, .val (.int p2), .val (.int p3), .val (.int p4), .unset, .unset, .unset, .unset, .unset, .unset, .unset, .unset] [(.long (1000 : Int64)), (.int (3 : Int32)), (.ref b1), (.ref b1)]))
  obtain ⟨cl5, Ar5, Cq5, Sz5, Mn5, Hs5, Gf5⟩ := id V4
  obtain ⟨T5, h5, X5, e5, W5, st5⟩ := stJ X4 hx hZ e4 Ar5 (j := (3 : Int32)) (inb_of Sz5 ⟨by decide, by decide⟩) (g := (mkF m 25 #[.val (.long q1), .second, .val (.int p2), .val (.int p3), .val (.int p4), .unset, .unset, .unset, .unset, .unset, .unset, .unset, .unset] [(.long (1000 : Int64)), (.int (3 : Int32)), (.ref b1), (.ref b1)])) rfl rfl (hb hby at_25)
  have V5 : Arv Z h5 b1 k1 .long (19 : Int32) [(.long (1 : Int64)), (.long (10 : Int64)), (.long (100 : Int64)), (.long (1000 : Int64)), (.long (0 : Int64)), (.long (0 : Int64)), (.long (0 : Int64)), (.long (0 : Int64)), (.long (0 : Int64)), (.long (0 : Int64)), (.long (0 : Int64)), (.long (0 : Int64)), (.long (0 : Int64)), (.long (0 : Int64)), (.long (0 : Int64)), (.long (0 : Int64)), (.long (0 : Int64)), (.long (0 : Int64)), (.long (0 : Int64))] (.long (0 : Int64)) := Arv.set Ar5 Cq5 Sz5 Mn5 Hs5 Gf5 rfl W5 3 rfl (Nat.le_of_ble_eq_true rfl)
  have N5 := Fr.snoc X5 N4 ge_b1
  have Z5 : n0 ≤ h5.size := Nat.le_trans Z4 (Keep.of_wr W5).1
  refine own_st st5 ?_
  show own_Fin _ _ _ _ _ _ _ (T5.setTop (mkF m 26 #[.val (.long q1), .second, .val (.int p2), .val (.int p3), .val (.int p4), .unset, .unset, .unset, .unset, .unset, .unset, .unset, .unset] [(.ref b1)]))
  refine own_st (fun t k => XS.dup X5.here hx rfl (hb hby at_26) rfl rfl k) ?_
  show own_Fin _ _ _ _ _ _ _ (T5.setTop (mkF m 27 #[.val (.long q1), .second, .val (.int p2), .val (.int p3), .val (.int p4), .unset, .unset, .unset, .unset, .unset, .unset, .unset, .unset] [(.ref b1), (.ref b1)]))
  refine own_st (fun t k => XS.iconst X5.here hx rfl (hb hby at_27) k) ?_
  show own_Fin _ _ _ _ _ _ _ (T5.setTop (mkF m 28 #[.val (.long q1), .second, .val (.int p2), .val (.int p3), .val (.int p4), .unset, .unset, .unset, .unset, .unset, .unset, .unset, .unset] [(.int (4 : Int32)), (.ref b1), (.ref b1)]))
  refine own_st (X5.ldc2Long hx hown (mvT hZ (hw _ (List.mem_of_getElem? (i := 4) rfl))) (g := (mkF m 28 #[.val (.long q1), .second, .val (.int p2), .val (.int p3), .val (.int p4), .unset, .unset, .unset, .unset, .unset, .unset, .unset, .unset] [(.int (4 : Int32)), (.ref b1), (.ref b1)])) rfl (hb hby at_28)) ?_
  show own_Fin _ _ _ _ _ _ _ (T5.setTop (mkF m 31 #[.val (.long q1), .second, .val (.int p2), .val (.int p3), .val (.int p4), .unset, .unset, .unset, .unset, .unset, .unset, .unset, .unset] [(.long (10000 : Int64)), (.int (4 : Int32)), (.ref b1), (.ref b1)]))
  obtain ⟨cl6, Ar6, Cq6, Sz6, Mn6, Hs6, Gf6⟩ := id V5
  obtain ⟨T6, h6, X6, e6, W6, st6⟩ := stJ X5 hx hZ e5 Ar6 (j := (4 : Int32)) (inb_of Sz6 ⟨by decide, by decide⟩) (g := (mkF m 31 #[.val (.long q1), .second, .val (.int p2), .val (.int p3), .val (.int p4), .unset, .unset, .unset, .unset, .unset, .unset, .unset, .unset] [(.long (10000 : Int64)), (.int (4 : Int32)), (.ref b1), (.ref b1)])) rfl rfl (hb hby at_31)
  have V6 : Arv Z h6 b1 k1 .long (19 : Int32) [(.long (1 : Int64)), (.long (10 : Int64)), (.long (100 : Int64)), (.long (1000 : Int64)), (.long (10000 : Int64)), (.long (0 : Int64)), (.long (0 : Int64)), (.long (0 : Int64)), (.long (0 : Int64)), (.long (0 : Int64)), (.long (0 : Int64)), (.long (0 : Int64)), (.long (0 : Int64)), (.long (0 : Int64)), (.long (0 : Int64)), (.long (0 : Int64)), (.long (0 : Int64)), (.long (0 : Int64)), (.long (0 : Int64))] (.long (0 : Int64)) := Arv.set Ar6 Cq6 Sz6 Mn6 Hs6 Gf6 rfl W6 4 rfl (Nat.le_of_ble_eq_true rfl)
  have N6 := Fr.snoc X6 N5 ge_b1
  have Z6 : n0 ≤ h6.size := Nat.le_trans Z5 (Keep.of_wr W6).1
  refine own_st st6 ?_
  show own_Fin _ _ _ _ _ _ _ (T6.setTop (mkF m 32 #[.val (.long q1), .second, .val (.int p2), .val (.int p3), .val (.int p4), .unset, .unset, .unset, .unset, .unset, .unset, .unset, .unset] [(.ref b1)]))
  refine own_st (fun t k => XS.dup X6.here hx rfl (hb hby at_32) rfl rfl k) ?_
  show own_Fin _ _ _ _ _ _ _ (T6.setTop (mkF m 33 #[.val (.long q1), .second, .val (.int p2), .val (.int p3), .val (.int p4), .unset, .unset, .unset, .unset, .unset, .unset, .unset, .unset] [(.ref b1), (.ref b1)]))
  refine own_st (fun t k => XS.iconst X6.here hx rfl (hb hby at_33) k) ?_
  show own_Fin _ _ _ _ _ _ _ (T6.setTop (mkF m 34 #[.val (.long q1), .second, .val (.int p2), .val (.int p3), .val (.int p4), .unset, .unset, .unset, .unset, .unset, .unset, .unset, .unset] [(.int (5 : Int32)), (.ref b1), (.ref b1)]))
  refine own_st (X6.ldc2Long hx hown (mvT hZ (hw _ (List.mem_of_getElem? (i := 5) rfl))) (g := (mkF m 34 #[.val (.long q1), .second, .val (.int p2), .val (.int p3), .val (.int p4), .unset, .unset, .unset, .unset, .unset, .unset, .unset, .unset] [(.int (5 : Int32)), (.ref b1), (.ref b1)])) rfl (hb hby at_34)) ?_
  show own_Fin _ _ _ _ _ _ _ (T6.setTop (mkF m 37 #[.val (.long q1), .second, .val (.int p2), .val (.int p3), .val (.int p4), .unset, .unset, .unset, .unset, .unset, .unset, .unset, .unset] [(.long (100000 : Int64)), (.int (5 : Int32)), (.ref b1), (.ref b1)]))
  obtain ⟨cl7, Ar7, Cq7, Sz7, Mn7, Hs7, Gf7⟩ := id V6
  obtain ⟨T7, h7, X7, e7, W7, st7⟩ := stJ X6 hx hZ e6 Ar7 (j := (5 : Int32)) (inb_of Sz7 ⟨by decide, by decide⟩) (g := (mkF m 37 #[.val (.long q1), .second, .val (.int p2), .val (.int p3), .val (.int p4), .unset, .unset, .unset, .unset, .unset, .unset, .unset, .unset] [(.long (100000 : Int64)), (.int (5 : Int32)), (.ref b1), (.ref b1)])) rfl rfl (hb hby at_37)
  have V7 : Arv Z h7 b1 k1 .long (19 : Int32) [(.long (1 : Int64)), (.long (10 : Int64)), (.long (100 : Int64)), (.long (1000 : Int64)), (.long (10000 : Int64)), (.long (100000 : Int64)), (.long (0 : Int64)), (.long (0 : Int64)), (.long (0 : Int64)), (.long (0 : Int64)), (.long (0 : Int64)), (.long (0 : Int64)), (.long (0 : Int64)), (.long (0 : Int64)), (.long (0 : Int64)), (.long (0 : Int64)), (.long (0 : Int64)), (.long (0 : Int64)), (.long (0 : Int64))] (.long (0 : Int64)) := Arv.set Ar7 Cq7 Sz7 Mn7 Hs7 Gf7 rfl W7 5 rfl (Nat.le_of_ble_eq_true rfl)
  have N7 := Fr.snoc X7 N6 ge_b1
  have Z7 : n0 ≤ h7.size := Nat.le_trans Z6 (Keep.of_wr W7).1
  refine own_st st7 ?_
  show own_Fin _ _ _ _ _ _ _ (T7.setTop (mkF m 38 #[.val (.long q1), .second, .val (.int p2), .val (.int p3), .val (.int p4), .unset, .unset, .unset, .unset, .unset, .unset, .unset, .unset] [(.ref b1)]))
  refine own_st (fun t k => XS.dup X7.here hx rfl (hb hby at_38) rfl rfl k) ?_
  show own_Fin _ _ _ _ _ _ _ (T7.setTop (mkF m 39 #[.val (.long q1), .second, .val (.int p2), .val (.int p3), .val (.int p4), .unset, .unset, .unset, .unset, .unset, .unset, .unset, .unset] [(.ref b1), (.ref b1)]))
  refine own_st (fun t k => XS.bipush X7.here hx rfl (hb hby at_39) k) ?_
  show own_Fin _ _ _ _ _ _ _ (T7.setTop (mkF m 41 #[.val (.long q1), .second, .val (.int p2), .val (.int p3), .val (.int p4), .unset, .unset, .unset, .unset, .unset, .unset, .unset, .unset] [(.int (6 : Int32)), (.ref b1), (.ref b1)]))
  refine own_st (X7.ldc2Long hx hown (mvT hZ (hw _ (List.mem_of_getElem? (i := 6) rfl))) (g := (mkF m 41 #[.val (.long q1), .second, .val (.int p2), .val (.int p3), .val (.int p4), .unset, .unset, .unset, .unset, .unset, .unset, .unset, .unset] [(.int (6 : Int32)), (.ref b1), (.ref b1)])) rfl (hb hby at_41)) ?_
  show own_Fin _ _ _ _ _ _ _ (T7.setTop (mkF m 44 #[.val (.long q1), .second, .val (.int p2), .val (.int p3), .val (.int p4), .unset, .unset, .unset, .unset, .unset, .unset, .unset, .unset] [(.long (1000000 : Int64)), (.int (6 : Int32)), (.ref b1), (.ref b1)]))
  obtain ⟨cl8, Ar8, Cq8, Sz8, Mn8, Hs8, Gf8⟩ := id V7
  obtain ⟨T8, h8, X8, e8, W8, st8⟩ := stJ X7 hx hZ e7 Ar8 (j := (6 : Int32)) (inb_of Sz8 ⟨by decide, by decide⟩) (g := (mkF m 44 #[.val (.long q1), .second, .val (.int p2), .val (.int p3), .val (.int p4), .unset, .unset, .unset, .unset, .unset, .unset, .unset, .unset] [(.long (1000000 : Int64)), (.int (6 : Int32)), (.ref b1), (.ref b1)])) rfl rfl (hb hby at_44)
  have V8 : Arv Z h8 b1 k1 .long (19 : Int32) [(.long (1 : Int64)), (.long (10 : Int64)), (.long (100 : Int64)), (.long (1000 : Int64)), (.long (10000 : Int64)), (.long (100000 : Int64)), (.long (1000000 : Int64)), (.long (0 : Int64)), (.long (0 : Int64)), (.long (0 : Int64)), (.long (0 : Int64)), (.long (0 : Int64)), (.long (0 : Int64)), (.long (0 : Int64)), (.long (0 : Int64)), (.long (0 : Int64)), (.long (0 : Int64)), (.long (0 : Int64)), (.long (0 : Int64))] (.long (0 : Int64)) := Arv.set Ar8 Cq8 Sz8 Mn8 Hs8 Gf8 rfl W8 6 rfl (Nat.le_of_ble_eq_true rfl)
  have N8 := Fr.snoc X8 N7 ge_b1
  have Z8 : n0 ≤ h8.size := Nat.le_trans Z7 (Keep.of_wr W8).1
  refine own_st st8 ?_
  show own_Fin _ _ _ _ _ _ _ (T8.setTop (mkF m 45 #[.val (.long q1), .second, .val (.int p2), .val (.int p3), .val (.int p4), .unset, .unset, .unset, .unset, .unset, .unset, .unset, .unset] [(.ref b1)]))
  refine own_st (fun t k => XS.dup X8.here hx rfl (hb hby at_45) rfl rfl k) ?_
  show own_Fin _ _ _ _ _ _ _ (T8.setTop (mkF m 46 #[.val (.long q1), .second, .val (.int p2), .val (.int p3), .val (.int p4), .unset, .unset, .unset, .unset, .unset, .unset, .unset, .unset] [(.ref b1), (.ref b1)]))
  refine own_st (fun t k => XS.bipush X8.here hx rfl (hb hby at_46) k) ?_
  show own_Fin _ _ _ _ _ _ _ (T8.setTop (mkF m 48 #[.val (.long q1), .second, .val (.int p2), .val (.int p3), .val (.int p4), .unset, .unset, .unset, .unset, .unset, .unset, .unset, .unset] [(.int (7 : Int32)), (.ref b1), (.ref b1)]))
  refine own_st (X8.ldc2Long hx hown (mvT hZ (hw _ (List.mem_of_getElem? (i := 7) rfl))) (g := (mkF m 48 #[.val (.long q1), .second, .val (.int p2), .val (.int p3), .val (.int p4), .unset, .unset, .unset, .unset, .unset, .unset, .unset, .unset] [(.int (7 : Int32)), (.ref b1), (.ref b1)])) rfl (hb hby at_48)) ?_
  show own_Fin _ _ _ _ _ _ _ (T8.setTop (mkF m 51 #[.val (.long q1), .second, .val (.int p2), .val (.int p3), .val (.int p4), .unset, .unset, .unset, .unset, .unset, .unset, .unset, .unset] [(.long (10000000 : Int64)), (.int (7 : Int32)), (.ref b1), (.ref b1)]))
  obtain ⟨cl9, Ar9, Cq9, Sz9, Mn9, Hs9, Gf9⟩ := id V8
  obtain ⟨T9, h9, X9, e9, W9, st9⟩ := stJ X8 hx hZ e8 Ar9 (j := (7 : Int32)) (inb_of Sz9 ⟨by decide, by decide⟩) (g := (mkF m 51 #[.val (.long q1), .second, .val (.int p2), .val (.int p3), .val (.int p4), .unset, .unset, .unset, .unset, .unset, .unset, .unset, .unset] [(.long (10000000 : Int64)), (.int (7 : Int32)), (.ref b1), (.ref b1)])) rfl rfl (hb hby at_51)
  have V9 : Arv Z h9 b1 k1 .long (19 : Int32) [(.long (1 : Int64)), (.long (10 : Int64)), (.long (100 : Int64)), (.long (1000 : Int64)), (.long (10000 : Int64)), (.long (100000 : Int64)), (.long (1000000 : Int64)), (.long (10000000 : Int64)), (.long (0 : Int64)), (.long (0 : Int64)), (.long (0 : Int64)), (.long (0 : Int64)), (.long (0 : Int64)), (.long (0 : Int64)), (.long (0 : Int64)), (.long (0 : Int64)), (.long (0 : Int64)), (.long (0 : Int64)), (.long (0 : Int64))] (.long (0 : Int64)) := Arv.set Ar9 Cq9 Sz9 Mn9 Hs9 Gf9 rfl W9 7 rfl (Nat.le_of_ble_eq_true rfl)
  have N9 := Fr.snoc X9 N8 ge_b1
  have Z9 : n0 ≤ h9.size := Nat.le_trans Z8 (Keep.of_wr W9).1
  refine own_st st9 ?_
  show own_Fin _ _ _ _ _ _ _ (T9.setTop (mkF m 52 #[.val (.long q1), .second, .val (.int p2), .val (.int p3), .val (.int p4), .unset, .unset, .unset, .unset, .unset, .unset, .unset, .unset] [(.ref b1)]))
  refine own_st (fun t k => XS.dup X9.here hx rfl (hb hby at_52) rfl rfl k) ?_
  show own_Fin _ _ _ _ _ _ _ (T9.setTop (mkF m 53 #[.val (.long q1), .second, .val (.int p2), .val (.int p3), .val (.int p4), .unset, .unset, .unset, .unset, .unset, .unset, .unset, .unset] [(.ref b1), (.ref b1)]))
  refine own_st (fun t k => XS.bipush X9.here hx rfl (hb hby at_53) k) ?_
  show own_Fin _ _ _ _ _ _ _ (T9.setTop (mkF m 55 #[.val (.long q1), .second, .val (.int p2), .val (.int p3), .val (.int p4), .unset, .unset, .unset, .unset, .unset, .unset, .unset, .unset] [(.int (8 : Int32)), (.ref b1), (.ref b1)]))
  refine own_st (X9.ldc2Long hx hown (mvT hZ (hw _ (List.mem_of_getElem? (i := 8) rfl))) (g := (mkF m 55 #[.val (.long q1), .second, .val (.int p2), .val (.int p3), .val (.int p4), .unset, .unset, .unset, .unset, .unset, .unset, .unset, .unset] [(.int (8 : Int32)), (.ref b1), (.ref b1)])) rfl (hb hby at_55)) ?_
  show own_Fin _ _ _ _ _ _ _ (T9.setTop (mkF m 58 #[.val (.long q1), .second, .val (.int p2), .val (.int p3), .val (.int p4), .unset, .unset, .unset, .unset, .unset, .unset, .unset, .unset] [(.long (100000000 : Int64)), (.int (8 : Int32)), (.ref b1), (.ref b1)]))
  obtain ⟨cl10, Ar10, Cq10, Sz10, Mn10, Hs10, Gf10⟩ := id V9
  obtain ⟨T10, h10, X10, e10, W10, st10⟩ := stJ X9 hx hZ e9 Ar10 (j := (8 : Int32)) (inb_of Sz10 ⟨by decide, by decide⟩) (g := (mkF m 58 #[.val (.long q1), .second, .val (.int p2), .val (.int p3), .val (.int p4), .unset, .unset, .unset, .unset, .unset, .unset, .unset, .unset] [(.long (100000000 : Int64)), (.int (8 : Int32)), (.ref b1), (.ref b1)])) rfl rfl (hb hby at_58)
  have V10 : Arv Z h10 b1 k1 .long (19 : Int32) [(.long (1 : Int64)), (.long (10 : Int64)), (.long (100 : Int64)), (.long (1000 : Int64)), (.long (10000 : Int64)), (.long (100000 : Int64)), (.long (1000000 : Int64)), (.long (10000000 : Int64)), (.long (100000000 : Int64)), (.long (0 : Int64)), (.long (0 : Int64)), (.long (0 : Int64)), (.long (0 : Int64)), (.long (0 : Int64)), (.long (0 : Int64)), (.long (0 : Int64)), (.long (0 : Int64)), (.long (0 : Int64)), (.long (0 : Int64))] (.long (0 : Int64)) := Arv.set Ar10 Cq10 Sz10 Mn10 Hs10 Gf10 rfl W10 8 rfl (Nat.le_of_ble_eq_true rfl)
  have N10 := Fr.snoc X10 N9 ge_b1
  have Z10 : n0 ≤ h10.size := Nat.le_trans Z9 (Keep.of_wr W10).1
  refine own_st st10 ?_
  show own_Fin _ _ _ _ _ _ _ (T10.setTop (mkF m 59 #[.val (.long q1), .second, .val (.int p2), .val (.int p3), .val (.int p4), .unset, .unset, .unset, .unset, .unset, .unset, .unset, .unset] [(.ref b1)]))
  refine own_st (fun t k => XS.dup X10.here hx rfl (hb hby at_59) rfl rfl k) ?_
  show own_Fin _ _ _ _ _ _ _ (T10.setTop (mkF m 60 #[.val (.long q1), .second, .val (.int p2), .val (.int p3), .val (.int p4), .unset, .unset, .unset, .unset, .unset, .unset, .unset, .unset] [(.ref b1), (.ref b1)]))
  refine own_st (fun t k => XS.bipush X10.here hx rfl (hb hby at_60) k) ?_
  show own_Fin _ _ _ _ _ _ _ (T10.setTop (mkF m 62 #[.val (.long q1), .second, .val (.int p2), .val (.int p3), .val (.int p4), .unset, .unset, .unset, .unset, .unset, .unset, .unset, .unset] [(.int (9 : Int32)), (.ref b1), (.ref b1)]))
  refine own_st (X10.ldc2Long hx hown (mvT hZ (hw _ (List.mem_of_getElem? (i := 9) rfl))) (g := (mkF m 62 #[.val (.long q1), .second, .val (.int p2), .val (.int p3), .val (.int p4), .unset, .unset, .unset, .unset, .unset, .unset, .unset, .unset] [(.int (9 : Int32)), (.ref b1), (.ref b1)])) rfl (hb hby at_62)) ?_
  show own_Fin _ _ _ _ _ _ _ (T10.setTop (mkF m 65 #[.val (.long q1), .second, .val (.int p2), .val (.int p3), .val (.int p4), .unset, .unset, .unset, .unset, .unset, .unset, .unset, .unset] [(.long (1000000000 : Int64)), (.int (9 : Int32)), (.ref b1), (.ref b1)]))
  obtain ⟨cl11, Ar11, Cq11, Sz11, Mn11, Hs11, Gf11⟩ := id V10
  obtain ⟨T11, h11, X11, e11, W11, st11⟩ := stJ X10 hx hZ e10 Ar11 (j := (9 : Int32)) (inb_of Sz11 ⟨by decide, by decide⟩) (g := (mkF m 65 #[.val (.long q1), .second, .val (.int p2), .val (.int p3), .val (.int p4), .unset, .unset, .unset, .unset, .unset, .unset, .unset, .unset] [(.long (1000000000 : Int64)), (.int (9 : Int32)), (.ref b1), (.ref b1)])) rfl rfl (hb hby at_65)
  have V11 : Arv Z h11 b1 k1 .long (19 : Int32) [(.long (1 : Int64)), (.long (10 : Int64)), (.long (100 : Int64)), (.long (1000 : Int64)), (.long (10000 : Int64)), (.long (100000 : Int64)), (.long (1000000 : Int64)), (.long (10000000 : Int64)), (.long (100000000 : Int64)), (.long (1000000000 : Int64)), (.long (0 : Int64)), (.long (0 : Int64)), (.long (0 : Int64)), (.long (0 : Int64)), (.long (0 : Int64)), (.long (0 : Int64)), (.long (0 : Int64)), (.long (0 : Int64)), (.long (0 : Int64))] (.long (0 : Int64)) := Arv.set Ar11 Cq11 Sz11 Mn11 Hs11 Gf11 rfl W11 9 rfl (Nat.le_of_ble_eq_true rfl)
  have N11 := Fr.snoc X11 N10 ge_b1
  have Z11 : n0 ≤ h11.size := Nat.le_trans Z10 (Keep.of_wr W11).1
  refine own_st st11 ?_
  show own_Fin _ _ _ _ _ _ _ (T11.setTop (mkF m 66 #[.val (.long q1), .second, .val (.int p2), .val (.int p3), .val (.int p4), .unset, .unset, .unset, .unset, .unset, .unset, .unset, .unset] [(.ref b1)]))
  refine own_st (fun t k => XS.dup X11.here hx rfl (hb hby at_66) rfl rfl k) ?_
  show own_Fin _ _ _ _ _ _ _ (T11.setTop (mkF m 67 #[.val (.long q1), .second, .val (.int p2), .val (.int p3), .val (.int p4), .unset, .unset, .unset, .unset, .unset, .unset, .unset, .unset] [(.ref b1), (.ref b1)]))
  refine own_st (fun t k => XS.bipush X11.here hx rfl (hb hby at_67) k) ?_
  show own_Fin _ _ _ _ _ _ _ (T11.setTop (mkF m 69 #[.val (.long q1), .second, .val (.int p2), .val (.int p3), .val (.int p4), .unset, .unset, .unset, .unset, .unset, .unset, .unset, .unset] [(.int (10 : Int32)), (.ref b1), (.ref b1)]))
  refine own_st (X11.ldc2Long hx hown (mvT hZ (hw _ (List.mem_of_getElem? (i := 10) rfl))) (g := (mkF m 69 #[.val (.long q1), .second, .val (.int p2), .val (.int p3), .val (.int p4), .unset, .unset, .unset, .unset, .unset, .unset, .unset, .unset] [(.int (10 : Int32)), (.ref b1), (.ref b1)])) rfl (hb hby at_69)) ?_
  show own_Fin _ _ _ _ _ _ _ (T11.setTop (mkF m 72 #[.val (.long q1), .second, .val (.int p2), .val (.int p3), .val (.int p4), .unset, .unset, .unset, .unset, .unset, .unset, .unset, .unset] [(.long (10000000000 : Int64)), (.int (10 : Int32)), (.ref b1), (.ref b1)]))
  obtain ⟨cl12, Ar12, Cq12, Sz12, Mn12, Hs12, Gf12⟩ := id V11
  obtain ⟨T12, h12, X12, e12, W12, st12⟩ := stJ X11 hx hZ e11 Ar12 (j := (10 : Int32)) (inb_of Sz12 ⟨by decide, by decide⟩) (g := (mkF m 72 #[.val (.long q1), .second, .val (.int p2), .val (.int p3), .val (.int p4), .unset, .unset, .unset, .unset, .unset, .unset, .unset, .unset] [(.long (10000000000 : Int64)), (.int (10 : Int32)), (.ref b1), (.ref b1)])) rfl rfl (hb hby at_72)
  have V12 : Arv Z h12 b1 k1 .long (19 : Int32) [(.long (1 : Int64)), (.long (10 : Int64)), (.long (100 : Int64)), (.long (1000 : Int64)), (.long (10000 : Int64)), (.long (100000 : Int64)), (.long (1000000 : Int64)), (.long (10000000 : Int64)), (.long (100000000 : Int64)), (.long (1000000000 : Int64)), (.long (10000000000 : Int64)), (.long (0 : Int64)), (.long (0 : Int64)), (.long (0 : Int64)), (.long (0 : Int64)), (.long (0 : Int64)), (.long (0 : Int64)), (.long (0 : Int64)), (.long (0 : Int64))] (.long (0 : Int64)) := Arv.set Ar12 Cq12 Sz12 Mn12 Hs12 Gf12 rfl W12 10 rfl (Nat.le_of_ble_eq_true rfl)
  have N12 := Fr.snoc X12 N11 ge_b1
  have Z12 : n0 ≤ h12.size := Nat.le_trans Z11 (Keep.of_wr W12).1
  refine own_st st12 ?_
  show own_Fin _ _ _ _ _ _ _ (T12.setTop (mkF m 73 #[.val (.long q1), .second, .val (.int p2), .val (.int p3), .val (.int p4), .unset, .unset, .unset, .unset, .unset, .unset, .unset, .unset] [(.ref b1)]))
  refine own_st (fun t k => XS.dup X12.here hx rfl (hb hby at_73) rfl rfl k) ?_
  show own_Fin _ _ _ _ _ _ _ (T12.setTop (mkF m 74 #[.val (.long q1), .second, .val (.int p2), .val (.int p3), .val (.int p4), .unset, .unset, .unset, .unset, .unset, .unset, .unset, .unset] [(.ref b1), (.ref b1)]))
  refine own_st (fun t k => XS.bipush X12.here hx rfl (hb hby at_74) k) ?_
  show own_Fin _ _ _ _ _ _ _ (T12.setTop (mkF m 76 #[.val (.long q1), .second, .val (.int p2), .val (.int p3), .val (.int p4), .unset, .unset, .unset, .unset, .unset, .unset, .unset, .unset] [(.int (11 : Int32)), (.ref b1), (.ref b1)]))
  refine own_st (X12.ldc2Long hx hown (mvT hZ (hw _ (List.mem_of_getElem? (i := 11) rfl))) (g := (mkF m 76 #[.val (.long q1), .second, .val (.int p2), .val (.int p3), .val (.int p4), .unset, .unset, .unset, .unset, .unset, .unset, .unset, .unset] [(.int (11 : Int32)), (.ref b1), (.ref b1)])) rfl (hb hby at_76)) ?_
  show own_Fin _ _ _ _ _ _ _ (T12.setTop (mkF m 79 #[.val (.long q1), .second, .val (.int p2), .val (.int p3), .val (.int p4), .unset, .unset, .unset, .unset, .unset, .unset, .unset, .unset] [(.long (100000000000 : Int64)), (.int (11 : Int32)), (.ref b1), (.ref b1)]))
  obtain ⟨cl13, Ar13, Cq13, Sz13, Mn13, Hs13, Gf13⟩ := id V12
  obtain ⟨T13, h13, X13, e13, W13, st13⟩ := stJ X12 hx hZ e12 Ar13 (j := (11 : Int32)) (inb_of Sz13 ⟨by decide, by decide⟩) (g := (mkF m 79 #[.val (.long q1), .second, .val (.int p2), .val (.int p3), .val (.int p4), .unset, .unset, .unset, .unset, .unset, .unset, .unset, .unset] [(.long (100000000000 : Int64)), (.int (11 : Int32)), (.ref b1), (.ref b1)])) rfl rfl (hb hby at_79)
  have V13 : Arv Z h13 b1 k1 .long (19 : Int32) [(.long (1 : Int64)), (.long (10 : Int64)), (.long (100 : Int64)), (.long (1000 : Int64)), (.long (10000 : Int64)), (.long (100000 : Int64)), (.long (1000000 : Int64)), (.long (10000000 : Int64)), (.long (100000000 : Int64)), (.long (1000000000 : Int64)), (.long (10000000000 : Int64)), (.long (100000000000 : Int64)), (.long (0 : Int64)), (.long (0 : Int64)), (.long (0 : Int64)), (.long (0 : Int64)), (.long (0 : Int64)), (.long (0 : Int64)), (.long (0 : Int64))] (.long (0 : Int64)) := Arv.set Ar13 Cq13 Sz13 Mn13 Hs13 Gf13 rfl W13 11 rfl (Nat.le_of_ble_eq_true rfl)
  have N13 := Fr.snoc X13 N12 ge_b1
  have Z13 : n0 ≤ h13.size := Nat.le_trans Z12 (Keep.of_wr W13).1
  refine own_st st13 ?_
  show own_Fin _ _ _ _ _ _ _ (T13.setTop (mkF m 80 #[.val (.long q1), .second, .val (.int p2), .val (.int p3), .val (.int p4), .unset, .unset, .unset, .unset, .unset, .unset, .unset, .unset] [(.ref b1)]))
  refine own_st (fun t k => XS.dup X13.here hx rfl (hb hby at_80) rfl rfl k) ?_
  show own_Fin _ _ _ _ _ _ _ (T13.setTop (mkF m 81 #[.val (.long q1), .second, .val (.int p2), .val (.int p3), .val (.int p4), .unset, .unset, .unset, .unset, .unset, .unset, .unset, .unset] [(.ref b1), (.ref b1)]))
  refine own_st (fun t k => XS.bipush X13.here hx rfl (hb hby at_81) k) ?_
  show own_Fin _ _ _ _ _ _ _ (T13.setTop (mkF m 83 #[.val (.long q1), .second, .val (.int p2), .val (.int p3), .val (.int p4), .unset, .unset, .unset, .unset, .unset, .unset, .unset, .unset] [(.int (12 : Int32)), (.ref b1), (.ref b1)]))
  refine own_st (X13.ldc2Long hx hown (mvT hZ (hw _ (List.mem_of_getElem? (i := 12) rfl))) (g := (mkF m 83 #[.val (.long q1), .second, .val (.int p2), .val (.int p3), .val (.int p4), .unset, .unset, .unset, .unset, .unset, .unset, .unset, .unset] [(.int (12 : Int32)), (.ref b1), (.ref b1)])) rfl (hb hby at_83)) ?_
  show own_Fin _ _ _ _ _ _ _ (T13.setTop (mkF m 86 #[.val (.long q1), .second, .val (.int p2), .val (.int p3), .val (.int p4), .unset, .unset, .unset, .unset, .unset, .unset, .unset, .unset] [(.long (1000000000000 : Int64)), (.int (12 : Int32)), (.ref b1), (.ref b1)]))
  obtain ⟨cl14, Ar14, Cq14, Sz14, Mn14, Hs14, Gf14⟩ := id V13
  obtain ⟨T14, h14, X14, e14, W14, st14⟩ := stJ X13 hx hZ e13 Ar14 (j := (12 : Int32)) (inb_of Sz14 ⟨by decide, by decide⟩) (g := (mkF m 86 #[.val (.long q1), .second, .val (.int p2), .val (.int p3), .val (.int p4), .unset, .unset, .unset, .unset, .unset, .unset, .unset, .unset] [(.long (1000000000000 : Int64)), (.int (12 : Int32)), (.ref b1), (.ref b1)])) rfl rfl (hb hby at_86)
  have V14 : Arv Z h14 b1 k1 .long (19 : Int32) [(.long (1 : Int64)), (.long (10 : Int64)), (.long (100 : Int64)), (.long (1000 : Int64)), (.long (10000 : Int64)), (.long (100000 : Int64)), (.long (1000000 : Int64)), (.long (10000000 : Int64)), (.long (100000000 : Int64)), (.long (1000000000 : Int64)), (.long (10000000000 : Int64)), (.long (100000000000 : Int64)), (.long (1000000000000 : Int64)), (.long (0 : Int64)), (.long (0 : Int64)), (.long (0 : Int64)), (.long (0 : Int64)), (.long (0 : Int64)), (.long (0 : Int64))] (.long (0 : Int64)) := Arv.set Ar14 Cq14 Sz14 Mn14 Hs14 Gf14 rfl W14 12 rfl (Nat.le_of_ble_eq_true rfl)
  have N14 := Fr.snoc X14 N13 ge_b1
  have Z14 : n0 ≤ h14.size := Nat.le_trans Z13 (Keep.of_wr W14).1
  refine own_st st14 ?_
  show own_Fin _ _ _ _ _ _ _ (T14.setTop (mkF m 87 #[.val (.long q1), .second, .val (.int p2), .val (.int p3), .val (.int p4), .unset, .unset, .unset, .unset, .unset, .unset, .unset, .unset] [(.ref b1)]))
  refine own_st (fun t k => XS.dup X14.here hx rfl (hb hby at_87) rfl rfl k) ?_
  show own_Fin _ _ _ _ _ _ _ (T14.setTop (mkF m 88 #[.val (.long q1), .second, .val (.int p2), .val (.int p3), .val (.int p4), .unset, .unset, .unset, .unset, .unset, .unset, .unset, .unset] [(.ref b1), (.ref b1)]))
  refine own_st (fun t k => XS.bipush X14.here hx rfl (hb hby at_88) k) ?_
  show own_Fin _ _ _ _ _ _ _ (T14.setTop (mkF m 90 #[.val (.long q1), .second, .val (.int p2), .val (.int p3), .val (.int p4), .unset, .unset, .unset, .unset, .unset, .unset, .unset, .unset] [(.int (13 : Int32)), (.ref b1), (.ref b1)]))
  refine own_st (X14.ldc2Long hx hown (mvT hZ (hw _ (List.mem_of_getElem? (i := 13) rfl))) (g := (mkF m 90 #[.val (.long q1), .second, .val (.int p2), .val (.int p3), .val (.int p4), .unset, .unset, .unset, .unset, .unset, .unset, .unset, .unset] [(.int (13 : Int32)), (.ref b1), (.ref b1)])) rfl (hb hby at_90)) ?_
  show own_Fin _ _ _ _ _ _ _ (T14.setTop (mkF m 93 #[.val (.long q1), .second, .val (.int p2), .val (.int p3), .val (.int p4), .unset, .unset, .unset, .unset, .unset, .unset, .unset, .unset] [(.long (10000000000000 : Int64)), (.int (13 : Int32)), (.ref b1), (.ref b1)]))
  obtain ⟨cl15, Ar15, Cq15, Sz15, Mn15, Hs15, Gf15⟩ := id V14
  obtain ⟨T15, h15, X15, e15, W15, st15⟩ := stJ X14 hx hZ e14 Ar15 (j := (13 : Int32)) (inb_of Sz15 ⟨by decide, by decide⟩) (g := (mkF m 93 #[.val (.long q1), .second, .val (.int p2), .val (.int p3), .val (.int p4), .unset, .unset, .unset, .unset, .unset, .unset, .unset, .unset] [(.long (10000000000000 : Int64)), (.int (13 : Int32)), (.ref b1), (.ref b1)])) rfl rfl (hb hby at_93)
  have V15 : Arv Z h15 b1 k1 .long (19 : Int32) [(.long (1 : Int64)), (.long (10 : Int64)), (.long (100 : Int64)), (.long (1000 : Int64)), (.long (10000 : Int64)), (.long (100000 : Int64)), (.long (1000000 : Int64)), (.long (10000000 : Int64)), (.long (100000000 : Int64)), (.long (1000000000 : Int64)), (.long (10000000000 : Int64)), (.long (100000000000 : Int64)), (.long (1000000000000 : Int64)), (.long (10000000000000 : Int64)), (.long (0 : Int64)), (.long (0 : Int64)), (.long (0 : Int64)), (.long (0 : Int64)), (.long (0 : Int64))] (.long (0 : Int64)) := Arv.set Ar15 Cq15 Sz15 Mn15 Hs15 Gf15 rfl W15 13 rfl (Nat.le_of_ble_eq_true rfl)
  have N15 := Fr.snoc X15 N14 ge_b1
  have Z15 : n0 ≤ h15.size := Nat.le_trans Z14 (Keep.of_wr W15).1
  refine own_st st15 ?_
  show own_Fin _ _ _ _ _ _ _ (T15.setTop (mkF m 94 #[.val (.long q1), .second, .val (.int p2), .val (.int p3), .val (.int p4), .unset, .unset, .unset, .unset, .unset, .unset, .unset, .unset] [(.ref b1)]))
  refine own_st (fun t k => XS.dup X15.here hx rfl (hb hby at_94) rfl rfl k) ?_
  show own_Fin _ _ _ _ _ _ _ (T15.setTop (mkF m 95 #[.val (.long q1), .second, .val (.int p2), .val (.int p3), .val (.int p4), .unset, .unset, .unset, .unset, .unset, .unset, .unset, .unset] [(.ref b1), (.ref b1)]))
  refine own_st (fun t k => XS.bipush X15.here hx rfl (hb hby at_95) k) ?_
  show own_Fin _ _ _ _ _ _ _ (T15.setTop (mkF m 97 #[.val (.long q1), .second, .val (.int p2), .val (.int p3), .val (.int p4), .unset, .unset, .unset, .unset, .unset, .unset, .unset, .unset] [(.int (14 : Int32)), (.ref b1), (.ref b1)]))
  refine own_st (X15.ldc2Long hx hown (mvT hZ (hw _ (List.mem_of_getElem? (i := 14) rfl))) (g := (mkF m 97 #[.val (.long q1), .second, .val (.int p2), .val (.int p3), .val (.int p4), .unset, .unset, .unset, .unset, .unset, .unset, .unset, .unset] [(.int (14 : Int32)), (.ref b1), (.ref b1)])) rfl (hb hby at_97)) ?_
  show own_Fin _ _ _ _ _ _ _ (T15.setTop (mkF m 100 #[.val (.long q1), .second, .val (.int p2), .val (.int p3), .val (.int p4), .unset, .unset, .unset, .unset, .unset, .unset, .unset, .unset] [(.long (100000000000000 : Int64)), (.int (14 : Int32)), (.ref b1), (.ref b1)]))
  obtain ⟨cl16, Ar16, Cq16, Sz16, Mn16, Hs16, Gf16⟩ := id V15
  obtain ⟨T16, h16, X16, e16, W16, st16⟩ := stJ X15 hx hZ e15 Ar16 (j := (14 : Int32)) (inb_of Sz16 ⟨by decide, by decide⟩) (g := (mkF m 100 #[.val (.long q1), .second, .val (.int p2), .val (.int p3), .val (.int p4), .unset, .unset, .unset, .unset, .unset, .unset, .unset, .unset] [(.long (100000000000000 : Int64)), (.int (14 : Int32)), (.ref b1), (.ref b1)])) rfl rfl (hb hby at_100)
  have V16 : Arv Z h16 b1 k1 .long (19 : Int32) [(.long (1 : Int64)), (.long (10 : Int64)), (.long (100 : Int64)), (.long (1000 : Int64)), (.long (10000 : Int64)), (.long (100000 : Int64)), (.long (1000000 : Int64)), (.long (10000000 : Int64)), (.long (100000000 : Int64)), (.long (1000000000 : Int64)), (.long (10000000000 : Int64)), (.long (100000000000 : Int64)), (.long (1000000000000 : Int64)), (.long (10000000000000 : Int64)), (.long (100000000000000 : Int64)), (.long (0 : Int64)), (.long (0 : Int64)), (.long (0 : Int64)), (.long (0 : Int64))] (.long (0 : Int64)) := Arv.set Ar16 Cq16 Sz16 Mn16 Hs16 Gf16 rfl W16 14 rfl (Nat.le_of_ble_eq_true rfl)
  have N16 := Fr.snoc X16 N15 ge_b1
  have Z16 : n0 ≤ h16.size := Nat.le_trans Z15 (Keep.of_wr W16).1
  refine own_st st16 ?_
  show own_Fin _ _ _ _ _ _ _ (T16.setTop (mkF m 101 #[.val (.long q1), .second, .val (.int p2), .val (.int p3), .val (.int p4), .unset, .unset, .unset, .unset, .unset, .unset, .unset, .unset] [(.ref b1)]))
  refine own_st (fun t k => XS.dup X16.here hx rfl (hb hby at_101) rfl rfl k) ?_
  show own_Fin _ _ _ _ _ _ _ (T16.setTop (mkF m 102 #[.val (.long q1), .second, .val (.int p2), .val (.int p3), .val (.int p4), .unset, .unset, .unset, .unset, .unset, .unset, .unset, .unset] [(.ref b1), (.ref b1)]))
  refine own_st (fun t k => XS.bipush X16.here hx rfl (hb hby at_102) k) ?_
  show own_Fin _ _ _ _ _ _ _ (T16.setTop (mkF m 104 #[.val (.long q1), .second, .val (.int p2), .val (.int p3), .val (.int p4), .unset, .unset, .unset, .unset, .unset, .unset, .unset, .unset] [(.int (15 : Int32)), (.ref b1), (.ref b1)]))
  refine own_st (X16.ldc2Long hx hown (mvT hZ (hw _ (List.mem_of_getElem? (i := 15) rfl))) (g := (mkF m 104 #[.val (.long q1), .second, .val (.int p2), .val (.int p3), .val (.int p4), .unset, .unset, .unset, .unset, .unset, .unset, .unset, .unset] [(.int (15 : Int32)), (.ref b1), (.ref b1)])) rfl (hb hby at_104)) ?_
  show own_Fin _ _ _ _ _ _ _ (T16.setTop (mkF m 107 #[.val (.long q1), .second, .val (.int p2), .val (.int p3), .val (.int p4), .unset, .unset, .unset, .unset, .unset, .unset, .unset, .unset] [(.long (1000000000000000 : Int64)), (.int (15 : Int32)), (.ref b1), (.ref b1)]))
  obtain ⟨cl17, Ar17, Cq17, Sz17, Mn17, Hs17, Gf17⟩ := id V16
  obtain ⟨T17, h17, X17, e17, W17, st17⟩ := stJ X16 hx hZ e16 Ar17 (j := (15 : Int32)) (inb_of Sz17 ⟨by decide, by decide⟩) (g := (mkF m 107 #[.val (.long q1), .second, .val (.int p2), .val (.int p3), .val (.int p4), .unset, .unset, .unset, .unset, .unset, .unset, .unset, .unset] [(.long (1000000000000000 : Int64)), (.int (15 : Int32)), (.ref b1), (.ref b1)])) rfl rfl (hb hby at_107)
  have V17 : Arv Z h17 b1 k1 .long (19 : Int32) [(.long (1 : Int64)), (.long (10 : Int64)), (.long (100 : Int64)), (.long (1000 : Int64)), (.long (10000 : Int64)), (.long (100000 : Int64)), (.long (1000000 : Int64)), (.long (10000000 : Int64)), (.long (100000000 : Int64)), (.long (1000000000 : Int64)), (.long (10000000000 : Int64)), (.long (100000000000 : Int64)), (.long (1000000000000 : Int64)), (.long (10000000000000 : Int64)), (.long (100000000000000 : Int64)), (.long (1000000000000000 : Int64)), (.long (0 : Int64)), (.long (0 : Int64)), (.long (0 : Int64))] (.long (0 : Int64)) := Arv.set Ar17 Cq17 Sz17 Mn17 Hs17 Gf17 rfl W17 15 rfl (Nat.le_of_ble_eq_true rfl)
  have N17 := Fr.snoc X17 N16 ge_b1
  have Z17 : n0 ≤ h17.size := Nat.le_trans Z16 (Keep.of_wr W17).1
  refine own_st st17 ?_
  show own_Fin _ _ _ _ _ _ _ (T17.setTop (mkF m 108 #[.val (.long q1), .second, .val (.int p2), .val (.int p3), .val (.int p4), .unset, .unset, .unset, .unset, .unset, .unset, .unset, .unset] [(.ref b1)]))
  refine own_st (fun t k => XS.dup X17.here hx rfl (hb hby at_108) rfl rfl k) ?_
  show own_Fin _ _ _ _ _ _ _ (T17.setTop (mkF m 109 #[.val (.long q1), .second, .val (.int p2), .val (.int p3), .val (.int p4), .unset, .unset, .unset, .unset, .unset, .unset, .unset, .unset] [(.ref b1), (.ref b1)]))
  refine own_st (fun t k => XS.bipush X17.here hx rfl (hb hby at_109) k) ?_
  show own_Fin _ _ _ _ _ _ _ (T17.setTop (mkF m 111 #[.val (.long q1), .second, .val (.int p2), .val (.int p3), .val (.int p4), .unset, .unset, .unset, .unset, .unset, .unset, .unset, .unset] [(.int (16 : Int32)), (.ref b1), (.ref b1)]))
  refine own_st (X17.ldc2Long hx hown (mvT hZ (hw _ (List.mem_of_getElem? (i := 16) rfl))) (g := (mkF m 111 #[.val (.long q1), .second, .val (.int p2), .val (.int p3), .val (.int p4), .unset, .unset, .unset, .unset, .unset, .unset, .unset, .unset] [(.int (16 : Int32)), (.ref b1), (.ref b1)])) rfl (hb hby at_111)) ?_
  show own_Fin _ _ _ _ _ _ _ (T17.setTop (mkF m 114 #[.val (.long q1), .second, .val (.int p2), .val (.int p3), .val (.int p4), .unset, .unset, .unset, .unset, .unset, .unset, .unset, .unset] [(.long (10000000000000000 : Int64)), (.int (16 : Int32)), (.ref b1), (.ref b1)]))
  obtain ⟨cl18, Ar18, Cq18, Sz18, Mn18, Hs18, Gf18⟩ := id V17
  obtain ⟨T18, h18, X18, e18, W18, st18⟩ := stJ X17 hx hZ e17 Ar18 (j := (16 : Int32)) (inb_of Sz18 ⟨by decide, by decide⟩) (g := (mkF m 114 #[.val (.long q1), .second, .val (.int p2), .val (.int p3), .val (.int p4), .unset, .unset, .unset, .unset, .unset, .unset, .unset, .unset] [(.long (10000000000000000 : Int64)), (.int (16 : Int32)), (.ref b1), (.ref b1)])) rfl rfl (hb hby at_114)
  have V18 : Arv Z h18 b1 k1 .long (19 : Int32) [(.long (1 : Int64)), (.long (10 : Int64)), (.long (100 : Int64)), (.long (1000 : Int64)), (.long (10000 : Int64)), (.long (100000 : Int64)), (.long (1000000 : Int64)), (.long (10000000 : Int64)), (.long (100000000 : Int64)), (.long (1000000000 : Int64)), (.long (10000000000 : Int64)), (.long (100000000000 : Int64)), (.long (1000000000000 : Int64)), (.long (10000000000000 : Int64)), (.long (100000000000000 : Int64)), (.long (1000000000000000 : Int64)), (.long (10000000000000000 : Int64)), (.long (0 : Int64)), (.long (0 : Int64))] (.long (0 : Int64)) := Arv.set Ar18 Cq18 Sz18 Mn18 Hs18 Gf18 rfl W18 16 rfl (Nat.le_of_ble_eq_true rfl)
  have N18 := Fr.snoc X18 N17 ge_b1
  have Z18 : n0 ≤ h18.size := Nat.le_trans Z17 (Keep.of_wr W18).1
  refine own_st st18 ?_
  show own_Fin _ _ _ _ _ _ _ (T18.setTop (mkF m 115 #[.val (.long q1), .second, .val (.int p2), .val (.int p3), .val (.int p4), .unset, .unset, .unset, .unset, .unset, .unset, .unset, .unset] [(.ref b1)]))
  refine own_st (fun t k => XS.dup X18.here hx rfl (hb hby at_115) rfl rfl k) ?_
  show own_Fin _ _ _ _ _ _ _ (T18.setTop (mkF m 116 #[.val (.long q1), .second, .val (.int p2), .val (.int p3), .val (.int p4), .unset, .unset, .unset, .unset, .unset, .unset, .unset, .unset] [(.ref b1), (.ref b1)]))
  refine own_st (fun t k => XS.bipush X18.here hx rfl (hb hby at_116) k) ?_
  show own_Fin _ _ _ _ _ _ _ (T18.setTop (mkF m 118 #[.val (.long q1), .second, .val (.int p2), .val (.int p3), .val (.int p4), .unset, .unset, .unset, .unset, .unset, .unset, .unset, .unset] [(.int (17 : Int32)), (.ref b1), (.ref b1)]))
  refine own_st (X18.ldc2Long hx hown (mvT hZ (hw _ (List.mem_of_getElem? (i := 17) rfl))) (g := (mkF m 118 #[.val (.long q1), .second, .val (.int p2), .val (.int p3), .val (.int p4), .unset, .unset, .unset, .unset, .unset, .unset, .unset, .unset] [(.int (17 : Int32)), (.ref b1), (.ref b1)])) rfl (hb hby at_118)) ?_
  show own_Fin _ _ _ _ _ _ _ (T18.setTop (mkF m 121 #[.val (.long q1), .second, .val (.int p2), .val (.int p3), .val (.int p4), .unset, .unset, .unset, .unset, .unset, .unset, .unset, .unset] [(.long (100000000000000000 : Int64)), (.int (17 : Int32)), (.ref b1), (.ref b1)]))
  obtain ⟨cl19, Ar19, Cq19, Sz19, Mn19, Hs19, Gf19⟩ := id V18
  obtain ⟨T19, h19, X19, e19, W19, st19⟩ := stJ X18 hx hZ e18 Ar19 (j := (17 : Int32)) (inb_of Sz19 ⟨by decide, by decide⟩) (g := (mkF m 121 #[.val (.long q1), .second, .val (.int p2), .val (.int p3), .val (.int p4), .unset, .unset, .unset, .unset, .unset, .unset, .unset, .unset] [(.long (100000000000000000 : Int64)), (.int (17 : Int32)), (.ref b1), (.ref b1)])) rfl rfl (hb hby at_121)
  have V19 : Arv Z h19 b1 k1 .long (19 : Int32) [(.long (1 : Int64)), (.long (10 : Int64)), (.long (100 : Int64)), (.long (1000 : Int64)), (.long (10000 : Int64)), (.long (100000 : Int64)), (.long (1000000 : Int64)), (.long (10000000 : Int64)), (.long (100000000 : Int64)), (.long (1000000000 : Int64)), (.long (10000000000 : Int64)), (.long (100000000000 : Int64)), (.long (1000000000000 : Int64)), (.long (10000000000000 : Int64)), (.long (100000000000000 : Int64)), (.long (1000000000000000 : Int64)), (.long (10000000000000000 : Int64)), (.long (100000000000000000 : Int64)), (.long (0 : Int64))] (.long (0 : Int64)) := Arv.set Ar19 Cq19 Sz19 Mn19 Hs19 Gf19 rfl W19 17 rfl (Nat.le_of_ble_eq_true rfl)
  have N19 := Fr.snoc X19 N18 ge_b1
  have Z19 : n0 ≤ h19.size := Nat.le_trans Z18 (Keep.of_wr W19).1
  refine own_st st19 ?_
  show own_Fin _ _ _ _ _ _ _ (T19.setTop (mkF m 122 #[.val (.long q1), .second, .val (.int p2), .val (.int p3), .val (.int p4), .unset, .unset, .unset, .unset, .unset, .unset, .unset, .unset] [(.ref b1)]))
  refine own_st (fun t k => XS.dup X19.here hx rfl (hb hby at_122) rfl rfl k) ?_
  show own_Fin _ _ _ _ _ _ _ (T19.setTop (mkF m 123 #[.val (.long q1), .second, .val (.int p2), .val (.int p3), .val (.int p4), .unset, .unset, .unset, .unset, .unset, .unset, .unset, .unset] [(.ref b1), (.ref b1)]))
  refine own_st (fun t k => XS.bipush X19.here hx rfl (hb hby at_123) k) ?_
  show own_Fin _ _ _ _ _ _ _ (T19.setTop (mkF m 125 #[.val (.long q1), .second, .val (.int p2), .val (.int p3), .val (.int p4), .unset, .unset, .unset, .unset, .unset, .unset, .unset, .unset] [(.int (18 : Int32)), (.ref b1), (.ref b1)]))
  refine own_st (X19.ldc2Long hx hown (mvT hZ (hw _ (List.mem_of_getElem? (i := 18) rfl))) (g := (mkF m 125 #[.val (.long q1), .second, .val (.int p2), .val (.int p3), .val (.int p4), .unset, .unset, .unset, .unset, .unset, .unset, .unset, .unset] [(.int (18 : Int32)), (.ref b1), (.ref b1)])) rfl (hb hby at_125)) ?_
  show own_Fin _ _ _ _ _ _ _ (T19.setTop (mkF m 128 #[.val (.long q1), .second, .val (.int p2), .val (.int p3), .val (.int p4), .unset, .unset, .unset, .unset, .unset, .unset, .unset, .unset] [(.long (1000000000000000000 : Int64)), (.int (18 : Int32)), (.ref b1), (.ref b1)]))
  obtain ⟨cl20, Ar20, Cq20, Sz20, Mn20, Hs20, Gf20⟩ := id V19
  obtain ⟨T20, h20, X20, e20, W20, st20⟩ := stJ X19 hx hZ e19 Ar20 (j := (18 : Int32)) (inb_of Sz20 ⟨by decide, by decide⟩) (g := (mkF m 128 #[.val (.long q1), .second, .val (.int p2), .val (.int p3), .val (.int p4), .unset, .unset, .unset, .unset, .unset, .unset, .unset, .unset] [(.long (1000000000000000000 : Int64)), (.int (18 : Int32)), (.ref b1), (.ref b1)])) rfl rfl (hb hby at_128)
  have V20 : Arv Z h20 b1 k1 .long (19 : Int32) [(.long (1 : Int64)), (.long (10 : Int64)), (.long (100 : Int64)), (.long (1000 : Int64)), (.long (10000 : Int64)), (.long (100000 : Int64)), (.long (1000000 : Int64)), (.long (10000000 : Int64)), (.long (100000000 : Int64)), (.long (1000000000 : Int64)), (.long (10000000000 : Int64)), (.long (100000000000 : Int64)), (.long (1000000000000 : Int64)), (.long (10000000000000 : Int64)), (.long (100000000000000 : Int64)), (.long (1000000000000000 : Int64)), (.long (10000000000000000 : Int64)), (.long (100000000000000000 : Int64)), (.long (1000000000000000000 : Int64))] (.long (0 : Int64)) := Arv.set Ar20 Cq20 Sz20 Mn20 Hs20 Gf20 rfl W20 18 rfl (Nat.le_of_ble_eq_true rfl)
  have N20 := Fr.snoc X20 N19 ge_b1
  have Z20 : n0 ≤ h20.size := Nat.le_trans Z19 (Keep.of_wr W20).1
  refine own_st st20 ?_
  show own_Fin _ _ _ _ _ _ _ (T20.setTop (mkF m 129 #[.val (.long q1), .second, .val (.int p2), .val (.int p3), .val (.int p4), .unset, .unset, .unset, .unset, .unset, .unset, .unset, .unset] [(.ref b1)]))
  refine own_st (fun t k => XS.astore X20.here hx rfl (hb hby at_129) rfl rfl (l' := #[.val (.long q1), .second, .val (.int p2), .val (.int p3), .val (.int p4), .val (.ref b1), .unset, .unset, .unset, .unset, .unset, .unset, .unset]) rfl k) ?_
  show own_Fin _ _ _ _ _ _ _ (T20.setTop (mkF m 131 #[.val (.long q1), .second, .val (.int p2), .val (.int p3), .val (.int p4), .val (.ref b1), .unset, .unset, .unset, .unset, .unset, .unset, .unset] []))
  have tail : ∀ (vv : Int64) (Tt : State) (lt : List Loc) (Xt : Stand p l e room_1 s m #[(.long q1), (.int p2), (.int p3), (.int p4)] below meth c Tt lt 1 19) (et : Tt.heap = h20) (Nt : Fr n0 lt), own_Fin p.tables e below s (16) (128) (fun v h L => v = some (.int (1 : Int32)) ∧ Fr n0 L ∧ True) (Tt.setTop (mkF m 195 #[.val (.long q1), .second, .val (.int p2), .val (.int p3), .val (.int p4), .val (.ref b1), .val (.long vv), .second, .val (.int (own_F1 vv)), .unset, .unset, .unset, .unset] [])) := by
    intro vv Tt lt Xt et Nt
    have hP := own_dig vv
    show own_Fin _ _ _ _ _ _ _ (Tt.setTop (mkF m 195 #[.val (.long q1), .second, .val (.int p2), .val (.int p3), .val (.int p4), .val (.ref b1), .val (.long vv), .second, .val (.int (own_F1 vv)), .unset, .unset, .unset, .unset] []))
    refine own_st (fun t k => XS.iload Xt.here hx rfl (hb hby at_195) rfl k) ?_
    show own_Fin _ _ _ _ _ _ _ (Tt.setTop (mkF m 197 #[.val (.long q1), .second, .val (.int p2), .val (.int p3), .val (.int p4), .val (.ref b1), .val (.long vv), .second, .val (.int (own_F1 vv)), .unset, .unset, .unset, .unset] [(.int (own_F1 vv))]))
    refine own_st (fun t k => XS.iconst Xt.here hx rfl (hb hby at_197) k) ?_
    show own_Fin _ _ _ _ _ _ _ (Tt.setTop (mkF m 198 #[.val (.long q1), .second, .val (.int p2), .val (.int p3), .val (.int p4), .val (.ref b1), .val (.long vv), .second, .val (.int (own_F1 vv)), .unset, .unset, .unset, .unset] [(.int (1 : Int32)), (.int (own_F1 vv))]))
    have hd198_21 : ¬ ((own_F1 vv) < (1 : Int32)) := hP.1
    refine own_st (fun t k => XS.icmpNo Xt.here hx rfl (hb hby at_198) rfl (flt hd198_21).1 k) ?_
    show own_Fin _ _ _ _ _ _ _ (Tt.setTop (mkF m 201 #[.val (.long q1), .second, .val (.int p2), .val (.int p3), .val (.int p4), .val (.ref b1), .val (.long vv), .second, .val (.int (own_F1 vv)), .unset, .unset, .unset, .unset] []))
    refine own_st (fun t k => XS.iload Xt.here hx rfl (hb hby at_201) rfl k) ?_
    show own_Fin _ _ _ _ _ _ _ (Tt.setTop (mkF m 203 #[.val (.long q1), .second, .val (.int p2), .val (.int p3), .val (.int p4), .val (.ref b1), .val (.long vv), .second, .val (.int (own_F1 vv)), .unset, .unset, .unset, .unset] [(.int (own_F1 vv))]))
    refine own_st (fun t k => XS.bipush Xt.here hx rfl (hb hby at_203) k) ?_
    show own_Fin _ _ _ _ _ _ _ (Tt.setTop (mkF m 205 #[.val (.long q1), .second, .val (.int p2), .val (.int p3), .val (.int p4), .val (.ref b1), .val (.long vv), .second, .val (.int (own_F1 vv)), .unset, .unset, .unset, .unset] [(.int (19 : Int32)), (.int (own_F1 vv))]))
    have hd205_22 : ¬ ((19 : Int32) < (own_F1 vv)) := hP.2.1
    refine own_st (fun t k => XS.icmpYes Xt.here hx rfl (pc0 := 205) (pc' := 210) rfl (hb hby at_205) rfl (flt hd205_22).2.2.2 (by decide) (by decide) k) ?_
    show own_Fin _ _ _ _ _ _ _ (Tt.setTop (mkF m 210 #[.val (.long q1), .second, .val (.int p2), .val (.int p3), .val (.int p4), .val (.ref b1), .val (.long vv), .second, .val (.int (own_F1 vv)), .unset, .unset, .unset, .unset] []))
    refine own_st (fun t k => XS.lload Xt.here hx rfl (hb hby at_210) rfl k) ?_
    show own_Fin _ _ _ _ _ _ _ (Tt.setTop (mkF m 212 #[.val (.long q1), .second, .val (.int p2), .val (.int p3), .val (.int p4), .val (.ref b1), .val (.long vv), .second, .val (.int (own_F1 vv)), .unset, .unset, .unset, .unset] [(.long vv)]))
    refine own_st (fun t k => XS.lconst Xt.here hx rfl (hb hby at_212) k) ?_
    show own_Fin _ _ _ _ _ _ _ (Tt.setTop (mkF m 213 #[.val (.long q1), .second, .val (.int p2), .val (.int p3), .val (.int p4), .val (.ref b1), .val (.long vv), .second, .val (.int (own_F1 vv)), .unset, .unset, .unset, .unset] [(.long (0 : Int64)), (.long vv)]))
    refine own_st (fun t k => XS.lcmp Xt.here hx rfl (hb hby at_213) rfl k) ?_
    show own_Fin _ _ _ _ _ _ _ (Tt.setTop (mkF m 214 #[.val (.long q1), .second, .val (.int p2), .val (.int p3), .val (.int p4), .val (.ref b1), .val (.long vv), .second, .val (.int (own_F1 vv)), .unset, .unset, .unset, .unset] [(.int (lcmpW vv (0 : Int64)))]))
    by_cases hc214_23 : vv < (0 : Int64)
    · refine own_st (fun t k => XS.ifNo Xt.here hx rfl (hb hby at_214) rfl (own_ltT hc214_23).2 k) ?_
      show own_Fin _ _ _ _ _ _ _ (Tt.setTop (mkF m 217 #[.val (.long q1), .second, .val (.int p2), .val (.int p3), .val (.int p4), .val (.ref b1), .val (.long vv), .second, .val (.int (own_F1 vv)), .unset, .unset, .unset, .unset] []))
      refine own_st (fun t k => XS.lload Xt.here hx rfl (hb hby at_217) rfl k) ?_
      show own_Fin _ _ _ _ _ _ _ (Tt.setTop (mkF m 219 #[.val (.long q1), .second, .val (.int p2), .val (.int p3), .val (.int p4), .val (.ref b1), .val (.long vv), .second, .val (.int (own_F1 vv)), .unset, .unset, .unset, .unset] [(.long vv)]))
      refine own_st (fun t k => XS.goto Xt.here hx rfl (pc0 := 219) (pc' := 225) rfl (hb hby at_219) (by decide) (by decide) k) ?_
      show own_Fin _ _ _ _ _ _ _ (Tt.setTop (mkF m 225 #[.val (.long q1), .second, .val (.int p2), .val (.int p3), .val (.int p4), .val (.ref b1), .val (.long vv), .second, .val (.int (own_F1 vv)), .unset, .unset, .unset, .unset] [(.long vv)]))
      refine own_st (fun t k => XS.lstore Xt.here hx rfl (hb hby at_225) rfl (l' := #[.val (.long q1), .second, .val (.int p2), .val (.int p3), .val (.int p4), .val (.ref b1), .val (.long vv), .second, .val (.int (own_F1 vv)), .val (.long vv), .second, .unset, .unset]) rfl k) ?_
      show own_Fin _ _ _ _ _ _ _ (Tt.setTop (mkF m 227 #[.val (.long q1), .second, .val (.int p2), .val (.int p3), .val (.int p4), .val (.ref b1), .val (.long vv), .second, .val (.int (own_F1 vv)), .val (.long vv), .second, .unset, .unset] []))
      refine own_st (fun t k => XS.iload Xt.here hx rfl (hb hby at_227) rfl k) ?_
      show own_Fin _ _ _ _ _ _ _ (Tt.setTop (mkF m 229 #[.val (.long q1), .second, .val (.int p2), .val (.int p3), .val (.int p4), .val (.ref b1), .val (.long vv), .second, .val (.int (own_F1 vv)), .val (.long vv), .second, .unset, .unset] [(.int (own_F1 vv))]))
      refine own_st (fun t k => XS.iconst Xt.here hx rfl (hb hby at_229) k) ?_
      show own_Fin _ _ _ _ _ _ _ (Tt.setTop (mkF m 230 #[.val (.long q1), .second, .val (.int p2), .val (.int p3), .val (.int p4), .val (.ref b1), .val (.long vv), .second, .val (.int (own_F1 vv)), .val (.long vv), .second, .unset, .unset] [(.int (1 : Int32)), (.int (own_F1 vv))]))
      by_cases hc230_24 : (own_F1 vv) = (1 : Int32)
      · refine own_st (fun t k => XS.icmpYes Xt.here hx rfl (pc0 := 230) (pc' := 247) rfl (hb hby at_230) rfl (teq hc230_24).1 (by decide) (by decide) k) ?_
        show own_Fin _ _ _ _ _ _ _ (Tt.setTop (mkF m 247 #[.val (.long q1), .second, .val (.int p2), .val (.int p3), .val (.int p4), .val (.ref b1), .val (.long vv), .second, .val (.int (own_F1 vv)), .val (.long vv), .second, .unset, .unset] []))
        refine own_st (fun t k => XS.iconst Xt.here hx rfl (hb hby at_247) k) ?_
        show own_Fin _ _ _ _ _ _ _ (Tt.setTop (mkF m 248 #[.val (.long q1), .second, .val (.int p2), .val (.int p3), .val (.int p4), .val (.ref b1), .val (.long vv), .second, .val (.int (own_F1 vv)), .val (.long vv), .second, .unset, .unset] [(.int (1 : Int32))]))
        refine own_st (fun t k => XS.goto Xt.here hx rfl (pc0 := 248) (pc' := 252) rfl (hb hby at_248) (by decide) (by decide) k) ?_
        show own_Fin _ _ _ _ _ _ _ (Tt.setTop (mkF m 252 #[.val (.long q1), .second, .val (.int p2), .val (.int p3), .val (.int p4), .val (.ref b1), .val (.long vv), .second, .val (.int (own_F1 vv)), .val (.long vv), .second, .unset, .unset] [(.int (1 : Int32))]))
        refine own_st (fun t k => XS.istore Xt.here hx rfl (hb hby at_252) rfl (l' := #[.val (.long q1), .second, .val (.int p2), .val (.int p3), .val (.int p4), .val (.ref b1), .val (.long vv), .second, .val (.int (own_F1 vv)), .val (.long vv), .second, .val (.int (1 : Int32)), .unset]) rfl k) ?_
        show own_Fin _ _ _ _ _ _ _ (Tt.setTop (mkF m 254 #[.val (.long q1), .second, .val (.int p2), .val (.int p3), .val (.int p4), .val (.ref b1), .val (.long vv), .second, .val (.int (own_F1 vv)), .val (.long vv), .second, .val (.int (1 : Int32)), .unset] []))
        refine own_st (fun t k => XS.iload Xt.here hx rfl (hb hby at_254) rfl k) ?_
        show own_Fin _ _ _ _ _ _ _ (Tt.setTop (mkF m 256 #[.val (.long q1), .second, .val (.int p2), .val (.int p3), .val (.int p4), .val (.ref b1), .val (.long vv), .second, .val (.int (own_F1 vv)), .val (.long vv), .second, .val (.int (1 : Int32)), .unset] [(.int (own_F1 vv))]))
        refine own_st (fun t k => XS.bipush Xt.here hx rfl (hb hby at_256) k) ?_
        show own_Fin _ _ _ _ _ _ _ (Tt.setTop (mkF m 258 #[.val (.long q1), .second, .val (.int p2), .val (.int p3), .val (.int p4), .val (.ref b1), .val (.long vv), .second, .val (.int (own_F1 vv)), .val (.long vv), .second, .val (.int (1 : Int32)), .unset] [(.int (19 : Int32)), (.int (own_F1 vv))]))
        by_cases hc258_25 : (own_F1 vv) = (19 : Int32)
        · refine own_st (fun t k => XS.icmpYes Xt.here hx rfl (pc0 := 258) (pc' := 273) rfl (hb hby at_258) rfl (teq hc258_25).1 (by decide) (by decide) k) ?_
          show own_Fin _ _ _ _ _ _ _ (Tt.setTop (mkF m 273 #[.val (.long q1), .second, .val (.int p2), .val (.int p3), .val (.int p4), .val (.ref b1), .val (.long vv), .second, .val (.int (own_F1 vv)), .val (.long vv), .second, .val (.int (1 : Int32)), .unset] []))
          refine own_st (fun t k => XS.iconst Xt.here hx rfl (hb hby at_273) k) ?_
          show own_Fin _ _ _ _ _ _ _ (Tt.setTop (mkF m 274 #[.val (.long q1), .second, .val (.int p2), .val (.int p3), .val (.int p4), .val (.ref b1), .val (.long vv), .second, .val (.int (own_F1 vv)), .val (.long vv), .second, .val (.int (1 : Int32)), .unset] [(.int (1 : Int32))]))
          refine own_st (fun t k => XS.goto Xt.here hx rfl (pc0 := 274) (pc' := 278) rfl (hb hby at_274) (by decide) (by decide) k) ?_
          show own_Fin _ _ _ _ _ _ _ (Tt.setTop (mkF m 278 #[.val (.long q1), .second, .val (.int p2), .val (.int p3), .val (.int p4), .val (.ref b1), .val (.long vv), .second, .val (.int (own_F1 vv)), .val (.long vv), .second, .val (.int (1 : Int32)), .unset] [(.int (1 : Int32))]))
          refine own_st (fun t k => XS.istore Xt.here hx rfl (hb hby at_278) rfl (l' := #[.val (.long q1), .second, .val (.int p2), .val (.int p3), .val (.int p4), .val (.ref b1), .val (.long vv), .second, .val (.int (own_F1 vv)), .val (.long vv), .second, .val (.int (1 : Int32)), .val (.int (1 : Int32))]) rfl k) ?_
          show own_Fin _ _ _ _ _ _ _ (Tt.setTop (mkF m 280 #[.val (.long q1), .second, .val (.int p2), .val (.int p3), .val (.int p4), .val (.ref b1), .val (.long vv), .second, .val (.int (own_F1 vv)), .val (.long vv), .second, .val (.int (1 : Int32)), .val (.int (1 : Int32))] []))
          refine own_st (fun t k => XS.iload Xt.here hx rfl (hb hby at_280) rfl k) ?_
          show own_Fin _ _ _ _ _ _ _ (Tt.setTop (mkF m 282 #[.val (.long q1), .second, .val (.int p2), .val (.int p3), .val (.int p4), .val (.ref b1), .val (.long vv), .second, .val (.int (own_F1 vv)), .val (.long vv), .second, .val (.int (1 : Int32)), .val (.int (1 : Int32))] [(.int (1 : Int32))]))
          refine own_st (fun t k => XS.ifNo Xt.here hx rfl (hb hby at_282) rfl ((if0 _ _).trans (feq (by decide : ¬ ((1 : Int32) = (0 : Int32)))).1) k) ?_
          show own_Fin _ _ _ _ _ _ _ (Tt.setTop (mkF m 285 #[.val (.long q1), .second, .val (.int p2), .val (.int p3), .val (.int p4), .val (.ref b1), .val (.long vv), .second, .val (.int (own_F1 vv)), .val (.long vv), .second, .val (.int (1 : Int32)), .val (.int (1 : Int32))] []))
          refine own_st (fun t k => XS.iload Xt.here hx rfl (hb hby at_285) rfl k) ?_
          show own_Fin _ _ _ _ _ _ _ (Tt.setTop (mkF m 287 #[.val (.long q1), .second, .val (.int p2), .val (.int p3), .val (.int p4), .val (.ref b1), .val (.long vv), .second, .val (.int (own_F1 vv)), .val (.long vv), .second, .val (.int (1 : Int32)), .val (.int (1 : Int32))] [(.int (1 : Int32))]))
          refine own_st (fun t k => XS.ifNo Xt.here hx rfl (hb hby at_287) rfl ((if0 _ _).trans (feq (by decide : ¬ ((1 : Int32) = (0 : Int32)))).1) k) ?_
          show own_Fin _ _ _ _ _ _ _ (Tt.setTop (mkF m 290 #[.val (.long q1), .second, .val (.int p2), .val (.int p3), .val (.int p4), .val (.ref b1), .val (.long vv), .second, .val (.int (own_F1 vv)), .val (.long vv), .second, .val (.int (1 : Int32)), .val (.int (1 : Int32))] []))
          refine own_st (fun t k => XS.iconst Xt.here hx rfl (hb hby at_290) k) ?_
          show own_Fin _ _ _ _ _ _ _ (Tt.setTop (mkF m 291 #[.val (.long q1), .second, .val (.int p2), .val (.int p3), .val (.int p4), .val (.ref b1), .val (.long vv), .second, .val (.int (own_F1 vv)), .val (.long vv), .second, .val (.int (1 : Int32)), .val (.int (1 : Int32))] [(.int (1 : Int32))]))
          refine own_st (fun t k => XS.goto Xt.here hx rfl (pc0 := 291) (pc' := 295) rfl (hb hby at_291) (by decide) (by decide) k) ?_
          show own_Fin _ _ _ _ _ _ _ (Tt.setTop (mkF m 295 #[.val (.long q1), .second, .val (.int p2), .val (.int p3), .val (.int p4), .val (.ref b1), .val (.long vv), .second, .val (.int (own_F1 vv)), .val (.long vv), .second, .val (.int (1 : Int32)), .val (.int (1 : Int32))] [(.int (1 : Int32))]))
          exact own_retN Xt hx Bd.notSynchronized (t := .boolean) Bd.returns (by simp) (hb hby at_295) (by decide) (by decide) ⟨rfl, Nt, trivial⟩
        · refine own_st (fun t k => XS.icmpNo Xt.here hx rfl (hb hby at_258) rfl (feq hc258_25).1 k) ?_
          show own_Fin _ _ _ _ _ _ _ (Tt.setTop (mkF m 261 #[.val (.long q1), .second, .val (.int p2), .val (.int p3), .val (.int p4), .val (.ref b1), .val (.long vv), .second, .val (.int (own_F1 vv)), .val (.long vv), .second, .val (.int (1 : Int32)), .unset] []))
          refine own_st (fun t k => XS.lload Xt.here hx rfl (hb hby at_261) rfl k) ?_
          show own_Fin _ _ _ _ _ _ _ (Tt.setTop (mkF m 263 #[.val (.long q1), .second, .val (.int p2), .val (.int p3), .val (.int p4), .val (.ref b1), .val (.long vv), .second, .val (.int (own_F1 vv)), .val (.long vv), .second, .val (.int (1 : Int32)), .unset] [(.long vv)]))
          refine own_st (fun t k => XS.aload Xt.here hx rfl (hb hby at_263) rfl rfl k) ?_
          show own_Fin _ _ _ _ _ _ _ (Tt.setTop (mkF m 265 #[.val (.long q1), .second, .val (.int p2), .val (.int p3), .val (.int p4), .val (.ref b1), .val (.long vv), .second, .val (.int (own_F1 vv)), .val (.long vv), .second, .val (.int (1 : Int32)), .unset] [(.ref b1), (.long vv)]))
          refine own_st (fun t k => XS.iload Xt.here hx rfl (hb hby at_265) rfl k) ?_
          show own_Fin _ _ _ _ _ _ _ (Tt.setTop (mkF m 267 #[.val (.long q1), .second, .val (.int p2), .val (.int p3), .val (.int p4), .val (.ref b1), .val (.long vv), .second, .val (.int (own_F1 vv)), .val (.long vv), .second, .val (.int (1 : Int32)), .unset] [(.int (own_F1 vv)), (.ref b1), (.long vv)]))
          obtain ⟨cl26, Ar26, Cq26, Sz26, Mn26, Hs26, Gf26⟩ := id V20
          have hin26 := inb_of Sz26 (j := (own_F1 vv)) (own_i2 hP.1 hP.2.1 hc258_25)
          refine own_st (Xt.laload hx (j := (own_F1 vv)) (v := (.long (own_pw (own_F1 vv)))) (by rw [et]; exact Ar26.1) (State.isArrayOf_alike hZ.alike Ar26.2.1) Ar26.2.2 hin26 (Hs26.at hin26 (own_get (own_i2 hP.1 hP.2.1 hc258_25))) (g := (mkF m 267 #[.val (.long q1), .second, .val (.int p2), .val (.int p3), .val (.int p4), .val (.ref b1), .val (.long vv), .second, .val (.int (own_F1 vv)), .val (.long vv), .second, .val (.int (1 : Int32)), .unset] [(.int (own_F1 vv)), (.ref b1), (.long vv)])) rfl rfl (hb hby at_267)) ?_
          show own_Fin _ _ _ _ _ _ _ (Tt.setTop (mkF m 268 #[.val (.long q1), .second, .val (.int p2), .val (.int p3), .val (.int p4), .val (.ref b1), .val (.long vv), .second, .val (.int (own_F1 vv)), .val (.long vv), .second, .val (.int (1 : Int32)), .unset] [(.long (own_pw (own_F1 vv))), (.long vv)]))
          refine own_st (fun t k => XS.lneg Xt.here hx rfl (hb hby at_268) rfl k) ?_
          show own_Fin _ _ _ _ _ _ _ (Tt.setTop (mkF m 269 #[.val (.long q1), .second, .val (.int p2), .val (.int p3), .val (.int p4), .val (.ref b1), .val (.long vv), .second, .val (.int (own_F1 vv)), .val (.long vv), .second, .val (.int (1 : Int32)), .unset] [(.long (-(own_pw (own_F1 vv)))), (.long vv)]))
          refine own_st (fun t k => XS.lcmp Xt.here hx rfl (hb hby at_269) rfl k) ?_
          show own_Fin _ _ _ _ _ _ _ (Tt.setTop (mkF m 270 #[.val (.long q1), .second, .val (.int p2), .val (.int p3), .val (.int p4), .val (.ref b1), .val (.long vv), .second, .val (.int (own_F1 vv)), .val (.long vv), .second, .val (.int (1 : Int32)), .unset] [(.int (lcmpW vv (-(own_pw (own_F1 vv)))))]))
          have hd270_27 : (-(own_pw (own_F1 vv))) < vv := by have q := hP.2.2.2.resolve_left hc258_25; rw [if_pos hc214_23] at q; exact q
          refine own_st (fun t k => XS.ifNo Xt.here hx rfl (hb hby at_270) rfl (own_gtT hd270_27).2 k) ?_
          show own_Fin _ _ _ _ _ _ _ (Tt.setTop (mkF m 273 #[.val (.long q1), .second, .val (.int p2), .val (.int p3), .val (.int p4), .val (.ref b1), .val (.long vv), .second, .val (.int (own_F1 vv)), .val (.long vv), .second, .val (.int (1 : Int32)), .unset] []))
          refine own_st (fun t k => XS.iconst Xt.here hx rfl (hb hby at_273) k) ?_
          show own_Fin _ _ _ _ _ _ _ (Tt.setTop (mkF m 274 #[.val (.long q1), .second, .val (.int p2), .val (.int p3), .val (.int p4), .val (.ref b1), .val (.long vv), .second, .val (.int (own_F1 vv)), .val (.long vv), .second, .val (.int (1 : Int32)), .unset] [(.int (1 : Int32))]))
          refine own_st (fun t k => XS.goto Xt.here hx rfl (pc0 := 274) (pc' := 278) rfl (hb hby at_274) (by decide) (by decide) k) ?_
          show own_Fin _ _ _ _ _ _ _ (Tt.setTop (mkF m 278 #[.val (.long q1), .second, .val (.int p2), .val (.int p3), .val (.int p4), .val (.ref b1), .val (.long vv), .second, .val (.int (own_F1 vv)), .val (.long vv), .second, .val (.int (1 : Int32)), .unset] [(.int (1 : Int32))]))
          refine own_st (fun t k => XS.istore Xt.here hx rfl (hb hby at_278) rfl (l' := #[.val (.long q1), .second, .val (.int p2), .val (.int p3), .val (.int p4), .val (.ref b1), .val (.long vv), .second, .val (.int (own_F1 vv)), .val (.long vv), .second, .val (.int (1 : Int32)), .val (.int (1 : Int32))]) rfl k) ?_
          show own_Fin _ _ _ _ _ _ _ (Tt.setTop (mkF m 280 #[.val (.long q1), .second, .val (.int p2), .val (.int p3), .val (.int p4), .val (.ref b1), .val (.long vv), .second, .val (.int (own_F1 vv)), .val (.long vv), .second, .val (.int (1 : Int32)), .val (.int (1 : Int32))] []))
          refine own_st (fun t k => XS.iload Xt.here hx rfl (hb hby at_280) rfl k) ?_
          show own_Fin _ _ _ _ _ _ _ (Tt.setTop (mkF m 282 #[.val (.long q1), .second, .val (.int p2), .val (.int p3), .val (.int p4), .val (.ref b1), .val (.long vv), .second, .val (.int (own_F1 vv)), .val (.long vv), .second, .val (.int (1 : Int32)), .val (.int (1 : Int32))] [(.int (1 : Int32))]))
          refine own_st (fun t k => XS.ifNo Xt.here hx rfl (hb hby at_282) rfl ((if0 _ _).trans (feq (by decide : ¬ ((1 : Int32) = (0 : Int32)))).1) k) ?_
          show own_Fin _ _ _ _ _ _ _ (Tt.setTop (mkF m 285 #[.val (.long q1), .second, .val (.int p2), .val (.int p3), .val (.int p4), .val (.ref b1), .val (.long vv), .second, .val (.int (own_F1 vv)), .val (.long vv), .second, .val (.int (1 : Int32)), .val (.int (1 : Int32))] []))
          refine own_st (fun t k => XS.iload Xt.here hx rfl (hb hby at_285) rfl k) ?_
          show own_Fin _ _ _ _ _ _ _ (Tt.setTop (mkF m 287 #[.val (.long q1), .second, .val (.int p2), .val (.int p3), .val (.int p4), .val (.ref b1), .val (.long vv), .second, .val (.int (own_F1 vv)), .val (.long vv), .second, .val (.int (1 : Int32)), .val (.int (1 : Int32))] [(.int (1 : Int32))]))
          refine own_st (fun t k => XS.ifNo Xt.here hx rfl (hb hby at_287) rfl ((if0 _ _).trans (feq (by decide : ¬ ((1 : Int32) = (0 : Int32)))).1) k) ?_
          show own_Fin _ _ _ _ _ _ _ (Tt.setTop (mkF m 290 #[.val (.long q1), .second, .val (.int p2), .val (.int p3), .val (.int p4), .val (.ref b1), .val (.long vv), .second, .val (.int (own_F1 vv)), .val (.long vv), .second, .val (.int (1 : Int32)), .val (.int (1 : Int32))] []))
          refine own_st (fun t k => XS.iconst Xt.here hx rfl (hb hby at_290) k) ?_
          show own_Fin _ _ _ _ _ _ _ (Tt.setTop (mkF m 291 #[.val (.long q1), .second, .val (.int p2), .val (.int p3), .val (.int p4), .val (.ref b1), .val (.long vv), .second, .val (.int (own_F1 vv)), .val (.long vv), .second, .val (.int (1 : Int32)), .val (.int (1 : Int32))] [(.int (1 : Int32))]))
          refine own_st (fun t k => XS.goto Xt.here hx rfl (pc0 := 291) (pc' := 295) rfl (hb hby at_291) (by decide) (by decide) k) ?_
          show own_Fin _ _ _ _ _ _ _ (Tt.setTop (mkF m 295 #[.val (.long q1), .second, .val (.int p2), .val (.int p3), .val (.int p4), .val (.ref b1), .val (.long vv), .second, .val (.int (own_F1 vv)), .val (.long vv), .second, .val (.int (1 : Int32)), .val (.int (1 : Int32))] [(.int (1 : Int32))]))
          exact own_retN Xt hx Bd.notSynchronized (t := .boolean) Bd.returns (by simp) (hb hby at_295) (by decide) (by decide) ⟨rfl, Nt, trivial⟩
      · refine own_st (fun t k => XS.icmpNo Xt.here hx rfl (hb hby at_230) rfl (feq hc230_24).1 k) ?_
        show own_Fin _ _ _ _ _ _ _ (Tt.setTop (mkF m 233 #[.val (.long q1), .second, .val (.int p2), .val (.int p3), .val (.int p4), .val (.ref b1), .val (.long vv), .second, .val (.int (own_F1 vv)), .val (.long vv), .second, .unset, .unset] []))
        refine own_st (fun t k => XS.lload Xt.here hx rfl (hb hby at_233) rfl k) ?_
        show own_Fin _ _ _ _ _ _ _ (Tt.setTop (mkF m 235 #[.val (.long q1), .second, .val (.int p2), .val (.int p3), .val (.int p4), .val (.ref b1), .val (.long vv), .second, .val (.int (own_F1 vv)), .val (.long vv), .second, .unset, .unset] [(.long vv)]))
        refine own_st (fun t k => XS.aload Xt.here hx rfl (hb hby at_235) rfl rfl k) ?_
        show own_Fin _ _ _ _ _ _ _ (Tt.setTop (mkF m 237 #[.val (.long q1), .second, .val (.int p2), .val (.int p3), .val (.int p4), .val (.ref b1), .val (.long vv), .second, .val (.int (own_F1 vv)), .val (.long vv), .second, .unset, .unset] [(.ref b1), (.long vv)]))
        refine own_st (fun t k => XS.iload Xt.here hx rfl (hb hby at_237) rfl k) ?_
        show own_Fin _ _ _ _ _ _ _ (Tt.setTop (mkF m 239 #[.val (.long q1), .second, .val (.int p2), .val (.int p3), .val (.int p4), .val (.ref b1), .val (.long vv), .second, .val (.int (own_F1 vv)), .val (.long vv), .second, .unset, .unset] [(.int (own_F1 vv)), (.ref b1), (.long vv)]))
        refine own_st (fun t k => XS.iconst Xt.here hx rfl (hb hby at_239) k) ?_
        show own_Fin _ _ _ _ _ _ _ (Tt.setTop (mkF m 240 #[.val (.long q1), .second, .val (.int p2), .val (.int p3), .val (.int p4), .val (.ref b1), .val (.long vv), .second, .val (.int (own_F1 vv)), .val (.long vv), .second, .unset, .unset] [(.int (1 : Int32)), (.int (own_F1 vv)), (.ref b1), (.long vv)]))
        refine own_st (fun t k => XS.isub Xt.here hx rfl (hb hby at_240) rfl k) ?_
        show own_Fin _ _ _ _ _ _ _ (Tt.setTop (mkF m 241 #[.val (.long q1), .second, .val (.int p2), .val (.int p3), .val (.int p4), .val (.ref b1), .val (.long vv), .second, .val (.int (own_F1 vv)), .val (.long vv), .second, .unset, .unset] [(.int ((own_F1 vv) - (1 : Int32))), (.ref b1), (.long vv)]))
        obtain ⟨cl28, Ar28, Cq28, Sz28, Mn28, Hs28, Gf28⟩ := id V20
        have hin28 := inb_of Sz28 (j := ((own_F1 vv) - (1 : Int32))) (own_i1 hP.1 hP.2.1)
        refine own_st (Xt.laload hx (j := ((own_F1 vv) - (1 : Int32))) (v := (.long (own_pw ((own_F1 vv) - (1 : Int32))))) (by rw [et]; exact Ar28.1) (State.isArrayOf_alike hZ.alike Ar28.2.1) Ar28.2.2 hin28 (Hs28.at hin28 (own_get (own_i1 hP.1 hP.2.1))) (g := (mkF m 241 #[.val (.long q1), .second, .val (.int p2), .val (.int p3), .val (.int p4), .val (.ref b1), .val (.long vv), .second, .val (.int (own_F1 vv)), .val (.long vv), .second, .unset, .unset] [(.int ((own_F1 vv) - (1 : Int32))), (.ref b1), (.long vv)])) rfl rfl (hb hby at_241)) ?_
        show own_Fin _ _ _ _ _ _ _ (Tt.setTop (mkF m 242 #[.val (.long q1), .second, .val (.int p2), .val (.int p3), .val (.int p4), .val (.ref b1), .val (.long vv), .second, .val (.int (own_F1 vv)), .val (.long vv), .second, .unset, .unset] [(.long (own_pw ((own_F1 vv) - (1 : Int32)))), (.long vv)]))
        refine own_st (fun t k => XS.lneg Xt.here hx rfl (hb hby at_242) rfl k) ?_
        show own_Fin _ _ _ _ _ _ _ (Tt.setTop (mkF m 243 #[.val (.long q1), .second, .val (.int p2), .val (.int p3), .val (.int p4), .val (.ref b1), .val (.long vv), .second, .val (.int (own_F1 vv)), .val (.long vv), .second, .unset, .unset] [(.long (-(own_pw ((own_F1 vv) - (1 : Int32))))), (.long vv)]))
        refine own_st (fun t k => XS.lcmp Xt.here hx rfl (hb hby at_243) rfl k) ?_
        show own_Fin _ _ _ _ _ _ _ (Tt.setTop (mkF m 244 #[.val (.long q1), .second, .val (.int p2), .val (.int p3), .val (.int p4), .val (.ref b1), .val (.long vv), .second, .val (.int (own_F1 vv)), .val (.long vv), .second, .unset, .unset] [(.int (lcmpW vv (-(own_pw ((own_F1 vv) - (1 : Int32))))))]))
        have hd244_29 : ¬ ((-(own_pw ((own_F1 vv) - (1 : Int32)))) < vv) := by have q := hP.2.2.1.resolve_left hc230_24; rw [if_pos hc214_23] at q; exact q
        refine own_st (fun t k => XS.ifNo Xt.here hx rfl (hb hby at_244) rfl (own_gtF hd244_29).1 k) ?_
        show own_Fin _ _ _ _ _ _ _ (Tt.setTop (mkF m 247 #[.val (.long q1), .second, .val (.int p2), .val (.int p3), .val (.int p4), .val (.ref b1), .val (.long vv), .second, .val (.int (own_F1 vv)), .val (.long vv), .second, .unset, .unset] []))
        refine own_st (fun t k => XS.iconst Xt.here hx rfl (hb hby at_247) k) ?_
        show own_Fin _ _ _ _ _ _ _ (Tt.setTop (mkF m 248 #[.val (.long q1), .second, .val (.int p2), .val (.int p3), .val (.int p4), .val (.ref b1), .val (.long vv), .second, .val (.int (own_F1 vv)), .val (.long vv), .second, .unset, .unset] [(.int (1 : Int32))]))
        refine own_st (fun t k => XS.goto Xt.here hx rfl (pc0 := 248) (pc' := 252) rfl (hb hby at_248) (by decide) (by decide) k) ?_
        show own_Fin _ _ _ _ _ _ _ (Tt.setTop (mkF m 252 #[.val (.long q1), .second, .val (.int p2), .val (.int p3), .val (.int p4), .val (.ref b1), .val (.long vv), .second, .val (.int (own_F1 vv)), .val (.long vv), .second, .unset, .unset] [(.int (1 : Int32))]))
        refine own_st (fun t k => XS.istore Xt.here hx rfl (hb hby at_252) rfl (l' := #[.val (.long q1), .second, .val (.int p2), .val (.int p3), .val (.int p4), .val (.ref b1), .val (.long vv), .second, .val (.int (own_F1 vv)), .val (.long vv), .second, .val (.int (1 : Int32)), .unset]) rfl k) ?_
        show own_Fin _ _ _ _ _ _ _ (Tt.setTop (mkF m 254 #[.val (.long q1), .second, .val (.int p2), .val (.int p3), .val (.int p4), .val (.ref b1), .val (.long vv), .second, .val (.int (own_F1 vv)), .val (.long vv), .second, .val (.int (1 : Int32)), .unset] []))
        refine own_st (fun t k => XS.iload Xt.here hx rfl (hb hby at_254) rfl k) ?_
        show own_Fin _ _ _ _ _ _ _ (Tt.setTop (mkF m 256 #[.val (.long q1), .second, .val (.int p2), .val (.int p3), .val (.int p4), .val (.ref b1), .val (.long vv), .second, .val (.int (own_F1 vv)), .val (.long vv), .second, .val (.int (1 : Int32)), .unset] [(.int (own_F1 vv))]))
        refine own_st (fun t k => XS.bipush Xt.here hx rfl (hb hby at_256) k) ?_
        show own_Fin _ _ _ _ _ _ _ (Tt.setTop (mkF m 258 #[.val (.long q1), .second, .val (.int p2), .val (.int p3), .val (.int p4), .val (.ref b1), .val (.long vv), .second, .val (.int (own_F1 vv)), .val (.long vv), .second, .val (.int (1 : Int32)), .unset] [(.int (19 : Int32)), (.int (own_F1 vv))]))
        by_cases hc258_30 : (own_F1 vv) = (19 : Int32)
        · refine own_st (fun t k => XS.icmpYes Xt.here hx rfl (pc0 := 258) (pc' := 273) rfl (hb hby at_258) rfl (teq hc258_30).1 (by decide) (by decide) k) ?_
          show own_Fin _ _ _ _ _ _ _ (Tt.setTop (mkF m 273 #[.val (.long q1), .second, .val (.int p2), .val (.int p3), .val (.int p4), .val (.ref b1), .val (.long vv), .second, .val (.int (own_F1 vv)), .val (.long vv), .second, .val (.int (1 : Int32)), .unset] []))
          refine own_st (fun t k => XS.iconst Xt.here hx rfl (hb hby at_273) k) ?_
          show own_Fin _ _ _ _ _ _ _ (Tt.setTop (mkF m 274 #[.val (.long q1), .second, .val (.int p2), .val (.int p3), .val (.int p4), .val (.ref b1), .val (.long vv), .second, .val (.int (own_F1 vv)), .val (.long vv), .second, .val (.int (1 : Int32)), .unset] [(.int (1 : Int32))]))
          refine own_st (fun t k => XS.goto Xt.here hx rfl (pc0 := 274) (pc' := 278) rfl (hb hby at_274) (by decide) (by decide) k) ?_
          show own_Fin _ _ _ _ _ _ _ (Tt.setTop (mkF m 278 #[.val (.long q1), .second, .val (.int p2), .val (.int p3), .val (.int p4), .val (.ref b1), .val (.long vv), .second, .val (.int (own_F1 vv)), .val (.long vv), .second, .val (.int (1 : Int32)), .unset] [(.int (1 : Int32))]))
          refine own_st (fun t k => XS.istore Xt.here hx rfl (hb hby at_278) rfl (l' := #[.val (.long q1), .second, .val (.int p2), .val (.int p3), .val (.int p4), .val (.ref b1), .val (.long vv), .second, .val (.int (own_F1 vv)), .val (.long vv), .second, .val (.int (1 : Int32)), .val (.int (1 : Int32))]) rfl k) ?_
          show own_Fin _ _ _ _ _ _ _ (Tt.setTop (mkF m 280 #[.val (.long q1), .second, .val (.int p2), .val (.int p3), .val (.int p4), .val (.ref b1), .val (.long vv), .second, .val (.int (own_F1 vv)), .val (.long vv), .second, .val (.int (1 : Int32)), .val (.int (1 : Int32))] []))
          refine own_st (fun t k => XS.iload Xt.here hx rfl (hb hby at_280) rfl k) ?_
          show own_Fin _ _ _ _ _ _ _ (Tt.setTop (mkF m 282 #[.val (.long q1), .second, .val (.int p2), .val (.int p3), .val (.int p4), .val (.ref b1), .val (.long vv), .second, .val (.int (own_F1 vv)), .val (.long vv), .second, .val (.int (1 : Int32)), .val (.int (1 : Int32))] [(.int (1 : Int32))]))
          refine own_st (fun t k => XS.ifNo Xt.here hx rfl (hb hby at_282) rfl ((if0 _ _).trans (feq (by decide : ¬ ((1 : Int32) = (0 : Int32)))).1) k) ?_
          show own_Fin _ _ _ _ _ _ _ (Tt.setTop (mkF m 285 #[.val (.long q1), .second, .val (.int p2), .val (.int p3), .val (.int p4), .val (.ref b1), .val (.long vv), .second, .val (.int (own_F1 vv)), .val (.long vv), .second, .val (.int (1 : Int32)), .val (.int (1 : Int32))] []))
          refine own_st (fun t k => XS.iload Xt.here hx rfl (hb hby at_285) rfl k) ?_
          show own_Fin _ _ _ _ _ _ _ (Tt.setTop (mkF m 287 #[.val (.long q1), .second, .val (.int p2), .val (.int p3), .val (.int p4), .val (.ref b1), .val (.long vv), .second, .val (.int (own_F1 vv)), .val (.long vv), .second, .val (.int (1 : Int32)), .val (.int (1 : Int32))] [(.int (1 : Int32))]))
          refine own_st (fun t k => XS.ifNo Xt.here hx rfl (hb hby at_287) rfl ((if0 _ _).trans (feq (by decide : ¬ ((1 : Int32) = (0 : Int32)))).1) k) ?_
          show own_Fin _ _ _ _ _ _ _ (Tt.setTop (mkF m 290 #[.val (.long q1), .second, .val (.int p2), .val (.int p3), .val (.int p4), .val (.ref b1), .val (.long vv), .second, .val (.int (own_F1 vv)), .val (.long vv), .second, .val (.int (1 : Int32)), .val (.int (1 : Int32))] []))
          refine own_st (fun t k => XS.iconst Xt.here hx rfl (hb hby at_290) k) ?_
          show own_Fin _ _ _ _ _ _ _ (Tt.setTop (mkF m 291 #[.val (.long q1), .second, .val (.int p2), .val (.int p3), .val (.int p4), .val (.ref b1), .val (.long vv), .second, .val (.int (own_F1 vv)), .val (.long vv), .second, .val (.int (1 : Int32)), .val (.int (1 : Int32))] [(.int (1 : Int32))]))
          refine own_st (fun t k => XS.goto Xt.here hx rfl (pc0 := 291) (pc' := 295) rfl (hb hby at_291) (by decide) (by decide) k) ?_
          show own_Fin _ _ _ _ _ _ _ (Tt.setTop (mkF m 295 #[.val (.long q1), .second, .val (.int p2), .val (.int p3), .val (.int p4), .val (.ref b1), .val (.long vv), .second, .val (.int (own_F1 vv)), .val (.long vv), .second, .val (.int (1 : Int32)), .val (.int (1 : Int32))] [(.int (1 : Int32))]))
          exact own_retN Xt hx Bd.notSynchronized (t := .boolean) Bd.returns (by simp) (hb hby at_295) (by decide) (by decide) ⟨rfl, Nt, trivial⟩
        · refine own_st (fun t k => XS.icmpNo Xt.here hx rfl (hb hby at_258) rfl (feq hc258_30).1 k) ?_
          show own_Fin _ _ _ _ _ _ _ (Tt.setTop (mkF m 261 #[.val (.long q1), .second, .val (.int p2), .val (.int p3), .val (.int p4), .val (.ref b1), .val (.long vv), .second, .val (.int (own_F1 vv)), .val (.long vv), .second, .val (.int (1 : Int32)), .unset] []))
          refine own_st (fun t k => XS.lload Xt.here hx rfl (hb hby at_261) rfl k) ?_
          show own_Fin _ _ _ _ _ _ _ (Tt.setTop (mkF m 263 #[.val (.long q1), .second, .val (.int p2), .val (.int p3), .val (.int p4), .val (.ref b1), .val (.long vv), .second, .val (.int (own_F1 vv)), .val (.long vv), .second, .val (.int (1 : Int32)), .unset] [(.long vv)]))
          refine own_st (fun t k => XS.aload Xt.here hx rfl (hb hby at_263) rfl rfl k) ?_
          show own_Fin _ _ _ _ _ _ _ (Tt.setTop (mkF m 265 #[.val (.long q1), .second, .val (.int p2), .val (.int p3), .val (.int p4), .val (.ref b1), .val (.long vv), .second, .val (.int (own_F1 vv)), .val (.long vv), .second, .val (.int (1 : Int32)), .unset] [(.ref b1), (.long vv)]))
          refine own_st (fun t k => XS.iload Xt.here hx rfl (hb hby at_265) rfl k) ?_
          show own_Fin _ _ _ _ _ _ _ (Tt.setTop (mkF m 267 #[.val (.long q1), .second, .val (.int p2), .val (.int p3), .val (.int p4), .val (.ref b1), .val (.long vv), .second, .val (.int (own_F1 vv)), .val (.long vv), .second, .val (.int (1 : Int32)), .unset] [(.int (own_F1 vv)), (.ref b1), (.long vv)]))
          obtain ⟨cl31, Ar31, Cq31, Sz31, Mn31, Hs31, Gf31⟩ := id V20
          have hin31 := inb_of Sz31 (j := (own_F1 vv)) (own_i2 hP.1 hP.2.1 hc258_30)
          refine own_st (Xt.laload hx (j := (own_F1 vv)) (v := (.long (own_pw (own_F1 vv)))) (by rw [et]; exact Ar31.1) (State.isArrayOf_alike hZ.alike Ar31.2.1) Ar31.2.2 hin31 (Hs31.at hin31 (own_get (own_i2 hP.1 hP.2.1 hc258_30))) (g := (mkF m 267 #[.val (.long q1), .second, .val (.int p2), .val (.int p3), .val (.int p4), .val (.ref b1), .val (.long vv), .second, .val (.int (own_F1 vv)), .val (.long vv), .second, .val (.int (1 : Int32)), .unset] [(.int (own_F1 vv)), (.ref b1), (.long vv)])) rfl rfl (hb hby at_267)) ?_
          show own_Fin _ _ _ _ _ _ _ (Tt.setTop (mkF m 268 #[.val (.long q1), .second, .val (.int p2), .val (.int p3), .val (.int p4), .val (.ref b1), .val (.long vv), .second, .val (.int (own_F1 vv)), .val (.long vv), .second, .val (.int (1 : Int32)), .unset] [(.long (own_pw (own_F1 vv))), (.long vv)]))
          refine own_st (fun t k => XS.lneg Xt.here hx rfl (hb hby at_268) rfl k) ?_
          show own_Fin _ _ _ _ _ _ _ (Tt.setTop (mkF m 269 #[.val (.long q1), .second, .val (.int p2), .val (.int p3), .val (.int p4), .val (.ref b1), .val (.long vv), .second, .val (.int (own_F1 vv)), .val (.long vv), .second, .val (.int (1 : Int32)), .unset] [(.long (-(own_pw (own_F1 vv)))), (.long vv)]))
          refine own_st (fun t k => XS.lcmp Xt.here hx rfl (hb hby at_269) rfl k) ?_
          show own_Fin _ _ _ _ _ _ _ (Tt.setTop (mkF m 270 #[.val (.long q1), .second, .val (.int p2), .val (.int p3), .val (.int p4), .val (.ref b1), .val (.long vv), .second, .val (.int (own_F1 vv)), .val (.long vv), .second, .val (.int (1 : Int32)), .unset] [(.int (lcmpW vv (-(own_pw (own_F1 vv)))))]))
          have hd270_32 : (-(own_pw (own_F1 vv))) < vv := by have q := hP.2.2.2.resolve_left hc258_30; rw [if_pos hc214_23] at q; exact q
          refine own_st (fun t k => XS.ifNo Xt.here hx rfl (hb hby at_270) rfl (own_gtT hd270_32).2 k) ?_
          show own_Fin _ _ _ _ _ _ _ (Tt.setTop (mkF m 273 #[.val (.long q1), .second, .val (.int p2), .val (.int p3), .val (.int p4), .val (.ref b1), .val (.long vv), .second, .val (.int (own_F1 vv)), .val (.long vv), .second, .val (.int (1 : Int32)), .unset] []))
          refine own_st (fun t k => XS.iconst Xt.here hx rfl (hb hby at_273) k) ?_
          show own_Fin _ _ _ _ _ _ _ (Tt.setTop (mkF m 274 #[.val (.long q1), .second, .val (.int p2), .val (.int p3), .val (.int p4), .val (.ref b1), .val (.long vv), .second, .val (.int (own_F1 vv)), .val (.long vv), .second, .val (.int (1 : Int32)), .unset] [(.int (1 : Int32))]))
          refine own_st (fun t k => XS.goto Xt.here hx rfl (pc0 := 274) (pc' := 278) rfl (hb hby at_274) (by decide) (by decide) k) ?_
          show own_Fin _ _ _ _ _ _ _ (Tt.setTop (mkF m 278 #[.val (.long q1), .second, .val (.int p2), .val (.int p3), .val (.int p4), .val (.ref b1), .val (.long vv), .second, .val (.int (own_F1 vv)), .val (.long vv), .second, .val (.int (1 : Int32)), .unset] [(.int (1 : Int32))]))
          refine own_st (fun t k => XS.istore Xt.here hx rfl (hb hby at_278) rfl (l' := #[.val (.long q1), .second, .val (.int p2), .val (.int p3), .val (.int p4), .val (.ref b1), .val (.long vv), .second, .val (.int (own_F1 vv)), .val (.long vv), .second, .val (.int (1 : Int32)), .val (.int (1 : Int32))]) rfl k) ?_
          show own_Fin _ _ _ _ _ _ _ (Tt.setTop (mkF m 280 #[.val (.long q1), .second, .val (.int p2), .val (.int p3), .val (.int p4), .val (.ref b1), .val (.long vv), .second, .val (.int (own_F1 vv)), .val (.long vv), .second, .val (.int (1 : Int32)), .val (.int (1 : Int32))] []))
          refine own_st (fun t k => XS.iload Xt.here hx rfl (hb hby at_280) rfl k) ?_
          show own_Fin _ _ _ _ _ _ _ (Tt.setTop (mkF m 282 #[.val (.long q1), .second, .val (.int p2), .val (.int p3), .val (.int p4), .val (.ref b1), .val (.long vv), .second, .val (.int (own_F1 vv)), .val (.long vv), .second, .val (.int (1 : Int32)), .val (.int (1 : Int32))] [(.int (1 : Int32))]))
          refine own_st (fun t k => XS.ifNo Xt.here hx rfl (hb hby at_282) rfl ((if0 _ _).trans (feq (by decide : ¬ ((1 : Int32) = (0 : Int32)))).1) k) ?_
          show own_Fin _ _ _ _ _ _ _ (Tt.setTop (mkF m 285 #[.val (.long q1), .second, .val (.int p2), .val (.int p3), .val (.int p4), .val (.ref b1), .val (.long vv), .second, .val (.int (own_F1 vv)), .val (.long vv), .second, .val (.int (1 : Int32)), .val (.int (1 : Int32))] []))
          refine own_st (fun t k => XS.iload Xt.here hx rfl (hb hby at_285) rfl k) ?_
          show own_Fin _ _ _ _ _ _ _ (Tt.setTop (mkF m 287 #[.val (.long q1), .second, .val (.int p2), .val (.int p3), .val (.int p4), .val (.ref b1), .val (.long vv), .second, .val (.int (own_F1 vv)), .val (.long vv), .second, .val (.int (1 : Int32)), .val (.int (1 : Int32))] [(.int (1 : Int32))]))
          refine own_st (fun t k => XS.ifNo Xt.here hx rfl (hb hby at_287) rfl ((if0 _ _).trans (feq (by decide : ¬ ((1 : Int32) = (0 : Int32)))).1) k) ?_
          show own_Fin _ _ _ _ _ _ _ (Tt.setTop (mkF m 290 #[.val (.long q1), .second, .val (.int p2), .val (.int p3), .val (.int p4), .val (.ref b1), .val (.long vv), .second, .val (.int (own_F1 vv)), .val (.long vv), .second, .val (.int (1 : Int32)), .val (.int (1 : Int32))] []))
          refine own_st (fun t k => XS.iconst Xt.here hx rfl (hb hby at_290) k) ?_
          show own_Fin _ _ _ _ _ _ _ (Tt.setTop (mkF m 291 #[.val (.long q1), .second, .val (.int p2), .val (.int p3), .val (.int p4), .val (.ref b1), .val (.long vv), .second, .val (.int (own_F1 vv)), .val (.long vv), .second, .val (.int (1 : Int32)), .val (.int (1 : Int32))] [(.int (1 : Int32))]))
          refine own_st (fun t k => XS.goto Xt.here hx rfl (pc0 := 291) (pc' := 295) rfl (hb hby at_291) (by decide) (by decide) k) ?_
          show own_Fin _ _ _ _ _ _ _ (Tt.setTop (mkF m 295 #[.val (.long q1), .second, .val (.int p2), .val (.int p3), .val (.int p4), .val (.ref b1), .val (.long vv), .second, .val (.int (own_F1 vv)), .val (.long vv), .second, .val (.int (1 : Int32)), .val (.int (1 : Int32))] [(.int (1 : Int32))]))
          exact own_retN Xt hx Bd.notSynchronized (t := .boolean) Bd.returns (by simp) (hb hby at_295) (by decide) (by decide) ⟨rfl, Nt, trivial⟩
    · refine own_st (fun t k => XS.ifYes Xt.here hx rfl (pc0 := 214) (pc' := 222) rfl (hb hby at_214) rfl (own_ltF hc214_23).2 (by decide) (by decide) k) ?_
      show own_Fin _ _ _ _ _ _ _ (Tt.setTop (mkF m 222 #[.val (.long q1), .second, .val (.int p2), .val (.int p3), .val (.int p4), .val (.ref b1), .val (.long vv), .second, .val (.int (own_F1 vv)), .unset, .unset, .unset, .unset] []))
      refine own_st (fun t k => XS.lload Xt.here hx rfl (hb hby at_222) rfl k) ?_
      show own_Fin _ _ _ _ _ _ _ (Tt.setTop (mkF m 224 #[.val (.long q1), .second, .val (.int p2), .val (.int p3), .val (.int p4), .val (.ref b1), .val (.long vv), .second, .val (.int (own_F1 vv)), .unset, .unset, .unset, .unset] [(.long vv)]))
      refine own_st (fun t k => XS.lneg Xt.here hx rfl (hb hby at_224) rfl k) ?_
      show own_Fin _ _ _ _ _ _ _ (Tt.setTop (mkF m 225 #[.val (.long q1), .second, .val (.int p2), .val (.int p3), .val (.int p4), .val (.ref b1), .val (.long vv), .second, .val (.int (own_F1 vv)), .unset, .unset, .unset, .unset] [(.long (-vv))]))
      refine own_st (fun t k => XS.lstore Xt.here hx rfl (hb hby at_225) rfl (l' := #[.val (.long q1), .second, .val (.int p2), .val (.int p3), .val (.int p4), .val (.ref b1), .val (.long vv), .second, .val (.int (own_F1 vv)), .val (.long (-vv)), .second, .unset, .unset]) rfl k) ?_
      show own_Fin _ _ _ _ _ _ _ (Tt.setTop (mkF m 227 #[.val (.long q1), .second, .val (.int p2), .val (.int p3), .val (.int p4), .val (.ref b1), .val (.long vv), .second, .val (.int (own_F1 vv)), .val (.long (-vv)), .second, .unset, .unset] []))
      refine own_st (fun t k => XS.iload Xt.here hx rfl (hb hby at_227) rfl k) ?_
      show own_Fin _ _ _ _ _ _ _ (Tt.setTop (mkF m 229 #[.val (.long q1), .second, .val (.int p2), .val (.int p3), .val (.int p4), .val (.ref b1), .val (.long vv), .second, .val (.int (own_F1 vv)), .val (.long (-vv)), .second, .unset, .unset] [(.int (own_F1 vv))]))
      refine own_st (fun t k => XS.iconst Xt.here hx rfl (hb hby at_229) k) ?_
      show own_Fin _ _ _ _ _ _ _ (Tt.setTop (mkF m 230 #[.val (.long q1), .second, .val (.int p2), .val (.int p3), .val (.int p4), .val (.ref b1), .val (.long vv), .second, .val (.int (own_F1 vv)), .val (.long (-vv)), .second, .unset, .unset] [(.int (1 : Int32)), (.int (own_F1 vv))]))
      by_cases hc230_33 : (own_F1 vv) = (1 : Int32)
      · refine own_st (fun t k => XS.icmpYes Xt.here hx rfl (pc0 := 230) (pc' := 247) rfl (hb hby at_230) rfl (teq hc230_33).1 (by decide) (by decide) k) ?_
        show own_Fin _ _ _ _ _ _ _ (Tt.setTop (mkF m 247 #[.val (.long q1), .second, .val (.int p2), .val (.int p3), .val (.int p4), .val (.ref b1), .val (.long vv), .second, .val (.int (own_F1 vv)), .val (.long (-vv)), .second, .unset, .unset] []))
        refine own_st (fun t k => XS.iconst Xt.here hx rfl (hb hby at_247) k) ?_
        show own_Fin _ _ _ _ _ _ _ (Tt.setTop (mkF m 248 #[.val (.long q1), .second, .val (.int p2), .val (.int p3), .val (.int p4), .val (.ref b1), .val (.long vv), .second, .val (.int (own_F1 vv)), .val (.long (-vv)), .second, .unset, .unset] [(.int (1 : Int32))]))
        refine own_st (fun t k => XS.goto Xt.here hx rfl (pc0 := 248) (pc' := 252) rfl (hb hby at_248) (by decide) (by decide) k) ?_
        show own_Fin _ _ _ _ _ _ _ (Tt.setTop (mkF m 252 #[.val (.long q1), .second, .val (.int p2), .val (.int p3), .val (.int p4), .val (.ref b1), .val (.long vv), .second, .val (.int (own_F1 vv)), .val (.long (-vv)), .second, .unset, .unset] [(.int (1 : Int32))]))
        refine own_st (fun t k => XS.istore Xt.here hx rfl (hb hby at_252) rfl (l' := #[.val (.long q1), .second, .val (.int p2), .val (.int p3), .val (.int p4), .val (.ref b1), .val (.long vv), .second, .val (.int (own_F1 vv)), .val (.long (-vv)), .second, .val (.int (1 : Int32)), .unset]) rfl k) ?_
        show own_Fin _ _ _ _ _ _ _ (Tt.setTop (mkF m 254 #[.val (.long q1), .second, .val (.int p2), .val (.int p3), .val (.int p4), .val (.ref b1), .val (.long vv), .second, .val (.int (own_F1 vv)), .val (.long (-vv)), .second, .val (.int (1 : Int32)), .unset] []))
        refine own_st (fun t k => XS.iload Xt.here hx rfl (hb hby at_254) rfl k) ?_
        show own_Fin _ _ _ _ _ _ _ (Tt.setTop (mkF m 256 #[.val (.long q1), .second, .val (.int p2), .val (.int p3), .val (.int p4), .val (.ref b1), .val (.long vv), .second, .val (.int (own_F1 vv)), .val (.long (-vv)), .second, .val (.int (1 : Int32)), .unset] [(.int (own_F1 vv))]))
        refine own_st (fun t k => XS.bipush Xt.here hx rfl (hb hby at_256) k) ?_
        show own_Fin _ _ _ _ _ _ _ (Tt.setTop (mkF m 258 #[.val (.long q1), .second, .val (.int p2), .val (.int p3), .val (.int p4), .val (.ref b1), .val (.long vv), .second, .val (.int (own_F1 vv)), .val (.long (-vv)), .second, .val (.int (1 : Int32)), .unset] [(.int (19 : Int32)), (.int (own_F1 vv))]))
        by_cases hc258_34 : (own_F1 vv) = (19 : Int32)
        · refine own_st (fun t k => XS.icmpYes Xt.here hx rfl (pc0 := 258) (pc' := 273) rfl (hb hby at_258) rfl (teq hc258_34).1 (by decide) (by decide) k) ?_
          show own_Fin _ _ _ _ _ _ _ (Tt.setTop (mkF m 273 #[.val (.long q1), .second, .val (.int p2), .val (.int p3), .val (.int p4), .val (.ref b1), .val (.long vv), .second, .val (.int (own_F1 vv)), .val (.long (-vv)), .second, .val (.int (1 : Int32)), .unset] []))
          refine own_st (fun t k => XS.iconst Xt.here hx rfl (hb hby at_273) k) ?_
          show own_Fin _ _ _ _ _ _ _ (Tt.setTop (mkF m 274 #[.val (.long q1), .second, .val (.int p2), .val (.int p3), .val (.int p4), .val (.ref b1), .val (.long vv), .second, .val (.int (own_F1 vv)), .val (.long (-vv)), .second, .val (.int (1 : Int32)), .unset] [(.int (1 : Int32))]))
          refine own_st (fun t k => XS.goto Xt.here hx rfl (pc0 := 274) (pc' := 278) rfl (hb hby at_274) (by decide) (by decide) k) ?_
          show own_Fin _ _ _ _ _ _ _ (Tt.setTop (mkF m 278 #[.val (.long q1), .second, .val (.int p2), .val (.int p3), .val (.int p4), .val (.ref b1), .val (.long vv), .second, .val (.int (own_F1 vv)), .val (.long (-vv)), .second, .val (.int (1 : Int32)), .unset] [(.int (1 : Int32))]))
          refine own_st (fun t k => XS.istore Xt.here hx rfl (hb hby at_278) rfl (l' := #[.val (.long q1), .second, .val (.int p2), .val (.int p3), .val (.int p4), .val (.ref b1), .val (.long vv), .second, .val (.int (own_F1 vv)), .val (.long (-vv)), .second, .val (.int (1 : Int32)), .val (.int (1 : Int32))]) rfl k) ?_
          show own_Fin _ _ _ _ _ _ _ (Tt.setTop (mkF m 280 #[.val (.long q1), .second, .val (.int p2), .val (.int p3), .val (.int p4), .val (.ref b1), .val (.long vv), .second, .val (.int (own_F1 vv)), .val (.long (-vv)), .second, .val (.int (1 : Int32)), .val (.int (1 : Int32))] []))
          refine own_st (fun t k => XS.iload Xt.here hx rfl (hb hby at_280) rfl k) ?_
          show own_Fin _ _ _ _ _ _ _ (Tt.setTop (mkF m 282 #[.val (.long q1), .second, .val (.int p2), .val (.int p3), .val (.int p4), .val (.ref b1), .val (.long vv), .second, .val (.int (own_F1 vv)), .val (.long (-vv)), .second, .val (.int (1 : Int32)), .val (.int (1 : Int32))] [(.int (1 : Int32))]))
          refine own_st (fun t k => XS.ifNo Xt.here hx rfl (hb hby at_282) rfl ((if0 _ _).trans (feq (by decide : ¬ ((1 : Int32) = (0 : Int32)))).1) k) ?_
          show own_Fin _ _ _ _ _ _ _ (Tt.setTop (mkF m 285 #[.val (.long q1), .second, .val (.int p2), .val (.int p3), .val (.int p4), .val (.ref b1), .val (.long vv), .second, .val (.int (own_F1 vv)), .val (.long (-vv)), .second, .val (.int (1 : Int32)), .val (.int (1 : Int32))] []))
          refine own_st (fun t k => XS.iload Xt.here hx rfl (hb hby at_285) rfl k) ?_
          show own_Fin _ _ _ _ _ _ _ (Tt.setTop (mkF m 287 #[.val (.long q1), .second, .val (.int p2), .val (.int p3), .val (.int p4), .val (.ref b1), .val (.long vv), .second, .val (.int (own_F1 vv)), .val (.long (-vv)), .second, .val (.int (1 : Int32)), .val (.int (1 : Int32))] [(.int (1 : Int32))]))
          refine own_st (fun t k => XS.ifNo Xt.here hx rfl (hb hby at_287) rfl ((if0 _ _).trans (feq (by decide : ¬ ((1 : Int32) = (0 : Int32)))).1) k) ?_
          show own_Fin _ _ _ _ _ _ _ (Tt.setTop (mkF m 290 #[.val (.long q1), .second, .val (.int p2), .val (.int p3), .val (.int p4), .val (.ref b1), .val (.long vv), .second, .val (.int (own_F1 vv)), .val (.long (-vv)), .second, .val (.int (1 : Int32)), .val (.int (1 : Int32))] []))
          refine own_st (fun t k => XS.iconst Xt.here hx rfl (hb hby at_290) k) ?_
          show own_Fin _ _ _ _ _ _ _ (Tt.setTop (mkF m 291 #[.val (.long q1), .second, .val (.int p2), .val (.int p3), .val (.int p4), .val (.ref b1), .val (.long vv), .second, .val (.int (own_F1 vv)), .val (.long (-vv)), .second, .val (.int (1 : Int32)), .val (.int (1 : Int32))] [(.int (1 : Int32))]))
          refine own_st (fun t k => XS.goto Xt.here hx rfl (pc0 := 291) (pc' := 295) rfl (hb hby at_291) (by decide) (by decide) k) ?_
          show own_Fin _ _ _ _ _ _ _ (Tt.setTop (mkF m 295 #[.val (.long q1), .second, .val (.int p2), .val (.int p3), .val (.int p4), .val (.ref b1), .val (.long vv), .second, .val (.int (own_F1 vv)), .val (.long (-vv)), .second, .val (.int (1 : Int32)), .val (.int (1 : Int32))] [(.int (1 : Int32))]))
          exact own_retN Xt hx Bd.notSynchronized (t := .boolean) Bd.returns (by simp) (hb hby at_295) (by decide) (by decide) ⟨rfl, Nt, trivial⟩
        · refine own_st (fun t k => XS.icmpNo Xt.here hx rfl (hb hby at_258) rfl (feq hc258_34).1 k) ?_
          show own_Fin _ _ _ _ _ _ _ (Tt.setTop (mkF m 261 #[.val (.long q1), .second, .val (.int p2), .val (.int p3), .val (.int p4), .val (.ref b1), .val (.long vv), .second, .val (.int (own_F1 vv)), .val (.long (-vv)), .second, .val (.int (1 : Int32)), .unset] []))
          refine own_st (fun t k => XS.lload Xt.here hx rfl (hb hby at_261) rfl k) ?_
          show own_Fin _ _ _ _ _ _ _ (Tt.setTop (mkF m 263 #[.val (.long q1), .second, .val (.int p2), .val (.int p3), .val (.int p4), .val (.ref b1), .val (.long vv), .second, .val (.int (own_F1 vv)), .val (.long (-vv)), .second, .val (.int (1 : Int32)), .unset] [(.long (-vv))]))
          refine own_st (fun t k => XS.aload Xt.here hx rfl (hb hby at_263) rfl rfl k) ?_
          show own_Fin _ _ _ _ _ _ _ (Tt.setTop (mkF m 265 #[.val (.long q1), .second, .val (.int p2), .val (.int p3), .val (.int p4), .val (.ref b1), .val (.long vv), .second, .val (.int (own_F1 vv)), .val (.long (-vv)), .second, .val (.int (1 : Int32)), .unset] [(.ref b1), (.long (-vv))]))
          refine own_st (fun t k => XS.iload Xt.here hx rfl (hb hby at_265) rfl k) ?_
          show own_Fin _ _ _ _ _ _ _ (Tt.setTop (mkF m 267 #[.val (.long q1), .second, .val (.int p2), .val (.int p3), .val (.int p4), .val (.ref b1), .val (.long vv), .second, .val (.int (own_F1 vv)), .val (.long (-vv)), .second, .val (.int (1 : Int32)), .unset] [(.int (own_F1 vv)), (.ref b1), (.long (-vv))]))
          obtain ⟨cl35, Ar35, Cq35, Sz35, Mn35, Hs35, Gf35⟩ := id V20
          have hin35 := inb_of Sz35 (j := (own_F1 vv)) (own_i2 hP.1 hP.2.1 hc258_34)
          refine own_st (Xt.laload hx (j := (own_F1 vv)) (v := (.long (own_pw (own_F1 vv)))) (by rw [et]; exact Ar35.1) (State.isArrayOf_alike hZ.alike Ar35.2.1) Ar35.2.2 hin35 (Hs35.at hin35 (own_get (own_i2 hP.1 hP.2.1 hc258_34))) (g := (mkF m 267 #[.val (.long q1), .second, .val (.int p2), .val (.int p3), .val (.int p4), .val (.ref b1), .val (.long vv), .second, .val (.int (own_F1 vv)), .val (.long (-vv)), .second, .val (.int (1 : Int32)), .unset] [(.int (own_F1 vv)), (.ref b1), (.long (-vv))])) rfl rfl (hb hby at_267)) ?_
          show own_Fin _ _ _ _ _ _ _ (Tt.setTop (mkF m 268 #[.val (.long q1), .second, .val (.int p2), .val (.int p3), .val (.int p4), .val (.ref b1), .val (.long vv), .second, .val (.int (own_F1 vv)), .val (.long (-vv)), .second, .val (.int (1 : Int32)), .unset] [(.long (own_pw (own_F1 vv))), (.long (-vv))]))
          refine own_st (fun t k => XS.lneg Xt.here hx rfl (hb hby at_268) rfl k) ?_
          show own_Fin _ _ _ _ _ _ _ (Tt.setTop (mkF m 269 #[.val (.long q1), .second, .val (.int p2), .val (.int p3), .val (.int p4), .val (.ref b1), .val (.long vv), .second, .val (.int (own_F1 vv)), .val (.long (-vv)), .second, .val (.int (1 : Int32)), .unset] [(.long (-(own_pw (own_F1 vv)))), (.long (-vv))]))
          refine own_st (fun t k => XS.lcmp Xt.here hx rfl (hb hby at_269) rfl k) ?_
          show own_Fin _ _ _ _ _ _ _ (Tt.setTop (mkF m 270 #[.val (.long q1), .second, .val (.int p2), .val (.int p3), .val (.int p4), .val (.ref b1), .val (.long vv), .second, .val (.int (own_F1 vv)), .val (.long (-vv)), .second, .val (.int (1 : Int32)), .unset] [(.int (lcmpW (-vv) (-(own_pw (own_F1 vv)))))]))
          have hd270_36 : (-(own_pw (own_F1 vv))) < (-vv) := by have q := hP.2.2.2.resolve_left hc258_34; rw [if_neg hc214_23] at q; exact q
          refine own_st (fun t k => XS.ifNo Xt.here hx rfl (hb hby at_270) rfl (own_gtT hd270_36).2 k) ?_
          show own_Fin _ _ _ _ _ _ _ (Tt.setTop (mkF m 273 #[.val (.long q1), .second, .val (.int p2), .val (.int p3), .val (.int p4), .val (.ref b1), .val (.long vv), .second, .val (.int (own_F1 vv)), .val (.long (-vv)), .second, .val (.int (1 : Int32)), .unset] []))
          refine own_st (fun t k => XS.iconst Xt.here hx rfl (hb hby at_273) k) ?_
          show own_Fin _ _ _ _ _ _ _ (Tt.setTop (mkF m 274 #[.val (.long q1), .second, .val (.int p2), .val (.int p3), .val (.int p4), .val (.ref b1), .val (.long vv), .second, .val (.int (own_F1 vv)), .val (.long (-vv)), .second, .val (.int (1 : Int32)), .unset] [(.int (1 : Int32))]))
          refine own_st (fun t k => XS.goto Xt.here hx rfl (pc0 := 274) (pc' := 278) rfl (hb hby at_274) (by decide) (by decide) k) ?_
          show own_Fin _ _ _ _ _ _ _ (Tt.setTop (mkF m 278 #[.val (.long q1), .second, .val (.int p2), .val (.int p3), .val (.int p4), .val (.ref b1), .val (.long vv), .second, .val (.int (own_F1 vv)), .val (.long (-vv)), .second, .val (.int (1 : Int32)), .unset] [(.int (1 : Int32))]))
          refine own_st (fun t k => XS.istore Xt.here hx rfl (hb hby at_278) rfl (l' := #[.val (.long q1), .second, .val (.int p2), .val (.int p3), .val (.int p4), .val (.ref b1), .val (.long vv), .second, .val (.int (own_F1 vv)), .val (.long (-vv)), .second, .val (.int (1 : Int32)), .val (.int (1 : Int32))]) rfl k) ?_
          show own_Fin _ _ _ _ _ _ _ (Tt.setTop (mkF m 280 #[.val (.long q1), .second, .val (.int p2), .val (.int p3), .val (.int p4), .val (.ref b1), .val (.long vv), .second, .val (.int (own_F1 vv)), .val (.long (-vv)), .second, .val (.int (1 : Int32)), .val (.int (1 : Int32))] []))
          refine own_st (fun t k => XS.iload Xt.here hx rfl (hb hby at_280) rfl k) ?_
          show own_Fin _ _ _ _ _ _ _ (Tt.setTop (mkF m 282 #[.val (.long q1), .second, .val (.int p2), .val (.int p3), .val (.int p4), .val (.ref b1), .val (.long vv), .second, .val (.int (own_F1 vv)), .val (.long (-vv)), .second, .val (.int (1 : Int32)), .val (.int (1 : Int32))] [(.int (1 : Int32))]))
          refine own_st (fun t k => XS.ifNo Xt.here hx rfl (hb hby at_282) rfl ((if0 _ _).trans (feq (by decide : ¬ ((1 : Int32) = (0 : Int32)))).1) k) ?_
          show own_Fin _ _ _ _ _ _ _ (Tt.setTop (mkF m 285 #[.val (.long q1), .second, .val (.int p2), .val (.int p3), .val (.int p4), .val (.ref b1), .val (.long vv), .second, .val (.int (own_F1 vv)), .val (.long (-vv)), .second, .val (.int (1 : Int32)), .val (.int (1 : Int32))] []))
          refine own_st (fun t k => XS.iload Xt.here hx rfl (hb hby at_285) rfl k) ?_
          show own_Fin _ _ _ _ _ _ _ (Tt.setTop (mkF m 287 #[.val (.long q1), .second, .val (.int p2), .val (.int p3), .val (.int p4), .val (.ref b1), .val (.long vv), .second, .val (.int (own_F1 vv)), .val (.long (-vv)), .second, .val (.int (1 : Int32)), .val (.int (1 : Int32))] [(.int (1 : Int32))]))
          refine own_st (fun t k => XS.ifNo Xt.here hx rfl (hb hby at_287) rfl ((if0 _ _).trans (feq (by decide : ¬ ((1 : Int32) = (0 : Int32)))).1) k) ?_
          show own_Fin _ _ _ _ _ _ _ (Tt.setTop (mkF m 290 #[.val (.long q1), .second, .val (.int p2), .val (.int p3), .val (.int p4), .val (.ref b1), .val (.long vv), .second, .val (.int (own_F1 vv)), .val (.long (-vv)), .second, .val (.int (1 : Int32)), .val (.int (1 : Int32))] []))
          refine own_st (fun t k => XS.iconst Xt.here hx rfl (hb hby at_290) k) ?_
          show own_Fin _ _ _ _ _ _ _ (Tt.setTop (mkF m 291 #[.val (.long q1), .second, .val (.int p2), .val (.int p3), .val (.int p4), .val (.ref b1), .val (.long vv), .second, .val (.int (own_F1 vv)), .val (.long (-vv)), .second, .val (.int (1 : Int32)), .val (.int (1 : Int32))] [(.int (1 : Int32))]))
          refine own_st (fun t k => XS.goto Xt.here hx rfl (pc0 := 291) (pc' := 295) rfl (hb hby at_291) (by decide) (by decide) k) ?_
          show own_Fin _ _ _ _ _ _ _ (Tt.setTop (mkF m 295 #[.val (.long q1), .second, .val (.int p2), .val (.int p3), .val (.int p4), .val (.ref b1), .val (.long vv), .second, .val (.int (own_F1 vv)), .val (.long (-vv)), .second, .val (.int (1 : Int32)), .val (.int (1 : Int32))] [(.int (1 : Int32))]))
          exact own_retN Xt hx Bd.notSynchronized (t := .boolean) Bd.returns (by simp) (hb hby at_295) (by decide) (by decide) ⟨rfl, Nt, trivial⟩
      · refine own_st (fun t k => XS.icmpNo Xt.here hx rfl (hb hby at_230) rfl (feq hc230_33).1 k) ?_
        show own_Fin _ _ _ _ _ _ _ (Tt.setTop (mkF m 233 #[.val (.long q1), .second, .val (.int p2), .val (.int p3), .val (.int p4), .val (.ref b1), .val (.long vv), .second, .val (.int (own_F1 vv)), .val (.long (-vv)), .second, .unset, .unset] []))
        refine own_st (fun t k => XS.lload Xt.here hx rfl (hb hby at_233) rfl k) ?_
        show own_Fin _ _ _ _ _ _ _ (Tt.setTop (mkF m 235 #[.val (.long q1), .second, .val (.int p2), .val (.int p3), .val (.int p4), .val (.ref b1), .val (.long vv), .second, .val (.int (own_F1 vv)), .val (.long (-vv)), .second, .unset, .unset] [(.long (-vv))]))
        refine own_st (fun t k => XS.aload Xt.here hx rfl (hb hby at_235) rfl rfl k) ?_
        show own_Fin _ _ _ _ _ _ _ (Tt.setTop (mkF m 237 #[.val (.long q1), .second, .val (.int p2), .val (.int p3), .val (.int p4), .val (.ref b1), .val (.long vv), .second, .val (.int (own_F1 vv)), .val (.long (-vv)), .second, .unset, .unset] [(.ref b1), (.long (-vv))]))
        refine own_st (fun t k => XS.iload Xt.here hx rfl (hb hby at_237) rfl k) ?_
        show own_Fin _ _ _ _ _ _ _ (Tt.setTop (mkF m 239 #[.val (.long q1), .second, .val (.int p2), .val (.int p3), .val (.int p4), .val (.ref b1), .val (.long vv), .second, .val (.int (own_F1 vv)), .val (.long (-vv)), .second, .unset, .unset] [(.int (own_F1 vv)), (.ref b1), (.long (-vv))]))
        refine own_st (fun t k => XS.iconst Xt.here hx rfl (hb hby at_239) k) ?_
        show own_Fin _ _ _ _ _ _ _ (Tt.setTop (mkF m 240 #[.val (.long q1), .second, .val (.int p2), .val (.int p3), .val (.int p4), .val (.ref b1), .val (.long vv), .second, .val (.int (own_F1 vv)), .val (.long (-vv)), .second, .unset, .unset] [(.int (1 : Int32)), (.int (own_F1 vv)), (.ref b1), (.long (-vv))]))
        refine own_st (fun t k => XS.isub Xt.here hx rfl (hb hby at_240) rfl k) ?_
        show own_Fin _ _ _ _ _ _ _ (Tt.setTop (mkF m 241 #[.val (.long q1), .second, .val (.int p2), .val (.int p3), .val (.int p4), .val (.ref b1), .val (.long vv), .second, .val (.int (own_F1 vv)), .val (.long (-vv)), .second, .unset, .unset] [(.int ((own_F1 vv) - (1 : Int32))), (.ref b1), (.long (-vv))]))
        obtain ⟨cl37, Ar37, Cq37, Sz37, Mn37, Hs37, Gf37⟩ := id V20
        have hin37 := inb_of Sz37 (j := ((own_F1 vv) - (1 : Int32))) (own_i1 hP.1 hP.2.1)
        refine own_st (Xt.laload hx (j := ((own_F1 vv) - (1 : Int32))) (v := (.long (own_pw ((own_F1 vv) - (1 : Int32))))) (by rw [et]; exact Ar37.1) (State.isArrayOf_alike hZ.alike Ar37.2.1) Ar37.2.2 hin37 (Hs37.at hin37 (own_get (own_i1 hP.1 hP.2.1))) (g := (mkF m 241 #[.val (.long q1), .second, .val (.int p2), .val (.int p3), .val (.int p4), .val (.ref b1), .val (.long vv), .second, .val (.int (own_F1 vv)), .val (.long (-vv)), .second, .unset, .unset] [(.int ((own_F1 vv) - (1 : Int32))), (.ref b1), (.long (-vv))])) rfl rfl (hb hby at_241)) ?_
        show own_Fin _ _ _ _ _ _ _ (Tt.setTop (mkF m 242 #[.val (.long q1), .second, .val (.int p2), .val (.int p3), .val (.int p4), .val (.ref b1), .val (.long vv), .second, .val (.int (own_F1 vv)), .val (.long (-vv)), .second, .unset, .unset] [(.long (own_pw ((own_F1 vv) - (1 : Int32)))), (.long (-vv))]))
        refine own_st (fun t k => XS.lneg Xt.here hx rfl (hb hby at_242) rfl k) ?_
        show own_Fin _ _ _ _ _ _ _ (Tt.setTop (mkF m 243 #[.val (.long q1), .second, .val (.int p2), .val (.int p3), .val (.int p4), .val (.ref b1), .val (.long vv), .second, .val (.int (own_F1 vv)), .val (.long (-vv)), .second, .unset, .unset] [(.long (-(own_pw ((own_F1 vv) - (1 : Int32))))), (.long (-vv))]))
        refine own_st (fun t k => XS.lcmp Xt.here hx rfl (hb hby at_243) rfl k) ?_
        show own_Fin _ _ _ _ _ _ _ (Tt.setTop (mkF m 244 #[.val (.long q1), .second, .val (.int p2), .val (.int p3), .val (.int p4), .val (.ref b1), .val (.long vv), .second, .val (.int (own_F1 vv)), .val (.long (-vv)), .second, .unset, .unset] [(.int (lcmpW (-vv) (-(own_pw ((own_F1 vv) - (1 : Int32))))))]))
        have hd244_38 : ¬ ((-(own_pw ((own_F1 vv) - (1 : Int32)))) < (-vv)) := by have q := hP.2.2.1.resolve_left hc230_33; rw [if_neg hc214_23] at q; exact q
        refine own_st (fun t k => XS.ifNo Xt.here hx rfl (hb hby at_244) rfl (own_gtF hd244_38).1 k) ?_
        show own_Fin _ _ _ _ _ _ _ (Tt.setTop (mkF m 247 #[.val (.long q1), .second, .val (.int p2), .val (.int p3), .val (.int p4), .val (.ref b1), .val (.long vv), .second, .val (.int (own_F1 vv)), .val (.long (-vv)), .second, .unset, .unset] []))
        refine own_st (fun t k => XS.iconst Xt.here hx rfl (hb hby at_247) k) ?_
        show own_Fin _ _ _ _ _ _ _ (Tt.setTop (mkF m 248 #[.val (.long q1), .second, .val (.int p2), .val (.int p3), .val (.int p4), .val (.ref b1), .val (.long vv), .second, .val (.int (own_F1 vv)), .val (.long (-vv)), .second, .unset, .unset] [(.int (1 : Int32))]))
        refine own_st (fun t k => XS.goto Xt.here hx rfl (pc0 := 248) (pc' := 252) rfl (hb hby at_248) (by decide) (by decide) k) ?_
        show own_Fin _ _ _ _ _ _ _ (Tt.setTop (mkF m 252 #[.val (.long q1), .second, .val (.int p2), .val (.int p3), .val (.int p4), .val (.ref b1), .val (.long vv), .second, .val (.int (own_F1 vv)), .val (.long (-vv)), .second, .unset, .unset] [(.int (1 : Int32))]))
        refine own_st (fun t k => XS.istore Xt.here hx rfl (hb hby at_252) rfl (l' := #[.val (.long q1), .second, .val (.int p2), .val (.int p3), .val (.int p4), .val (.ref b1), .val (.long vv), .second, .val (.int (own_F1 vv)), .val (.long (-vv)), .second, .val (.int (1 : Int32)), .unset]) rfl k) ?_
        show own_Fin _ _ _ _ _ _ _ (Tt.setTop (mkF m 254 #[.val (.long q1), .second, .val (.int p2), .val (.int p3), .val (.int p4), .val (.ref b1), .val (.long vv), .second, .val (.int (own_F1 vv)), .val (.long (-vv)), .second, .val (.int (1 : Int32)), .unset] []))
        refine own_st (fun t k => XS.iload Xt.here hx rfl (hb hby at_254) rfl k) ?_
        show own_Fin _ _ _ _ _ _ _ (Tt.setTop (mkF m 256 #[.val (.long q1), .second, .val (.int p2), .val (.int p3), .val (.int p4), .val (.ref b1), .val (.long vv), .second, .val (.int (own_F1 vv)), .val (.long (-vv)), .second, .val (.int (1 : Int32)), .unset] [(.int (own_F1 vv))]))
        refine own_st (fun t k => XS.bipush Xt.here hx rfl (hb hby at_256) k) ?_
        show own_Fin _ _ _ _ _ _ _ (Tt.setTop (mkF m 258 #[.val (.long q1), .second, .val (.int p2), .val (.int p3), .val (.int p4), .val (.ref b1), .val (.long vv), .second, .val (.int (own_F1 vv)), .val (.long (-vv)), .second, .val (.int (1 : Int32)), .unset] [(.int (19 : Int32)), (.int (own_F1 vv))]))
        by_cases hc258_39 : (own_F1 vv) = (19 : Int32)
        · refine own_st (fun t k => XS.icmpYes Xt.here hx rfl (pc0 := 258) (pc' := 273) rfl (hb hby at_258) rfl (teq hc258_39).1 (by decide) (by decide) k) ?_
          show own_Fin _ _ _ _ _ _ _ (Tt.setTop (mkF m 273 #[.val (.long q1), .second, .val (.int p2), .val (.int p3), .val (.int p4), .val (.ref b1), .val (.long vv), .second, .val (.int (own_F1 vv)), .val (.long (-vv)), .second, .val (.int (1 : Int32)), .unset] []))
          refine own_st (fun t k => XS.iconst Xt.here hx rfl (hb hby at_273) k) ?_
          show own_Fin _ _ _ _ _ _ _ (Tt.setTop (mkF m 274 #[.val (.long q1), .second, .val (.int p2), .val (.int p3), .val (.int p4), .val (.ref b1), .val (.long vv), .second, .val (.int (own_F1 vv)), .val (.long (-vv)), .second, .val (.int (1 : Int32)), .unset] [(.int (1 : Int32))]))
          refine own_st (fun t k => XS.goto Xt.here hx rfl (pc0 := 274) (pc' := 278) rfl (hb hby at_274) (by decide) (by decide) k) ?_
          show own_Fin _ _ _ _ _ _ _ (Tt.setTop (mkF m 278 #[.val (.long q1), .second, .val (.int p2), .val (.int p3), .val (.int p4), .val (.ref b1), .val (.long vv), .second, .val (.int (own_F1 vv)), .val (.long (-vv)), .second, .val (.int (1 : Int32)), .unset] [(.int (1 : Int32))]))
          refine own_st (fun t k => XS.istore Xt.here hx rfl (hb hby at_278) rfl (l' := #[.val (.long q1), .second, .val (.int p2), .val (.int p3), .val (.int p4), .val (.ref b1), .val (.long vv), .second, .val (.int (own_F1 vv)), .val (.long (-vv)), .second, .val (.int (1 : Int32)), .val (.int (1 : Int32))]) rfl k) ?_
          show own_Fin _ _ _ _ _ _ _ (Tt.setTop (mkF m 280 #[.val (.long q1), .second, .val (.int p2), .val (.int p3), .val (.int p4), .val (.ref b1), .val (.long vv), .second, .val (.int (own_F1 vv)), .val (.long (-vv)), .second, .val (.int (1 : Int32)), .val (.int (1 : Int32))] []))
          refine own_st (fun t k => XS.iload Xt.here hx rfl (hb hby at_280) rfl k) ?_
          show own_Fin _ _ _ _ _ _ _ (Tt.setTop (mkF m 282 #[.val (.long q1), .second, .val (.int p2), .val (.int p3), .val (.int p4), .val (.ref b1), .val (.long vv), .second, .val (.int (own_F1 vv)), .val (.long (-vv)), .second, .val (.int (1 : Int32)), .val (.int (1 : Int32))] [(.int (1 : Int32))]))
          refine own_st (fun t k => XS.ifNo Xt.here hx rfl (hb hby at_282) rfl ((if0 _ _).trans (feq (by decide : ¬ ((1 : Int32) = (0 : Int32)))).1) k) ?_
          show own_Fin _ _ _ _ _ _ _ (Tt.setTop (mkF m 285 #[.val (.long q1), .second, .val (.int p2), .val (.int p3), .val (.int p4), .val (.ref b1), .val (.long vv), .second, .val (.int (own_F1 vv)), .val (.long (-vv)), .second, .val (.int (1 : Int32)), .val (.int (1 : Int32))] []))
          refine own_st (fun t k => XS.iload Xt.here hx rfl (hb hby at_285) rfl k) ?_
          show own_Fin _ _ _ _ _ _ _ (Tt.setTop (mkF m 287 #[.val (.long q1), .second, .val (.int p2), .val (.int p3), .val (.int p4), .val (.ref b1), .val (.long vv), .second, .val (.int (own_F1 vv)), .val (.long (-vv)), .second, .val (.int (1 : Int32)), .val (.int (1 : Int32))] [(.int (1 : Int32))]))
          refine own_st (fun t k => XS.ifNo Xt.here hx rfl (hb hby at_287) rfl ((if0 _ _).trans (feq (by decide : ¬ ((1 : Int32) = (0 : Int32)))).1) k) ?_
          show own_Fin _ _ _ _ _ _ _ (Tt.setTop (mkF m 290 #[.val (.long q1), .second, .val (.int p2), .val (.int p3), .val (.int p4), .val (.ref b1), .val (.long vv), .second, .val (.int (own_F1 vv)), .val (.long (-vv)), .second, .val (.int (1 : Int32)), .val (.int (1 : Int32))] []))
          refine own_st (fun t k => XS.iconst Xt.here hx rfl (hb hby at_290) k) ?_
          show own_Fin _ _ _ _ _ _ _ (Tt.setTop (mkF m 291 #[.val (.long q1), .second, .val (.int p2), .val (.int p3), .val (.int p4), .val (.ref b1), .val (.long vv), .second, .val (.int (own_F1 vv)), .val (.long (-vv)), .second, .val (.int (1 : Int32)), .val (.int (1 : Int32))] [(.int (1 : Int32))]))
          refine own_st (fun t k => XS.goto Xt.here hx rfl (pc0 := 291) (pc' := 295) rfl (hb hby at_291) (by decide) (by decide) k) ?_
          show own_Fin _ _ _ _ _ _ _ (Tt.setTop (mkF m 295 #[.val (.long q1), .second, .val (.int p2), .val (.int p3), .val (.int p4), .val (.ref b1), .val (.long vv), .second, .val (.int (own_F1 vv)), .val (.long (-vv)), .second, .val (.int (1 : Int32)), .val (.int (1 : Int32))] [(.int (1 : Int32))]))
          exact own_retN Xt hx Bd.notSynchronized (t := .boolean) Bd.returns (by simp) (hb hby at_295) (by decide) (by decide) ⟨rfl, Nt, trivial⟩
        · refine own_st (fun t k => XS.icmpNo Xt.here hx rfl (hb hby at_258) rfl (feq hc258_39).1 k) ?_
          show own_Fin _ _ _ _ _ _ _ (Tt.setTop (mkF m 261 #[.val (.long q1), .second, .val (.int p2), .val (.int p3), .val (.int p4), .val (.ref b1), .val (.long vv), .second, .val (.int (own_F1 vv)), .val (.long (-vv)), .second, .val (.int (1 : Int32)), .unset] []))
          refine own_st (fun t k => XS.lload Xt.here hx rfl (hb hby at_261) rfl k) ?_
          show own_Fin _ _ _ _ _ _ _ (Tt.setTop (mkF m 263 #[.val (.long q1), .second, .val (.int p2), .val (.int p3), .val (.int p4), .val (.ref b1), .val (.long vv), .second, .val (.int (own_F1 vv)), .val (.long (-vv)), .second, .val (.int (1 : Int32)), .unset] [(.long (-vv))]))
          refine own_st (fun t k => XS.aload Xt.here hx rfl (hb hby at_263) rfl rfl k) ?_
          show own_Fin _ _ _ _ _ _ _ (Tt.setTop (mkF m 265 #[.val (.long q1), .second, .val (.int p2), .val (.int p3), .val (.int p4), .val (.ref b1), .val (.long vv), .second, .val (.int (own_F1 vv)), .val (.long (-vv)), .second, .val (.int (1 : Int32)), .unset] [(.ref b1), (.long (-vv))]))
          refine own_st (fun t k => XS.iload Xt.here hx rfl (hb hby at_265) rfl k) ?_
          show own_Fin _ _ _ _ _ _ _ (Tt.setTop (mkF m 267 #[.val (.long q1), .second, .val (.int p2), .val (.int p3), .val (.int p4), .val (.ref b1), .val (.long vv), .second, .val (.int (own_F1 vv)), .val (.long (-vv)), .second, .val (.int (1 : Int32)), .unset] [(.int (own_F1 vv)), (.ref b1), (.long (-vv))]))
          obtain ⟨cl40, Ar40, Cq40, Sz40, Mn40, Hs40, Gf40⟩ := id V20
          have hin40 := inb_of Sz40 (j := (own_F1 vv)) (own_i2 hP.1 hP.2.1 hc258_39)
          refine own_st (Xt.laload hx (j := (own_F1 vv)) (v := (.long (own_pw (own_F1 vv)))) (by rw [et]; exact Ar40.1) (State.isArrayOf_alike hZ.alike Ar40.2.1) Ar40.2.2 hin40 (Hs40.at hin40 (own_get (own_i2 hP.1 hP.2.1 hc258_39))) (g := (mkF m 267 #[.val (.long q1), .second, .val (.int p2), .val (.int p3), .val (.int p4), .val (.ref b1), .val (.long vv), .second, .val (.int (own_F1 vv)), .val (.long (-vv)), .second, .val (.int (1 : Int32)), .unset] [(.int (own_F1 vv)), (.ref b1), (.long (-vv))])) rfl rfl (hb hby at_267)) ?_
          show own_Fin _ _ _ _ _ _ _ (Tt.setTop (mkF m 268 #[.val (.long q1), .second, .val (.int p2), .val (.int p3), .val (.int p4), .val (.ref b1), .val (.long vv), .second, .val (.int (own_F1 vv)), .val (.long (-vv)), .second, .val (.int (1 : Int32)), .unset] [(.long (own_pw (own_F1 vv))), (.long (-vv))]))
          refine own_st (fun t k => XS.lneg Xt.here hx rfl (hb hby at_268) rfl k) ?_
          show own_Fin _ _ _ _ _ _ _ (Tt.setTop (mkF m 269 #[.val (.long q1), .second, .val (.int p2), .val (.int p3), .val (.int p4), .val (.ref b1), .val (.long vv), .second, .val (.int (own_F1 vv)), .val (.long (-vv)), .second, .val (.int (1 : Int32)), .unset] [(.long (-(own_pw (own_F1 vv)))), (.long (-vv))]))
          refine own_st (fun t k => XS.lcmp Xt.here hx rfl (hb hby at_269) rfl k) ?_
          show own_Fin _ _ _ _ _ _ _ (Tt.setTop (mkF m 270 #[.val (.long q1), .second, .val (.int p2), .val (.int p3), .val (.int p4), .val (.ref b1), .val (.long vv), .second, .val (.int (own_F1 vv)), .val (.long (-vv)), .second, .val (.int (1 : Int32)), .unset] [(.int (lcmpW (-vv) (-(own_pw (own_F1 vv)))))]))
          have hd270_41 : (-(own_pw (own_F1 vv))) < (-vv) := by have q := hP.2.2.2.resolve_left hc258_39; rw [if_neg hc214_23] at q; exact q
          refine own_st (fun t k => XS.ifNo Xt.here hx rfl (hb hby at_270) rfl (own_gtT hd270_41).2 k) ?_
          show own_Fin _ _ _ _ _ _ _ (Tt.setTop (mkF m 273 #[.val (.long q1), .second, .val (.int p2), .val (.int p3), .val (.int p4), .val (.ref b1), .val (.long vv), .second, .val (.int (own_F1 vv)), .val (.long (-vv)), .second, .val (.int (1 : Int32)), .unset] []))
          refine own_st (fun t k => XS.iconst Xt.here hx rfl (hb hby at_273) k) ?_
          show own_Fin _ _ _ _ _ _ _ (Tt.setTop (mkF m 274 #[.val (.long q1), .second, .val (.int p2), .val (.int p3), .val (.int p4), .val (.ref b1), .val (.long vv), .second, .val (.int (own_F1 vv)), .val (.long (-vv)), .second, .val (.int (1 : Int32)), .unset] [(.int (1 : Int32))]))
          refine own_st (fun t k => XS.goto Xt.here hx rfl (pc0 := 274) (pc' := 278) rfl (hb hby at_274) (by decide) (by decide) k) ?_
          show own_Fin _ _ _ _ _ _ _ (Tt.setTop (mkF m 278 #[.val (.long q1), .second, .val (.int p2), .val (.int p3), .val (.int p4), .val (.ref b1), .val (.long vv), .second, .val (.int (own_F1 vv)), .val (.long (-vv)), .second, .val (.int (1 : Int32)), .unset] [(.int (1 : Int32))]))
          refine own_st (fun t k => XS.istore Xt.here hx rfl (hb hby at_278) rfl (l' := #[.val (.long q1), .second, .val (.int p2), .val (.int p3), .val (.int p4), .val (.ref b1), .val (.long vv), .second, .val (.int (own_F1 vv)), .val (.long (-vv)), .second, .val (.int (1 : Int32)), .val (.int (1 : Int32))]) rfl k) ?_
          show own_Fin _ _ _ _ _ _ _ (Tt.setTop (mkF m 280 #[.val (.long q1), .second, .val (.int p2), .val (.int p3), .val (.int p4), .val (.ref b1), .val (.long vv), .second, .val (.int (own_F1 vv)), .val (.long (-vv)), .second, .val (.int (1 : Int32)), .val (.int (1 : Int32))] []))
          refine own_st (fun t k => XS.iload Xt.here hx rfl (hb hby at_280) rfl k) ?_
          show own_Fin _ _ _ _ _ _ _ (Tt.setTop (mkF m 282 #[.val (.long q1), .second, .val (.int p2), .val (.int p3), .val (.int p4), .val (.ref b1), .val (.long vv), .second, .val (.int (own_F1 vv)), .val (.long (-vv)), .second, .val (.int (1 : Int32)), .val (.int (1 : Int32))] [(.int (1 : Int32))]))
          refine own_st (fun t k => XS.ifNo Xt.here hx rfl (hb hby at_282) rfl ((if0 _ _).trans (feq (by decide : ¬ ((1 : Int32) = (0 : Int32)))).1) k) ?_
          show own_Fin _ _ _ _ _ _ _ (Tt.setTop (mkF m 285 #[.val (.long q1), .second, .val (.int p2), .val (.int p3), .val (.int p4), .val (.ref b1), .val (.long vv), .second, .val (.int (own_F1 vv)), .val (.long (-vv)), .second, .val (.int (1 : Int32)), .val (.int (1 : Int32))] []))
          refine own_st (fun t k => XS.iload Xt.here hx rfl (hb hby at_285) rfl k) ?_
          show own_Fin _ _ _ _ _ _ _ (Tt.setTop (mkF m 287 #[.val (.long q1), .second, .val (.int p2), .val (.int p3), .val (.int p4), .val (.ref b1), .val (.long vv), .second, .val (.int (own_F1 vv)), .val (.long (-vv)), .second, .val (.int (1 : Int32)), .val (.int (1 : Int32))] [(.int (1 : Int32))]))
          refine own_st (fun t k => XS.ifNo Xt.here hx rfl (hb hby at_287) rfl ((if0 _ _).trans (feq (by decide : ¬ ((1 : Int32) = (0 : Int32)))).1) k) ?_
          show own_Fin _ _ _ _ _ _ _ (Tt.setTop (mkF m 290 #[.val (.long q1), .second, .val (.int p2), .val (.int p3), .val (.int p4), .val (.ref b1), .val (.long vv), .second, .val (.int (own_F1 vv)), .val (.long (-vv)), .second, .val (.int (1 : Int32)), .val (.int (1 : Int32))] []))
          refine own_st (fun t k => XS.iconst Xt.here hx rfl (hb hby at_290) k) ?_
          show own_Fin _ _ _ _ _ _ _ (Tt.setTop (mkF m 291 #[.val (.long q1), .second, .val (.int p2), .val (.int p3), .val (.int p4), .val (.ref b1), .val (.long vv), .second, .val (.int (own_F1 vv)), .val (.long (-vv)), .second, .val (.int (1 : Int32)), .val (.int (1 : Int32))] [(.int (1 : Int32))]))
          refine own_st (fun t k => XS.goto Xt.here hx rfl (pc0 := 291) (pc' := 295) rfl (hb hby at_291) (by decide) (by decide) k) ?_
          show own_Fin _ _ _ _ _ _ _ (Tt.setTop (mkF m 295 #[.val (.long q1), .second, .val (.int p2), .val (.int p3), .val (.int p4), .val (.ref b1), .val (.long vv), .second, .val (.int (own_F1 vv)), .val (.long (-vv)), .second, .val (.int (1 : Int32)), .val (.int (1 : Int32))] [(.int (1 : Int32))]))
          exact own_retN Xt hx Bd.notSynchronized (t := .boolean) Bd.returns (by simp) (hb hby at_295) (by decide) (by decide) ⟨rfl, Nt, trivial⟩
  refine own_st (fun t k => XS.iload X20.here hx rfl (hb hby at_131) rfl k) ?_
  show own_Fin _ _ _ _ _ _ _ (T20.setTop (mkF m 133 #[.val (.long q1), .second, .val (.int p2), .val (.int p3), .val (.int p4), .val (.ref b1), .unset, .unset, .unset, .unset, .unset, .unset, .unset] [(.int p4)]))
  refine own_st (fun t k => XS.iconst X20.here hx rfl (hb hby at_133) k) ?_
  show own_Fin _ _ _ _ _ _ _ (T20.setTop (mkF m 134 #[.val (.long q1), .second, .val (.int p2), .val (.int p3), .val (.int p4), .val (.ref b1), .unset, .unset, .unset, .unset, .unset, .unset, .unset] [(.int (1 : Int32)), (.int p4)]))
  refine own_st (fun t k => XS.iand X20.here hx rfl (hb hby at_134) rfl k) ?_
  show own_Fin _ _ _ _ _ _ _ (T20.setTop (mkF m 135 #[.val (.long q1), .second, .val (.int p2), .val (.int p3), .val (.int p4), .val (.ref b1), .unset, .unset, .unset, .unset, .unset, .unset, .unset] [(.int (p4 &&& (1 : Int32)))]))
  by_cases hc135_42 : (p4 &&& (1 : Int32)) = (0 : Int32)
  · refine own_st (fun t k => XS.ifYes X20.here hx rfl (pc0 := 135) (pc' := 149) rfl (hb hby at_135) rfl ((if0 _ _).trans (teq hc135_42).1) (by decide) (by decide) k) ?_
    show own_Fin _ _ _ _ _ _ _ (T20.setTop (mkF m 149 #[.val (.long q1), .second, .val (.int p2), .val (.int p3), .val (.int p4), .val (.ref b1), .unset, .unset, .unset, .unset, .unset, .unset, .unset] []))
    refine own_st (fun t k => XS.aload X20.here hx rfl (hb hby at_149) rfl rfl k) ?_
    show own_Fin _ _ _ _ _ _ _ (T20.setTop (mkF m 151 #[.val (.long q1), .second, .val (.int p2), .val (.int p3), .val (.int p4), .val (.ref b1), .unset, .unset, .unset, .unset, .unset, .unset, .unset] [(.ref b1)]))
    refine own_st (fun t k => XS.iloadN X20.here hx rfl (hb hby at_151) rfl k) ?_
    show own_Fin _ _ _ _ _ _ _ (T20.setTop (mkF m 152 #[.val (.long q1), .second, .val (.int p2), .val (.int p3), .val (.int p4), .val (.ref b1), .unset, .unset, .unset, .unset, .unset, .unset, .unset] [(.int p3), (.ref b1)]))
    refine own_st (X20.ldcInt hx hown (mvT hZ (hw _ (List.mem_of_getElem? (i := 19) rfl))) (g := (mkF m 152 #[.val (.long q1), .second, .val (.int p2), .val (.int p3), .val (.int p4), .val (.ref b1), .unset, .unset, .unset, .unset, .unset, .unset, .unset] [(.int p3), (.ref b1)])) rfl (hb hby at_152)) ?_
    show own_Fin _ _ _ _ _ _ _ (T20.setTop (mkF m 154 #[.val (.long q1), .second, .val (.int p2), .val (.int p3), .val (.int p4), .val (.ref b1), .unset, .unset, .unset, .unset, .unset, .unset, .unset] [(.int (2147483647 : Int32)), (.int p3), (.ref b1)]))
    refine own_st (fun t k => XS.iand X20.here hx rfl (hb hby at_154) rfl k) ?_
    show own_Fin _ _ _ _ _ _ _ (T20.setTop (mkF m 155 #[.val (.long q1), .second, .val (.int p2), .val (.int p3), .val (.int p4), .val (.ref b1), .unset, .unset, .unset, .unset, .unset, .unset, .unset] [(.int (p3 &&& (2147483647 : Int32))), (.ref b1)]))
    refine own_st (fun t k => XS.bipush X20.here hx rfl (hb hby at_155) k) ?_
    show own_Fin _ _ _ _ _ _ _ (T20.setTop (mkF m 157 #[.val (.long q1), .second, .val (.int p2), .val (.int p3), .val (.int p4), .val (.ref b1), .unset, .unset, .unset, .unset, .unset, .unset, .unset] [(.int (19 : Int32)), (.int (p3 &&& (2147483647 : Int32))), (.ref b1)]))
    refine own_st (fun t k => iremM X20 hx rfl (hb hby at_157) rfl (by decide) k) ?_
    show own_Fin _ _ _ _ _ _ _ (T20.setTop (mkF m 158 #[.val (.long q1), .second, .val (.int p2), .val (.int p3), .val (.int p4), .val (.ref b1), .unset, .unset, .unset, .unset, .unset, .unset, .unset] [(.int ((p3 &&& (2147483647 : Int32)) % (19 : Int32))), (.ref b1)]))
    obtain ⟨cl43, Ar43, Cq43, Sz43, Mn43, Hs43, Gf43⟩ := id V20
    have hin43 := inb_of Sz43 (j := ((p3 &&& (2147483647 : Int32)) % (19 : Int32))) (own_i0 p3)
    refine own_st (X20.laload hx (j := ((p3 &&& (2147483647 : Int32)) % (19 : Int32))) (v := (.long (own_pw ((p3 &&& (2147483647 : Int32)) % (19 : Int32))))) (by rw [e20]; exact Ar43.1) (State.isArrayOf_alike hZ.alike Ar43.2.1) Ar43.2.2 hin43 (Hs43.at hin43 (own_get (own_i0 p3))) (g := (mkF m 158 #[.val (.long q1), .second, .val (.int p2), .val (.int p3), .val (.int p4), .val (.ref b1), .unset, .unset, .unset, .unset, .unset, .unset, .unset] [(.int ((p3 &&& (2147483647 : Int32)) % (19 : Int32))), (.ref b1)])) rfl rfl (hb hby at_158)) ?_
    show own_Fin _ _ _ _ _ _ _ (T20.setTop (mkF m 159 #[.val (.long q1), .second, .val (.int p2), .val (.int p3), .val (.int p4), .val (.ref b1), .unset, .unset, .unset, .unset, .unset, .unset, .unset] [(.long (own_pw ((p3 &&& (2147483647 : Int32)) % (19 : Int32))))]))
    refine own_st (fun t k => XS.iloadN X20.here hx rfl (hb hby at_159) rfl k) ?_
    show own_Fin _ _ _ _ _ _ _ (T20.setTop (mkF m 160 #[.val (.long q1), .second, .val (.int p2), .val (.int p3), .val (.int p4), .val (.ref b1), .unset, .unset, .unset, .unset, .unset, .unset, .unset] [(.int p2), (.long (own_pw ((p3 &&& (2147483647 : Int32)) % (19 : Int32))))]))
    refine own_st (X20.ldcInt hx hown (mvT hZ (hw _ (List.mem_of_getElem? (i := 19) rfl))) (g := (mkF m 160 #[.val (.long q1), .second, .val (.int p2), .val (.int p3), .val (.int p4), .val (.ref b1), .unset, .unset, .unset, .unset, .unset, .unset, .unset] [(.int p2), (.long (own_pw ((p3 &&& (2147483647 : Int32)) % (19 : Int32))))])) rfl (hb hby at_160)) ?_
    show own_Fin _ _ _ _ _ _ _ (T20.setTop (mkF m 162 #[.val (.long q1), .second, .val (.int p2), .val (.int p3), .val (.int p4), .val (.ref b1), .unset, .unset, .unset, .unset, .unset, .unset, .unset] [(.int (2147483647 : Int32)), (.int p2), (.long (own_pw ((p3 &&& (2147483647 : Int32)) % (19 : Int32))))]))
    refine own_st (fun t k => XS.iand X20.here hx rfl (hb hby at_162) rfl k) ?_
    show own_Fin _ _ _ _ _ _ _ (T20.setTop (mkF m 163 #[.val (.long q1), .second, .val (.int p2), .val (.int p3), .val (.int p4), .val (.ref b1), .unset, .unset, .unset, .unset, .unset, .unset, .unset] [(.int (p2 &&& (2147483647 : Int32))), (.long (own_pw ((p3 &&& (2147483647 : Int32)) % (19 : Int32))))]))
    refine own_st (fun t k => XS.iconst X20.here hx rfl (hb hby at_163) k) ?_
    show own_Fin _ _ _ _ _ _ _ (T20.setTop (mkF m 164 #[.val (.long q1), .second, .val (.int p2), .val (.int p3), .val (.int p4), .val (.ref b1), .unset, .unset, .unset, .unset, .unset, .unset, .unset] [(.int (3 : Int32)), (.int (p2 &&& (2147483647 : Int32))), (.long (own_pw ((p3 &&& (2147483647 : Int32)) % (19 : Int32))))]))
    refine own_st (fun t k => iremM X20 hx rfl (hb hby at_164) rfl (by decide) k) ?_
    show own_Fin _ _ _ _ _ _ _ (T20.setTop (mkF m 165 #[.val (.long q1), .second, .val (.int p2), .val (.int p3), .val (.int p4), .val (.ref b1), .unset, .unset, .unset, .unset, .unset, .unset, .unset] [(.int ((p2 &&& (2147483647 : Int32)) % (3 : Int32))), (.long (own_pw ((p3 &&& (2147483647 : Int32)) % (19 : Int32))))]))
    refine own_st (fun t k => XS.iconst X20.here hx rfl (hb hby at_165) k) ?_
    show own_Fin _ _ _ _ _ _ _ (T20.setTop (mkF m 166 #[.val (.long q1), .second, .val (.int p2), .val (.int p3), .val (.int p4), .val (.ref b1), .unset, .unset, .unset, .unset, .unset, .unset, .unset] [(.int (1 : Int32)), (.int ((p2 &&& (2147483647 : Int32)) % (3 : Int32))), (.long (own_pw ((p3 &&& (2147483647 : Int32)) % (19 : Int32))))]))
    refine own_st (fun t k => XS.isub X20.here hx rfl (hb hby at_166) rfl k) ?_
    show own_Fin _ _ _ _ _ _ _ (T20.setTop (mkF m 167 #[.val (.long q1), .second, .val (.int p2), .val (.int p3), .val (.int p4), .val (.ref b1), .unset, .unset, .unset, .unset, .unset, .unset, .unset] [(.int (((p2 &&& (2147483647 : Int32)) % (3 : Int32)) - (1 : Int32))), (.long (own_pw ((p3 &&& (2147483647 : Int32)) % (19 : Int32))))]))
    refine own_st (fun t k => XS.i2l X20.here hx rfl (hb hby at_167) rfl k) ?_
    show own_Fin _ _ _ _ _ _ _ (T20.setTop (mkF m 168 #[.val (.long q1), .second, .val (.int p2), .val (.int p3), .val (.int p4), .val (.ref b1), .unset, .unset, .unset, .unset, .unset, .unset, .unset] [(.long ((((p2 &&& (2147483647 : Int32)) % (3 : Int32)) - (1 : Int32)).toInt64)), (.long (own_pw ((p3 &&& (2147483647 : Int32)) % (19 : Int32))))]))
    refine own_st (fun t k => XS.ladd X20.here hx rfl (hb hby at_168) rfl k) ?_
    show own_Fin _ _ _ _ _ _ _ (T20.setTop (mkF m 169 #[.val (.long q1), .second, .val (.int p2), .val (.int p3), .val (.int p4), .val (.ref b1), .unset, .unset, .unset, .unset, .unset, .unset, .unset] [(.long ((own_pw ((p3 &&& (2147483647 : Int32)) % (19 : Int32))) + ((((p2 &&& (2147483647 : Int32)) % (3 : Int32)) - (1 : Int32)).toInt64)))]))
    refine own_st (fun t k => XS.lstore X20.here hx rfl (hb hby at_169) rfl (l' := #[.val (.long q1), .second, .val (.int p2), .val (.int p3), .val (.int p4), .val (.ref b1), .unset, .unset, .val (.long ((own_pw ((p3 &&& (2147483647 : Int32)) % (19 : Int32))) + ((((p2 &&& (2147483647 : Int32)) % (3 : Int32)) - (1 : Int32)).toInt64))), .second, .unset, .unset, .unset]) rfl k) ?_
    show own_Fin _ _ _ _ _ _ _ (T20.setTop (mkF m 171 #[.val (.long q1), .second, .val (.int p2), .val (.int p3), .val (.int p4), .val (.ref b1), .unset, .unset, .val (.long ((own_pw ((p3 &&& (2147483647 : Int32)) % (19 : Int32))) + ((((p2 &&& (2147483647 : Int32)) % (3 : Int32)) - (1 : Int32)).toInt64))), .second, .unset, .unset, .unset] []))
    refine own_st (fun t k => XS.iload X20.here hx rfl (hb hby at_171) rfl k) ?_
    show own_Fin _ _ _ _ _ _ _ (T20.setTop (mkF m 173 #[.val (.long q1), .second, .val (.int p2), .val (.int p3), .val (.int p4), .val (.ref b1), .unset, .unset, .val (.long ((own_pw ((p3 &&& (2147483647 : Int32)) % (19 : Int32))) + ((((p2 &&& (2147483647 : Int32)) % (3 : Int32)) - (1 : Int32)).toInt64))), .second, .unset, .unset, .unset] [(.int p4)]))
    refine own_st (fun t k => XS.iconst X20.here hx rfl (hb hby at_173) k) ?_
    show own_Fin _ _ _ _ _ _ _ (T20.setTop (mkF m 174 #[.val (.long q1), .second, .val (.int p2), .val (.int p3), .val (.int p4), .val (.ref b1), .unset, .unset, .val (.long ((own_pw ((p3 &&& (2147483647 : Int32)) % (19 : Int32))) + ((((p2 &&& (2147483647 : Int32)) % (3 : Int32)) - (1 : Int32)).toInt64))), .second, .unset, .unset, .unset] [(.int (2 : Int32)), (.int p4)]))
    refine own_st (fun t k => XS.iand X20.here hx rfl (hb hby at_174) rfl k) ?_
    show own_Fin _ _ _ _ _ _ _ (T20.setTop (mkF m 175 #[.val (.long q1), .second, .val (.int p2), .val (.int p3), .val (.int p4), .val (.ref b1), .unset, .unset, .val (.long ((own_pw ((p3 &&& (2147483647 : Int32)) % (19 : Int32))) + ((((p2 &&& (2147483647 : Int32)) % (3 : Int32)) - (1 : Int32)).toInt64))), .second, .unset, .unset, .unset] [(.int (p4 &&& (2 : Int32)))]))
    by_cases hc175_44 : (p4 &&& (2 : Int32)) = (0 : Int32)
    · refine own_st (fun t k => XS.ifYes X20.here hx rfl (pc0 := 175) (pc' := 184) rfl (hb hby at_175) rfl ((if0 _ _).trans (teq hc175_44).1) (by decide) (by decide) k) ?_
      show own_Fin _ _ _ _ _ _ _ (T20.setTop (mkF m 184 #[.val (.long q1), .second, .val (.int p2), .val (.int p3), .val (.int p4), .val (.ref b1), .unset, .unset, .val (.long ((own_pw ((p3 &&& (2147483647 : Int32)) % (19 : Int32))) + ((((p2 &&& (2147483647 : Int32)) % (3 : Int32)) - (1 : Int32)).toInt64))), .second, .unset, .unset, .unset] []))
      refine own_st (fun t k => XS.lload X20.here hx rfl (hb hby at_184) rfl k) ?_
      show own_Fin _ _ _ _ _ _ _ (T20.setTop (mkF m 186 #[.val (.long q1), .second, .val (.int p2), .val (.int p3), .val (.int p4), .val (.ref b1), .unset, .unset, .val (.long ((own_pw ((p3 &&& (2147483647 : Int32)) % (19 : Int32))) + ((((p2 &&& (2147483647 : Int32)) % (3 : Int32)) - (1 : Int32)).toInt64))), .second, .unset, .unset, .unset] [(.long ((own_pw ((p3 &&& (2147483647 : Int32)) % (19 : Int32))) + ((((p2 &&& (2147483647 : Int32)) % (3 : Int32)) - (1 : Int32)).toInt64)))]))
      refine own_st (fun t k => XS.lstore X20.here hx rfl (hb hby at_186) rfl (l' := #[.val (.long q1), .second, .val (.int p2), .val (.int p3), .val (.int p4), .val (.ref b1), .val (.long ((own_pw ((p3 &&& (2147483647 : Int32)) % (19 : Int32))) + ((((p2 &&& (2147483647 : Int32)) % (3 : Int32)) - (1 : Int32)).toInt64))), .second, .val (.long ((own_pw ((p3 &&& (2147483647 : Int32)) % (19 : Int32))) + ((((p2 &&& (2147483647 : Int32)) % (3 : Int32)) - (1 : Int32)).toInt64))), .second, .unset, .unset, .unset]) rfl k) ?_
      show own_Fin _ _ _ _ _ _ _ (T20.setTop (mkF m 188 #[.val (.long q1), .second, .val (.int p2), .val (.int p3), .val (.int p4), .val (.ref b1), .val (.long ((own_pw ((p3 &&& (2147483647 : Int32)) % (19 : Int32))) + ((((p2 &&& (2147483647 : Int32)) % (3 : Int32)) - (1 : Int32)).toInt64))), .second, .val (.long ((own_pw ((p3 &&& (2147483647 : Int32)) % (19 : Int32))) + ((((p2 &&& (2147483647 : Int32)) % (3 : Int32)) - (1 : Int32)).toInt64))), .second, .unset, .unset, .unset] []))
      refine own_st (fun t k => XS.lload X20.here hx rfl (hb hby at_188) rfl k) ?_
      show own_Fin _ _ _ _ _ _ _ (T20.setTop (mkF m 190 #[.val (.long q1), .second, .val (.int p2), .val (.int p3), .val (.int p4), .val (.ref b1), .val (.long ((own_pw ((p3 &&& (2147483647 : Int32)) % (19 : Int32))) + ((((p2 &&& (2147483647 : Int32)) % (3 : Int32)) - (1 : Int32)).toInt64))), .second, .val (.long ((own_pw ((p3 &&& (2147483647 : Int32)) % (19 : Int32))) + ((((p2 &&& (2147483647 : Int32)) % (3 : Int32)) - (1 : Int32)).toInt64))), .second, .unset, .unset, .unset] [(.long ((own_pw ((p3 &&& (2147483647 : Int32)) % (19 : Int32))) + ((((p2 &&& (2147483647 : Int32)) % (3 : Int32)) - (1 : Int32)).toInt64)))]))
      obtain ⟨_, _, ⟨T45, L45, k45, n45⟩, -, X45, ⟨Lc45, hQ45, l45, y45, z45⟩, st45⟩ := Jvm.LawKit.callS X20 hx (y := (⟨"hedgerow/Decimal", "digits", "(J)I"⟩ : MethodName)) hown (mvT hZ (hw _ (List.mem_of_getElem? (i := 20) rfl))) (mvT hZ (hw _ (List.mem_of_getElem? (i := 21) rfl))) (mvT hZ (hw _ (List.mem_of_getElem? (i := 22) rfl))) (mvT hZ (hw _ (List.mem_of_getElem? (i := 23) rfl))) (by decide) (backOf (W := 0) (rm1 l Z a0 hw [] ((own_pw ((p3 &&& (2147483647 : Int32)) % (19 : Int32))) + ((((p2 &&& (2147483647 : Int32)) % (3 : Int32)) - (1 : Int32)).toInt64)) h20 n0 Z20) hZ (hw _ (List.mem_of_getElem? (i := 23) rfl)) (hw _ (List.mem_of_getElem? (i := 22) rfl)) (by decide) (by decide)) (g := (mkF m 190 #[.val (.long q1), .second, .val (.int p2), .val (.int p3), .val (.int p4), .val (.ref b1), .val (.long ((own_pw ((p3 &&& (2147483647 : Int32)) % (19 : Int32))) + ((((p2 &&& (2147483647 : Int32)) % (3 : Int32)) - (1 : Int32)).toInt64))), .second, .val (.long ((own_pw ((p3 &&& (2147483647 : Int32)) % (19 : Int32))) + ((((p2 &&& (2147483647 : Int32)) % (3 : Int32)) - (1 : Int32)).toInt64))), .second, .unset, .unset, .unset] [(.long ((own_pw ((p3 &&& (2147483647 : Int32)) % (19 : Int32))) + ((((p2 &&& (2147483647 : Int32)) % (3 : Int32)) - (1 : Int32)).toInt64)))])) rfl (by rw [hml]; rfl) (argsL := [(.long ((own_pw ((p3 &&& (2147483647 : Int32)) % (19 : Int32))) + ((((p2 &&& (2147483647 : Int32)) % (3 : Int32)) - (1 : Int32)).toInt64)))]) (rest := []) (lenOf pd_0_0 rfl) rfl (by show 2 * 0 + _ ≤ _; exact Nat.le_of_eq rfl) (hb hby at_190) (fun _ _ => ⟨rfl, e20, (by decide : 1 + 0 ≤ _), (by decide : 19 + 0 ≤ _)⟩)
      dsimp only [Pt.U, Pt.locs, Pt.cells, Pt.slots] at X45 l45 y45 z45 st45 hQ45
      subst l45 y45 z45
      obtain ⟨rfl, N45q, e45⟩ := hQ45
      have N45 := Fr.app N20 N45q
      refine own_st st45 ?_
      show own_Fin _ _ _ _ _ _ _ (T45.setTop (mkF m 193 #[.val (.long q1), .second, .val (.int p2), .val (.int p3), .val (.int p4), .val (.ref b1), .val (.long ((own_pw ((p3 &&& (2147483647 : Int32)) % (19 : Int32))) + ((((p2 &&& (2147483647 : Int32)) % (3 : Int32)) - (1 : Int32)).toInt64))), .second, .val (.long ((own_pw ((p3 &&& (2147483647 : Int32)) % (19 : Int32))) + ((((p2 &&& (2147483647 : Int32)) % (3 : Int32)) - (1 : Int32)).toInt64))), .second, .unset, .unset, .unset] [(.int (own_F1 ((own_pw ((p3 &&& (2147483647 : Int32)) % (19 : Int32))) + ((((p2 &&& (2147483647 : Int32)) % (3 : Int32)) - (1 : Int32)).toInt64))))]))
      refine own_st (fun t k => XS.istore X45.here hx rfl (hb hby at_193) rfl (l' := #[.val (.long q1), .second, .val (.int p2), .val (.int p3), .val (.int p4), .val (.ref b1), .val (.long ((own_pw ((p3 &&& (2147483647 : Int32)) % (19 : Int32))) + ((((p2 &&& (2147483647 : Int32)) % (3 : Int32)) - (1 : Int32)).toInt64))), .second, .val (.int (own_F1 ((own_pw ((p3 &&& (2147483647 : Int32)) % (19 : Int32))) + ((((p2 &&& (2147483647 : Int32)) % (3 : Int32)) - (1 : Int32)).toInt64)))), .unset, .unset, .unset, .unset]) rfl k) ?_
      show own_Fin _ _ _ _ _ _ _ (T45.setTop (mkF m 195 #[.val (.long q1), .second, .val (.int p2), .val (.int p3), .val (.int p4), .val (.ref b1), .val (.long ((own_pw ((p3 &&& (2147483647 : Int32)) % (19 : Int32))) + ((((p2 &&& (2147483647 : Int32)) % (3 : Int32)) - (1 : Int32)).toInt64))), .second, .val (.int (own_F1 ((own_pw ((p3 &&& (2147483647 : Int32)) % (19 : Int32))) + ((((p2 &&& (2147483647 : Int32)) % (3 : Int32)) - (1 : Int32)).toInt64)))), .unset, .unset, .unset, .unset] []))
      exact tail _ _ _ X45 e45 N45
    · refine own_st (fun t k => XS.ifNo X20.here hx rfl (hb hby at_175) rfl ((if0 _ _).trans (feq hc175_44).1) k) ?_
      show own_Fin _ _ _ _ _ _ _ (T20.setTop (mkF m 178 #[.val (.long q1), .second, .val (.int p2), .val (.int p3), .val (.int p4), .val (.ref b1), .unset, .unset, .val (.long ((own_pw ((p3 &&& (2147483647 : Int32)) % (19 : Int32))) + ((((p2 &&& (2147483647 : Int32)) % (3 : Int32)) - (1 : Int32)).toInt64))), .second, .unset, .unset, .unset] []))
      refine own_st (fun t k => XS.lload X20.here hx rfl (hb hby at_178) rfl k) ?_
      show own_Fin _ _ _ _ _ _ _ (T20.setTop (mkF m 180 #[.val (.long q1), .second, .val (.int p2), .val (.int p3), .val (.int p4), .val (.ref b1), .unset, .unset, .val (.long ((own_pw ((p3 &&& (2147483647 : Int32)) % (19 : Int32))) + ((((p2 &&& (2147483647 : Int32)) % (3 : Int32)) - (1 : Int32)).toInt64))), .second, .unset, .unset, .unset] [(.long ((own_pw ((p3 &&& (2147483647 : Int32)) % (19 : Int32))) + ((((p2 &&& (2147483647 : Int32)) % (3 : Int32)) - (1 : Int32)).toInt64)))]))
      refine own_st (fun t k => XS.lneg X20.here hx rfl (hb hby at_180) rfl k) ?_
      show own_Fin _ _ _ _ _ _ _ (T20.setTop (mkF m 181 #[.val (.long q1), .second, .val (.int p2), .val (.int p3), .val (.int p4), .val (.ref b1), .unset, .unset, .val (.long ((own_pw ((p3 &&& (2147483647 : Int32)) % (19 : Int32))) + ((((p2 &&& (2147483647 : Int32)) % (3 : Int32)) - (1 : Int32)).toInt64))), .second, .unset, .unset, .unset] [(.long (-((own_pw ((p3 &&& (2147483647 : Int32)) % (19 : Int32))) + ((((p2 &&& (2147483647 : Int32)) % (3 : Int32)) - (1 : Int32)).toInt64))))]))
      refine own_st (fun t k => XS.goto X20.here hx rfl (pc0 := 181) (pc' := 186) rfl (hb hby at_181) (by decide) (by decide) k) ?_
      show own_Fin _ _ _ _ _ _ _ (T20.setTop (mkF m 186 #[.val (.long q1), .second, .val (.int p2), .val (.int p3), .val (.int p4), .val (.ref b1), .unset, .unset, .val (.long ((own_pw ((p3 &&& (2147483647 : Int32)) % (19 : Int32))) + ((((p2 &&& (2147483647 : Int32)) % (3 : Int32)) - (1 : Int32)).toInt64))), .second, .unset, .unset, .unset] [(.long (-((own_pw ((p3 &&& (2147483647 : Int32)) % (19 : Int32))) + ((((p2 &&& (2147483647 : Int32)) % (3 : Int32)) - (1 : Int32)).toInt64))))]))
      refine own_st (fun t k => XS.lstore X20.here hx rfl (hb hby at_186) rfl (l' := #[.val (.long q1), .second, .val (.int p2), .val (.int p3), .val (.int p4), .val (.ref b1), .val (.long (-((own_pw ((p3 &&& (2147483647 : Int32)) % (19 : Int32))) + ((((p2 &&& (2147483647 : Int32)) % (3 : Int32)) - (1 : Int32)).toInt64)))), .second, .val (.long ((own_pw ((p3 &&& (2147483647 : Int32)) % (19 : Int32))) + ((((p2 &&& (2147483647 : Int32)) % (3 : Int32)) - (1 : Int32)).toInt64))), .second, .unset, .unset, .unset]) rfl k) ?_
      show own_Fin _ _ _ _ _ _ _ (T20.setTop (mkF m 188 #[.val (.long q1), .second, .val (.int p2), .val (.int p3), .val (.int p4), .val (.ref b1), .val (.long (-((own_pw ((p3 &&& (2147483647 : Int32)) % (19 : Int32))) + ((((p2 &&& (2147483647 : Int32)) % (3 : Int32)) - (1 : Int32)).toInt64)))), .second, .val (.long ((own_pw ((p3 &&& (2147483647 : Int32)) % (19 : Int32))) + ((((p2 &&& (2147483647 : Int32)) % (3 : Int32)) - (1 : Int32)).toInt64))), .second, .unset, .unset, .unset] []))
      refine own_st (fun t k => XS.lload X20.here hx rfl (hb hby at_188) rfl k) ?_
      show own_Fin _ _ _ _ _ _ _ (T20.setTop (mkF m 190 #[.val (.long q1), .second, .val (.int p2), .val (.int p3), .val (.int p4), .val (.ref b1), .val (.long (-((own_pw ((p3 &&& (2147483647 : Int32)) % (19 : Int32))) + ((((p2 &&& (2147483647 : Int32)) % (3 : Int32)) - (1 : Int32)).toInt64)))), .second, .val (.long ((own_pw ((p3 &&& (2147483647 : Int32)) % (19 : Int32))) + ((((p2 &&& (2147483647 : Int32)) % (3 : Int32)) - (1 : Int32)).toInt64))), .second, .unset, .unset, .unset] [(.long (-((own_pw ((p3 &&& (2147483647 : Int32)) % (19 : Int32))) + ((((p2 &&& (2147483647 : Int32)) % (3 : Int32)) - (1 : Int32)).toInt64))))]))
      obtain ⟨_, _, ⟨T46, L46, k46, n46⟩, -, X46, ⟨Lc46, hQ46, l46, y46, z46⟩, st46⟩ := Jvm.LawKit.callS X20 hx (y := (⟨"hedgerow/Decimal", "digits", "(J)I"⟩ : MethodName)) hown (mvT hZ (hw _ (List.mem_of_getElem? (i := 20) rfl))) (mvT hZ (hw _ (List.mem_of_getElem? (i := 21) rfl))) (mvT hZ (hw _ (List.mem_of_getElem? (i := 22) rfl))) (mvT hZ (hw _ (List.mem_of_getElem? (i := 23) rfl))) (by decide) (backOf (W := 0) (rm1 l Z a0 hw [] (-((own_pw ((p3 &&& (2147483647 : Int32)) % (19 : Int32))) + ((((p2 &&& (2147483647 : Int32)) % (3 : Int32)) - (1 : Int32)).toInt64))) h20 n0 Z20) hZ (hw _ (List.mem_of_getElem? (i := 23) rfl)) (hw _ (List.mem_of_getElem? (i := 22) rfl)) (by decide) (by decide)) (g := (mkF m 190 #[.val (.long q1), .second, .val (.int p2), .val (.int p3), .val (.int p4), .val (.ref b1), .val (.long (-((own_pw ((p3 &&& (2147483647 : Int32)) % (19 : Int32))) + ((((p2 &&& (2147483647 : Int32)) % (3 : Int32)) - (1 : Int32)).toInt64)))), .second, .val (.long ((own_pw ((p3 &&& (2147483647 : Int32)) % (19 : Int32))) + ((((p2 &&& (2147483647 : Int32)) % (3 : Int32)) - (1 : Int32)).toInt64))), .second, .unset, .unset, .unset] [(.long (-((own_pw ((p3 &&& (2147483647 : Int32)) % (19 : Int32))) + ((((p2 &&& (2147483647 : Int32)) % (3 : Int32)) - (1 : Int32)).toInt64))))])) rfl (by rw [hml]; rfl) (argsL := [(.long (-((own_pw ((p3 &&& (2147483647 : Int32)) % (19 : Int32))) + ((((p2 &&& (2147483647 : Int32)) % (3 : Int32)) - (1 : Int32)).toInt64))))]) (rest := []) (lenOf pd_0_0 rfl) rfl (by show 2 * 0 + _ ≤ _; exact Nat.le_of_eq rfl) (hb hby at_190) (fun _ _ => ⟨rfl, e20, (by decide : 1 + 0 ≤ _), (by decide : 19 + 0 ≤ _)⟩)
      dsimp only [Pt.U, Pt.locs, Pt.cells, Pt.slots] at X46 l46 y46 z46 st46 hQ46
      subst l46 y46 z46
      obtain ⟨rfl, N46q, e46⟩ := hQ46
      have N46 := Fr.app N20 N46q
      refine own_st st46 ?_
      show own_Fin _ _ _ _ _ _ _ (T46.setTop (mkF m 193 #[.val (.long q1), .second, .val (.int p2), .val (.int p3), .val (.int p4), .val (.ref b1), .val (.long (-((own_pw ((p3 &&& (2147483647 : Int32)) % (19 : Int32))) + ((((p2 &&& (2147483647 : Int32)) % (3 : Int32)) - (1 : Int32)).toInt64)))), .second, .val (.long ((own_pw ((p3 &&& (2147483647 : Int32)) % (19 : Int32))) + ((((p2 &&& (2147483647 : Int32)) % (3 : Int32)) - (1 : Int32)).toInt64))), .second, .unset, .unset, .unset] [(.int (own_F1 (-((own_pw ((p3 &&& (2147483647 : Int32)) % (19 : Int32))) + ((((p2 &&& (2147483647 : Int32)) % (3 : Int32)) - (1 : Int32)).toInt64)))))]))
      refine own_st (fun t k => XS.istore X46.here hx rfl (hb hby at_193) rfl (l' := #[.val (.long q1), .second, .val (.int p2), .val (.int p3), .val (.int p4), .val (.ref b1), .val (.long (-((own_pw ((p3 &&& (2147483647 : Int32)) % (19 : Int32))) + ((((p2 &&& (2147483647 : Int32)) % (3 : Int32)) - (1 : Int32)).toInt64)))), .second, .val (.int (own_F1 (-((own_pw ((p3 &&& (2147483647 : Int32)) % (19 : Int32))) + ((((p2 &&& (2147483647 : Int32)) % (3 : Int32)) - (1 : Int32)).toInt64))))), .unset, .unset, .unset, .unset]) rfl k) ?_
      show own_Fin _ _ _ _ _ _ _ (T46.setTop (mkF m 195 #[.val (.long q1), .second, .val (.int p2), .val (.int p3), .val (.int p4), .val (.ref b1), .val (.long (-((own_pw ((p3 &&& (2147483647 : Int32)) % (19 : Int32))) + ((((p2 &&& (2147483647 : Int32)) % (3 : Int32)) - (1 : Int32)).toInt64)))), .second, .val (.int (own_F1 (-((own_pw ((p3 &&& (2147483647 : Int32)) % (19 : Int32))) + ((((p2 &&& (2147483647 : Int32)) % (3 : Int32)) - (1 : Int32)).toInt64))))), .unset, .unset, .unset, .unset] []))
      exact tail _ _ _ X46 e46 N46
  · refine own_st (fun t k => XS.ifNo X20.here hx rfl (hb hby at_135) rfl ((if0 _ _).trans (feq hc135_42).1) k) ?_
    show own_Fin _ _ _ _ _ _ _ (T20.setTop (mkF m 138 #[.val (.long q1), .second, .val (.int p2), .val (.int p3), .val (.int p4), .val (.ref b1), .unset, .unset, .unset, .unset, .unset, .unset, .unset] []))
    refine own_st (fun t k => XS.lloadN X20.here hx rfl (hb hby at_138) rfl k) ?_
    show own_Fin _ _ _ _ _ _ _ (T20.setTop (mkF m 139 #[.val (.long q1), .second, .val (.int p2), .val (.int p3), .val (.int p4), .val (.ref b1), .unset, .unset, .unset, .unset, .unset, .unset, .unset] [(.long q1)]))
    refine own_st (fun t k => XS.iloadN X20.here hx rfl (hb hby at_139) rfl k) ?_
    show own_Fin _ _ _ _ _ _ _ (T20.setTop (mkF m 140 #[.val (.long q1), .second, .val (.int p2), .val (.int p3), .val (.int p4), .val (.ref b1), .unset, .unset, .unset, .unset, .unset, .unset, .unset] [(.int p2), (.long q1)]))
    refine own_st (fun t k => XS.bipush X20.here hx rfl (hb hby at_140) k) ?_
    show own_Fin _ _ _ _ _ _ _ (T20.setTop (mkF m 142 #[.val (.long q1), .second, .val (.int p2), .val (.int p3), .val (.int p4), .val (.ref b1), .unset, .unset, .unset, .unset, .unset, .unset, .unset] [(.int (63 : Int32)), (.int p2), (.long q1)]))
    refine own_st (fun t k => XS.iand X20.here hx rfl (hb hby at_142) rfl k) ?_
    show own_Fin _ _ _ _ _ _ _ (T20.setTop (mkF m 143 #[.val (.long q1), .second, .val (.int p2), .val (.int p3), .val (.int p4), .val (.ref b1), .unset, .unset, .unset, .unset, .unset, .unset, .unset] [(.int (p2 &&& (63 : Int32))), (.long q1)]))
    refine own_st (fun t k => XS.lshr X20.here hx rfl (hb hby at_143) rfl k) ?_
    show own_Fin _ _ _ _ _ _ _ (T20.setTop (mkF m 144 #[.val (.long q1), .second, .val (.int p2), .val (.int p3), .val (.int p4), .val (.ref b1), .unset, .unset, .unset, .unset, .unset, .unset, .unset] [(.long (q1 >>> ((p2 &&& (63 : Int32)) &&& 0x3f).toInt64))]))
    refine own_st (fun t k => XS.lstore X20.here hx rfl (hb hby at_144) rfl (l' := #[.val (.long q1), .second, .val (.int p2), .val (.int p3), .val (.int p4), .val (.ref b1), .val (.long (q1 >>> ((p2 &&& (63 : Int32)) &&& 0x3f).toInt64)), .second, .unset, .unset, .unset, .unset, .unset]) rfl k) ?_
    show own_Fin _ _ _ _ _ _ _ (T20.setTop (mkF m 146 #[.val (.long q1), .second, .val (.int p2), .val (.int p3), .val (.int p4), .val (.ref b1), .val (.long (q1 >>> ((p2 &&& (63 : Int32)) &&& 0x3f).toInt64)), .second, .unset, .unset, .unset, .unset, .unset] []))
    refine own_st (fun t k => XS.goto X20.here hx rfl (pc0 := 146) (pc' := 188) rfl (hb hby at_146) (by decide) (by decide) k) ?_
    show own_Fin _ _ _ _ _ _ _ (T20.setTop (mkF m 188 #[.val (.long q1), .second, .val (.int p2), .val (.int p3), .val (.int p4), .val (.ref b1), .val (.long (q1 >>> ((p2 &&& (63 : Int32)) &&& 0x3f).toInt64)), .second, .unset, .unset, .unset, .unset, .unset] []))
    refine own_st (fun t k => XS.lload X20.here hx rfl (hb hby at_188) rfl k) ?_
    show own_Fin _ _ _ _ _ _ _ (T20.setTop (mkF m 190 #[.val (.long q1), .second, .val (.int p2), .val (.int p3), .val (.int p4), .val (.ref b1), .val (.long (q1 >>> ((p2 &&& (63 : Int32)) &&& 0x3f).toInt64)), .second, .unset, .unset, .unset, .unset, .unset] [(.long (q1 >>> ((p2 &&& (63 : Int32)) &&& 0x3f).toInt64))]))
    obtain ⟨_, _, ⟨T47, L47, k47, n47⟩, -, X47, ⟨Lc47, hQ47, l47, y47, z47⟩, st47⟩ := Jvm.LawKit.callS X20 hx (y := (⟨"hedgerow/Decimal", "digits", "(J)I"⟩ : MethodName)) hown (mvT hZ (hw _ (List.mem_of_getElem? (i := 20) rfl))) (mvT hZ (hw _ (List.mem_of_getElem? (i := 21) rfl))) (mvT hZ (hw _ (List.mem_of_getElem? (i := 22) rfl))) (mvT hZ (hw _ (List.mem_of_getElem? (i := 23) rfl))) (by decide) (backOf (W := 0) (rm1 l Z a0 hw [] (q1 >>> ((p2 &&& (63 : Int32)) &&& 0x3f).toInt64) h20 n0 Z20) hZ (hw _ (List.mem_of_getElem? (i := 23) rfl)) (hw _ (List.mem_of_getElem? (i := 22) rfl)) (by decide) (by decide)) (g := (mkF m 190 #[.val (.long q1), .second, .val (.int p2), .val (.int p3), .val (.int p4), .val (.ref b1), .val (.long (q1 >>> ((p2 &&& (63 : Int32)) &&& 0x3f).toInt64)), .second, .unset, .unset, .unset, .unset, .unset] [(.long (q1 >>> ((p2 &&& (63 : Int32)) &&& 0x3f).toInt64))])) rfl (by rw [hml]; rfl) (argsL := [(.long (q1 >>> ((p2 &&& (63 : Int32)) &&& 0x3f).toInt64))]) (rest := []) (lenOf pd_0_0 rfl) rfl (by show 2 * 0 + _ ≤ _; exact Nat.le_of_eq rfl) (hb hby at_190) (fun _ _ => ⟨rfl, e20, (by decide : 1 + 0 ≤ _), (by decide : 19 + 0 ≤ _)⟩)
    dsimp only [Pt.U, Pt.locs, Pt.cells, Pt.slots] at X47 l47 y47 z47 st47 hQ47
    subst l47 y47 z47
    obtain ⟨rfl, N47q, e47⟩ := hQ47
    have N47 := Fr.app N20 N47q
    refine own_st st47 ?_
    show own_Fin _ _ _ _ _ _ _ (T47.setTop (mkF m 193 #[.val (.long q1), .second, .val (.int p2), .val (.int p3), .val (.int p4), .val (.ref b1), .val (.long (q1 >>> ((p2 &&& (63 : Int32)) &&& 0x3f).toInt64)), .second, .unset, .unset, .unset, .unset, .unset] [(.int (own_F1 (q1 >>> ((p2 &&& (63 : Int32)) &&& 0x3f).toInt64)))]))
    refine own_st (fun t k => XS.istore X47.here hx rfl (hb hby at_193) rfl (l' := #[.val (.long q1), .second, .val (.int p2), .val (.int p3), .val (.int p4), .val (.ref b1), .val (.long (q1 >>> ((p2 &&& (63 : Int32)) &&& 0x3f).toInt64)), .second, .val (.int (own_F1 (q1 >>> ((p2 &&& (63 : Int32)) &&& 0x3f).toInt64))), .unset, .unset, .unset, .unset]) rfl k) ?_
    show own_Fin _ _ _ _ _ _ _ (T47.setTop (mkF m 195 #[.val (.long q1), .second, .val (.int p2), .val (.int p3), .val (.int p4), .val (.ref b1), .val (.long (q1 >>> ((p2 &&& (63 : Int32)) &&& 0x3f).toInt64)), .second, .val (.int (own_F1 (q1 >>> ((p2 &&& (63 : Int32)) &&& 0x3f).toInt64))), .unset, .unset, .unset, .unset] []))
    exact tail _ _ _ X47 e47 N47
set_option maxRecDepth 65536 in
set_option maxHeartbeats 40000000 in
theorem comes_1 {Post : Tables → Env → Array Value → State → Outcome → State → Prop} (hpost : ∀ tb e args s v u, (limb_1_1.after args s (.returned v) u = true ∧ limb_1_2.after args s (.returned v) u = true ∧ True) → FrameEnd s (.returned v) u (Jvm.fieldLocs frame_1_writes args s ++ Jvm.arrayLocs frame_1_arrays args s ++ Jvm.staticLocs frame_1_statics s) 16 128 → Post tb e args s (.returned v) u) :
    ArmFor flags0 classFile x code maxLocals ret World_1 tables_1 room_1 Calls_1 rest_1 Pre_1 Post := by
  intro l hfl _ _ p e ha hc hk s m args below hf hA hF happ hP
  obtain ⟨hcalls, hrest, hpre⟩ := hP
  obtain ⟨-, -, -, hnamed, -, -, -, hat⟩ := (Spec.applies_iff hf).mp happ
  obtain ⟨hg, hn⟩ := and_e (Cond.before_iff.mp (show (Jvm.Cond.and given_1 narrow_1).before args s = true from hpre))
  obtain ⟨g3, g4⟩ := and_e hg
  obtain ⟨g5, g6⟩ := and_e g4
  obtain ⟨g7, g8⟩ := and_e g6
  obtain ⟨g9, g10⟩ := and_e g8
  obtain ⟨w0, w1, w2, w3, rfl⟩ : ∃ w0 w1 w2 w3 : Value, args = #[w0, w1, w2, w3] := by
    have hs : args.size = 4 := by simpa [Cond.value, given_1] using g3
    obtain ⟨L⟩ := args
    match L, hs with
    | [w0, w1, w2, w3], _ => exact ⟨w0, w1, w2, w3, rfl⟩
  have hw := fun d (hd : d ∈ tables_1) => atoms_spec (ws := Jvm.Cond.code x code maxLocals ret :: tables_1) hat d (List.mem_cons_of_mem _ hd)
  obtain ⟨i0, ei0⟩ := isL_v g5
  obtain rfl : w0 = (.long i0) := Option.some.inj ei0
  obtain ⟨i1, ei1⟩ := is_v g7
  obtain rfl : w1 = (.int i1) := Option.some.inj ei1
  obtain ⟨i2, ei2⟩ := is_v g9
  obtain rfl : w2 = (.int i2) := Option.some.inj ei2
  obtain ⟨i3, ei3⟩ := is_v g10
  obtain rfl : w3 = (.int i3) := Option.some.inj ei3
  obtain ⟨n, o, h1, h2, h3, v, L, rfl, ⟨hv, N, -⟩, hq⟩ := rm0 l s _ hw tables_1 i0 i1 i2 i3 s.heap s.heap.size (Nat.le_refl _) p e ha hc hk s m _ below hf ((Spec.applies_iff_loose hf).mp happ).1 ⟨rfl, State.Warmed39.refl s, rfl⟩ trivial
  subst hv
  refine ⟨n, _, h1, h2, h3, hpost _ _ _ _ _ _ ⟨Cond.after_iff.mpr rfl, Cond.after_iff.mpr (eq_i res_at (Term.int_eval (1)) rfl), trivial⟩ ⟨hq.1, hq.2.1, (hq.2.2.sift fun y hy => Or.inr (N y hy)).mono (by decide) (by decide)⟩⟩
theorem main_1_1 : Claimed_1_1 := comes_1 fun _ _ _ _ _ _ h hF => ⟨h.1, hF⟩
theorem main_1_2 : Claimed_1_2 := comes_1 fun _ _ _ _ _ _ h hF => ⟨h.2.1, hF⟩
end Jvm.Pilot.@@N@@
namespace Jvm.Pilot.@@N@@
open Jvm Jvm.ClassFile Sem Op Lib Jvm.Free Jvm.Stand Jvm.Pilot.@@N@@.Jvm.D
/-! MADE BY PROGRAM (witnessworld.py) out of the Statement's table words and the real class files: 12 classes; the members and pool entries that the words name. The judged class is class 1, her method 1. -/
namespace start1
open Jvm.ClassFile
def u (s : String) : CpInfo := .utf8 (stringToUtf16 s)
/-- a pool by its gaps: so many unusable entries, then the entry; so many at the end -/
def gap : Nat → List CpInfo → List CpInfo
  | 0, r => r
  | n + 1, r => .unusable :: gap n r
def poolList (es : List (Nat × CpInfo)) (last : Nat) : List CpInfo := es.foldr (fun e r => gap e.1 (e.2 :: r)) (gap last [])
def pool (es : List (Nat × CpInfo)) (last : Nat) : Array CpInfo := ⟨poolList es last⟩
def fileOf (pool : Array CpInfo) (this : Nat) (attrs : Array Attribute := #[]) (ms : Array MethodInfo := #[]) (fl : Nat := 33) (sup : Nat := 0) (ifs : Array Nat := #[]) (fds : Array FieldInfo := #[]) : ClassFile where
  minorVersion := 0
  majorVersion := 65
  constantPool := pool
  accessFlags := fl
  thisClass := this
  superClass := sup
  interfaces := ifs
  fields := fds
  methods := ms
  attributes := attrs
def plain (name : String) (sup : Option ClassId) : Class where
  name := name
  kind := .ordinary
  loader := none
  accessFlags := 33
  super := sup
  interfaces := #[]
  cf := none
  fields := #[]
  methods := #[]
  instanceTypes := #[]
  staticTypes := #[]
  resolved := #[]
  callSites := []
  init := .initialized
  statics := none
  mirror := none

def pool0 : Array CpInfo := pool [(5, u "<init>"), (0, u "()V"), (1, .class_ 10), (1, u "java/lang/Object")] 113

def k0m0 : Method := { name := "<init>", desc := "()V", sig := { parameters := [], returnType := none }, accessFlags := 1, code := none }
/-- java/lang/Object -/
def k0 : Class := { plain "java/lang/Object" none with
  accessFlags := 33
  interfaces := #[]
  cf := some (fileOf pool0 8 #[] #[{ accessFlags := 1, nameIndex := 5, descriptorIndex := 6, attributes := #[] }] 33 0 #[] #[])
  fields := #[]
  methods := #[k0m0]
  instanceTypes := #[]
  staticTypes := #[]
  resolved := Array.replicate 124 none
  statics := none }

def pool1 : Array CpInfo := pool [(2, .class_ 4), (1, u "java/lang/Object"), (0, u "<init>"), (0, u "()V"), (0, .long 10), (1, .long 100), (1, .long 1000), (1, .long 10000), (1, .long 100000), (1, .long 1000000), (1, .long 10000000), (1, .long 100000000), (1, .long 1000000000), (1, .long 10000000000), (1, .long 100000000000), (1, .long 1000000000000), (1, .long 10000000000000), (1, .long 100000000000000), (1, .long 1000000000000000), (1, .long 10000000000000000), (1, .long 100000000000000000), (1, .long 1000000000000000000), (1, .integer 2147483647), (0, .methodref 45 46), (0, .class_ 47), (0, .nameAndType 48 49), (0, u "hedgerow/Decimal"), (0, u "digits"), (0, u "(J)I"), (0, .class_ 51), (0, u "hedgerow/DecimalDigitsPinLaw"), (2, u "law"), (0, u "(JIII)Z")] 5

def k1m0 : Method := { name := "<init>", desc := "()V", sig := { parameters := [], returnType := none }, accessFlags := 1, code := none }
def k1c1 : Code := { maxStack := 5, maxLocals := 13, code := code, exceptionTable := #[], attributes := #[] }
def k1m1 : Method := { name := "law", desc := "(JIII)Z", sig := { parameters := [.long, .int, .int, .int], returnType := some .boolean }, accessFlags := 9, code := some k1c1 }
/-- hedgerow/DecimalDigitsPinLaw -/
def k1 : Class := { plain "hedgerow/DecimalDigitsPinLaw" (some 0) with
  accessFlags := 49
  interfaces := #[]
  cf := some (fileOf pool1 50 #[] #[{ accessFlags := 1, nameIndex := 5, descriptorIndex := 6, attributes := #[] }, { accessFlags := 9, nameIndex := 54, descriptorIndex := 55, attributes := #[] }] 49 2 #[] #[])
  fields := #[]
  methods := #[k1m0, k1m1]
  instanceTypes := #[]
  staticTypes := #[]
  resolved := Array.replicate 61 none
  statics := none }

def pool2 : Array CpInfo := pool [(1, .class_ 2), (0, u "java/lang/Comparable"), (0, .class_ 4), (0, u "java/lang/Object")] 7

/-- java/lang/Comparable -/
def k2 : Class := { plain "java/lang/Comparable" (some 0) with
  accessFlags := 1537
  interfaces := #[]
  cf := some (fileOf pool2 1 #[] #[] 1537 3 #[] #[])
  fields := #[]
  methods := #[]
  instanceTypes := #[]
  staticTypes := #[]
  resolved := Array.replicate 12 none
  statics := none }

def pool3 : Array CpInfo := pool [(2, .class_ 4), (1, u "java/lang/Object"), (3, .class_ 10), (1, u "hedgerow/Decimal"), (0, u "signum"), (0, u "I"), (2, u "digits"), (0, u "[B"), (2, u "leadingPower"), (0, u "J"), (10, u "(J)I"), (2, u "hash"), (0, .long 10), (3, u "key"), (41, .long 18446744073709551606), (11, u "ZERO"), (0, u "Lhedgerow/Decimal;"), (42, .class_ 138), (0, u "java/lang/Comparable"), (0, u "KEY_DIGITS"), (2, u "LOWEST_POWER"), (1, u "HIGHEST_POWER"), (1, u "POWER_ROOM")] 32

def k3c0 : Code := { maxStack := 4, maxLocals := 7, code := prog_25_method_6_code, exceptionTable := #[], attributes := #[] }
def k3m0 : Method := { name := "digits", desc := "(J)I", sig := { parameters := [.long], returnType := some .int }, accessFlags := 8, code := some k3c0 }
/-- hedgerow/Decimal -/
def k3 : Class := { plain "hedgerow/Decimal" (some 0) with
  accessFlags := 48
  interfaces := #[2]
  cf := some (fileOf pool3 8 #[] #[{ accessFlags := 8, nameIndex := 15, descriptorIndex := 31, attributes := #[] }] 48 2 #[137] #[{ accessFlags := 24, nameIndex := 139, descriptorIndex := 12, attributes := #[] }, { accessFlags := 24, nameIndex := 142, descriptorIndex := 12, attributes := #[] }, { accessFlags := 24, nameIndex := 144, descriptorIndex := 12, attributes := #[] }, { accessFlags := 26, nameIndex := 146, descriptorIndex := 20, attributes := #[] }, { accessFlags := 26, nameIndex := 93, descriptorIndex := 94, attributes := #[] }, { accessFlags := 18, nameIndex := 11, descriptorIndex := 12, attributes := #[] }, { accessFlags := 18, nameIndex := 15, descriptorIndex := 16, attributes := #[] }, { accessFlags := 18, nameIndex := 19, descriptorIndex := 20, attributes := #[] }, { accessFlags := 18, nameIndex := 34, descriptorIndex := 12, attributes := #[] }, { accessFlags := 18, nameIndex := 39, descriptorIndex := 20, attributes := #[] }])
  fields := #[{ name := "KEY_DIGITS", type := .int, accessFlags := 24, slot := 0, constantValue := 0 }, { name := "LOWEST_POWER", type := .int, accessFlags := 24, slot := 1, constantValue := 0 }, { name := "HIGHEST_POWER", type := .int, accessFlags := 24, slot := 2, constantValue := 0 }, { name := "POWER_ROOM", type := .long, accessFlags := 26, slot := 3, constantValue := 0 }, { name := "ZERO", type := (.object "hedgerow/Decimal"), accessFlags := 26, slot := 4, constantValue := 0 }, { name := "signum", type := .int, accessFlags := 18, slot := 0, constantValue := 0 }, { name := "digits", type := (.array .byte), accessFlags := 18, slot := 1, constantValue := 0 }, { name := "leadingPower", type := .long, accessFlags := 18, slot := 2, constantValue := 0 }, { name := "hash", type := .int, accessFlags := 18, slot := 3, constantValue := 0 }, { name := "key", type := .long, accessFlags := 18, slot := 4, constantValue := 0 }]
  methods := #[k3m0]
  instanceTypes := #[.int, (.array .byte), .long, .int, .long]
  staticTypes := #[.int, .int, .int, .long, (.object "hedgerow/Decimal")]
  resolved := Array.replicate 179 none
  statics := none }

def pool4 : Array CpInfo := pool [(1, u "java/lang/Cloneable"), (0, .class_ 1), (0, u "java/lang/Object"), (0, .class_ 3)] 3

/-- java/lang/Cloneable -/
def k4 : Class := { plain "java/lang/Cloneable" (some 0) with
  accessFlags := 1537
  interfaces := #[]
  cf := some (fileOf pool4 2 #[] #[] 1537 4 #[] #[])
  fields := #[]
  methods := #[]
  instanceTypes := #[]
  staticTypes := #[]
  resolved := Array.replicate 8 none
  statics := none }

def pool5 : Array CpInfo := pool [(1, u "java/io/Serializable"), (0, .class_ 1), (0, u "java/lang/Object"), (0, .class_ 3)] 3

/-- java/io/Serializable -/
def k5 : Class := { plain "java/io/Serializable" (some 0) with
  accessFlags := 1537
  interfaces := #[]
  cf := some (fileOf pool5 2 #[] #[] 1537 4 #[] #[])
  fields := #[]
  methods := #[]
  instanceTypes := #[]
  staticTypes := #[]
  resolved := Array.replicate 8 none
  statics := none }

/-- the primitive byte -/
def k6 : Class := { plain "byte" none with kind := .primitive 'B', accessFlags := 0x411 }
/-- [B -/
def k7 : Class := { plain "[B" (some 0) with kind := .array 6 .byte, interfaces := #[4, 5], accessFlags := 1041 }

/-- the primitive int -/
def k8 : Class := { plain "int" none with kind := .primitive 'I', accessFlags := 0x411 }
/-- [I -/
def k9 : Class := { plain "[I" (some 0) with kind := .array 8 .int, interfaces := #[4, 5], accessFlags := 1041 }

/-- the primitive long -/
def k10 : Class := { plain "long" none with kind := .primitive 'J', accessFlags := 0x411 }
/-- [J -/
def k11 : Class := { plain "[J" (some 0) with kind := .array 10 .long, interfaces := #[4, 5], accessFlags := 1041 }

def heap : Heap := #[]
def classes : Array Class := #[k0, k1, k2, k3, k4, k5, k6, k7, k8, k9, k10, k11]
def interned : List (Array UInt16 × Addr) := []
def slotsUsed : Nat := 0
def theMethod : MethodId := ⟨1, 1⟩
def args0 : Array Value := #[.long 5, .int 0, .int 0, .int 0]
def aboutOver (below : List Frame) : State where
  vm := { classes := classes, interned := interned.toArray }
  heap := heap
  slotsUsed := slotsUsed
  threads := #[{ frames := .invoking theMethod args0 :: below }]
def below0 : List Frame := [.native { method := ⟨0, 0⟩, args := #[] }]
def about1 : State := aboutOver below0
def p0 : Program := .bare "" "" ""
def e0 : Env := launch0.env 0 0 0
theorem w_frames : about1.frames = Frame.invoking theMethod args0 :: below0 := rfl
set_option maxRecDepth 65536 in
theorem w_args : argsFit about1.vm theMethod args0 = true := by decide +kernel
set_option maxRecDepth 65536 in
theorem w_heap : heapFits about1 = true := by decide +kernel
set_option maxRecDepth 65536 in
theorem w_runnable : about1.curStatus? = some .runnable := by decide +kernel
set_option maxRecDepth 65536 in
theorem w_alone : about1.alone = true := by decide +kernel
set_option maxRecDepth 65536 in
theorem w_named : about1.methodNamed? x = some theMethod := by decide +kernel
set_option maxRecDepth 65536 in
theorem w_hears : about1.hears theMethod below0 = true := by decide +kernel
set_option maxRecDepth 65536 in
theorem w_ripe : about1.ripe theMethod args0 below0 = true := by decide +kernel
theorem w_running : about1.status = .running := rfl
set_option maxRecDepth 65536 in
theorem w_room : about1.hasRoom e0.platform room_1 = true :=
  launch0.hasRoom_least _ room_1 (by decide +kernel) (by decide +kernel) (by decide +kernel) (by decide +kernel) (by decide +kernel) (by decide +kernel)
theorem allAtoms_all (ts : List Jvm.Cond) (a : Array Jvm.Value) (st : Jvm.State) : (allAtoms ts).before a st = ts.all (fun c => c.before a st) := by
  induction ts with
  | nil => rfl
  | cons c t ih =>
    show (Jvm.Cond.and c (allAtoms t)).before a st = _
    rw [Jvm.Cond.before_and, ih, List.all_cons]
def words1 : List Jvm.Cond := Jvm.Cond.code x code maxLocals ret :: tables_1
/-- a 'code' word, met by the world's own term for the bytes: nothing is compared byte by byte -/
theorem code_word {y : MethodName} {bytes : ByteArray} {mx : Nat} {rt : Option FieldType} {a : Array Value} {s : State} {m : MethodId} {meth : Method} {c : Code} (h1 : s.methodNamed? y = some m) (h2 : s.vm.method? m = some meth) (h3 : meth.code = some c) (h4 : c.code = bytes)
    (h5 : (c.maxLocals == mx && c.exceptionTable.isEmpty && decide (c.maxStack ≤ mostOperands) && decide (meth.sig.returnType = rt) && !meth.locks && decide (parseMethodDescriptor y.desc = some meth.sig)) = true) : (Jvm.Cond.code y bytes mx rt).before a s = true := by
  simp only [Bool.and_eq_true, beq_iff_eq, Bool.not_eq_true', decide_eq_true_eq] at h5
  obtain ⟨⟨⟨⟨⟨g1, g2⟩, g3⟩, g4⟩, g5⟩, g6⟩ := h5
  simp [Cond.before, Cond.holds, Cond.value, h1, h2, h3, h4, g1, g2, g3, g4, g5, g6]
def isCode : Jvm.Cond → Bool
  | .code _ _ _ _ => true
  | _ => false
theorem all_split {L : List Jvm.Cond} {P : Jvm.Cond → Bool} (h1 : L.all (fun c => isCode c || P c) = true) (h2 : ∀ c ∈ L.filter isCode, P c = true) : L.all P = true := by
  refine List.all_eq_true.mpr fun c hc => ?_
  have h := List.all_eq_true.mp h1 c hc
  rcases Bool.eq_false_or_eq_true (isCode c) with hi | hi
  · exact h2 c (List.mem_filter.mpr ⟨hc, hi⟩)
  · simpa [hi] using h
set_option maxRecDepth 65536 in
theorem w_c0 : (Jvm.Cond.code x code maxLocals ret).before args0 about1 = true := code_word (m := ⟨1, 1⟩) (meth := k1m1) (c := k1c1) (by decide +kernel) rfl rfl rfl (by decide +kernel)
set_option maxRecDepth 65536 in
theorem w_c1 : (Jvm.Cond.code ({ cls := "hedgerow/Decimal", name := "digits", desc := "(J)I" } : Jvm.MethodName) prog_25_method_6_code (7 : Nat) (Option.some Jvm.ClassFile.FieldType.int)).before args0 about1 = true := code_word (m := ⟨3, 0⟩) (meth := k3m0) (c := k3c0) (by decide +kernel) rfl rfl rfl (by decide +kernel)
def codes1 : List Jvm.Cond := [Jvm.Cond.code x code maxLocals ret, Jvm.Cond.code ({ cls := "hedgerow/Decimal", name := "digits", desc := "(J)I" } : Jvm.MethodName) prog_25_method_6_code (7 : Nat) (Option.some Jvm.ClassFile.FieldType.int)]
set_option maxRecDepth 65536 in
theorem codes_eq : words1.filter isCode = codes1 := rfl
theorem w_codes : ∀ c ∈ words1.filter isCode, c.before args0 about1 = true := by
  rw [codes_eq]
  intro c hc
  simp only [codes1, List.mem_cons, List.not_mem_nil, or_false] at hc
  rcases hc with rfl | rfl
  · exact w_c0
  · exact w_c1
set_option maxRecDepth 65536 in
theorem w_t1 : (words1.take 24).all (fun c => isCode c || c.before args0 about1) = true := by decide +kernel
set_option maxRecDepth 65536 in
theorem w_t2 : (words1.drop 24).all (fun c => isCode c || c.before args0 about1) = true := by decide +kernel
theorem w_tables : (allAtoms (Jvm.Cond.code x code maxLocals ret :: tables_1)).before args0 about1 = true := by
  rw [allAtoms_all]
  show words1.all (fun c => c.before args0 about1) = true
  refine all_split ?_ w_codes
  rw [← List.take_append_drop 24 words1, List.all_append, w_t1, w_t2]
  rfl
set_option maxRecDepth 65536 in
theorem w_case : (Jvm.Cond.and given_1 narrow_1).before args0 about1 = true := by decide +kernel
theorem w_applies : (headSpec (Jvm.Cond.code x code maxLocals ret :: tables_1) room_1).applies x e0.platform about1 = true :=
  (Spec.applies_iff w_frames).mpr ⟨w_running, w_runnable, w_alone, w_named, w_hears, w_ripe, w_room, w_tables⟩
theorem atStart : AtStart classFile x code maxLocals ret World_1 tables_1 room_1 Calls_1 rest_1 Pre_1 launch0 p0 e0 about1 theMethod args0 below0 :=
  ⟨lists_1, trivial, launch0.admits_env _ _ _, launch0.least_env, fairChoices_fair.cas, fairChoices_fair.clock, w_frames, w_args, w_heap, w_applies, trivial, trivial, w_case⟩
end start1
theorem witness_1 : WitnessClaimed_1 := ⟨start1.p0, start1.e0, start1.about1, start1.theMethod, start1.args0, start1.below0, start1.atStart⟩
end Jvm.Pilot.@@N@@
