import JvmDerived
import JvmDerived.Pilot.@@N@@Statement
import JvmDerived.Pilot.@@N@@Code
set_option linter.unusedVariables false
set_option linter.unusedSimpArgs false
namespace Jvm.RoadKit
open Sem ClassFile Op Lib Jvm.Stand Jvm.Free Jvm.LawKit
section New
variable {p : Program} {l : Launch} {e : Env} {R : Room} {s : State} {m : MethodId} {args : Array Value} {below : List Frame} {meth : Method} {c : Code} {T T' : State} {locs : List Loc} {cells slots cs sl : Nat} {Q : Option Value → Heap → List Loc → Prop}
/-- from T the run ends, and Q holds at the end -/
def Gl (p : Program) (e : Env) (below : List Frame) (s : State) (Q : Option Value → Heap → List Loc → Prop) (cs sl : Nat) (T : State) : Prop :=
  ∃ s₂ o, Steps p.tables e below T s₂ ∧ s₂.status = .running ∧ Ended s₂ below o ∧ ∃ v L, o = .returned v ∧ Q v s₂.heap L ∧ FrameEnd s o s₂ L cs sl
theorem Gl.st (k : ∀ t, Steps p.tables e below T' t → Steps p.tables e below T t) (h : Gl p e below s Q cs sl T') : Gl p e below s Q cs sl T := by
  obtain ⟨a, o, h1, r⟩ := h
  exact ⟨a, o, k _ h1, r⟩
theorem Gl.to (k : Steps p.tables e below T T') (h : Gl p e below s Q cs sl T') : Gl p e below s Q cs sl T := Gl.st (fun _ q => k.trans q) h
theorem Gl.fin (X : Stand p l e R s m args below meth c T locs cells slots) {v : Option Value} (hv : meth.sig.returnType = none → v = none) (hlk : meth.locks = false) (hQ : Q v T.heap locs) (hc : cells ≤ cs) (hs : slots ≤ sl) {S0 : State}
    (k : ∀ fs, (∀ (f : JFrame) (acts : List Action), f.method = m → f.locked = none → f.entered = [] → (doReturn e (T.setTop f) acts v).1 = T.setFrames fs) → Steps p.tables e below S0 (T.setFrames fs)) : Gl p e below s Q cs sl S0 := by
  obtain ⟨fs, hr, hrun, hended, hW, hsame⟩ := X.leave hv hlk
  exact ⟨_, _, k fs hr, hrun, hended, v, locs, rfl, hQ, ⟨_, rfl⟩, hW, hsame.mono hc hs⟩
theorem Gl.retN (X : Stand p l e R s m args below meth c T locs cells slots) (hx : p.tables.exec = Jvm.exec) (hlk : meth.locks = false) {pc : Nat} {Ls : Array Slot} {z : Int32} {t : FieldType} {rest : List Value} (hret : meth.sig.returnType = some t) (ht : t = .boolean ∨ t = .byte ∨ t = .char ∨ t = .short)
    (hd : decode c.code pc = .ok (.ireturn, 1)) (hQ : Q (some (.int (nar t z))) T.heap locs) (hc : cells ≤ cs) (hs : slots ≤ sl) : Gl p e below s Q cs sl (T.setTop (mkF m pc Ls (.int z :: rest))) :=
  Gl.fin X (fun h => by rw [hret] at h; cases h) hlk hQ hc hs fun _ hr => Jvm.RoadKit.retN X hx hret ht hd hr
theorem Gl.retI (X : Stand p l e R s m args below meth c T locs cells slots) (hx : p.tables.exec = Jvm.exec) (hlk : meth.locks = false) {pc : Nat} {Ls : Array Slot} {z : Int32} {rest : List Value} (hret : meth.sig.returnType = some .int)
    (hd : decode c.code pc = .ok (.ireturn, 1)) (hQ : Q (some (.int z)) T.heap locs) (hc : cells ≤ cs) (hs : slots ≤ sl) : Gl p e below s Q cs sl (T.setTop (mkF m pc Ls (.int z :: rest))) :=
  Gl.fin X (fun h => by rw [hret] at h; cases h) hlk hQ hc hs fun _ hr => retOut X hx hret rfl (Or.inl ⟨rfl, Or.inl rfl, z, rfl⟩) hd hr
theorem Gl.retJ (X : Stand p l e R s m args below meth c T locs cells slots) (hx : p.tables.exec = Jvm.exec) (hlk : meth.locks = false) {pc : Nat} {Ls : Array Slot} {z : Int64} {rest : List Value} (hret : meth.sig.returnType = some .long)
    (hd : decode c.code pc = .ok (.lreturn, 1)) (hQ : Q (some (.long z)) T.heap locs) (hc : cells ≤ cs) (hs : slots ≤ sl) : Gl p e below s Q cs sl (T.setTop (mkF m pc Ls (.long z :: rest))) :=
  Gl.fin X (fun h => by rw [hret] at h; cases h) hlk hQ hc hs fun _ hr => retOut X hx hret rfl (Or.inr (Or.inl ⟨rfl, rfl, z, rfl⟩)) hd hr
theorem Gl.retV (X : Stand p l e R s m args below meth c T locs cells slots) (hx : p.tables.exec = Jvm.exec) (hlk : meth.locks = false) {pc : Nat} {Ls : Array Slot} (hret : meth.sig.returnType = none)
    (hd : decode c.code pc = .ok (.return_, 1)) (hQ : Q none T.heap locs) (hc : cells ≤ cs) (hs : slots ≤ sl) : Gl p e below s Q cs sl (T.setTop (mkF m pc Ls [])) :=
  Gl.fin X (fun _ => rfl) hlk hQ hc hs fun _ hr => X.returnOut hx hret hd hr
/-- .. where String constants may have been interned -/
def GlW (p : Program) (e : Env) (below : List Frame) (s : State) (Q : Option Value → Heap → List Loc → Prop) (cs sl : Nat) (T : State) : Prop :=
  ∃ s₂ o, Steps p.tables e below T s₂ ∧ s₂.status = .running ∧ Ended s₂ below o ∧ ∃ v L, o = .returned v ∧ Q v s₂.heap L ∧ ReturnedEndW s o s₂ L cs sl
theorem GlW.st (k : ∀ t, Steps p.tables e below T' t → Steps p.tables e below T t) (h : GlW p e below s Q cs sl T') : GlW p e below s Q cs sl T := by
  obtain ⟨a, o, h1, r⟩ := h
  exact ⟨a, o, k _ h1, r⟩
theorem GlW.to (k : Steps p.tables e below T T') (h : GlW p e below s Q cs sl T') : GlW p e below s Q cs sl T := GlW.st (fun _ q => k.trans q) h
theorem GlW.retN {vm₁ : Vm} (X : Stand p l e R (s.setVm vm₁) m args below meth c T locs cells slots) (hx : p.tables.exec = Jvm.exec) {n : Nat} (hS : s.Since vm₁ n) (hn : n ≤ T.heap.size) (hlk : meth.locks = false) {pc : Nat} {Ls : Array Slot} {z : Int32} {t : FieldType} {rest : List Value} (hret : meth.sig.returnType = some t) (ht : t = .boolean ∨ t = .byte ∨ t = .char ∨ t = .short)
    (hd : decode c.code pc = .ok (.ireturn, 1)) (hQ : Q (some (.int (nar t z))) T.heap locs) (hc : cells ≤ cs) (hs : slots ≤ sl) : GlW p e below s Q cs sl (T.setTop (mkF m pc Ls (.int z :: rest))) := by
  obtain ⟨fs, hr, hrun, hended, h1, h2, h3, h4⟩ := X.leaveW hS hn (v := some (.int (nar t z))) (fun h => by rw [hret] at h; cases h) hlk
  exact ⟨_, _, Jvm.RoadKit.retN X hx hret ht hd hr, hrun, hended, _, locs, rfl, hQ, h1, h2, h3, h4.mono hc hs⟩
theorem lc_t {x y : Int64} (h : x < y) : ifCond.holds .lt (lcmpW x y) = true ∧ ifCond.holds .ge (lcmpW x y) = false ∧ ifCond.holds .gt (lcmpW y x) = true ∧ ifCond.holds .le (lcmpW y x) = false :=
  have a := tlt ((lw_lt x y).mpr h)
  have b := tlt ((lw_gt y x).mpr h)
  ⟨(if0 _ _).trans a.1, (if0 _ _).trans a.2.1, (if0 _ _).trans b.2.2.1, (if0 _ _).trans b.2.2.2⟩
theorem lc_f {x y : Int64} (h : ¬ x < y) : ifCond.holds .lt (lcmpW x y) = false ∧ ifCond.holds .ge (lcmpW x y) = true ∧ ifCond.holds .gt (lcmpW y x) = false ∧ ifCond.holds .le (lcmpW y x) = true :=
  have a := flt (fun q => h ((lw_lt x y).mp q))
  have b := flt (fun q => h ((lw_gt y x).mp q))
  ⟨(if0 _ _).trans a.1, (if0 _ _).trans a.2.1, (if0 _ _).trans b.2.2.1, (if0 _ _).trans b.2.2.2⟩
theorem le_t {x y : Int64} (h : x = y) : ifCond.holds .eq (lcmpW x y) = true ∧ ifCond.holds .ne (lcmpW x y) = false :=
  have a := teq ((lw_eq x y).mpr h)
  ⟨(if0 _ _).trans a.1, (if0 _ _).trans a.2⟩
theorem le_f {x y : Int64} (h : ¬ x = y) : ifCond.holds .eq (lcmpW x y) = false ∧ ifCond.holds .ne (lcmpW x y) = true :=
  have a := feq (fun q => h ((lw_eq x y).mp q))
  ⟨(if0 _ _).trans a.1, (if0 _ _).trans a.2⟩
end New
end Jvm.RoadKit
namespace Jvm.Pilot.@@N@@
open Jvm Jvm.ClassFile Sem Op Lib Jvm.Free Jvm.Stand Jvm.LawKit Jvm.RoadKit Bundle Jvm.Pilot.@@N@@.Jvm.D
theorem d1_0 : decode prog_5_method_1_code 0 = .ok (.aload_n 0, 1) := by decide +kernel
theorem d1_1 : decode prog_5_method_1_code 1 = .ok (.invokespecial 3, 3) := by decide +kernel
theorem d1_4 : decode prog_5_method_1_code 4 = .ok (.aload_n 0, 1) := by decide +kernel
theorem d1_5 : decode prog_5_method_1_code 5 = .ok (.aload_n 1, 1) := by decide +kernel
theorem d1_6 : decode prog_5_method_1_code 6 = .ok (.putfield 9, 3) := by decide +kernel
theorem d1_9 : decode prog_5_method_1_code 9 = .ok (.aload_n 0, 1) := by decide +kernel
theorem d1_10 : decode prog_5_method_1_code 10 = .ok (.aload_n 2, 1) := by decide +kernel
theorem d1_11 : decode prog_5_method_1_code 11 = .ok (.putfield 15, 3) := by decide +kernel
theorem d1_14 : decode prog_5_method_1_code 14 = .ok (.aload_n 0, 1) := by decide +kernel
theorem d1_15 : decode prog_5_method_1_code 15 = .ok (.aload_n 3, 1) := by decide +kernel
theorem d1_16 : decode prog_5_method_1_code 16 = .ok (.putfield 19, 3) := by decide +kernel
theorem d1_19 : decode prog_5_method_1_code 19 = .ok (.aload_n 0, 1) := by decide +kernel
theorem d1_20 : decode prog_5_method_1_code 20 = .ok (.aload 4, 2) := by decide +kernel
theorem d1_22 : decode prog_5_method_1_code 22 = .ok (.putfield 23, 3) := by decide +kernel
theorem d1_25 : decode prog_5_method_1_code 25 = .ok (.aload_n 0, 1) := by decide +kernel
theorem d1_26 : decode prog_5_method_1_code 26 = .ok (.lload 5, 2) := by decide +kernel
theorem d1_28 : decode prog_5_method_1_code 28 = .ok (.putfield 27, 3) := by decide +kernel
theorem d1_31 : decode prog_5_method_1_code 31 = .ok (.return_, 1) := by decide +kernel
theorem pf_0 : plainFor (⟨"com/example/meisai/meisai/DiameterMessage", "<init>", "(Ljava/lang/String;[B[I[JJ)V"⟩ : MethodName) = true := by decide +kernel
def Q1 (Z : State) (a1 : Addr) (a2 : Addr) (a3 : Addr) (a4 : Addr) (a5 : Addr) (q6 : Int64) (u_path : Value) (u_bytes : Value) (u_pieceStarts : Value) (u_pieceOffsets : Value) (u_time : Value) (h0 : Heap) (n0 : Nat) (v : Option Value) (h : Heap) (L : List Loc) : Prop := v = none ∧ Fr n0 L ∧ Keep h0 h [a1] ∧ Exa Z h a1 "com/example/meisai/meisai/DiameterMessage" ∧ Fld Z h a1 "com/example/meisai/meisai/DiameterMessage" "path" "Ljava/lang/String;" (.ref a2) ∧ Fld Z h a1 "com/example/meisai/meisai/DiameterMessage" "bytes" "[B" (.ref a3) ∧ Fld Z h a1 "com/example/meisai/meisai/DiameterMessage" "pieceStarts" "[I" (.ref a4) ∧ Fld Z h a1 "com/example/meisai/meisai/DiameterMessage" "pieceOffsets" "[J" (.ref a5) ∧ Fld Z h a1 "com/example/meisai/meisai/DiameterMessage" "time" "J" (.long q6)
theorem ef_1 (m : MethodId) (a1 : Addr) (a2 : Addr) (a3 : Addr) (a4 : Addr) (a5 : Addr) (q6 : Int64) : entryFrame m #[(.ref a1), (.ref a2), (.ref a3), (.ref a4), (.ref a5), (.long q6)] 7 = mkF m 0 #[.val (.ref a1), .val (.ref a2), .val (.ref a3), .val (.ref a4), .val (.ref a5), .val (.long q6), .second] [] := by first | (simp [entryFrame, mkF, argsToLocals, Value.category]; done) | rfl
set_option maxRecDepth 65536 in
set_option maxHeartbeats 40000000 in
theorem rm1 (l : Launch) (Z : State) (a0 : Array Value) (hw : ∀ d ∈ tables_1, d.before a0 Z = true) (ws : List Jvm.Cond) (a1 : Addr) (a2 : Addr) (a3 : Addr) (a4 : Addr) (a5 : Addr) (q6 : Int64) (u_path : Value) (u_bytes : Value) (u_pieceStarts : Value) (u_pieceOffsets : Value) (u_time : Value) (h0 : Heap) (n0 : Nat) (Z0 : n0 ≤ h0.size) (E_a1 : Exa Z h0 a1 "com/example/meisai/meisai/DiameterMessage") (F_path : Fld Z h0 a1 "com/example/meisai/meisai/DiameterMessage" "path" "Ljava/lang/String;" u_path) (F_bytes : Fld Z h0 a1 "com/example/meisai/meisai/DiameterMessage" "bytes" "[B" u_bytes) (F_pieceStarts : Fld Z h0 a1 "com/example/meisai/meisai/DiameterMessage" "pieceStarts" "[I" u_pieceStarts) (F_pieceOffsets : Fld Z h0 a1 "com/example/meisai/meisai/DiameterMessage" "pieceOffsets" "[J" u_pieceOffsets) (F_time : Fld Z h0 a1 "com/example/meisai/meisai/DiameterMessage" "time" "J" u_time) (g_a1 : n0 ≤ a1) :
    MetFree l (⟨"com/example/meisai/meisai/DiameterMessage", "<init>", "(Ljava/lang/String;[B[I[JJ)V"⟩ : MethodName) (head1 (Jvm.Cond.code (⟨"com/example/meisai/meisai/DiameterMessage", "<init>", "(Ljava/lang/String;[B[I[JJ)V"⟩ : MethodName) prog_5_method_1_code 7 none :: ws) ({ frames := 1, cells := 0, slots := 0, locals := 12 } : Room)) (fun a U => a = #[(.ref a1), (.ref a2), (.ref a3), (.ref a4), (.ref a5), (.long q6)] ∧ Z.Warmed39 U.vm ∧ U.heap = h0) (fun _ _ _ _ _ => True) (fun _ U o U' => ∃ v L, o = .returned v ∧ Q1 Z a1 a2 a3 a4 a5 q6 u_path u_bytes u_pieceStarts u_pieceOffsets u_time h0 n0 v U'.heap L ∧ FrameEnd U o U' L ({ frames := 1, cells := 0, slots := 0, locals := 12 } : Room).cells ({ frames := 1, cells := 0, slots := 0, locals := 12 } : Room).slots) := by
  refine MetFree.of_bodySF pf_0 hisR ?_
  intro p e s m args below meth c s₁ Bd hml0 hP hK
  obtain ⟨rfl, hZ, hh⟩ := hP
  have hx := Bd.exec
  have hby := Bd.bytes
  have hlk : meth.locks = false := BodyLoose.notSynchronized Bd
  have hml : c.maxLocals = 7 := hml0
  have hown : s.vm.findClass "com/example/meisai/meisai/DiameterMessage" = some m.cls := findClass_of_methodNamed Bd.named
  have hnm := (name_of_methodNamed Bd.named Bd.method).1
  have X0 : Stand p l e ({ frames := 1, cells := 0, slots := 0, locals := 12 } : Room) s m #[(.ref a1), (.ref a2), (.ref a3), (.ref a4), (.ref a5), (.long q6)] below meth c s₁ [] 0 0 := Stand.of_body Bd
  have e0 : s₁.heap = h0 := by rw [← hh, Bd.state]; rfl
  have N0 := Fr.nil n0
  have K0 : Keep h0 h0 [a1] := Keep.refl h0 _
  show Gl p e below s (Q1 Z a1 a2 a3 a4 a5 q6 u_path u_bytes u_pieceStarts u_pieceOffsets u_time h0 n0) ({ frames := 1, cells := 0, slots := 0, locals := 12 } : Room).cells ({ frames := 1, cells := 0, slots := 0, locals := 12 } : Room).slots (s₁.setTop (entryFrame m #[(.ref a1), (.ref a2), (.ref a3), (.ref a4), (.ref a5), (.long q6)] 7))
  rw [ef_1]
  show Gl _ _ _ _ _ _ _ (s₁.setTop (mkF m 0 #[.val (.ref a1), .val (.ref a2), .val (.ref a3), .val (.ref a4), .val (.ref a5), .val (.long q6), .second] []))
  refine Gl.st (fun t k => XS.aloadN X0.here hx rfl (hb hby d1_0) rfl rfl k) ?_
  show Gl _ _ _ _ _ _ _ (s₁.setTop (mkF m 1 #[.val (.ref a1), .val (.ref a2), .val (.ref a3), .val (.ref a4), .val (.ref a5), .val (.long q6), .second] [(.ref a1)]))
  obtain ⟨T1, X1, e1, st1⟩ := initO X0 hx hZ hown (hw _ (List.mem_of_getElem? (i := 16) rfl)) (hw _ (List.mem_of_getElem? (i := 17) rfl)) (hw _ (List.mem_of_getElem? (i := 18) rfl)) e0 (g := (mkF m 1 #[.val (.ref a1), .val (.ref a2), .val (.ref a3), .val (.ref a4), .val (.ref a5), .val (.long q6), .second] [(.ref a1)])) rfl (by rw [hml]; rfl) rfl (hb hby d1_1) (by decide) (W := 0) (by show 2 * 0 + _ ≤ _; exact Nat.le_of_eq rfl) (by decide)
  refine Gl.st st1 ?_
  show Gl _ _ _ _ _ _ _ (T1.setTop (mkF m 4 #[.val (.ref a1), .val (.ref a2), .val (.ref a3), .val (.ref a4), .val (.ref a5), .val (.long q6), .second] []))
  refine Gl.st (fun t k => XS.aloadN X1.here hx rfl (hb hby d1_4) rfl rfl k) ?_
  show Gl _ _ _ _ _ _ _ (T1.setTop (mkF m 5 #[.val (.ref a1), .val (.ref a2), .val (.ref a3), .val (.ref a4), .val (.ref a5), .val (.long q6), .second] [(.ref a1)]))
  refine Gl.st (fun t k => XS.aloadN X1.here hx rfl (hb hby d1_5) rfl rfl k) ?_
  show Gl _ _ _ _ _ _ _ (T1.setTop (mkF m 6 #[.val (.ref a1), .val (.ref a2), .val (.ref a3), .val (.ref a4), .val (.ref a5), .val (.long q6), .second] [(.ref a2), (.ref a1)]))
  obtain ⟨T2, h2, X2, e2, W2, st2⟩ := putF X1 hx hZ hown (host := "") (Or.inl (hw _ (List.mem_of_getElem? (i := 19) rfl))) Via.refl e1 F_path E_a1 (Or.inr ⟨(hw _ (List.mem_of_getElem? (i := 20) rfl)), rfl, hnm⟩) (hw _ (List.mem_of_getElem? (i := 2) rfl)) (ty := (.object "java/lang/String")) (by decide) rfl rfl (g := (mkF m 6 #[.val (.ref a1), .val (.ref a2), .val (.ref a3), .val (.ref a4), .val (.ref a5), .val (.long q6), .second] [(.ref a2), (.ref a1)])) rfl rfl (hb hby d1_6)
  refine Gl.st st2 ?_
  have Z2 : n0 ≤ h2.size := Nat.le_trans Z0 (Keep.of_wr W2).1
  have N2 := Fr.snoc X2 N0 g_a1
  have K2 : Keep h0 h2 [a1] := K0.wr W2 (Or.inl (List.mem_of_getElem? (i := 0) rfl))
  have E_a1'3 : Exa Z h2 a1 "com/example/meisai/meisai/DiameterMessage" := E_a1.wr W2
  have F_bytes'4 : Fld Z h2 a1 "com/example/meisai/meisai/DiameterMessage" "bytes" "[B" u_bytes := F_bytes.other W2 (Or.inr (slot_ne (Or.inr (hw _ (List.mem_of_getElem? (i := 22) rfl))) (Or.inr (hw _ (List.mem_of_getElem? (i := 20) rfl))) (by decide) (t := (.array .byte)) (t' := (.object "java/lang/String")) (by decide) (by decide)))
  have F_pieceStarts'5 : Fld Z h2 a1 "com/example/meisai/meisai/DiameterMessage" "pieceStarts" "[I" u_pieceStarts := F_pieceStarts.other W2 (Or.inr (slot_ne (Or.inr (hw _ (List.mem_of_getElem? (i := 24) rfl))) (Or.inr (hw _ (List.mem_of_getElem? (i := 20) rfl))) (by decide) (t := (.array .int)) (t' := (.object "java/lang/String")) (by decide) (by decide)))
  have F_pieceOffsets'6 : Fld Z h2 a1 "com/example/meisai/meisai/DiameterMessage" "pieceOffsets" "[J" u_pieceOffsets := F_pieceOffsets.other W2 (Or.inr (slot_ne (Or.inr (hw _ (List.mem_of_getElem? (i := 26) rfl))) (Or.inr (hw _ (List.mem_of_getElem? (i := 20) rfl))) (by decide) (t := (.array .long)) (t' := (.object "java/lang/String")) (by decide) (by decide)))
  have F_time'7 : Fld Z h2 a1 "com/example/meisai/meisai/DiameterMessage" "time" "J" u_time := F_time.other W2 (Or.inr (slot_ne (Or.inr (hw _ (List.mem_of_getElem? (i := 28) rfl))) (Or.inr (hw _ (List.mem_of_getElem? (i := 20) rfl))) (by decide) (t := .long) (t' := (.object "java/lang/String")) (by decide) (by decide)))
  have Fw2 : Fld Z h2 a1 "com/example/meisai/meisai/DiameterMessage" "path" "Ljava/lang/String;" (.ref a2) := F_path.same W2
  show Gl _ _ _ _ _ _ _ (T2.setTop (mkF m 9 #[.val (.ref a1), .val (.ref a2), .val (.ref a3), .val (.ref a4), .val (.ref a5), .val (.long q6), .second] []))
  refine Gl.st (fun t k => XS.aloadN X2.here hx rfl (hb hby d1_9) rfl rfl k) ?_
  show Gl _ _ _ _ _ _ _ (T2.setTop (mkF m 10 #[.val (.ref a1), .val (.ref a2), .val (.ref a3), .val (.ref a4), .val (.ref a5), .val (.long q6), .second] [(.ref a1)]))
  refine Gl.st (fun t k => XS.aloadN X2.here hx rfl (hb hby d1_10) rfl rfl k) ?_
  show Gl _ _ _ _ _ _ _ (T2.setTop (mkF m 11 #[.val (.ref a1), .val (.ref a2), .val (.ref a3), .val (.ref a4), .val (.ref a5), .val (.long q6), .second] [(.ref a3), (.ref a1)]))
  obtain ⟨T8, h8, X8, e8, W8, st8⟩ := putF X2 hx hZ hown (host := "") (Or.inl (hw _ (List.mem_of_getElem? (i := 21) rfl))) Via.refl e2 F_bytes'4 E_a1'3 (Or.inr ⟨(hw _ (List.mem_of_getElem? (i := 22) rfl)), rfl, hnm⟩) (hw _ (List.mem_of_getElem? (i := 2) rfl)) (ty := (.array .byte)) (by decide) rfl rfl (g := (mkF m 11 #[.val (.ref a1), .val (.ref a2), .val (.ref a3), .val (.ref a4), .val (.ref a5), .val (.long q6), .second] [(.ref a3), (.ref a1)])) rfl rfl (hb hby d1_11)
  refine Gl.st st8 ?_
  have Z8 : n0 ≤ h8.size := Nat.le_trans Z2 (Keep.of_wr W8).1
  have N8 := Fr.snoc X8 N2 g_a1
  have K8 : Keep h0 h8 [a1] := K2.wr W8 (Or.inl (List.mem_of_getElem? (i := 0) rfl))
  have E_a1'9 : Exa Z h8 a1 "com/example/meisai/meisai/DiameterMessage" := E_a1'3.wr W8
  have Fw2'10 : Fld Z h8 a1 "com/example/meisai/meisai/DiameterMessage" "path" "Ljava/lang/String;" (.ref a2) := Fw2.other W8 (Or.inr (slot_ne (Or.inr (hw _ (List.mem_of_getElem? (i := 20) rfl))) (Or.inr (hw _ (List.mem_of_getElem? (i := 22) rfl))) (by decide) (t := (.object "java/lang/String")) (t' := (.array .byte)) (by decide) (by decide)))
  have F_pieceStarts'11 : Fld Z h8 a1 "com/example/meisai/meisai/DiameterMessage" "pieceStarts" "[I" u_pieceStarts := F_pieceStarts'5.other W8 (Or.inr (slot_ne (Or.inr (hw _ (List.mem_of_getElem? (i := 24) rfl))) (Or.inr (hw _ (List.mem_of_getElem? (i := 22) rfl))) (by decide) (t := (.array .int)) (t' := (.array .byte)) (by decide) (by decide)))
  have F_pieceOffsets'12 : Fld Z h8 a1 "com/example/meisai/meisai/DiameterMessage" "pieceOffsets" "[J" u_pieceOffsets := F_pieceOffsets'6.other W8 (Or.inr (slot_ne (Or.inr (hw _ (List.mem_of_getElem? (i := 26) rfl))) (Or.inr (hw _ (List.mem_of_getElem? (i := 22) rfl))) (by decide) (t := (.array .long)) (t' := (.array .byte)) (by decide) (by decide)))
  have F_time'13 : Fld Z h8 a1 "com/example/meisai/meisai/DiameterMessage" "time" "J" u_time := F_time'7.other W8 (Or.inr (slot_ne (Or.inr (hw _ (List.mem_of_getElem? (i := 28) rfl))) (Or.inr (hw _ (List.mem_of_getElem? (i := 22) rfl))) (by decide) (t := .long) (t' := (.array .byte)) (by decide) (by decide)))
  have Fw8 : Fld Z h8 a1 "com/example/meisai/meisai/DiameterMessage" "bytes" "[B" (.ref a3) := F_bytes'4.same W8
  show Gl _ _ _ _ _ _ _ (T8.setTop (mkF m 14 #[.val (.ref a1), .val (.ref a2), .val (.ref a3), .val (.ref a4), .val (.ref a5), .val (.long q6), .second] []))
  refine Gl.st (fun t k => XS.aloadN X8.here hx rfl (hb hby d1_14) rfl rfl k) ?_
  show Gl _ _ _ _ _ _ _ (T8.setTop (mkF m 15 #[.val (.ref a1), .val (.ref a2), .val (.ref a3), .val (.ref a4), .val (.ref a5), .val (.long q6), .second] [(.ref a1)]))
  refine Gl.st (fun t k => XS.aloadN X8.here hx rfl (hb hby d1_15) rfl rfl k) ?_
  show Gl _ _ _ _ _ _ _ (T8.setTop (mkF m 16 #[.val (.ref a1), .val (.ref a2), .val (.ref a3), .val (.ref a4), .val (.ref a5), .val (.long q6), .second] [(.ref a4), (.ref a1)]))
  obtain ⟨T14, h14, X14, e14, W14, st14⟩ := putF X8 hx hZ hown (host := "") (Or.inl (hw _ (List.mem_of_getElem? (i := 23) rfl))) Via.refl e8 F_pieceStarts'11 E_a1'9 (Or.inr ⟨(hw _ (List.mem_of_getElem? (i := 24) rfl)), rfl, hnm⟩) (hw _ (List.mem_of_getElem? (i := 2) rfl)) (ty := (.array .int)) (by decide) rfl rfl (g := (mkF m 16 #[.val (.ref a1), .val (.ref a2), .val (.ref a3), .val (.ref a4), .val (.ref a5), .val (.long q6), .second] [(.ref a4), (.ref a1)])) rfl rfl (hb hby d1_16)
  refine Gl.st st14 ?_
  have Z14 : n0 ≤ h14.size := Nat.le_trans Z8 (Keep.of_wr W14).1
  have N14 := Fr.snoc X14 N8 g_a1
  have K14 : Keep h0 h14 [a1] := K8.wr W14 (Or.inl (List.mem_of_getElem? (i := 0) rfl))
  have E_a1'15 : Exa Z h14 a1 "com/example/meisai/meisai/DiameterMessage" := E_a1'9.wr W14
  have Fw2'16 : Fld Z h14 a1 "com/example/meisai/meisai/DiameterMessage" "path" "Ljava/lang/String;" (.ref a2) := Fw2'10.other W14 (Or.inr (slot_ne (Or.inr (hw _ (List.mem_of_getElem? (i := 20) rfl))) (Or.inr (hw _ (List.mem_of_getElem? (i := 24) rfl))) (by decide) (t := (.object "java/lang/String")) (t' := (.array .int)) (by decide) (by decide)))
  have Fw8'17 : Fld Z h14 a1 "com/example/meisai/meisai/DiameterMessage" "bytes" "[B" (.ref a3) := Fw8.other W14 (Or.inr (slot_ne (Or.inr (hw _ (List.mem_of_getElem? (i := 22) rfl))) (Or.inr (hw _ (List.mem_of_getElem? (i := 24) rfl))) (by decide) (t := (.array .byte)) (t' := (.array .int)) (by decide) (by decide)))
  have F_pieceOffsets'18 : Fld Z h14 a1 "com/example/meisai/meisai/DiameterMessage" "pieceOffsets" "[J" u_pieceOffsets := F_pieceOffsets'12.other W14 (Or.inr (slot_ne (Or.inr (hw _ (List.mem_of_getElem? (i := 26) rfl))) (Or.inr (hw _ (List.mem_of_getElem? (i := 24) rfl))) (by decide) (t := (.array .long)) (t' := (.array .int)) (by decide) (by decide)))
  have F_time'19 : Fld Z h14 a1 "com/example/meisai/meisai/DiameterMessage" "time" "J" u_time := F_time'13.other W14 (Or.inr (slot_ne (Or.inr (hw _ (List.mem_of_getElem? (i := 28) rfl))) (Or.inr (hw _ (List.mem_of_getElem? (i := 24) rfl))) (by decide) (t := .long) (t' := (.array .int)) (by decide) (by decide)))
  have Fw14 : Fld Z h14 a1 "com/example/meisai/meisai/DiameterMessage" "pieceStarts" "[I" (.ref a4) := F_pieceStarts'11.same W14
  show Gl _ _ _ _ _ _ _ (T14.setTop (mkF m 19 #[.val (.ref a1), .val (.ref a2), .val (.ref a3), .val (.ref a4), .val (.ref a5), .val (.long q6), .second] []))
  refine Gl.st (fun t k => XS.aloadN X14.here hx rfl (hb hby d1_19) rfl rfl k) ?_
  show Gl _ _ _ _ _ _ _ (T14.setTop (mkF m 20 #[.val (.ref a1), .val (.ref a2), .val (.ref a3), .val (.ref a4), .val (.ref a5), .val (.long q6), .second] [(.ref a1)]))
  refine Gl.st (fun t k => XS.aload X14.here hx rfl (hb hby d1_20) rfl rfl k) ?_
  show Gl _ _ _ _ _ _ _ (T14.setTop (mkF m 22 #[.val (.ref a1), .val (.ref a2), .val (.ref a3), .val (.ref a4), .val (.ref a5), .val (.long q6), .second] [(.ref a5), (.ref a1)]))
  obtain ⟨T20, h20, X20, e20, W20, st20⟩ := putF X14 hx hZ hown (host := "") (Or.inl (hw _ (List.mem_of_getElem? (i := 25) rfl))) Via.refl e14 F_pieceOffsets'18 E_a1'15 (Or.inr ⟨(hw _ (List.mem_of_getElem? (i := 26) rfl)), rfl, hnm⟩) (hw _ (List.mem_of_getElem? (i := 2) rfl)) (ty := (.array .long)) (by decide) rfl rfl (g := (mkF m 22 #[.val (.ref a1), .val (.ref a2), .val (.ref a3), .val (.ref a4), .val (.ref a5), .val (.long q6), .second] [(.ref a5), (.ref a1)])) rfl rfl (hb hby d1_22)
  refine Gl.st st20 ?_
  have Z20 : n0 ≤ h20.size := Nat.le_trans Z14 (Keep.of_wr W20).1
  have N20 := Fr.snoc X20 N14 g_a1
  have K20 : Keep h0 h20 [a1] := K14.wr W20 (Or.inl (List.mem_of_getElem? (i := 0) rfl))
  have E_a1'21 : Exa Z h20 a1 "com/example/meisai/meisai/DiameterMessage" := E_a1'15.wr W20
  have Fw2'22 : Fld Z h20 a1 "com/example/meisai/meisai/DiameterMessage" "path" "Ljava/lang/String;" (.ref a2) := Fw2'16.other W20 (Or.inr (slot_ne (Or.inr (hw _ (List.mem_of_getElem? (i := 20) rfl))) (Or.inr (hw _ (List.mem_of_getElem? (i := 26) rfl))) (by decide) (t := (.object "java/lang/String")) (t' := (.array .long)) (by decide) (by decide)))
  have Fw8'23 : Fld Z h20 a1 "com/example/meisai/meisai/DiameterMessage" "bytes" "[B" (.ref a3) := Fw8'17.other W20 (Or.inr (slot_ne (Or.inr (hw _ (List.mem_of_getElem? (i := 22) rfl))) (Or.inr (hw _ (List.mem_of_getElem? (i := 26) rfl))) (by decide) (t := (.array .byte)) (t' := (.array .long)) (by decide) (by decide)))
  have Fw14'24 : Fld Z h20 a1 "com/example/meisai/meisai/DiameterMessage" "pieceStarts" "[I" (.ref a4) := Fw14.other W20 (Or.inr (slot_ne (Or.inr (hw _ (List.mem_of_getElem? (i := 24) rfl))) (Or.inr (hw _ (List.mem_of_getElem? (i := 26) rfl))) (by decide) (t := (.array .int)) (t' := (.array .long)) (by decide) (by decide)))
  have F_time'25 : Fld Z h20 a1 "com/example/meisai/meisai/DiameterMessage" "time" "J" u_time := F_time'19.other W20 (Or.inr (slot_ne (Or.inr (hw _ (List.mem_of_getElem? (i := 28) rfl))) (Or.inr (hw _ (List.mem_of_getElem? (i := 26) rfl))) (by decide) (t := .long) (t' := (.array .long)) (by decide) (by decide)))
  have Fw20 : Fld Z h20 a1 "com/example/meisai/meisai/DiameterMessage" "pieceOffsets" "[J" (.ref a5) := F_pieceOffsets'18.same W20
  show Gl _ _ _ _ _ _ _ (T20.setTop (mkF m 25 #[.val (.ref a1), .val (.ref a2), .val (.ref a3), .val (.ref a4), .val (.ref a5), .val (.long q6), .second] []))
  refine Gl.st (fun t k => XS.aloadN X20.here hx rfl (hb hby d1_25) rfl rfl k) ?_
  show Gl _ _ _ _ _ _ _ (T20.setTop (mkF m 26 #[.val (.ref a1), .val (.ref a2), .val (.ref a3), .val (.ref a4), .val (.ref a5), .val (.long q6), .second] [(.ref a1)]))
  refine Gl.st (fun t k => XS.lload X20.here hx rfl (hb hby d1_26) rfl  k) ?_
  show Gl _ _ _ _ _ _ _ (T20.setTop (mkF m 28 #[.val (.ref a1), .val (.ref a2), .val (.ref a3), .val (.ref a4), .val (.ref a5), .val (.long q6), .second] [(.long q6), (.ref a1)]))
  obtain ⟨T26, h26, X26, e26, W26, st26⟩ := putF X20 hx hZ hown (host := "") (Or.inl (hw _ (List.mem_of_getElem? (i := 27) rfl))) Via.refl e20 F_time'25 E_a1'21 (Or.inr ⟨(hw _ (List.mem_of_getElem? (i := 28) rfl)), rfl, hnm⟩) (hw _ (List.mem_of_getElem? (i := 2) rfl)) (ty := .long) (by decide) rfl rfl (g := (mkF m 28 #[.val (.ref a1), .val (.ref a2), .val (.ref a3), .val (.ref a4), .val (.ref a5), .val (.long q6), .second] [(.long q6), (.ref a1)])) rfl rfl (hb hby d1_28)
  refine Gl.st st26 ?_
  have Z26 : n0 ≤ h26.size := Nat.le_trans Z20 (Keep.of_wr W26).1
  have N26 := Fr.snoc X26 N20 g_a1
  have K26 : Keep h0 h26 [a1] := K20.wr W26 (Or.inl (List.mem_of_getElem? (i := 0) rfl))
  have E_a1'27 : Exa Z h26 a1 "com/example/meisai/meisai/DiameterMessage" := E_a1'21.wr W26
  have Fw2'28 : Fld Z h26 a1 "com/example/meisai/meisai/DiameterMessage" "path" "Ljava/lang/String;" (.ref a2) := Fw2'22.other W26 (Or.inr (slot_ne (Or.inr (hw _ (List.mem_of_getElem? (i := 20) rfl))) (Or.inr (hw _ (List.mem_of_getElem? (i := 28) rfl))) (by decide) (t := (.object "java/lang/String")) (t' := .long) (by decide) (by decide)))
  have Fw8'29 : Fld Z h26 a1 "com/example/meisai/meisai/DiameterMessage" "bytes" "[B" (.ref a3) := Fw8'23.other W26 (Or.inr (slot_ne (Or.inr (hw _ (List.mem_of_getElem? (i := 22) rfl))) (Or.inr (hw _ (List.mem_of_getElem? (i := 28) rfl))) (by decide) (t := (.array .byte)) (t' := .long) (by decide) (by decide)))
  have Fw14'30 : Fld Z h26 a1 "com/example/meisai/meisai/DiameterMessage" "pieceStarts" "[I" (.ref a4) := Fw14'24.other W26 (Or.inr (slot_ne (Or.inr (hw _ (List.mem_of_getElem? (i := 24) rfl))) (Or.inr (hw _ (List.mem_of_getElem? (i := 28) rfl))) (by decide) (t := (.array .int)) (t' := .long) (by decide) (by decide)))
  have Fw20'31 : Fld Z h26 a1 "com/example/meisai/meisai/DiameterMessage" "pieceOffsets" "[J" (.ref a5) := Fw20.other W26 (Or.inr (slot_ne (Or.inr (hw _ (List.mem_of_getElem? (i := 26) rfl))) (Or.inr (hw _ (List.mem_of_getElem? (i := 28) rfl))) (by decide) (t := (.array .long)) (t' := .long) (by decide) (by decide)))
  have Fw26 : Fld Z h26 a1 "com/example/meisai/meisai/DiameterMessage" "time" "J" (.long q6) := F_time'25.same W26
  show Gl _ _ _ _ _ _ _ (T26.setTop (mkF m 31 #[.val (.ref a1), .val (.ref a2), .val (.ref a3), .val (.ref a4), .val (.ref a5), .val (.long q6), .second] []))
  exact Gl.retV X26 hx hlk Bd.returns (hb hby d1_31) (by
        rw [e26]
        exact ⟨rfl, N26, K26, E_a1'27, Fw2'28, Fw8'29, Fw14'30, Fw20'31, Fw26⟩) (by decide) (by decide)
def own_req (w4 : Int32) : Int32 := (if (w4 &&& (128 : Int32)) = (0 : Int32) then (nar .boolean (0 : Int32)) else (nar .boolean (1 : Int32)))
theorem d3_0 : decode prog_5_method_3_code 0 = .ok (.aload_n 0, 1) := by decide +kernel
theorem d3_1 : decode prog_5_method_3_code 1 = .ok (.getfield 15, 3) := by decide +kernel
theorem d3_4 : decode prog_5_method_3_code 4 = .ok (.iconst 4, 1) := by decide +kernel
theorem d3_5 : decode prog_5_method_3_code 5 = .ok (.baload, 1) := by decide +kernel
theorem d3_6 : decode prog_5_method_3_code 6 = .ok (.sipush 128, 3) := by decide +kernel
theorem d3_9 : decode prog_5_method_3_code 9 = .ok (.iand, 1) := by decide +kernel
theorem d3_10 : decode prog_5_method_3_code 10 = .ok (.ifCond .eq 7, 3) := by decide +kernel
theorem d3_13 : decode prog_5_method_3_code 13 = .ok (.iconst 1, 1) := by decide +kernel
theorem d3_14 : decode prog_5_method_3_code 14 = .ok (.goto 4, 3) := by decide +kernel
theorem d3_17 : decode prog_5_method_3_code 17 = .ok (.iconst 0, 1) := by decide +kernel
theorem d3_18 : decode prog_5_method_3_code 18 = .ok (.ireturn, 1) := by decide +kernel
theorem pf_1 : plainFor (⟨"com/example/meisai/meisai/DiameterMessage", "isRequest", "()Z"⟩ : MethodName) = true := by decide +kernel
def Q3 (Z : State) (a1 : Addr) (ca : Addr) (ck : ClassId) (w0 : Int32) (w1 : Int32) (w2 : Int32) (w3 : Int32) (w4 : Int32) (w5 : Int32) (w6 : Int32) (w7 : Int32) (w8 : Int32) (w9 : Int32) (w10 : Int32) (w11 : Int32) (w12 : Int32) (w13 : Int32) (w14 : Int32) (w15 : Int32) (w16 : Int32) (w17 : Int32) (w18 : Int32) (w19 : Int32) (h0 : Heap) (n0 : Nat) (v : Option Value) (h : Heap) (L : List Loc) : Prop := v = some (.int (own_req w4)) ∧ Fr n0 L ∧ h = h0
theorem ef_3 (m : MethodId) (a1 : Addr) : entryFrame m #[(.ref a1)] 1 = mkF m 0 #[.val (.ref a1)] [] := by first | (simp [entryFrame, mkF, argsToLocals, Value.category]; done) | rfl
set_option maxRecDepth 65536 in
set_option maxHeartbeats 40000000 in
theorem rm3 (l : Launch) (Z : State) (a0 : Array Value) (hw : ∀ d ∈ tables_1, d.before a0 Z = true) (ws : List Jvm.Cond) (a1 : Addr) (ca : Addr) (ck : ClassId) (w0 : Int32) (w1 : Int32) (w2 : Int32) (w3 : Int32) (w4 : Int32) (w5 : Int32) (w6 : Int32) (w7 : Int32) (w8 : Int32) (w9 : Int32) (w10 : Int32) (w11 : Int32) (w12 : Int32) (w13 : Int32) (w14 : Int32) (w15 : Int32) (w16 : Int32) (w17 : Int32) (w18 : Int32) (w19 : Int32) (h0 : Heap) (n0 : Nat) (Fc : Fld Z h0 a1 "com/example/meisai/meisai/DiameterMessage" "bytes" "[B" (.ref ca)) (Vc : Arv Z h0 ca ck .byte (20 : Int32) [(.int w0), (.int w1), (.int w2), (.int w3), (.int w4), (.int w5), (.int w6), (.int w7), (.int w8), (.int w9), (.int w10), (.int w11), (.int w12), (.int w13), (.int w14), (.int w15), (.int w16), (.int w17), (.int w18), (.int w19)] (.int (0 : Int32))) :
    MetFree l (⟨"com/example/meisai/meisai/DiameterMessage", "isRequest", "()Z"⟩ : MethodName) (head1 (Jvm.Cond.code (⟨"com/example/meisai/meisai/DiameterMessage", "isRequest", "()Z"⟩ : MethodName) prog_5_method_3_code 1 (some .boolean) :: ws) ({ frames := 0, cells := 0, slots := 0, locals := 0 } : Room)) (fun a U => a = #[(.ref a1)] ∧ Z.Warmed39 U.vm ∧ U.heap = h0) (fun _ _ _ _ _ => True) (fun _ U o U' => ∃ v L, o = .returned v ∧ Q3 Z a1 ca ck w0 w1 w2 w3 w4 w5 w6 w7 w8 w9 w10 w11 w12 w13 w14 w15 w16 w17 w18 w19 h0 n0 v U'.heap L ∧ FrameEnd U o U' L ({ frames := 0, cells := 0, slots := 0, locals := 0 } : Room).cells ({ frames := 0, cells := 0, slots := 0, locals := 0 } : Room).slots) := by
  refine MetFree.of_bodySF pf_1 hisR ?_
  intro p e s m args below meth c s₁ Bd hml0 hP hK
  obtain ⟨rfl, hZ, hh⟩ := hP
  have hx := Bd.exec
  have hby := Bd.bytes
  have hlk : meth.locks = false := BodyLoose.notSynchronized Bd
  have hml : c.maxLocals = 1 := hml0
  have hown : s.vm.findClass "com/example/meisai/meisai/DiameterMessage" = some m.cls := findClass_of_methodNamed Bd.named
  have hnm := (name_of_methodNamed Bd.named Bd.method).1
  have X0 : Stand p l e ({ frames := 0, cells := 0, slots := 0, locals := 0 } : Room) s m #[(.ref a1)] below meth c s₁ [] 0 0 := Stand.of_body Bd
  have e0 : s₁.heap = h0 := by rw [← hh, Bd.state]; rfl
  have N0 := Fr.nil n0
  show Gl p e below s (Q3 Z a1 ca ck w0 w1 w2 w3 w4 w5 w6 w7 w8 w9 w10 w11 w12 w13 w14 w15 w16 w17 w18 w19 h0 n0) ({ frames := 0, cells := 0, slots := 0, locals := 0 } : Room).cells ({ frames := 0, cells := 0, slots := 0, locals := 0 } : Room).slots (s₁.setTop (entryFrame m #[(.ref a1)] 1))
  rw [ef_3]
  show Gl _ _ _ _ _ _ _ (s₁.setTop (mkF m 0 #[.val (.ref a1)] []))
  refine Gl.st (fun t k => XS.aloadN X0.here hx rfl (hb hby d3_0) rfl rfl k) ?_
  show Gl _ _ _ _ _ _ _ (s₁.setTop (mkF m 1 #[.val (.ref a1)] [(.ref a1)]))
  obtain ⟨T1, X1, e1, st1⟩ := getF X0 hx hZ hown (host := "") (Or.inl (hw _ (List.mem_of_getElem? (i := 21) rfl))) Via.refl e0 Fc (g := (mkF m 1 #[.val (.ref a1)] [(.ref a1)])) rfl rfl (hb hby d3_1)
  refine Gl.st st1 ?_
  show Gl _ _ _ _ _ _ _ (T1.setTop (mkF m 4 #[.val (.ref a1)] [(.ref ca)]))
  refine Gl.st (fun t k => XS.iconst X1.here hx rfl (hb hby d3_4) k) ?_
  show Gl _ _ _ _ _ _ _ (T1.setTop (mkF m 5 #[.val (.ref a1)] [(.int (4 : Int32)), (.ref ca)]))
  have Vx2 := Vc
  obtain ⟨cl2, Ar2, qk2, S2, M2, H2, G2⟩ := Vx2
  have hin2 : ¬ ((4 : Int32) < 0 ∨ cl2.slots.size ≤ ((4 : Int32)).toNatClampNeg) := inb_of S2 ⟨by decide, by decide⟩
  have hat2 : cl2.slots[((4 : Int32)).toNatClampNeg]? = some (.int w4) := H2.at hin2 rfl
  refine Gl.st (X1.baloadBytes hx (j := (4 : Int32)) (v := (.int w4)) (by rw [e1]; exact Ar2.1) (State.isArrayOf_alike hZ.alike Ar2.2.1) Ar2.2.2 hin2 hat2 (g := (mkF m 5 #[.val (.ref a1)] [(.int (4 : Int32)), (.ref ca)])) rfl rfl (hb hby d3_5)) ?_
  show Gl _ _ _ _ _ _ _ (T1.setTop (mkF m 6 #[.val (.ref a1)] [(.int w4)]))
  refine Gl.st (fun t k => XS.sipush X1.here hx rfl (hb hby d3_6) k) ?_
  show Gl _ _ _ _ _ _ _ (T1.setTop (mkF m 9 #[.val (.ref a1)] [(.int (128 : Int32)), (.int w4)]))
  refine Gl.st (fun t k => XS.iand X1.here hx rfl (hb hby d3_9) rfl k) ?_
  show Gl _ _ _ _ _ _ _ (T1.setTop (mkF m 10 #[.val (.ref a1)] [(.int (w4 &&& (128 : Int32)))]))
  by_cases hc10 : (w4 &&& (128 : Int32)) = (0 : Int32)
  · refine Gl.st (fun t k => XS.ifYes X1.here hx rfl (pc0 := 10) (pc' := 17) rfl (hb hby d3_10) rfl ((if0 _ _).trans (teq hc10).1) (by decide) (by decide) k) ?_
    show Gl _ _ _ _ _ _ _ (T1.setTop (mkF m 17 #[.val (.ref a1)] []))
    refine Gl.st (fun t k => XS.iconst X1.here hx rfl (hb hby d3_17) k) ?_
    show Gl _ _ _ _ _ _ _ (T1.setTop (mkF m 18 #[.val (.ref a1)] [(.int (0 : Int32))]))
    exact Gl.retN X1 hx hlk Bd.returns (by simp) (hb hby d3_18) (⟨congrArg (fun z => some (Value.int z)) (show (nar .boolean (0 : Int32)) = (own_req w4) from by simp only [own_req, if_pos hc10]), N0, e1⟩) (by decide) (by decide)
  · refine Gl.st (fun t k => XS.ifNo X1.here hx rfl (hb hby d3_10) rfl ((if0 _ _).trans (feq hc10).1) k) ?_
    show Gl _ _ _ _ _ _ _ (T1.setTop (mkF m 13 #[.val (.ref a1)] []))
    refine Gl.st (fun t k => XS.iconst X1.here hx rfl (hb hby d3_13) k) ?_
    show Gl _ _ _ _ _ _ _ (T1.setTop (mkF m 14 #[.val (.ref a1)] [(.int (1 : Int32))]))
    refine Gl.st (fun t k => XS.goto X1.here hx rfl (pc0 := 14) (pc' := 18) rfl (hb hby d3_14) (by decide) (by decide) k) ?_
    show Gl _ _ _ _ _ _ _ (T1.setTop (mkF m 18 #[.val (.ref a1)] [(.int (1 : Int32))]))
    exact Gl.retN X1 hx hlk Bd.returns (by simp) (hb hby d3_18) (⟨congrArg (fun z => some (Value.int z)) (show (nar .boolean (1 : Int32)) = (own_req w4) from by simp only [own_req, if_neg hc10]), N0, e1⟩) (by decide) (by decide)
theorem own_bit7 (y : Int32) (h : -128 ≤ y.toInt ∧ y.toInt < 128) : (y &&& (128 : Int32)) = 0 ↔ 0 ≤ y.toInt := by
  have key : ∀ z : Int8, (z.toInt32 &&& (128 : Int32)) = 0 ↔ 0 ≤ z.toInt32.toInt := by
    have : ∀ n : Fin 256, ((Int8.ofBitVec (BitVec.ofFin n)).toInt32 &&& (128 : Int32)) = 0 ↔ 0 ≤ (Int8.ofBitVec (BitVec.ofFin n)).toInt32.toInt := by decide +kernel
    intro z
    exact this z.toBitVec.toFin
  have e : y.toInt8.toInt32 = y := by
    have a := c_i2b y
    rw [← Int32.toInt_inj]
    omega
  rw [← e]
  exact key _
theorem own_flag (x : Int32) : own_req (nar .byte (x.toInt8.toInt32)) = (if (x &&& (255 : Int32)) < (128 : Int32) then (0 : Int32) else (1 : Int32)) := by
  have a := c_mask x 255 8 (by decide) (by decide)
  have b := c_i2b x
  have d := c_i2b (x.toInt8.toInt32)
  have e128 : (128 : Int32).toInt = 128 := by decide
  show own_req (x.toInt8.toInt32.toInt8.toInt32) = _
  generalize x.toInt8.toInt32.toInt8.toInt32 = y at *
  generalize x.toInt8.toInt32 = z at *
  have hy : (y &&& (128 : Int32)) = 0 ↔ 0 ≤ y.toInt := own_bit7 y (by omega)
  unfold own_req
  by_cases h : (y &&& (128 : Int32)) = (0 : Int32)
  · rw [if_pos h, if_pos (by rw [Int32.lt_iff_toInt_lt, e128]; have := hy.mp h; omega)]; rfl
  · rw [if_neg h, if_neg (by rw [Int32.lt_iff_toInt_lt, e128]; have q : ¬ (0 ≤ y.toInt) := fun q => h (hy.mpr q); omega)]; rfl
theorem pf_2 : plainFor (⟨"com/example/meisai/meisai/DiameterMessageIsRequestPinLaw", "law", "(IIJ)Z"⟩ : MethodName) = true := by decide +kernel
def Q0 (Z : State) (p1 : Int32) (p2 : Int32) (q3 : Int64) (h0 : Heap) (n0 : Nat) (v : Option Value) (h : Heap) (L : List Loc) : Prop := v = some (.int 1) ∧ Fr n0 L
theorem ef_0 (m : MethodId) (p1 : Int32) (p2 : Int32) (q3 : Int64) : entryFrame m #[(.int p1), (.int p2), (.long q3)] maxLocals = mkF m 0 #[.val (.int p1), .val (.int p2), .val (.long q3), .second, .unset, .unset, .unset, .unset] [] := by first | (simp [entryFrame, mkF, argsToLocals, Value.category, maxLocals]; done) | rfl
theorem pd_0 : parseMethodDescriptor "(Ljava/lang/String;[B[I[JJ)V" = some ⟨[(.object "java/lang/String"), (.array .byte), (.array .int), (.array .long), .long], none⟩ := by decide +kernel
theorem pd_1 : parseMethodDescriptor "()Z" = some ⟨[], some .boolean⟩ := by decide +kernel
set_option maxRecDepth 65536 in
set_option maxHeartbeats 40000000 in
theorem rm0 (l : Launch) (Z : State) (a0 : Array Value) (hw : ∀ d ∈ tables_1, d.before a0 Z = true) (ws : List Jvm.Cond) (p1 : Int32) (p2 : Int32) (q3 : Int64) (h0 : Heap) (n0 : Nat) (Z0 : n0 ≤ h0.size) :
    MetFree l x (head1 (Jvm.Cond.code x code maxLocals ret :: ws) room_1) (fun a U => a = #[(.int p1), (.int p2), (.long q3)] ∧ Z.Warmed39 U.vm ∧ U.heap = h0) (fun _ _ _ _ _ => True) (fun _ U o U' => ∃ v L, o = .returned v ∧ Q0 Z p1 p2 q3 h0 n0 v U'.heap L ∧ ReturnedEndW U o U' L room_1.cells room_1.slots) := by
  refine MetFree.of_bodySF pf_2 hisR ?_
  intro p e s m args below meth c s₁ Bd hml0 hP hK
  obtain ⟨rfl, hZ, hh⟩ := hP
  have hx := Bd.exec
  have hby := Bd.bytes
  have hlk : meth.locks = false := BodyLoose.notSynchronized Bd
  have hml : c.maxLocals = 8 := hml0
  have hown : s.vm.findClass "com/example/meisai/meisai/DiameterMessageIsRequestPinLaw" = some m.cls := findClass_of_methodNamed Bd.named
  have hnm := (name_of_methodNamed Bd.named Bd.method).1
  have X0 : Stand p l e room_1 s m #[(.int p1), (.int p2), (.long q3)] below meth c s₁ [] 0 0 := Stand.of_body Bd
  have e0 : s₁.heap = h0 := by rw [← hh, Bd.state]; rfl
  have N0 := Fr.nil n0
  show GlW p e below s (Q0 Z p1 p2 q3 h0 n0) room_1.cells room_1.slots (s₁.setTop (entryFrame m #[(.int p1), (.int p2), (.long q3)] maxLocals))
  rw [ef_0]
  show GlW _ _ _ _ _ _ _ (s₁.setTop (mkF m 0 #[.val (.int p1), .val (.int p2), .val (.long q3), .second, .unset, .unset, .unset, .unset] []))
  refine GlW.st (fun t k => XS.bipush X0.here hx rfl (hb hby at_0) k) ?_
  show GlW _ _ _ _ _ _ _ (s₁.setTop (mkF m 2 #[.val (.int p1), .val (.int p2), .val (.long q3), .second, .unset, .unset, .unset, .unset] [(.int (20 : Int32))]))
  obtain ⟨T1, h1, k1, X1, e1, E1, A1, st1⟩ := newP X0 hx hZ (hw _ (List.mem_of_getElem? (i := 0) rfl)) e0 (g := (mkF m 2 #[.val (.int p1), .val (.int p2), .val (.long q3), .second, .unset, .unset, .unset, .unset] [(.int (20 : Int32))])) rfl (hb hby at_2) rfl (by decide) (cap := 20) (by decide) (by decide) (by decide) (by decide)
  obtain ⟨b1, g1⟩ : ∃ z, z = h0.size := ⟨_, rfl⟩
  rw [← g1] at A1 st1
  refine GlW.st st1 ?_
  have gzb1 : n0 ≤ b1 := Nat.le_trans Z0 (Nat.le_of_eq g1.symm)
  have Z1 : n0 ≤ h1.size := Nat.le_trans Z0 E1.1
  have V1 : Arv Z h1 b1 k1 .byte (20 : Int32) [(.int (0 : Int32)), (.int (0 : Int32)), (.int (0 : Int32)), (.int (0 : Int32)), (.int (0 : Int32)), (.int (0 : Int32)), (.int (0 : Int32)), (.int (0 : Int32)), (.int (0 : Int32)), (.int (0 : Int32)), (.int (0 : Int32)), (.int (0 : Int32)), (.int (0 : Int32)), (.int (0 : Int32)), (.int (0 : Int32)), (.int (0 : Int32)), (.int (0 : Int32)), (.int (0 : Int32)), (.int (0 : Int32)), (.int (0 : Int32))] (.int (0 : Int32)) := (Arv.new A1 (by decide)).pad (pad_rep [] (.int (0 : Int32)) 20)
  show GlW _ _ _ _ _ _ _ (T1.setTop (mkF m 4 #[.val (.int p1), .val (.int p2), .val (.long q3), .second, .unset, .unset, .unset, .unset] [(.ref b1)]))
  refine GlW.st (fun t k => XS.astore X1.here hx rfl (hb hby at_4) rfl rfl (l' := #[.val (.int p1), .val (.int p2), .val (.long q3), .second, .val (.ref b1), .unset, .unset, .unset]) rfl k) ?_
  show GlW _ _ _ _ _ _ _ (T1.setTop (mkF m 6 #[.val (.int p1), .val (.int p2), .val (.long q3), .second, .val (.ref b1), .unset, .unset, .unset] []))
  refine GlW.st (fun t k => XS.aload X1.here hx rfl (hb hby at_6) rfl rfl k) ?_
  show GlW _ _ _ _ _ _ _ (T1.setTop (mkF m 8 #[.val (.int p1), .val (.int p2), .val (.long q3), .second, .val (.ref b1), .unset, .unset, .unset] [(.ref b1)]))
  refine GlW.st (fun t k => XS.iconst X1.here hx rfl (hb hby at_8) k) ?_
  show GlW _ _ _ _ _ _ _ (T1.setTop (mkF m 9 #[.val (.int p1), .val (.int p2), .val (.long q3), .second, .val (.ref b1), .unset, .unset, .unset] [(.int (0 : Int32)), (.ref b1)]))
  refine GlW.st (fun t k => XS.iloadN X1.here hx rfl (hb hby at_9) rfl  k) ?_
  show GlW _ _ _ _ _ _ _ (T1.setTop (mkF m 10 #[.val (.int p1), .val (.int p2), .val (.long q3), .second, .val (.ref b1), .unset, .unset, .unset] [(.int p2), (.int (0 : Int32)), (.ref b1)]))
  refine GlW.st (fun t k => XS.i2b X1.here hx rfl (hb hby at_10) rfl k) ?_
  show GlW _ _ _ _ _ _ _ (T1.setTop (mkF m 11 #[.val (.int p1), .val (.int p2), .val (.long q3), .second, .val (.ref b1), .unset, .unset, .unset] [(.int (p2.toInt8.toInt32)), (.int (0 : Int32)), (.ref b1)]))
  have Vx2 := V1
  obtain ⟨cl2, Ar2, qk2, S2, M2, H2, G2⟩ := Vx2
  have hin2 : ¬ ((0 : Int32) < 0 ∨ cl2.slots.size ≤ ((0 : Int32)).toNatClampNeg) := inb_of S2 ⟨by decide, by decide⟩
  obtain ⟨T2, h2, X2, e2, W2, st2⟩ := stB X1 hx hZ e1 Ar2 (j := (0 : Int32)) hin2 (g := (mkF m 11 #[.val (.int p1), .val (.int p2), .val (.long q3), .second, .val (.ref b1), .unset, .unset, .unset] [(.int (p2.toInt8.toInt32)), (.int (0 : Int32)), (.ref b1)])) rfl rfl (hb hby at_11)
  refine GlW.st st2 ?_
  have Z2 : n0 ≤ h2.size := Nat.le_trans Z1 (Keep.of_wr W2).1
  have N2 := Fr.snoc X2 N0 gzb1
  have V2 : Arv Z h2 b1 k1 .byte (20 : Int32) [(.int (nar .byte (p2.toInt8.toInt32))), (.int (0 : Int32)), (.int (0 : Int32)), (.int (0 : Int32)), (.int (0 : Int32)), (.int (0 : Int32)), (.int (0 : Int32)), (.int (0 : Int32)), (.int (0 : Int32)), (.int (0 : Int32)), (.int (0 : Int32)), (.int (0 : Int32)), (.int (0 : Int32)), (.int (0 : Int32)), (.int (0 : Int32)), (.int (0 : Int32)), (.int (0 : Int32)), (.int (0 : Int32)), (.int (0 : Int32)), (.int (0 : Int32))] (.int (0 : Int32)) := Arv.set Ar2 qk2 S2 M2 H2 G2 (fits_nar_byte _) W2 0 rfl (Nat.le_of_ble_eq_true rfl)
  show GlW _ _ _ _ _ _ _ (T2.setTop (mkF m 12 #[.val (.int p1), .val (.int p2), .val (.long q3), .second, .val (.ref b1), .unset, .unset, .unset] []))
  refine GlW.st (fun t k => XS.aload X2.here hx rfl (hb hby at_12) rfl rfl k) ?_
  show GlW _ _ _ _ _ _ _ (T2.setTop (mkF m 14 #[.val (.int p1), .val (.int p2), .val (.long q3), .second, .val (.ref b1), .unset, .unset, .unset] [(.ref b1)]))
  refine GlW.st (fun t k => XS.iconst X2.here hx rfl (hb hby at_14) k) ?_
  show GlW _ _ _ _ _ _ _ (T2.setTop (mkF m 15 #[.val (.int p1), .val (.int p2), .val (.long q3), .second, .val (.ref b1), .unset, .unset, .unset] [(.int (1 : Int32)), (.ref b1)]))
  refine GlW.st (fun t k => XS.iloadN X2.here hx rfl (hb hby at_15) rfl  k) ?_
  show GlW _ _ _ _ _ _ _ (T2.setTop (mkF m 16 #[.val (.int p1), .val (.int p2), .val (.long q3), .second, .val (.ref b1), .unset, .unset, .unset] [(.int p2), (.int (1 : Int32)), (.ref b1)]))
  refine GlW.st (fun t k => XS.bipush X2.here hx rfl (hb hby at_16) k) ?_
  show GlW _ _ _ _ _ _ _ (T2.setTop (mkF m 18 #[.val (.int p1), .val (.int p2), .val (.long q3), .second, .val (.ref b1), .unset, .unset, .unset] [(.int (8 : Int32)), (.int p2), (.int (1 : Int32)), (.ref b1)]))
  refine GlW.st (fun t k => XS.ishr X2.here hx rfl (hb hby at_18) rfl k) ?_
  show GlW _ _ _ _ _ _ _ (T2.setTop (mkF m 19 #[.val (.int p1), .val (.int p2), .val (.long q3), .second, .val (.ref b1), .unset, .unset, .unset] [(.int (p2 >>> ((8 : Int32) &&& 31))), (.int (1 : Int32)), (.ref b1)]))
  refine GlW.st (fun t k => XS.i2b X2.here hx rfl (hb hby at_19) rfl k) ?_
  show GlW _ _ _ _ _ _ _ (T2.setTop (mkF m 20 #[.val (.int p1), .val (.int p2), .val (.long q3), .second, .val (.ref b1), .unset, .unset, .unset] [(.int ((p2 >>> ((8 : Int32) &&& 31)).toInt8.toInt32)), (.int (1 : Int32)), (.ref b1)]))
  have Vx3 := V2
  obtain ⟨cl3, Ar3, qk3, S3, M3, H3, G3⟩ := Vx3
  have hin3 : ¬ ((1 : Int32) < 0 ∨ cl3.slots.size ≤ ((1 : Int32)).toNatClampNeg) := inb_of S3 ⟨by decide, by decide⟩
  obtain ⟨T3, h3, X3, e3, W3, st3⟩ := stB X2 hx hZ e2 Ar3 (j := (1 : Int32)) hin3 (g := (mkF m 20 #[.val (.int p1), .val (.int p2), .val (.long q3), .second, .val (.ref b1), .unset, .unset, .unset] [(.int ((p2 >>> ((8 : Int32) &&& 31)).toInt8.toInt32)), (.int (1 : Int32)), (.ref b1)])) rfl rfl (hb hby at_20)
  refine GlW.st st3 ?_
  have Z3 : n0 ≤ h3.size := Nat.le_trans Z2 (Keep.of_wr W3).1
  have N3 := Fr.snoc X3 N2 gzb1
  have V3 : Arv Z h3 b1 k1 .byte (20 : Int32) [(.int (nar .byte (p2.toInt8.toInt32))), (.int (nar .byte ((p2 >>> ((8 : Int32) &&& 31)).toInt8.toInt32))), (.int (0 : Int32)), (.int (0 : Int32)), (.int (0 : Int32)), (.int (0 : Int32)), (.int (0 : Int32)), (.int (0 : Int32)), (.int (0 : Int32)), (.int (0 : Int32)), (.int (0 : Int32)), (.int (0 : Int32)), (.int (0 : Int32)), (.int (0 : Int32)), (.int (0 : Int32)), (.int (0 : Int32)), (.int (0 : Int32)), (.int (0 : Int32)), (.int (0 : Int32)), (.int (0 : Int32))] (.int (0 : Int32)) := Arv.set Ar3 qk3 S3 M3 H3 G3 (fits_nar_byte _) W3 1 rfl (Nat.le_of_ble_eq_true rfl)
  show GlW _ _ _ _ _ _ _ (T3.setTop (mkF m 21 #[.val (.int p1), .val (.int p2), .val (.long q3), .second, .val (.ref b1), .unset, .unset, .unset] []))
  refine GlW.st (fun t k => XS.aload X3.here hx rfl (hb hby at_21) rfl rfl k) ?_
  show GlW _ _ _ _ _ _ _ (T3.setTop (mkF m 23 #[.val (.int p1), .val (.int p2), .val (.long q3), .second, .val (.ref b1), .unset, .unset, .unset] [(.ref b1)]))
  refine GlW.st (fun t k => XS.iconst X3.here hx rfl (hb hby at_23) k) ?_
  show GlW _ _ _ _ _ _ _ (T3.setTop (mkF m 24 #[.val (.int p1), .val (.int p2), .val (.long q3), .second, .val (.ref b1), .unset, .unset, .unset] [(.int (2 : Int32)), (.ref b1)]))
  refine GlW.st (fun t k => XS.iloadN X3.here hx rfl (hb hby at_24) rfl  k) ?_
  show GlW _ _ _ _ _ _ _ (T3.setTop (mkF m 25 #[.val (.int p1), .val (.int p2), .val (.long q3), .second, .val (.ref b1), .unset, .unset, .unset] [(.int p2), (.int (2 : Int32)), (.ref b1)]))
  refine GlW.st (fun t k => XS.bipush X3.here hx rfl (hb hby at_25) k) ?_
  show GlW _ _ _ _ _ _ _ (T3.setTop (mkF m 27 #[.val (.int p1), .val (.int p2), .val (.long q3), .second, .val (.ref b1), .unset, .unset, .unset] [(.int (16 : Int32)), (.int p2), (.int (2 : Int32)), (.ref b1)]))
  refine GlW.st (fun t k => XS.ishr X3.here hx rfl (hb hby at_27) rfl k) ?_
  show GlW _ _ _ _ _ _ _ (T3.setTop (mkF m 28 #[.val (.int p1), .val (.int p2), .val (.long q3), .second, .val (.ref b1), .unset, .unset, .unset] [(.int (p2 >>> ((16 : Int32) &&& 31))), (.int (2 : Int32)), (.ref b1)]))
  refine GlW.st (fun t k => XS.i2b X3.here hx rfl (hb hby at_28) rfl k) ?_
  show GlW _ _ _ _ _ _ _ (T3.setTop (mkF m 29 #[.val (.int p1), .val (.int p2), .val (.long q3), .second, .val (.ref b1), .unset, .unset, .unset] [(.int ((p2 >>> ((16 : Int32) &&& 31)).toInt8.toInt32)), (.int (2 : Int32)), (.ref b1)]))
  have Vx4 := V3
  obtain ⟨cl4, Ar4, qk4, S4, M4, H4, G4⟩ := Vx4
  have hin4 : ¬ ((2 : Int32) < 0 ∨ cl4.slots.size ≤ ((2 : Int32)).toNatClampNeg) := inb_of S4 ⟨by decide, by decide⟩
  obtain ⟨T4, h4, X4, e4, W4, st4⟩ := stB X3 hx hZ e3 Ar4 (j := (2 : Int32)) hin4 (g := (mkF m 29 #[.val (.int p1), .val (.int p2), .val (.long q3), .second, .val (.ref b1), .unset, .unset, .unset] [(.int ((p2 >>> ((16 : Int32) &&& 31)).toInt8.toInt32)), (.int (2 : Int32)), (.ref b1)])) rfl rfl (hb hby at_29)
  refine GlW.st st4 ?_
  have Z4 : n0 ≤ h4.size := Nat.le_trans Z3 (Keep.of_wr W4).1
  have N4 := Fr.snoc X4 N3 gzb1
  have V4 : Arv Z h4 b1 k1 .byte (20 : Int32) [(.int (nar .byte (p2.toInt8.toInt32))), (.int (nar .byte ((p2 >>> ((8 : Int32) &&& 31)).toInt8.toInt32))), (.int (nar .byte ((p2 >>> ((16 : Int32) &&& 31)).toInt8.toInt32))), (.int (0 : Int32)), (.int (0 : Int32)), (.int (0 : Int32)), (.int (0 : Int32)), (.int (0 : Int32)), (.int (0 : Int32)), (.int (0 : Int32)), (.int (0 : Int32)), (.int (0 : Int32)), (.int (0 : Int32)), (.int (0 : Int32)), (.int (0 : Int32)), (.int (0 : Int32)), (.int (0 : Int32)), (.int (0 : Int32)), (.int (0 : Int32)), (.int (0 : Int32))] (.int (0 : Int32)) := Arv.set Ar4 qk4 S4 M4 H4 G4 (fits_nar_byte _) W4 2 rfl (Nat.le_of_ble_eq_true rfl)
  show GlW _ _ _ _ _ _ _ (T4.setTop (mkF m 30 #[.val (.int p1), .val (.int p2), .val (.long q3), .second, .val (.ref b1), .unset, .unset, .unset] []))
  refine GlW.st (fun t k => XS.aload X4.here hx rfl (hb hby at_30) rfl rfl k) ?_
  show GlW _ _ _ _ _ _ _ (T4.setTop (mkF m 32 #[.val (.int p1), .val (.int p2), .val (.long q3), .second, .val (.ref b1), .unset, .unset, .unset] [(.ref b1)]))
  refine GlW.st (fun t k => XS.iconst X4.here hx rfl (hb hby at_32) k) ?_
  show GlW _ _ _ _ _ _ _ (T4.setTop (mkF m 33 #[.val (.int p1), .val (.int p2), .val (.long q3), .second, .val (.ref b1), .unset, .unset, .unset] [(.int (3 : Int32)), (.ref b1)]))
  refine GlW.st (fun t k => XS.iloadN X4.here hx rfl (hb hby at_33) rfl  k) ?_
  show GlW _ _ _ _ _ _ _ (T4.setTop (mkF m 34 #[.val (.int p1), .val (.int p2), .val (.long q3), .second, .val (.ref b1), .unset, .unset, .unset] [(.int p2), (.int (3 : Int32)), (.ref b1)]))
  refine GlW.st (fun t k => XS.bipush X4.here hx rfl (hb hby at_34) k) ?_
  show GlW _ _ _ _ _ _ _ (T4.setTop (mkF m 36 #[.val (.int p1), .val (.int p2), .val (.long q3), .second, .val (.ref b1), .unset, .unset, .unset] [(.int (24 : Int32)), (.int p2), (.int (3 : Int32)), (.ref b1)]))
  refine GlW.st (fun t k => XS.ishr X4.here hx rfl (hb hby at_36) rfl k) ?_
  show GlW _ _ _ _ _ _ _ (T4.setTop (mkF m 37 #[.val (.int p1), .val (.int p2), .val (.long q3), .second, .val (.ref b1), .unset, .unset, .unset] [(.int (p2 >>> ((24 : Int32) &&& 31))), (.int (3 : Int32)), (.ref b1)]))
  refine GlW.st (fun t k => XS.i2b X4.here hx rfl (hb hby at_37) rfl k) ?_
  show GlW _ _ _ _ _ _ _ (T4.setTop (mkF m 38 #[.val (.int p1), .val (.int p2), .val (.long q3), .second, .val (.ref b1), .unset, .unset, .unset] [(.int ((p2 >>> ((24 : Int32) &&& 31)).toInt8.toInt32)), (.int (3 : Int32)), (.ref b1)]))
  have Vx5 := V4
  obtain ⟨cl5, Ar5, qk5, S5, M5, H5, G5⟩ := Vx5
  have hin5 : ¬ ((3 : Int32) < 0 ∨ cl5.slots.size ≤ ((3 : Int32)).toNatClampNeg) := inb_of S5 ⟨by decide, by decide⟩
  obtain ⟨T5, h5, X5, e5, W5, st5⟩ := stB X4 hx hZ e4 Ar5 (j := (3 : Int32)) hin5 (g := (mkF m 38 #[.val (.int p1), .val (.int p2), .val (.long q3), .second, .val (.ref b1), .unset, .unset, .unset] [(.int ((p2 >>> ((24 : Int32) &&& 31)).toInt8.toInt32)), (.int (3 : Int32)), (.ref b1)])) rfl rfl (hb hby at_38)
  refine GlW.st st5 ?_
  have Z5 : n0 ≤ h5.size := Nat.le_trans Z4 (Keep.of_wr W5).1
  have N5 := Fr.snoc X5 N4 gzb1
  have V5 : Arv Z h5 b1 k1 .byte (20 : Int32) [(.int (nar .byte (p2.toInt8.toInt32))), (.int (nar .byte ((p2 >>> ((8 : Int32) &&& 31)).toInt8.toInt32))), (.int (nar .byte ((p2 >>> ((16 : Int32) &&& 31)).toInt8.toInt32))), (.int (nar .byte ((p2 >>> ((24 : Int32) &&& 31)).toInt8.toInt32))), (.int (0 : Int32)), (.int (0 : Int32)), (.int (0 : Int32)), (.int (0 : Int32)), (.int (0 : Int32)), (.int (0 : Int32)), (.int (0 : Int32)), (.int (0 : Int32)), (.int (0 : Int32)), (.int (0 : Int32)), (.int (0 : Int32)), (.int (0 : Int32)), (.int (0 : Int32)), (.int (0 : Int32)), (.int (0 : Int32)), (.int (0 : Int32))] (.int (0 : Int32)) := Arv.set Ar5 qk5 S5 M5 H5 G5 (fits_nar_byte _) W5 3 rfl (Nat.le_of_ble_eq_true rfl)
  show GlW _ _ _ _ _ _ _ (T5.setTop (mkF m 39 #[.val (.int p1), .val (.int p2), .val (.long q3), .second, .val (.ref b1), .unset, .unset, .unset] []))
  refine GlW.st (fun t k => XS.aload X5.here hx rfl (hb hby at_39) rfl rfl k) ?_
  show GlW _ _ _ _ _ _ _ (T5.setTop (mkF m 41 #[.val (.int p1), .val (.int p2), .val (.long q3), .second, .val (.ref b1), .unset, .unset, .unset] [(.ref b1)]))
  refine GlW.st (fun t k => XS.iconst X5.here hx rfl (hb hby at_41) k) ?_
  show GlW _ _ _ _ _ _ _ (T5.setTop (mkF m 42 #[.val (.int p1), .val (.int p2), .val (.long q3), .second, .val (.ref b1), .unset, .unset, .unset] [(.int (4 : Int32)), (.ref b1)]))
  refine GlW.st (fun t k => XS.iloadN X5.here hx rfl (hb hby at_42) rfl  k) ?_
  show GlW _ _ _ _ _ _ _ (T5.setTop (mkF m 43 #[.val (.int p1), .val (.int p2), .val (.long q3), .second, .val (.ref b1), .unset, .unset, .unset] [(.int p1), (.int (4 : Int32)), (.ref b1)]))
  refine GlW.st (fun t k => XS.i2b X5.here hx rfl (hb hby at_43) rfl k) ?_
  show GlW _ _ _ _ _ _ _ (T5.setTop (mkF m 44 #[.val (.int p1), .val (.int p2), .val (.long q3), .second, .val (.ref b1), .unset, .unset, .unset] [(.int (p1.toInt8.toInt32)), (.int (4 : Int32)), (.ref b1)]))
  have Vx6 := V5
  obtain ⟨cl6, Ar6, qk6, S6, M6, H6, G6⟩ := Vx6
  have hin6 : ¬ ((4 : Int32) < 0 ∨ cl6.slots.size ≤ ((4 : Int32)).toNatClampNeg) := inb_of S6 ⟨by decide, by decide⟩
  obtain ⟨T6, h6, X6, e6, W6, st6⟩ := stB X5 hx hZ e5 Ar6 (j := (4 : Int32)) hin6 (g := (mkF m 44 #[.val (.int p1), .val (.int p2), .val (.long q3), .second, .val (.ref b1), .unset, .unset, .unset] [(.int (p1.toInt8.toInt32)), (.int (4 : Int32)), (.ref b1)])) rfl rfl (hb hby at_44)
  refine GlW.st st6 ?_
  have Z6 : n0 ≤ h6.size := Nat.le_trans Z5 (Keep.of_wr W6).1
  have N6 := Fr.snoc X6 N5 gzb1
  have V6 : Arv Z h6 b1 k1 .byte (20 : Int32) [(.int (nar .byte (p2.toInt8.toInt32))), (.int (nar .byte ((p2 >>> ((8 : Int32) &&& 31)).toInt8.toInt32))), (.int (nar .byte ((p2 >>> ((16 : Int32) &&& 31)).toInt8.toInt32))), (.int (nar .byte ((p2 >>> ((24 : Int32) &&& 31)).toInt8.toInt32))), (.int (nar .byte (p1.toInt8.toInt32))), (.int (0 : Int32)), (.int (0 : Int32)), (.int (0 : Int32)), (.int (0 : Int32)), (.int (0 : Int32)), (.int (0 : Int32)), (.int (0 : Int32)), (.int (0 : Int32)), (.int (0 : Int32)), (.int (0 : Int32)), (.int (0 : Int32)), (.int (0 : Int32)), (.int (0 : Int32)), (.int (0 : Int32)), (.int (0 : Int32))] (.int (0 : Int32)) := Arv.set Ar6 qk6 S6 M6 H6 G6 (fits_nar_byte _) W6 4 rfl (Nat.le_of_ble_eq_true rfl)
  show GlW _ _ _ _ _ _ _ (T6.setTop (mkF m 45 #[.val (.int p1), .val (.int p2), .val (.long q3), .second, .val (.ref b1), .unset, .unset, .unset] []))
  refine GlW.st (fun t k => XS.aload X6.here hx rfl (hb hby at_45) rfl rfl k) ?_
  show GlW _ _ _ _ _ _ _ (T6.setTop (mkF m 47 #[.val (.int p1), .val (.int p2), .val (.long q3), .second, .val (.ref b1), .unset, .unset, .unset] [(.ref b1)]))
  refine GlW.st (fun t k => XS.iconst X6.here hx rfl (hb hby at_47) k) ?_
  show GlW _ _ _ _ _ _ _ (T6.setTop (mkF m 48 #[.val (.int p1), .val (.int p2), .val (.long q3), .second, .val (.ref b1), .unset, .unset, .unset] [(.int (5 : Int32)), (.ref b1)]))
  refine GlW.st (fun t k => XS.lloadN X6.here hx rfl (hb hby at_48) rfl  k) ?_
  show GlW _ _ _ _ _ _ _ (T6.setTop (mkF m 49 #[.val (.int p1), .val (.int p2), .val (.long q3), .second, .val (.ref b1), .unset, .unset, .unset] [(.long q3), (.int (5 : Int32)), (.ref b1)]))
  refine GlW.st (fun t k => XS.l2i X6.here hx rfl (hb hby at_49) rfl k) ?_
  show GlW _ _ _ _ _ _ _ (T6.setTop (mkF m 50 #[.val (.int p1), .val (.int p2), .val (.long q3), .second, .val (.ref b1), .unset, .unset, .unset] [(.int (q3.toInt32)), (.int (5 : Int32)), (.ref b1)]))
  refine GlW.st (fun t k => XS.i2b X6.here hx rfl (hb hby at_50) rfl k) ?_
  show GlW _ _ _ _ _ _ _ (T6.setTop (mkF m 51 #[.val (.int p1), .val (.int p2), .val (.long q3), .second, .val (.ref b1), .unset, .unset, .unset] [(.int ((q3.toInt32).toInt8.toInt32)), (.int (5 : Int32)), (.ref b1)]))
  have Vx7 := V6
  obtain ⟨cl7, Ar7, qk7, S7, M7, H7, G7⟩ := Vx7
  have hin7 : ¬ ((5 : Int32) < 0 ∨ cl7.slots.size ≤ ((5 : Int32)).toNatClampNeg) := inb_of S7 ⟨by decide, by decide⟩
  obtain ⟨T7, h7, X7, e7, W7, st7⟩ := stB X6 hx hZ e6 Ar7 (j := (5 : Int32)) hin7 (g := (mkF m 51 #[.val (.int p1), .val (.int p2), .val (.long q3), .second, .val (.ref b1), .unset, .unset, .unset] [(.int ((q3.toInt32).toInt8.toInt32)), (.int (5 : Int32)), (.ref b1)])) rfl rfl (hb hby at_51)
  refine GlW.st st7 ?_
  have Z7 : n0 ≤ h7.size := Nat.le_trans Z6 (Keep.of_wr W7).1
  have N7 := Fr.snoc X7 N6 gzb1
  have V7 : Arv Z h7 b1 k1 .byte (20 : Int32) [(.int (nar .byte (p2.toInt8.toInt32))), (.int (nar .byte ((p2 >>> ((8 : Int32) &&& 31)).toInt8.toInt32))), (.int (nar .byte ((p2 >>> ((16 : Int32) &&& 31)).toInt8.toInt32))), (.int (nar .byte ((p2 >>> ((24 : Int32) &&& 31)).toInt8.toInt32))), (.int (nar .byte (p1.toInt8.toInt32))), (.int (nar .byte ((q3.toInt32).toInt8.toInt32))), (.int (0 : Int32)), (.int (0 : Int32)), (.int (0 : Int32)), (.int (0 : Int32)), (.int (0 : Int32)), (.int (0 : Int32)), (.int (0 : Int32)), (.int (0 : Int32)), (.int (0 : Int32)), (.int (0 : Int32)), (.int (0 : Int32)), (.int (0 : Int32)), (.int (0 : Int32)), (.int (0 : Int32))] (.int (0 : Int32)) := Arv.set Ar7 qk7 S7 M7 H7 G7 (fits_nar_byte _) W7 5 rfl (Nat.le_of_ble_eq_true rfl)
  show GlW _ _ _ _ _ _ _ (T7.setTop (mkF m 52 #[.val (.int p1), .val (.int p2), .val (.long q3), .second, .val (.ref b1), .unset, .unset, .unset] []))
  refine GlW.st (fun t k => XS.aload X7.here hx rfl (hb hby at_52) rfl rfl k) ?_
  show GlW _ _ _ _ _ _ _ (T7.setTop (mkF m 54 #[.val (.int p1), .val (.int p2), .val (.long q3), .second, .val (.ref b1), .unset, .unset, .unset] [(.ref b1)]))
  refine GlW.st (fun t k => XS.bipush X7.here hx rfl (hb hby at_54) k) ?_
  show GlW _ _ _ _ _ _ _ (T7.setTop (mkF m 56 #[.val (.int p1), .val (.int p2), .val (.long q3), .second, .val (.ref b1), .unset, .unset, .unset] [(.int (6 : Int32)), (.ref b1)]))
  refine GlW.st (fun t k => XS.lloadN X7.here hx rfl (hb hby at_56) rfl  k) ?_
  show GlW _ _ _ _ _ _ _ (T7.setTop (mkF m 57 #[.val (.int p1), .val (.int p2), .val (.long q3), .second, .val (.ref b1), .unset, .unset, .unset] [(.long q3), (.int (6 : Int32)), (.ref b1)]))
  refine GlW.st (fun t k => XS.bipush X7.here hx rfl (hb hby at_57) k) ?_
  show GlW _ _ _ _ _ _ _ (T7.setTop (mkF m 59 #[.val (.int p1), .val (.int p2), .val (.long q3), .second, .val (.ref b1), .unset, .unset, .unset] [(.int (8 : Int32)), (.long q3), (.int (6 : Int32)), (.ref b1)]))
  refine GlW.st (fun t k => XS.lshr X7.here hx rfl (hb hby at_59) rfl k) ?_
  show GlW _ _ _ _ _ _ _ (T7.setTop (mkF m 60 #[.val (.int p1), .val (.int p2), .val (.long q3), .second, .val (.ref b1), .unset, .unset, .unset] [(.long (q3 >>> ((8 : Int32) &&& 0x3f).toInt64)), (.int (6 : Int32)), (.ref b1)]))
  refine GlW.st (fun t k => XS.l2i X7.here hx rfl (hb hby at_60) rfl k) ?_
  show GlW _ _ _ _ _ _ _ (T7.setTop (mkF m 61 #[.val (.int p1), .val (.int p2), .val (.long q3), .second, .val (.ref b1), .unset, .unset, .unset] [(.int ((q3 >>> ((8 : Int32) &&& 0x3f).toInt64).toInt32)), (.int (6 : Int32)), (.ref b1)]))
  refine GlW.st (fun t k => XS.i2b X7.here hx rfl (hb hby at_61) rfl k) ?_
  show GlW _ _ _ _ _ _ _ (T7.setTop (mkF m 62 #[.val (.int p1), .val (.int p2), .val (.long q3), .second, .val (.ref b1), .unset, .unset, .unset] [(.int (((q3 >>> ((8 : Int32) &&& 0x3f).toInt64).toInt32).toInt8.toInt32)), (.int (6 : Int32)), (.ref b1)]))
  have Vx8 := V7
  obtain ⟨cl8, Ar8, qk8, S8, M8, H8, G8⟩ := Vx8
  have hin8 : ¬ ((6 : Int32) < 0 ∨ cl8.slots.size ≤ ((6 : Int32)).toNatClampNeg) := inb_of S8 ⟨by decide, by decide⟩
  obtain ⟨T8, h8, X8, e8, W8, st8⟩ := stB X7 hx hZ e7 Ar8 (j := (6 : Int32)) hin8 (g := (mkF m 62 #[.val (.int p1), .val (.int p2), .val (.long q3), .second, .val (.ref b1), .unset, .unset, .unset] [(.int (((q3 >>> ((8 : Int32) &&& 0x3f).toInt64).toInt32).toInt8.toInt32)), (.int (6 : Int32)), (.ref b1)])) rfl rfl (hb hby at_62)
  refine GlW.st st8 ?_
  have Z8 : n0 ≤ h8.size := Nat.le_trans Z7 (Keep.of_wr W8).1
  have N8 := Fr.snoc X8 N7 gzb1
  have V8 : Arv Z h8 b1 k1 .byte (20 : Int32) [(.int (nar .byte (p2.toInt8.toInt32))), (.int (nar .byte ((p2 >>> ((8 : Int32) &&& 31)).toInt8.toInt32))), (.int (nar .byte ((p2 >>> ((16 : Int32) &&& 31)).toInt8.toInt32))), (.int (nar .byte ((p2 >>> ((24 : Int32) &&& 31)).toInt8.toInt32))), (.int (nar .byte (p1.toInt8.toInt32))), (.int (nar .byte ((q3.toInt32).toInt8.toInt32))), (.int (nar .byte (((q3 >>> ((8 : Int32) &&& 0x3f).toInt64).toInt32).toInt8.toInt32))), (.int (0 : Int32)), (.int (0 : Int32)), (.int (0 : Int32)), (.int (0 : Int32)), (.int (0 : Int32)), (.int (0 : Int32)), (.int (0 : Int32)), (.int (0 : Int32)), (.int (0 : Int32)), (.int (0 : Int32)), (.int (0 : Int32)), (.int (0 : Int32)), (.int (0 : Int32))] (.int (0 : Int32)) := Arv.set Ar8 qk8 S8 M8 H8 G8 (fits_nar_byte _) W8 6 rfl (Nat.le_of_ble_eq_true rfl)
  show GlW _ _ _ _ _ _ _ (T8.setTop (mkF m 63 #[.val (.int p1), .val (.int p2), .val (.long q3), .second, .val (.ref b1), .unset, .unset, .unset] []))
  refine GlW.st (fun t k => XS.aload X8.here hx rfl (hb hby at_63) rfl rfl k) ?_
  show GlW _ _ _ _ _ _ _ (T8.setTop (mkF m 65 #[.val (.int p1), .val (.int p2), .val (.long q3), .second, .val (.ref b1), .unset, .unset, .unset] [(.ref b1)]))
  refine GlW.st (fun t k => XS.bipush X8.here hx rfl (hb hby at_65) k) ?_
  show GlW _ _ _ _ _ _ _ (T8.setTop (mkF m 67 #[.val (.int p1), .val (.int p2), .val (.long q3), .second, .val (.ref b1), .unset, .unset, .unset] [(.int (7 : Int32)), (.ref b1)]))
  refine GlW.st (fun t k => XS.lloadN X8.here hx rfl (hb hby at_67) rfl  k) ?_
  show GlW _ _ _ _ _ _ _ (T8.setTop (mkF m 68 #[.val (.int p1), .val (.int p2), .val (.long q3), .second, .val (.ref b1), .unset, .unset, .unset] [(.long q3), (.int (7 : Int32)), (.ref b1)]))
  refine GlW.st (fun t k => XS.bipush X8.here hx rfl (hb hby at_68) k) ?_
  show GlW _ _ _ _ _ _ _ (T8.setTop (mkF m 70 #[.val (.int p1), .val (.int p2), .val (.long q3), .second, .val (.ref b1), .unset, .unset, .unset] [(.int (16 : Int32)), (.long q3), (.int (7 : Int32)), (.ref b1)]))
  refine GlW.st (fun t k => XS.lshr X8.here hx rfl (hb hby at_70) rfl k) ?_
  show GlW _ _ _ _ _ _ _ (T8.setTop (mkF m 71 #[.val (.int p1), .val (.int p2), .val (.long q3), .second, .val (.ref b1), .unset, .unset, .unset] [(.long (q3 >>> ((16 : Int32) &&& 0x3f).toInt64)), (.int (7 : Int32)), (.ref b1)]))
  refine GlW.st (fun t k => XS.l2i X8.here hx rfl (hb hby at_71) rfl k) ?_
  show GlW _ _ _ _ _ _ _ (T8.setTop (mkF m 72 #[.val (.int p1), .val (.int p2), .val (.long q3), .second, .val (.ref b1), .unset, .unset, .unset] [(.int ((q3 >>> ((16 : Int32) &&& 0x3f).toInt64).toInt32)), (.int (7 : Int32)), (.ref b1)]))
  refine GlW.st (fun t k => XS.i2b X8.here hx rfl (hb hby at_72) rfl k) ?_
  show GlW _ _ _ _ _ _ _ (T8.setTop (mkF m 73 #[.val (.int p1), .val (.int p2), .val (.long q3), .second, .val (.ref b1), .unset, .unset, .unset] [(.int (((q3 >>> ((16 : Int32) &&& 0x3f).toInt64).toInt32).toInt8.toInt32)), (.int (7 : Int32)), (.ref b1)]))
  have Vx9 := V8
  obtain ⟨cl9, Ar9, qk9, S9, M9, H9, G9⟩ := Vx9
  have hin9 : ¬ ((7 : Int32) < 0 ∨ cl9.slots.size ≤ ((7 : Int32)).toNatClampNeg) := inb_of S9 ⟨by decide, by decide⟩
  obtain ⟨T9, h9, X9, e9, W9, st9⟩ := stB X8 hx hZ e8 Ar9 (j := (7 : Int32)) hin9 (g := (mkF m 73 #[.val (.int p1), .val (.int p2), .val (.long q3), .second, .val (.ref b1), .unset, .unset, .unset] [(.int (((q3 >>> ((16 : Int32) &&& 0x3f).toInt64).toInt32).toInt8.toInt32)), (.int (7 : Int32)), (.ref b1)])) rfl rfl (hb hby at_73)
  refine GlW.st st9 ?_
  have Z9 : n0 ≤ h9.size := Nat.le_trans Z8 (Keep.of_wr W9).1
  have N9 := Fr.snoc X9 N8 gzb1
  have V9 : Arv Z h9 b1 k1 .byte (20 : Int32) [(.int (nar .byte (p2.toInt8.toInt32))), (.int (nar .byte ((p2 >>> ((8 : Int32) &&& 31)).toInt8.toInt32))), (.int (nar .byte ((p2 >>> ((16 : Int32) &&& 31)).toInt8.toInt32))), (.int (nar .byte ((p2 >>> ((24 : Int32) &&& 31)).toInt8.toInt32))), (.int (nar .byte (p1.toInt8.toInt32))), (.int (nar .byte ((q3.toInt32).toInt8.toInt32))), (.int (nar .byte (((q3 >>> ((8 : Int32) &&& 0x3f).toInt64).toInt32).toInt8.toInt32))), (.int (nar .byte (((q3 >>> ((16 : Int32) &&& 0x3f).toInt64).toInt32).toInt8.toInt32))), (.int (0 : Int32)), (.int (0 : Int32)), (.int (0 : Int32)), (.int (0 : Int32)), (.int (0 : Int32)), (.int (0 : Int32)), (.int (0 : Int32)), (.int (0 : Int32)), (.int (0 : Int32)), (.int (0 : Int32)), (.int (0 : Int32)), (.int (0 : Int32))] (.int (0 : Int32)) := Arv.set Ar9 qk9 S9 M9 H9 G9 (fits_nar_byte _) W9 7 rfl (Nat.le_of_ble_eq_true rfl)
  show GlW _ _ _ _ _ _ _ (T9.setTop (mkF m 74 #[.val (.int p1), .val (.int p2), .val (.long q3), .second, .val (.ref b1), .unset, .unset, .unset] []))
  refine GlW.st (fun t k => XS.aload X9.here hx rfl (hb hby at_74) rfl rfl k) ?_
  show GlW _ _ _ _ _ _ _ (T9.setTop (mkF m 76 #[.val (.int p1), .val (.int p2), .val (.long q3), .second, .val (.ref b1), .unset, .unset, .unset] [(.ref b1)]))
  refine GlW.st (fun t k => XS.bipush X9.here hx rfl (hb hby at_76) k) ?_
  show GlW _ _ _ _ _ _ _ (T9.setTop (mkF m 78 #[.val (.int p1), .val (.int p2), .val (.long q3), .second, .val (.ref b1), .unset, .unset, .unset] [(.int (8 : Int32)), (.ref b1)]))
  refine GlW.st (fun t k => XS.lloadN X9.here hx rfl (hb hby at_78) rfl  k) ?_
  show GlW _ _ _ _ _ _ _ (T9.setTop (mkF m 79 #[.val (.int p1), .val (.int p2), .val (.long q3), .second, .val (.ref b1), .unset, .unset, .unset] [(.long q3), (.int (8 : Int32)), (.ref b1)]))
  refine GlW.st (fun t k => XS.bipush X9.here hx rfl (hb hby at_79) k) ?_
  show GlW _ _ _ _ _ _ _ (T9.setTop (mkF m 81 #[.val (.int p1), .val (.int p2), .val (.long q3), .second, .val (.ref b1), .unset, .unset, .unset] [(.int (24 : Int32)), (.long q3), (.int (8 : Int32)), (.ref b1)]))
  refine GlW.st (fun t k => XS.lshr X9.here hx rfl (hb hby at_81) rfl k) ?_
  show GlW _ _ _ _ _ _ _ (T9.setTop (mkF m 82 #[.val (.int p1), .val (.int p2), .val (.long q3), .second, .val (.ref b1), .unset, .unset, .unset] [(.long (q3 >>> ((24 : Int32) &&& 0x3f).toInt64)), (.int (8 : Int32)), (.ref b1)]))
  refine GlW.st (fun t k => XS.l2i X9.here hx rfl (hb hby at_82) rfl k) ?_
  show GlW _ _ _ _ _ _ _ (T9.setTop (mkF m 83 #[.val (.int p1), .val (.int p2), .val (.long q3), .second, .val (.ref b1), .unset, .unset, .unset] [(.int ((q3 >>> ((24 : Int32) &&& 0x3f).toInt64).toInt32)), (.int (8 : Int32)), (.ref b1)]))
  refine GlW.st (fun t k => XS.i2b X9.here hx rfl (hb hby at_83) rfl k) ?_
  show GlW _ _ _ _ _ _ _ (T9.setTop (mkF m 84 #[.val (.int p1), .val (.int p2), .val (.long q3), .second, .val (.ref b1), .unset, .unset, .unset] [(.int (((q3 >>> ((24 : Int32) &&& 0x3f).toInt64).toInt32).toInt8.toInt32)), (.int (8 : Int32)), (.ref b1)]))
  have Vx10 := V9
  obtain ⟨cl10, Ar10, qk10, S10, M10, H10, G10⟩ := Vx10
  have hin10 : ¬ ((8 : Int32) < 0 ∨ cl10.slots.size ≤ ((8 : Int32)).toNatClampNeg) := inb_of S10 ⟨by decide, by decide⟩
  obtain ⟨T10, h10, X10, e10, W10, st10⟩ := stB X9 hx hZ e9 Ar10 (j := (8 : Int32)) hin10 (g := (mkF m 84 #[.val (.int p1), .val (.int p2), .val (.long q3), .second, .val (.ref b1), .unset, .unset, .unset] [(.int (((q3 >>> ((24 : Int32) &&& 0x3f).toInt64).toInt32).toInt8.toInt32)), (.int (8 : Int32)), (.ref b1)])) rfl rfl (hb hby at_84)
  refine GlW.st st10 ?_
  have Z10 : n0 ≤ h10.size := Nat.le_trans Z9 (Keep.of_wr W10).1
  have N10 := Fr.snoc X10 N9 gzb1
  have V10 : Arv Z h10 b1 k1 .byte (20 : Int32) [(.int (nar .byte (p2.toInt8.toInt32))), (.int (nar .byte ((p2 >>> ((8 : Int32) &&& 31)).toInt8.toInt32))), (.int (nar .byte ((p2 >>> ((16 : Int32) &&& 31)).toInt8.toInt32))), (.int (nar .byte ((p2 >>> ((24 : Int32) &&& 31)).toInt8.toInt32))), (.int (nar .byte (p1.toInt8.toInt32))), (.int (nar .byte ((q3.toInt32).toInt8.toInt32))), (.int (nar .byte (((q3 >>> ((8 : Int32) &&& 0x3f).toInt64).toInt32).toInt8.toInt32))), (.int (nar .byte (((q3 >>> ((16 : Int32) &&& 0x3f).toInt64).toInt32).toInt8.toInt32))), (.int (nar .byte (((q3 >>> ((24 : Int32) &&& 0x3f).toInt64).toInt32).toInt8.toInt32))), (.int (0 : Int32)), (.int (0 : Int32)), (.int (0 : Int32)), (.int (0 : Int32)), (.int (0 : Int32)), (.int (0 : Int32)), (.int (0 : Int32)), (.int (0 : Int32)), (.int (0 : Int32)), (.int (0 : Int32)), (.int (0 : Int32))] (.int (0 : Int32)) := Arv.set Ar10 qk10 S10 M10 H10 G10 (fits_nar_byte _) W10 8 rfl (Nat.le_of_ble_eq_true rfl)
  show GlW _ _ _ _ _ _ _ (T10.setTop (mkF m 85 #[.val (.int p1), .val (.int p2), .val (.long q3), .second, .val (.ref b1), .unset, .unset, .unset] []))
  refine GlW.st (fun t k => XS.aload X10.here hx rfl (hb hby at_85) rfl rfl k) ?_
  show GlW _ _ _ _ _ _ _ (T10.setTop (mkF m 87 #[.val (.int p1), .val (.int p2), .val (.long q3), .second, .val (.ref b1), .unset, .unset, .unset] [(.ref b1)]))
  refine GlW.st (fun t k => XS.bipush X10.here hx rfl (hb hby at_87) k) ?_
  show GlW _ _ _ _ _ _ _ (T10.setTop (mkF m 89 #[.val (.int p1), .val (.int p2), .val (.long q3), .second, .val (.ref b1), .unset, .unset, .unset] [(.int (9 : Int32)), (.ref b1)]))
  refine GlW.st (fun t k => XS.lloadN X10.here hx rfl (hb hby at_89) rfl  k) ?_
  show GlW _ _ _ _ _ _ _ (T10.setTop (mkF m 90 #[.val (.int p1), .val (.int p2), .val (.long q3), .second, .val (.ref b1), .unset, .unset, .unset] [(.long q3), (.int (9 : Int32)), (.ref b1)]))
  refine GlW.st (fun t k => XS.bipush X10.here hx rfl (hb hby at_90) k) ?_
  show GlW _ _ _ _ _ _ _ (T10.setTop (mkF m 92 #[.val (.int p1), .val (.int p2), .val (.long q3), .second, .val (.ref b1), .unset, .unset, .unset] [(.int (32 : Int32)), (.long q3), (.int (9 : Int32)), (.ref b1)]))
  refine GlW.st (fun t k => XS.lshr X10.here hx rfl (hb hby at_92) rfl k) ?_
  show GlW _ _ _ _ _ _ _ (T10.setTop (mkF m 93 #[.val (.int p1), .val (.int p2), .val (.long q3), .second, .val (.ref b1), .unset, .unset, .unset] [(.long (q3 >>> ((32 : Int32) &&& 0x3f).toInt64)), (.int (9 : Int32)), (.ref b1)]))
  refine GlW.st (fun t k => XS.l2i X10.here hx rfl (hb hby at_93) rfl k) ?_
  show GlW _ _ _ _ _ _ _ (T10.setTop (mkF m 94 #[.val (.int p1), .val (.int p2), .val (.long q3), .second, .val (.ref b1), .unset, .unset, .unset] [(.int ((q3 >>> ((32 : Int32) &&& 0x3f).toInt64).toInt32)), (.int (9 : Int32)), (.ref b1)]))
  refine GlW.st (fun t k => XS.i2b X10.here hx rfl (hb hby at_94) rfl k) ?_
  show GlW _ _ _ _ _ _ _ (T10.setTop (mkF m 95 #[.val (.int p1), .val (.int p2), .val (.long q3), .second, .val (.ref b1), .unset, .unset, .unset] [(.int (((q3 >>> ((32 : Int32) &&& 0x3f).toInt64).toInt32).toInt8.toInt32)), (.int (9 : Int32)), (.ref b1)]))
  have Vx11 := V10
  obtain ⟨cl11, Ar11, qk11, S11, M11, H11, G11⟩ := Vx11
  have hin11 : ¬ ((9 : Int32) < 0 ∨ cl11.slots.size ≤ ((9 : Int32)).toNatClampNeg) := inb_of S11 ⟨by decide, by decide⟩
  obtain ⟨T11, h11, X11, e11, W11, st11⟩ := stB X10 hx hZ e10 Ar11 (j := (9 : Int32)) hin11 (g := (mkF m 95 #[.val (.int p1), .val (.int p2), .val (.long q3), .second, .val (.ref b1), .unset, .unset, .unset] [(.int (((q3 >>> ((32 : Int32) &&& 0x3f).toInt64).toInt32).toInt8.toInt32)), (.int (9 : Int32)), (.ref b1)])) rfl rfl (hb hby at_95)
  refine GlW.st st11 ?_
  have Z11 : n0 ≤ h11.size := Nat.le_trans Z10 (Keep.of_wr W11).1
  have N11 := Fr.snoc X11 N10 gzb1
  have V11 : Arv Z h11 b1 k1 .byte (20 : Int32) [(.int (nar .byte (p2.toInt8.toInt32))), (.int (nar .byte ((p2 >>> ((8 : Int32) &&& 31)).toInt8.toInt32))), (.int (nar .byte ((p2 >>> ((16 : Int32) &&& 31)).toInt8.toInt32))), (.int (nar .byte ((p2 >>> ((24 : Int32) &&& 31)).toInt8.toInt32))), (.int (nar .byte (p1.toInt8.toInt32))), (.int (nar .byte ((q3.toInt32).toInt8.toInt32))), (.int (nar .byte (((q3 >>> ((8 : Int32) &&& 0x3f).toInt64).toInt32).toInt8.toInt32))), (.int (nar .byte (((q3 >>> ((16 : Int32) &&& 0x3f).toInt64).toInt32).toInt8.toInt32))), (.int (nar .byte (((q3 >>> ((24 : Int32) &&& 0x3f).toInt64).toInt32).toInt8.toInt32))), (.int (nar .byte (((q3 >>> ((32 : Int32) &&& 0x3f).toInt64).toInt32).toInt8.toInt32))), (.int (0 : Int32)), (.int (0 : Int32)), (.int (0 : Int32)), (.int (0 : Int32)), (.int (0 : Int32)), (.int (0 : Int32)), (.int (0 : Int32)), (.int (0 : Int32)), (.int (0 : Int32)), (.int (0 : Int32))] (.int (0 : Int32)) := Arv.set Ar11 qk11 S11 M11 H11 G11 (fits_nar_byte _) W11 9 rfl (Nat.le_of_ble_eq_true rfl)
  show GlW _ _ _ _ _ _ _ (T11.setTop (mkF m 96 #[.val (.int p1), .val (.int p2), .val (.long q3), .second, .val (.ref b1), .unset, .unset, .unset] []))
  refine GlW.st (fun t k => XS.aload X11.here hx rfl (hb hby at_96) rfl rfl k) ?_
  show GlW _ _ _ _ _ _ _ (T11.setTop (mkF m 98 #[.val (.int p1), .val (.int p2), .val (.long q3), .second, .val (.ref b1), .unset, .unset, .unset] [(.ref b1)]))
  refine GlW.st (fun t k => XS.bipush X11.here hx rfl (hb hby at_98) k) ?_
  show GlW _ _ _ _ _ _ _ (T11.setTop (mkF m 100 #[.val (.int p1), .val (.int p2), .val (.long q3), .second, .val (.ref b1), .unset, .unset, .unset] [(.int (10 : Int32)), (.ref b1)]))
  refine GlW.st (fun t k => XS.lloadN X11.here hx rfl (hb hby at_100) rfl  k) ?_
  show GlW _ _ _ _ _ _ _ (T11.setTop (mkF m 101 #[.val (.int p1), .val (.int p2), .val (.long q3), .second, .val (.ref b1), .unset, .unset, .unset] [(.long q3), (.int (10 : Int32)), (.ref b1)]))
  refine GlW.st (fun t k => XS.bipush X11.here hx rfl (hb hby at_101) k) ?_
  show GlW _ _ _ _ _ _ _ (T11.setTop (mkF m 103 #[.val (.int p1), .val (.int p2), .val (.long q3), .second, .val (.ref b1), .unset, .unset, .unset] [(.int (40 : Int32)), (.long q3), (.int (10 : Int32)), (.ref b1)]))
  refine GlW.st (fun t k => XS.lshr X11.here hx rfl (hb hby at_103) rfl k) ?_
  show GlW _ _ _ _ _ _ _ (T11.setTop (mkF m 104 #[.val (.int p1), .val (.int p2), .val (.long q3), .second, .val (.ref b1), .unset, .unset, .unset] [(.long (q3 >>> ((40 : Int32) &&& 0x3f).toInt64)), (.int (10 : Int32)), (.ref b1)]))
  refine GlW.st (fun t k => XS.l2i X11.here hx rfl (hb hby at_104) rfl k) ?_
  show GlW _ _ _ _ _ _ _ (T11.setTop (mkF m 105 #[.val (.int p1), .val (.int p2), .val (.long q3), .second, .val (.ref b1), .unset, .unset, .unset] [(.int ((q3 >>> ((40 : Int32) &&& 0x3f).toInt64).toInt32)), (.int (10 : Int32)), (.ref b1)]))
  refine GlW.st (fun t k => XS.i2b X11.here hx rfl (hb hby at_105) rfl k) ?_
  show GlW _ _ _ _ _ _ _ (T11.setTop (mkF m 106 #[.val (.int p1), .val (.int p2), .val (.long q3), .second, .val (.ref b1), .unset, .unset, .unset] [(.int (((q3 >>> ((40 : Int32) &&& 0x3f).toInt64).toInt32).toInt8.toInt32)), (.int (10 : Int32)), (.ref b1)]))
  have Vx12 := V11
  obtain ⟨cl12, Ar12, qk12, S12, M12, H12, G12⟩ := Vx12
  have hin12 : ¬ ((10 : Int32) < 0 ∨ cl12.slots.size ≤ ((10 : Int32)).toNatClampNeg) := inb_of S12 ⟨by decide, by decide⟩
  obtain ⟨T12, h12, X12, e12, W12, st12⟩ := stB X11 hx hZ e11 Ar12 (j := (10 : Int32)) hin12 (g := (mkF m 106 #[.val (.int p1), .val (.int p2), .val (.long q3), .second, .val (.ref b1), .unset, .unset, .unset] [(.int (((q3 >>> ((40 : Int32) &&& 0x3f).toInt64).toInt32).toInt8.toInt32)), (.int (10 : Int32)), (.ref b1)])) rfl rfl (hb hby at_106)
  refine GlW.st st12 ?_
  have Z12 : n0 ≤ h12.size := Nat.le_trans Z11 (Keep.of_wr W12).1
  have N12 := Fr.snoc X12 N11 gzb1
  have V12 : Arv Z h12 b1 k1 .byte (20 : Int32) [(.int (nar .byte (p2.toInt8.toInt32))), (.int (nar .byte ((p2 >>> ((8 : Int32) &&& 31)).toInt8.toInt32))), (.int (nar .byte ((p2 >>> ((16 : Int32) &&& 31)).toInt8.toInt32))), (.int (nar .byte ((p2 >>> ((24 : Int32) &&& 31)).toInt8.toInt32))), (.int (nar .byte (p1.toInt8.toInt32))), (.int (nar .byte ((q3.toInt32).toInt8.toInt32))), (.int (nar .byte (((q3 >>> ((8 : Int32) &&& 0x3f).toInt64).toInt32).toInt8.toInt32))), (.int (nar .byte (((q3 >>> ((16 : Int32) &&& 0x3f).toInt64).toInt32).toInt8.toInt32))), (.int (nar .byte (((q3 >>> ((24 : Int32) &&& 0x3f).toInt64).toInt32).toInt8.toInt32))), (.int (nar .byte (((q3 >>> ((32 : Int32) &&& 0x3f).toInt64).toInt32).toInt8.toInt32))), (.int (nar .byte (((q3 >>> ((40 : Int32) &&& 0x3f).toInt64).toInt32).toInt8.toInt32))), (.int (0 : Int32)), (.int (0 : Int32)), (.int (0 : Int32)), (.int (0 : Int32)), (.int (0 : Int32)), (.int (0 : Int32)), (.int (0 : Int32)), (.int (0 : Int32)), (.int (0 : Int32))] (.int (0 : Int32)) := Arv.set Ar12 qk12 S12 M12 H12 G12 (fits_nar_byte _) W12 10 rfl (Nat.le_of_ble_eq_true rfl)
  show GlW _ _ _ _ _ _ _ (T12.setTop (mkF m 107 #[.val (.int p1), .val (.int p2), .val (.long q3), .second, .val (.ref b1), .unset, .unset, .unset] []))
  refine GlW.st (fun t k => XS.aload X12.here hx rfl (hb hby at_107) rfl rfl k) ?_
  show GlW _ _ _ _ _ _ _ (T12.setTop (mkF m 109 #[.val (.int p1), .val (.int p2), .val (.long q3), .second, .val (.ref b1), .unset, .unset, .unset] [(.ref b1)]))
  refine GlW.st (fun t k => XS.bipush X12.here hx rfl (hb hby at_109) k) ?_
  show GlW _ _ _ _ _ _ _ (T12.setTop (mkF m 111 #[.val (.int p1), .val (.int p2), .val (.long q3), .second, .val (.ref b1), .unset, .unset, .unset] [(.int (11 : Int32)), (.ref b1)]))
  refine GlW.st (fun t k => XS.lloadN X12.here hx rfl (hb hby at_111) rfl  k) ?_
  show GlW _ _ _ _ _ _ _ (T12.setTop (mkF m 112 #[.val (.int p1), .val (.int p2), .val (.long q3), .second, .val (.ref b1), .unset, .unset, .unset] [(.long q3), (.int (11 : Int32)), (.ref b1)]))
  refine GlW.st (fun t k => XS.bipush X12.here hx rfl (hb hby at_112) k) ?_
  show GlW _ _ _ _ _ _ _ (T12.setTop (mkF m 114 #[.val (.int p1), .val (.int p2), .val (.long q3), .second, .val (.ref b1), .unset, .unset, .unset] [(.int (48 : Int32)), (.long q3), (.int (11 : Int32)), (.ref b1)]))
  refine GlW.st (fun t k => XS.lshr X12.here hx rfl (hb hby at_114) rfl k) ?_
  show GlW _ _ _ _ _ _ _ (T12.setTop (mkF m 115 #[.val (.int p1), .val (.int p2), .val (.long q3), .second, .val (.ref b1), .unset, .unset, .unset] [(.long (q3 >>> ((48 : Int32) &&& 0x3f).toInt64)), (.int (11 : Int32)), (.ref b1)]))
  refine GlW.st (fun t k => XS.l2i X12.here hx rfl (hb hby at_115) rfl k) ?_
  show GlW _ _ _ _ _ _ _ (T12.setTop (mkF m 116 #[.val (.int p1), .val (.int p2), .val (.long q3), .second, .val (.ref b1), .unset, .unset, .unset] [(.int ((q3 >>> ((48 : Int32) &&& 0x3f).toInt64).toInt32)), (.int (11 : Int32)), (.ref b1)]))
  refine GlW.st (fun t k => XS.i2b X12.here hx rfl (hb hby at_116) rfl k) ?_
  show GlW _ _ _ _ _ _ _ (T12.setTop (mkF m 117 #[.val (.int p1), .val (.int p2), .val (.long q3), .second, .val (.ref b1), .unset, .unset, .unset] [(.int (((q3 >>> ((48 : Int32) &&& 0x3f).toInt64).toInt32).toInt8.toInt32)), (.int (11 : Int32)), (.ref b1)]))
  have Vx13 := V12
  obtain ⟨cl13, Ar13, qk13, S13, M13, H13, G13⟩ := Vx13
  have hin13 : ¬ ((11 : Int32) < 0 ∨ cl13.slots.size ≤ ((11 : Int32)).toNatClampNeg) := inb_of S13 ⟨by decide, by decide⟩
  obtain ⟨T13, h13, X13, e13, W13, st13⟩ := stB X12 hx hZ e12 Ar13 (j := (11 : Int32)) hin13 (g := (mkF m 117 #[.val (.int p1), .val (.int p2), .val (.long q3), .second, .val (.ref b1), .unset, .unset, .unset] [(.int (((q3 >>> ((48 : Int32) &&& 0x3f).toInt64).toInt32).toInt8.toInt32)), (.int (11 : Int32)), (.ref b1)])) rfl rfl (hb hby at_117)
  refine GlW.st st13 ?_
  have Z13 : n0 ≤ h13.size := Nat.le_trans Z12 (Keep.of_wr W13).1
  have N13 := Fr.snoc X13 N12 gzb1
  have V13 : Arv Z h13 b1 k1 .byte (20 : Int32) [(.int (nar .byte (p2.toInt8.toInt32))), (.int (nar .byte ((p2 >>> ((8 : Int32) &&& 31)).toInt8.toInt32))), (.int (nar .byte ((p2 >>> ((16 : Int32) &&& 31)).toInt8.toInt32))), (.int (nar .byte ((p2 >>> ((24 : Int32) &&& 31)).toInt8.toInt32))), (.int (nar .byte (p1.toInt8.toInt32))), (.int (nar .byte ((q3.toInt32).toInt8.toInt32))), (.int (nar .byte (((q3 >>> ((8 : Int32) &&& 0x3f).toInt64).toInt32).toInt8.toInt32))), (.int (nar .byte (((q3 >>> ((16 : Int32) &&& 0x3f).toInt64).toInt32).toInt8.toInt32))), (.int (nar .byte (((q3 >>> ((24 : Int32) &&& 0x3f).toInt64).toInt32).toInt8.toInt32))), (.int (nar .byte (((q3 >>> ((32 : Int32) &&& 0x3f).toInt64).toInt32).toInt8.toInt32))), (.int (nar .byte (((q3 >>> ((40 : Int32) &&& 0x3f).toInt64).toInt32).toInt8.toInt32))), (.int (nar .byte (((q3 >>> ((48 : Int32) &&& 0x3f).toInt64).toInt32).toInt8.toInt32))), (.int (0 : Int32)), (.int (0 : Int32)), (.int (0 : Int32)), (.int (0 : Int32)), (.int (0 : Int32)), (.int (0 : Int32)), (.int (0 : Int32)), (.int (0 : Int32))] (.int (0 : Int32)) := Arv.set Ar13 qk13 S13 M13 H13 G13 (fits_nar_byte _) W13 11 rfl (Nat.le_of_ble_eq_true rfl)
  show GlW _ _ _ _ _ _ _ (T13.setTop (mkF m 118 #[.val (.int p1), .val (.int p2), .val (.long q3), .second, .val (.ref b1), .unset, .unset, .unset] []))
  refine GlW.st (fun t k => XS.aload X13.here hx rfl (hb hby at_118) rfl rfl k) ?_
  show GlW _ _ _ _ _ _ _ (T13.setTop (mkF m 120 #[.val (.int p1), .val (.int p2), .val (.long q3), .second, .val (.ref b1), .unset, .unset, .unset] [(.ref b1)]))
  refine GlW.st (fun t k => XS.bipush X13.here hx rfl (hb hby at_120) k) ?_
  show GlW _ _ _ _ _ _ _ (T13.setTop (mkF m 122 #[.val (.int p1), .val (.int p2), .val (.long q3), .second, .val (.ref b1), .unset, .unset, .unset] [(.int (12 : Int32)), (.ref b1)]))
  refine GlW.st (fun t k => XS.lloadN X13.here hx rfl (hb hby at_122) rfl  k) ?_
  show GlW _ _ _ _ _ _ _ (T13.setTop (mkF m 123 #[.val (.int p1), .val (.int p2), .val (.long q3), .second, .val (.ref b1), .unset, .unset, .unset] [(.long q3), (.int (12 : Int32)), (.ref b1)]))
  refine GlW.st (fun t k => XS.bipush X13.here hx rfl (hb hby at_123) k) ?_
  show GlW _ _ _ _ _ _ _ (T13.setTop (mkF m 125 #[.val (.int p1), .val (.int p2), .val (.long q3), .second, .val (.ref b1), .unset, .unset, .unset] [(.int (56 : Int32)), (.long q3), (.int (12 : Int32)), (.ref b1)]))
  refine GlW.st (fun t k => XS.lshr X13.here hx rfl (hb hby at_125) rfl k) ?_
  show GlW _ _ _ _ _ _ _ (T13.setTop (mkF m 126 #[.val (.int p1), .val (.int p2), .val (.long q3), .second, .val (.ref b1), .unset, .unset, .unset] [(.long (q3 >>> ((56 : Int32) &&& 0x3f).toInt64)), (.int (12 : Int32)), (.ref b1)]))
  refine GlW.st (fun t k => XS.l2i X13.here hx rfl (hb hby at_126) rfl k) ?_
  show GlW _ _ _ _ _ _ _ (T13.setTop (mkF m 127 #[.val (.int p1), .val (.int p2), .val (.long q3), .second, .val (.ref b1), .unset, .unset, .unset] [(.int ((q3 >>> ((56 : Int32) &&& 0x3f).toInt64).toInt32)), (.int (12 : Int32)), (.ref b1)]))
  refine GlW.st (fun t k => XS.i2b X13.here hx rfl (hb hby at_127) rfl k) ?_
  show GlW _ _ _ _ _ _ _ (T13.setTop (mkF m 128 #[.val (.int p1), .val (.int p2), .val (.long q3), .second, .val (.ref b1), .unset, .unset, .unset] [(.int (((q3 >>> ((56 : Int32) &&& 0x3f).toInt64).toInt32).toInt8.toInt32)), (.int (12 : Int32)), (.ref b1)]))
  have Vx14 := V13
  obtain ⟨cl14, Ar14, qk14, S14, M14, H14, G14⟩ := Vx14
  have hin14 : ¬ ((12 : Int32) < 0 ∨ cl14.slots.size ≤ ((12 : Int32)).toNatClampNeg) := inb_of S14 ⟨by decide, by decide⟩
  obtain ⟨T14, h14, X14, e14, W14, st14⟩ := stB X13 hx hZ e13 Ar14 (j := (12 : Int32)) hin14 (g := (mkF m 128 #[.val (.int p1), .val (.int p2), .val (.long q3), .second, .val (.ref b1), .unset, .unset, .unset] [(.int (((q3 >>> ((56 : Int32) &&& 0x3f).toInt64).toInt32).toInt8.toInt32)), (.int (12 : Int32)), (.ref b1)])) rfl rfl (hb hby at_128)
  refine GlW.st st14 ?_
  have Z14 : n0 ≤ h14.size := Nat.le_trans Z13 (Keep.of_wr W14).1
  have N14 := Fr.snoc X14 N13 gzb1
  have V14 : Arv Z h14 b1 k1 .byte (20 : Int32) [(.int (nar .byte (p2.toInt8.toInt32))), (.int (nar .byte ((p2 >>> ((8 : Int32) &&& 31)).toInt8.toInt32))), (.int (nar .byte ((p2 >>> ((16 : Int32) &&& 31)).toInt8.toInt32))), (.int (nar .byte ((p2 >>> ((24 : Int32) &&& 31)).toInt8.toInt32))), (.int (nar .byte (p1.toInt8.toInt32))), (.int (nar .byte ((q3.toInt32).toInt8.toInt32))), (.int (nar .byte (((q3 >>> ((8 : Int32) &&& 0x3f).toInt64).toInt32).toInt8.toInt32))), (.int (nar .byte (((q3 >>> ((16 : Int32) &&& 0x3f).toInt64).toInt32).toInt8.toInt32))), (.int (nar .byte (((q3 >>> ((24 : Int32) &&& 0x3f).toInt64).toInt32).toInt8.toInt32))), (.int (nar .byte (((q3 >>> ((32 : Int32) &&& 0x3f).toInt64).toInt32).toInt8.toInt32))), (.int (nar .byte (((q3 >>> ((40 : Int32) &&& 0x3f).toInt64).toInt32).toInt8.toInt32))), (.int (nar .byte (((q3 >>> ((48 : Int32) &&& 0x3f).toInt64).toInt32).toInt8.toInt32))), (.int (nar .byte (((q3 >>> ((56 : Int32) &&& 0x3f).toInt64).toInt32).toInt8.toInt32))), (.int (0 : Int32)), (.int (0 : Int32)), (.int (0 : Int32)), (.int (0 : Int32)), (.int (0 : Int32)), (.int (0 : Int32)), (.int (0 : Int32))] (.int (0 : Int32)) := Arv.set Ar14 qk14 S14 M14 H14 G14 (fits_nar_byte _) W14 12 rfl (Nat.le_of_ble_eq_true rfl)
  show GlW _ _ _ _ _ _ _ (T14.setTop (mkF m 129 #[.val (.int p1), .val (.int p2), .val (.long q3), .second, .val (.ref b1), .unset, .unset, .unset] []))
  refine GlW.st (fun t k => XS.aload X14.here hx rfl (hb hby at_129) rfl rfl k) ?_
  show GlW _ _ _ _ _ _ _ (T14.setTop (mkF m 131 #[.val (.int p1), .val (.int p2), .val (.long q3), .second, .val (.ref b1), .unset, .unset, .unset] [(.ref b1)]))
  refine GlW.st (fun t k => XS.bipush X14.here hx rfl (hb hby at_131) k) ?_
  show GlW _ _ _ _ _ _ _ (T14.setTop (mkF m 133 #[.val (.int p1), .val (.int p2), .val (.long q3), .second, .val (.ref b1), .unset, .unset, .unset] [(.int (13 : Int32)), (.ref b1)]))
  refine GlW.st (fun t k => XS.iloadN X14.here hx rfl (hb hby at_133) rfl  k) ?_
  show GlW _ _ _ _ _ _ _ (T14.setTop (mkF m 134 #[.val (.int p1), .val (.int p2), .val (.long q3), .second, .val (.ref b1), .unset, .unset, .unset] [(.int p1), (.int (13 : Int32)), (.ref b1)]))
  refine GlW.st (fun t k => XS.bipush X14.here hx rfl (hb hby at_134) k) ?_
  show GlW _ _ _ _ _ _ _ (T14.setTop (mkF m 136 #[.val (.int p1), .val (.int p2), .val (.long q3), .second, .val (.ref b1), .unset, .unset, .unset] [(.int (8 : Int32)), (.int p1), (.int (13 : Int32)), (.ref b1)]))
  refine GlW.st (fun t k => XS.ishr X14.here hx rfl (hb hby at_136) rfl k) ?_
  show GlW _ _ _ _ _ _ _ (T14.setTop (mkF m 137 #[.val (.int p1), .val (.int p2), .val (.long q3), .second, .val (.ref b1), .unset, .unset, .unset] [(.int (p1 >>> ((8 : Int32) &&& 31))), (.int (13 : Int32)), (.ref b1)]))
  refine GlW.st (fun t k => XS.i2b X14.here hx rfl (hb hby at_137) rfl k) ?_
  show GlW _ _ _ _ _ _ _ (T14.setTop (mkF m 138 #[.val (.int p1), .val (.int p2), .val (.long q3), .second, .val (.ref b1), .unset, .unset, .unset] [(.int ((p1 >>> ((8 : Int32) &&& 31)).toInt8.toInt32)), (.int (13 : Int32)), (.ref b1)]))
  have Vx15 := V14
  obtain ⟨cl15, Ar15, qk15, S15, M15, H15, G15⟩ := Vx15
  have hin15 : ¬ ((13 : Int32) < 0 ∨ cl15.slots.size ≤ ((13 : Int32)).toNatClampNeg) := inb_of S15 ⟨by decide, by decide⟩
  obtain ⟨T15, h15, X15, e15, W15, st15⟩ := stB X14 hx hZ e14 Ar15 (j := (13 : Int32)) hin15 (g := (mkF m 138 #[.val (.int p1), .val (.int p2), .val (.long q3), .second, .val (.ref b1), .unset, .unset, .unset] [(.int ((p1 >>> ((8 : Int32) &&& 31)).toInt8.toInt32)), (.int (13 : Int32)), (.ref b1)])) rfl rfl (hb hby at_138)
  refine GlW.st st15 ?_
  have Z15 : n0 ≤ h15.size := Nat.le_trans Z14 (Keep.of_wr W15).1
  have N15 := Fr.snoc X15 N14 gzb1
  have V15 : Arv Z h15 b1 k1 .byte (20 : Int32) [(.int (nar .byte (p2.toInt8.toInt32))), (.int (nar .byte ((p2 >>> ((8 : Int32) &&& 31)).toInt8.toInt32))), (.int (nar .byte ((p2 >>> ((16 : Int32) &&& 31)).toInt8.toInt32))), (.int (nar .byte ((p2 >>> ((24 : Int32) &&& 31)).toInt8.toInt32))), (.int (nar .byte (p1.toInt8.toInt32))), (.int (nar .byte ((q3.toInt32).toInt8.toInt32))), (.int (nar .byte (((q3 >>> ((8 : Int32) &&& 0x3f).toInt64).toInt32).toInt8.toInt32))), (.int (nar .byte (((q3 >>> ((16 : Int32) &&& 0x3f).toInt64).toInt32).toInt8.toInt32))), (.int (nar .byte (((q3 >>> ((24 : Int32) &&& 0x3f).toInt64).toInt32).toInt8.toInt32))), (.int (nar .byte (((q3 >>> ((32 : Int32) &&& 0x3f).toInt64).toInt32).toInt8.toInt32))), (.int (nar .byte (((q3 >>> ((40 : Int32) &&& 0x3f).toInt64).toInt32).toInt8.toInt32))), (.int (nar .byte (((q3 >>> ((48 : Int32) &&& 0x3f).toInt64).toInt32).toInt8.toInt32))), (.int (nar .byte (((q3 >>> ((56 : Int32) &&& 0x3f).toInt64).toInt32).toInt8.toInt32))), (.int (nar .byte ((p1 >>> ((8 : Int32) &&& 31)).toInt8.toInt32))), (.int (0 : Int32)), (.int (0 : Int32)), (.int (0 : Int32)), (.int (0 : Int32)), (.int (0 : Int32)), (.int (0 : Int32))] (.int (0 : Int32)) := Arv.set Ar15 qk15 S15 M15 H15 G15 (fits_nar_byte _) W15 13 rfl (Nat.le_of_ble_eq_true rfl)
  show GlW _ _ _ _ _ _ _ (T15.setTop (mkF m 139 #[.val (.int p1), .val (.int p2), .val (.long q3), .second, .val (.ref b1), .unset, .unset, .unset] []))
  refine GlW.st (fun t k => XS.aload X15.here hx rfl (hb hby at_139) rfl rfl k) ?_
  show GlW _ _ _ _ _ _ _ (T15.setTop (mkF m 141 #[.val (.int p1), .val (.int p2), .val (.long q3), .second, .val (.ref b1), .unset, .unset, .unset] [(.ref b1)]))
  refine GlW.st (fun t k => XS.bipush X15.here hx rfl (hb hby at_141) k) ?_
  show GlW _ _ _ _ _ _ _ (T15.setTop (mkF m 143 #[.val (.int p1), .val (.int p2), .val (.long q3), .second, .val (.ref b1), .unset, .unset, .unset] [(.int (14 : Int32)), (.ref b1)]))
  refine GlW.st (fun t k => XS.iloadN X15.here hx rfl (hb hby at_143) rfl  k) ?_
  show GlW _ _ _ _ _ _ _ (T15.setTop (mkF m 144 #[.val (.int p1), .val (.int p2), .val (.long q3), .second, .val (.ref b1), .unset, .unset, .unset] [(.int p1), (.int (14 : Int32)), (.ref b1)]))
  refine GlW.st (fun t k => XS.bipush X15.here hx rfl (hb hby at_144) k) ?_
  show GlW _ _ _ _ _ _ _ (T15.setTop (mkF m 146 #[.val (.int p1), .val (.int p2), .val (.long q3), .second, .val (.ref b1), .unset, .unset, .unset] [(.int (16 : Int32)), (.int p1), (.int (14 : Int32)), (.ref b1)]))
  refine GlW.st (fun t k => XS.ishr X15.here hx rfl (hb hby at_146) rfl k) ?_
  show GlW _ _ _ _ _ _ _ (T15.setTop (mkF m 147 #[.val (.int p1), .val (.int p2), .val (.long q3), .second, .val (.ref b1), .unset, .unset, .unset] [(.int (p1 >>> ((16 : Int32) &&& 31))), (.int (14 : Int32)), (.ref b1)]))
  refine GlW.st (fun t k => XS.i2b X15.here hx rfl (hb hby at_147) rfl k) ?_
  show GlW _ _ _ _ _ _ _ (T15.setTop (mkF m 148 #[.val (.int p1), .val (.int p2), .val (.long q3), .second, .val (.ref b1), .unset, .unset, .unset] [(.int ((p1 >>> ((16 : Int32) &&& 31)).toInt8.toInt32)), (.int (14 : Int32)), (.ref b1)]))
  have Vx16 := V15
  obtain ⟨cl16, Ar16, qk16, S16, M16, H16, G16⟩ := Vx16
  have hin16 : ¬ ((14 : Int32) < 0 ∨ cl16.slots.size ≤ ((14 : Int32)).toNatClampNeg) := inb_of S16 ⟨by decide, by decide⟩
  obtain ⟨T16, h16, X16, e16, W16, st16⟩ := stB X15 hx hZ e15 Ar16 (j := (14 : Int32)) hin16 (g := (mkF m 148 #[.val (.int p1), .val (.int p2), .val (.long q3), .second, .val (.ref b1), .unset, .unset, .unset] [(.int ((p1 >>> ((16 : Int32) &&& 31)).toInt8.toInt32)), (.int (14 : Int32)), (.ref b1)])) rfl rfl (hb hby at_148)
  refine GlW.st st16 ?_
  have Z16 : n0 ≤ h16.size := Nat.le_trans Z15 (Keep.of_wr W16).1
  have N16 := Fr.snoc X16 N15 gzb1
  have V16 : Arv Z h16 b1 k1 .byte (20 : Int32) [(.int (nar .byte (p2.toInt8.toInt32))), (.int (nar .byte ((p2 >>> ((8 : Int32) &&& 31)).toInt8.toInt32))), (.int (nar .byte ((p2 >>> ((16 : Int32) &&& 31)).toInt8.toInt32))), (.int (nar .byte ((p2 >>> ((24 : Int32) &&& 31)).toInt8.toInt32))), (.int (nar .byte (p1.toInt8.toInt32))), (.int (nar .byte ((q3.toInt32).toInt8.toInt32))), (.int (nar .byte (((q3 >>> ((8 : Int32) &&& 0x3f).toInt64).toInt32).toInt8.toInt32))), (.int (nar .byte (((q3 >>> ((16 : Int32) &&& 0x3f).toInt64).toInt32).toInt8.toInt32))), (.int (nar .byte (((q3 >>> ((24 : Int32) &&& 0x3f).toInt64).toInt32).toInt8.toInt32))), (.int (nar .byte (((q3 >>> ((32 : Int32) &&& 0x3f).toInt64).toInt32).toInt8.toInt32))), (.int (nar .byte (((q3 >>> ((40 : Int32) &&& 0x3f).toInt64).toInt32).toInt8.toInt32))), (.int (nar .byte (((q3 >>> ((48 : Int32) &&& 0x3f).toInt64).toInt32).toInt8.toInt32))), (.int (nar .byte (((q3 >>> ((56 : Int32) &&& 0x3f).toInt64).toInt32).toInt8.toInt32))), (.int (nar .byte ((p1 >>> ((8 : Int32) &&& 31)).toInt8.toInt32))), (.int (nar .byte ((p1 >>> ((16 : Int32) &&& 31)).toInt8.toInt32))), (.int (0 : Int32)), (.int (0 : Int32)), (.int (0 : Int32)), (.int (0 : Int32)), (.int (0 : Int32))] (.int (0 : Int32)) := Arv.set Ar16 qk16 S16 M16 H16 G16 (fits_nar_byte _) W16 14 rfl (Nat.le_of_ble_eq_true rfl)
  show GlW _ _ _ _ _ _ _ (T16.setTop (mkF m 149 #[.val (.int p1), .val (.int p2), .val (.long q3), .second, .val (.ref b1), .unset, .unset, .unset] []))
  refine GlW.st (fun t k => XS.aload X16.here hx rfl (hb hby at_149) rfl rfl k) ?_
  show GlW _ _ _ _ _ _ _ (T16.setTop (mkF m 151 #[.val (.int p1), .val (.int p2), .val (.long q3), .second, .val (.ref b1), .unset, .unset, .unset] [(.ref b1)]))
  refine GlW.st (fun t k => XS.bipush X16.here hx rfl (hb hby at_151) k) ?_
  show GlW _ _ _ _ _ _ _ (T16.setTop (mkF m 153 #[.val (.int p1), .val (.int p2), .val (.long q3), .second, .val (.ref b1), .unset, .unset, .unset] [(.int (15 : Int32)), (.ref b1)]))
  refine GlW.st (fun t k => XS.iloadN X16.here hx rfl (hb hby at_153) rfl  k) ?_
  show GlW _ _ _ _ _ _ _ (T16.setTop (mkF m 154 #[.val (.int p1), .val (.int p2), .val (.long q3), .second, .val (.ref b1), .unset, .unset, .unset] [(.int p1), (.int (15 : Int32)), (.ref b1)]))
  refine GlW.st (fun t k => XS.bipush X16.here hx rfl (hb hby at_154) k) ?_
  show GlW _ _ _ _ _ _ _ (T16.setTop (mkF m 156 #[.val (.int p1), .val (.int p2), .val (.long q3), .second, .val (.ref b1), .unset, .unset, .unset] [(.int (24 : Int32)), (.int p1), (.int (15 : Int32)), (.ref b1)]))
  refine GlW.st (fun t k => XS.ishr X16.here hx rfl (hb hby at_156) rfl k) ?_
  show GlW _ _ _ _ _ _ _ (T16.setTop (mkF m 157 #[.val (.int p1), .val (.int p2), .val (.long q3), .second, .val (.ref b1), .unset, .unset, .unset] [(.int (p1 >>> ((24 : Int32) &&& 31))), (.int (15 : Int32)), (.ref b1)]))
  refine GlW.st (fun t k => XS.i2b X16.here hx rfl (hb hby at_157) rfl k) ?_
  show GlW _ _ _ _ _ _ _ (T16.setTop (mkF m 158 #[.val (.int p1), .val (.int p2), .val (.long q3), .second, .val (.ref b1), .unset, .unset, .unset] [(.int ((p1 >>> ((24 : Int32) &&& 31)).toInt8.toInt32)), (.int (15 : Int32)), (.ref b1)]))
  have Vx17 := V16
  obtain ⟨cl17, Ar17, qk17, S17, M17, H17, G17⟩ := Vx17
  have hin17 : ¬ ((15 : Int32) < 0 ∨ cl17.slots.size ≤ ((15 : Int32)).toNatClampNeg) := inb_of S17 ⟨by decide, by decide⟩
  obtain ⟨T17, h17, X17, e17, W17, st17⟩ := stB X16 hx hZ e16 Ar17 (j := (15 : Int32)) hin17 (g := (mkF m 158 #[.val (.int p1), .val (.int p2), .val (.long q3), .second, .val (.ref b1), .unset, .unset, .unset] [(.int ((p1 >>> ((24 : Int32) &&& 31)).toInt8.toInt32)), (.int (15 : Int32)), (.ref b1)])) rfl rfl (hb hby at_158)
  refine GlW.st st17 ?_
  have Z17 : n0 ≤ h17.size := Nat.le_trans Z16 (Keep.of_wr W17).1
  have N17 := Fr.snoc X17 N16 gzb1
  have V17 : Arv Z h17 b1 k1 .byte (20 : Int32) [(.int (nar .byte (p2.toInt8.toInt32))), (.int (nar .byte ((p2 >>> ((8 : Int32) &&& 31)).toInt8.toInt32))), (.int (nar .byte ((p2 >>> ((16 : Int32) &&& 31)).toInt8.toInt32))), (.int (nar .byte ((p2 >>> ((24 : Int32) &&& 31)).toInt8.toInt32))), (.int (nar .byte (p1.toInt8.toInt32))), (.int (nar .byte ((q3.toInt32).toInt8.toInt32))), (.int (nar .byte (((q3 >>> ((8 : Int32) &&& 0x3f).toInt64).toInt32).toInt8.toInt32))), (.int (nar .byte (((q3 >>> ((16 : Int32) &&& 0x3f).toInt64).toInt32).toInt8.toInt32))), (.int (nar .byte (((q3 >>> ((24 : Int32) &&& 0x3f).toInt64).toInt32).toInt8.toInt32))), (.int (nar .byte (((q3 >>> ((32 : Int32) &&& 0x3f).toInt64).toInt32).toInt8.toInt32))), (.int (nar .byte (((q3 >>> ((40 : Int32) &&& 0x3f).toInt64).toInt32).toInt8.toInt32))), (.int (nar .byte (((q3 >>> ((48 : Int32) &&& 0x3f).toInt64).toInt32).toInt8.toInt32))), (.int (nar .byte (((q3 >>> ((56 : Int32) &&& 0x3f).toInt64).toInt32).toInt8.toInt32))), (.int (nar .byte ((p1 >>> ((8 : Int32) &&& 31)).toInt8.toInt32))), (.int (nar .byte ((p1 >>> ((16 : Int32) &&& 31)).toInt8.toInt32))), (.int (nar .byte ((p1 >>> ((24 : Int32) &&& 31)).toInt8.toInt32))), (.int (0 : Int32)), (.int (0 : Int32)), (.int (0 : Int32)), (.int (0 : Int32))] (.int (0 : Int32)) := Arv.set Ar17 qk17 S17 M17 H17 G17 (fits_nar_byte _) W17 15 rfl (Nat.le_of_ble_eq_true rfl)
  show GlW _ _ _ _ _ _ _ (T17.setTop (mkF m 159 #[.val (.int p1), .val (.int p2), .val (.long q3), .second, .val (.ref b1), .unset, .unset, .unset] []))
  refine GlW.st (fun t k => XS.aload X17.here hx rfl (hb hby at_159) rfl rfl k) ?_
  show GlW _ _ _ _ _ _ _ (T17.setTop (mkF m 161 #[.val (.int p1), .val (.int p2), .val (.long q3), .second, .val (.ref b1), .unset, .unset, .unset] [(.ref b1)]))
  refine GlW.st (fun t k => XS.bipush X17.here hx rfl (hb hby at_161) k) ?_
  show GlW _ _ _ _ _ _ _ (T17.setTop (mkF m 163 #[.val (.int p1), .val (.int p2), .val (.long q3), .second, .val (.ref b1), .unset, .unset, .unset] [(.int (16 : Int32)), (.ref b1)]))
  refine GlW.st (fun t k => XS.iloadN X17.here hx rfl (hb hby at_163) rfl  k) ?_
  show GlW _ _ _ _ _ _ _ (T17.setTop (mkF m 164 #[.val (.int p1), .val (.int p2), .val (.long q3), .second, .val (.ref b1), .unset, .unset, .unset] [(.int p2), (.int (16 : Int32)), (.ref b1)]))
  refine GlW.st (fun t k => XS.iconst X17.here hx rfl (hb hby at_164) k) ?_
  show GlW _ _ _ _ _ _ _ (T17.setTop (mkF m 165 #[.val (.int p1), .val (.int p2), .val (.long q3), .second, .val (.ref b1), .unset, .unset, .unset] [(.int (4 : Int32)), (.int p2), (.int (16 : Int32)), (.ref b1)]))
  refine GlW.st (fun t k => XS.ishr X17.here hx rfl (hb hby at_165) rfl k) ?_
  show GlW _ _ _ _ _ _ _ (T17.setTop (mkF m 166 #[.val (.int p1), .val (.int p2), .val (.long q3), .second, .val (.ref b1), .unset, .unset, .unset] [(.int (p2 >>> ((4 : Int32) &&& 31))), (.int (16 : Int32)), (.ref b1)]))
  refine GlW.st (fun t k => XS.i2b X17.here hx rfl (hb hby at_166) rfl k) ?_
  show GlW _ _ _ _ _ _ _ (T17.setTop (mkF m 167 #[.val (.int p1), .val (.int p2), .val (.long q3), .second, .val (.ref b1), .unset, .unset, .unset] [(.int ((p2 >>> ((4 : Int32) &&& 31)).toInt8.toInt32)), (.int (16 : Int32)), (.ref b1)]))
  have Vx18 := V17
  obtain ⟨cl18, Ar18, qk18, S18, M18, H18, G18⟩ := Vx18
  have hin18 : ¬ ((16 : Int32) < 0 ∨ cl18.slots.size ≤ ((16 : Int32)).toNatClampNeg) := inb_of S18 ⟨by decide, by decide⟩
  obtain ⟨T18, h18, X18, e18, W18, st18⟩ := stB X17 hx hZ e17 Ar18 (j := (16 : Int32)) hin18 (g := (mkF m 167 #[.val (.int p1), .val (.int p2), .val (.long q3), .second, .val (.ref b1), .unset, .unset, .unset] [(.int ((p2 >>> ((4 : Int32) &&& 31)).toInt8.toInt32)), (.int (16 : Int32)), (.ref b1)])) rfl rfl (hb hby at_167)
  refine GlW.st st18 ?_
  have Z18 : n0 ≤ h18.size := Nat.le_trans Z17 (Keep.of_wr W18).1
  have N18 := Fr.snoc X18 N17 gzb1
  have V18 : Arv Z h18 b1 k1 .byte (20 : Int32) [(.int (nar .byte (p2.toInt8.toInt32))), (.int (nar .byte ((p2 >>> ((8 : Int32) &&& 31)).toInt8.toInt32))), (.int (nar .byte ((p2 >>> ((16 : Int32) &&& 31)).toInt8.toInt32))), (.int (nar .byte ((p2 >>> ((24 : Int32) &&& 31)).toInt8.toInt32))), (.int (nar .byte (p1.toInt8.toInt32))), (.int (nar .byte ((q3.toInt32).toInt8.toInt32))), (.int (nar .byte (((q3 >>> ((8 : Int32) &&& 0x3f).toInt64).toInt32).toInt8.toInt32))), (.int (nar .byte (((q3 >>> ((16 : Int32) &&& 0x3f).toInt64).toInt32).toInt8.toInt32))), (.int (nar .byte (((q3 >>> ((24 : Int32) &&& 0x3f).toInt64).toInt32).toInt8.toInt32))), (.int (nar .byte (((q3 >>> ((32 : Int32) &&& 0x3f).toInt64).toInt32).toInt8.toInt32))), (.int (nar .byte (((q3 >>> ((40 : Int32) &&& 0x3f).toInt64).toInt32).toInt8.toInt32))), (.int (nar .byte (((q3 >>> ((48 : Int32) &&& 0x3f).toInt64).toInt32).toInt8.toInt32))), (.int (nar .byte (((q3 >>> ((56 : Int32) &&& 0x3f).toInt64).toInt32).toInt8.toInt32))), (.int (nar .byte ((p1 >>> ((8 : Int32) &&& 31)).toInt8.toInt32))), (.int (nar .byte ((p1 >>> ((16 : Int32) &&& 31)).toInt8.toInt32))), (.int (nar .byte ((p1 >>> ((24 : Int32) &&& 31)).toInt8.toInt32))), (.int (nar .byte ((p2 >>> ((4 : Int32) &&& 31)).toInt8.toInt32))), (.int (0 : Int32)), (.int (0 : Int32)), (.int (0 : Int32))] (.int (0 : Int32)) := Arv.set Ar18 qk18 S18 M18 H18 G18 (fits_nar_byte _) W18 16 rfl (Nat.le_of_ble_eq_true rfl)
  show GlW _ _ _ _ _ _ _ (T18.setTop (mkF m 168 #[.val (.int p1), .val (.int p2), .val (.long q3), .second, .val (.ref b1), .unset, .unset, .unset] []))
  refine GlW.st (fun t k => XS.aload X18.here hx rfl (hb hby at_168) rfl rfl k) ?_
  show GlW _ _ _ _ _ _ _ (T18.setTop (mkF m 170 #[.val (.int p1), .val (.int p2), .val (.long q3), .second, .val (.ref b1), .unset, .unset, .unset] [(.ref b1)]))
  refine GlW.st (fun t k => XS.bipush X18.here hx rfl (hb hby at_170) k) ?_
  show GlW _ _ _ _ _ _ _ (T18.setTop (mkF m 172 #[.val (.int p1), .val (.int p2), .val (.long q3), .second, .val (.ref b1), .unset, .unset, .unset] [(.int (17 : Int32)), (.ref b1)]))
  refine GlW.st (fun t k => XS.iloadN X18.here hx rfl (hb hby at_172) rfl  k) ?_
  show GlW _ _ _ _ _ _ _ (T18.setTop (mkF m 173 #[.val (.int p1), .val (.int p2), .val (.long q3), .second, .val (.ref b1), .unset, .unset, .unset] [(.int p2), (.int (17 : Int32)), (.ref b1)]))
  refine GlW.st (fun t k => XS.bipush X18.here hx rfl (hb hby at_173) k) ?_
  show GlW _ _ _ _ _ _ _ (T18.setTop (mkF m 175 #[.val (.int p1), .val (.int p2), .val (.long q3), .second, .val (.ref b1), .unset, .unset, .unset] [(.int (12 : Int32)), (.int p2), (.int (17 : Int32)), (.ref b1)]))
  refine GlW.st (fun t k => XS.ishr X18.here hx rfl (hb hby at_175) rfl k) ?_
  show GlW _ _ _ _ _ _ _ (T18.setTop (mkF m 176 #[.val (.int p1), .val (.int p2), .val (.long q3), .second, .val (.ref b1), .unset, .unset, .unset] [(.int (p2 >>> ((12 : Int32) &&& 31))), (.int (17 : Int32)), (.ref b1)]))
  refine GlW.st (fun t k => XS.i2b X18.here hx rfl (hb hby at_176) rfl k) ?_
  show GlW _ _ _ _ _ _ _ (T18.setTop (mkF m 177 #[.val (.int p1), .val (.int p2), .val (.long q3), .second, .val (.ref b1), .unset, .unset, .unset] [(.int ((p2 >>> ((12 : Int32) &&& 31)).toInt8.toInt32)), (.int (17 : Int32)), (.ref b1)]))
  have Vx19 := V18
  obtain ⟨cl19, Ar19, qk19, S19, M19, H19, G19⟩ := Vx19
  have hin19 : ¬ ((17 : Int32) < 0 ∨ cl19.slots.size ≤ ((17 : Int32)).toNatClampNeg) := inb_of S19 ⟨by decide, by decide⟩
  obtain ⟨T19, h19, X19, e19, W19, st19⟩ := stB X18 hx hZ e18 Ar19 (j := (17 : Int32)) hin19 (g := (mkF m 177 #[.val (.int p1), .val (.int p2), .val (.long q3), .second, .val (.ref b1), .unset, .unset, .unset] [(.int ((p2 >>> ((12 : Int32) &&& 31)).toInt8.toInt32)), (.int (17 : Int32)), (.ref b1)])) rfl rfl (hb hby at_177)
  refine GlW.st st19 ?_
  have Z19 : n0 ≤ h19.size := Nat.le_trans Z18 (Keep.of_wr W19).1
  have N19 := Fr.snoc X19 N18 gzb1
  have V19 : Arv Z h19 b1 k1 .byte (20 : Int32) [(.int (nar .byte (p2.toInt8.toInt32))), (.int (nar .byte ((p2 >>> ((8 : Int32) &&& 31)).toInt8.toInt32))), (.int (nar .byte ((p2 >>> ((16 : Int32) &&& 31)).toInt8.toInt32))), (.int (nar .byte ((p2 >>> ((24 : Int32) &&& 31)).toInt8.toInt32))), (.int (nar .byte (p1.toInt8.toInt32))), (.int (nar .byte ((q3.toInt32).toInt8.toInt32))), (.int (nar .byte (((q3 >>> ((8 : Int32) &&& 0x3f).toInt64).toInt32).toInt8.toInt32))), (.int (nar .byte (((q3 >>> ((16 : Int32) &&& 0x3f).toInt64).toInt32).toInt8.toInt32))), (.int (nar .byte (((q3 >>> ((24 : Int32) &&& 0x3f).toInt64).toInt32).toInt8.toInt32))), (.int (nar .byte (((q3 >>> ((32 : Int32) &&& 0x3f).toInt64).toInt32).toInt8.toInt32))), (.int (nar .byte (((q3 >>> ((40 : Int32) &&& 0x3f).toInt64).toInt32).toInt8.toInt32))), (.int (nar .byte (((q3 >>> ((48 : Int32) &&& 0x3f).toInt64).toInt32).toInt8.toInt32))), (.int (nar .byte (((q3 >>> ((56 : Int32) &&& 0x3f).toInt64).toInt32).toInt8.toInt32))), (.int (nar .byte ((p1 >>> ((8 : Int32) &&& 31)).toInt8.toInt32))), (.int (nar .byte ((p1 >>> ((16 : Int32) &&& 31)).toInt8.toInt32))), (.int (nar .byte ((p1 >>> ((24 : Int32) &&& 31)).toInt8.toInt32))), (.int (nar .byte ((p2 >>> ((4 : Int32) &&& 31)).toInt8.toInt32))), (.int (nar .byte ((p2 >>> ((12 : Int32) &&& 31)).toInt8.toInt32))), (.int (0 : Int32)), (.int (0 : Int32))] (.int (0 : Int32)) := Arv.set Ar19 qk19 S19 M19 H19 G19 (fits_nar_byte _) W19 17 rfl (Nat.le_of_ble_eq_true rfl)
  show GlW _ _ _ _ _ _ _ (T19.setTop (mkF m 178 #[.val (.int p1), .val (.int p2), .val (.long q3), .second, .val (.ref b1), .unset, .unset, .unset] []))
  refine GlW.st (fun t k => XS.aload X19.here hx rfl (hb hby at_178) rfl rfl k) ?_
  show GlW _ _ _ _ _ _ _ (T19.setTop (mkF m 180 #[.val (.int p1), .val (.int p2), .val (.long q3), .second, .val (.ref b1), .unset, .unset, .unset] [(.ref b1)]))
  refine GlW.st (fun t k => XS.bipush X19.here hx rfl (hb hby at_180) k) ?_
  show GlW _ _ _ _ _ _ _ (T19.setTop (mkF m 182 #[.val (.int p1), .val (.int p2), .val (.long q3), .second, .val (.ref b1), .unset, .unset, .unset] [(.int (18 : Int32)), (.ref b1)]))
  refine GlW.st (fun t k => XS.iloadN X19.here hx rfl (hb hby at_182) rfl  k) ?_
  show GlW _ _ _ _ _ _ _ (T19.setTop (mkF m 183 #[.val (.int p1), .val (.int p2), .val (.long q3), .second, .val (.ref b1), .unset, .unset, .unset] [(.int p2), (.int (18 : Int32)), (.ref b1)]))
  refine GlW.st (fun t k => XS.bipush X19.here hx rfl (hb hby at_183) k) ?_
  show GlW _ _ _ _ _ _ _ (T19.setTop (mkF m 185 #[.val (.int p1), .val (.int p2), .val (.long q3), .second, .val (.ref b1), .unset, .unset, .unset] [(.int (20 : Int32)), (.int p2), (.int (18 : Int32)), (.ref b1)]))
  refine GlW.st (fun t k => XS.ishr X19.here hx rfl (hb hby at_185) rfl k) ?_
  show GlW _ _ _ _ _ _ _ (T19.setTop (mkF m 186 #[.val (.int p1), .val (.int p2), .val (.long q3), .second, .val (.ref b1), .unset, .unset, .unset] [(.int (p2 >>> ((20 : Int32) &&& 31))), (.int (18 : Int32)), (.ref b1)]))
  refine GlW.st (fun t k => XS.i2b X19.here hx rfl (hb hby at_186) rfl k) ?_
  show GlW _ _ _ _ _ _ _ (T19.setTop (mkF m 187 #[.val (.int p1), .val (.int p2), .val (.long q3), .second, .val (.ref b1), .unset, .unset, .unset] [(.int ((p2 >>> ((20 : Int32) &&& 31)).toInt8.toInt32)), (.int (18 : Int32)), (.ref b1)]))
  have Vx20 := V19
  obtain ⟨cl20, Ar20, qk20, S20, M20, H20, G20⟩ := Vx20
  have hin20 : ¬ ((18 : Int32) < 0 ∨ cl20.slots.size ≤ ((18 : Int32)).toNatClampNeg) := inb_of S20 ⟨by decide, by decide⟩
  obtain ⟨T20, h20, X20, e20, W20, st20⟩ := stB X19 hx hZ e19 Ar20 (j := (18 : Int32)) hin20 (g := (mkF m 187 #[.val (.int p1), .val (.int p2), .val (.long q3), .second, .val (.ref b1), .unset, .unset, .unset] [(.int ((p2 >>> ((20 : Int32) &&& 31)).toInt8.toInt32)), (.int (18 : Int32)), (.ref b1)])) rfl rfl (hb hby at_187)
  refine GlW.st st20 ?_
  have Z20 : n0 ≤ h20.size := Nat.le_trans Z19 (Keep.of_wr W20).1
  have N20 := Fr.snoc X20 N19 gzb1
  have V20 : Arv Z h20 b1 k1 .byte (20 : Int32) [(.int (nar .byte (p2.toInt8.toInt32))), (.int (nar .byte ((p2 >>> ((8 : Int32) &&& 31)).toInt8.toInt32))), (.int (nar .byte ((p2 >>> ((16 : Int32) &&& 31)).toInt8.toInt32))), (.int (nar .byte ((p2 >>> ((24 : Int32) &&& 31)).toInt8.toInt32))), (.int (nar .byte (p1.toInt8.toInt32))), (.int (nar .byte ((q3.toInt32).toInt8.toInt32))), (.int (nar .byte (((q3 >>> ((8 : Int32) &&& 0x3f).toInt64).toInt32).toInt8.toInt32))), (.int (nar .byte (((q3 >>> ((16 : Int32) &&& 0x3f).toInt64).toInt32).toInt8.toInt32))), (.int (nar .byte (((q3 >>> ((24 : Int32) &&& 0x3f).toInt64).toInt32).toInt8.toInt32))), (.int (nar .byte (((q3 >>> ((32 : Int32) &&& 0x3f).toInt64).toInt32).toInt8.toInt32))), (.int (nar .byte (((q3 >>> ((40 : Int32) &&& 0x3f).toInt64).toInt32).toInt8.toInt32))), (.int (nar .byte (((q3 >>> ((48 : Int32) &&& 0x3f).toInt64).toInt32).toInt8.toInt32))), (.int (nar .byte (((q3 >>> ((56 : Int32) &&& 0x3f).toInt64).toInt32).toInt8.toInt32))), (.int (nar .byte ((p1 >>> ((8 : Int32) &&& 31)).toInt8.toInt32))), (.int (nar .byte ((p1 >>> ((16 : Int32) &&& 31)).toInt8.toInt32))), (.int (nar .byte ((p1 >>> ((24 : Int32) &&& 31)).toInt8.toInt32))), (.int (nar .byte ((p2 >>> ((4 : Int32) &&& 31)).toInt8.toInt32))), (.int (nar .byte ((p2 >>> ((12 : Int32) &&& 31)).toInt8.toInt32))), (.int (nar .byte ((p2 >>> ((20 : Int32) &&& 31)).toInt8.toInt32))), (.int (0 : Int32))] (.int (0 : Int32)) := Arv.set Ar20 qk20 S20 M20 H20 G20 (fits_nar_byte _) W20 18 rfl (Nat.le_of_ble_eq_true rfl)
  show GlW _ _ _ _ _ _ _ (T20.setTop (mkF m 188 #[.val (.int p1), .val (.int p2), .val (.long q3), .second, .val (.ref b1), .unset, .unset, .unset] []))
  refine GlW.st (fun t k => XS.aload X20.here hx rfl (hb hby at_188) rfl rfl k) ?_
  show GlW _ _ _ _ _ _ _ (T20.setTop (mkF m 190 #[.val (.int p1), .val (.int p2), .val (.long q3), .second, .val (.ref b1), .unset, .unset, .unset] [(.ref b1)]))
  refine GlW.st (fun t k => XS.bipush X20.here hx rfl (hb hby at_190) k) ?_
  show GlW _ _ _ _ _ _ _ (T20.setTop (mkF m 192 #[.val (.int p1), .val (.int p2), .val (.long q3), .second, .val (.ref b1), .unset, .unset, .unset] [(.int (19 : Int32)), (.ref b1)]))
  refine GlW.st (fun t k => XS.iloadN X20.here hx rfl (hb hby at_192) rfl  k) ?_
  show GlW _ _ _ _ _ _ _ (T20.setTop (mkF m 193 #[.val (.int p1), .val (.int p2), .val (.long q3), .second, .val (.ref b1), .unset, .unset, .unset] [(.int p2), (.int (19 : Int32)), (.ref b1)]))
  refine GlW.st (fun t k => XS.bipush X20.here hx rfl (hb hby at_193) k) ?_
  show GlW _ _ _ _ _ _ _ (T20.setTop (mkF m 195 #[.val (.int p1), .val (.int p2), .val (.long q3), .second, .val (.ref b1), .unset, .unset, .unset] [(.int (28 : Int32)), (.int p2), (.int (19 : Int32)), (.ref b1)]))
  refine GlW.st (fun t k => XS.ishr X20.here hx rfl (hb hby at_195) rfl k) ?_
  show GlW _ _ _ _ _ _ _ (T20.setTop (mkF m 196 #[.val (.int p1), .val (.int p2), .val (.long q3), .second, .val (.ref b1), .unset, .unset, .unset] [(.int (p2 >>> ((28 : Int32) &&& 31))), (.int (19 : Int32)), (.ref b1)]))
  refine GlW.st (fun t k => XS.i2b X20.here hx rfl (hb hby at_196) rfl k) ?_
  show GlW _ _ _ _ _ _ _ (T20.setTop (mkF m 197 #[.val (.int p1), .val (.int p2), .val (.long q3), .second, .val (.ref b1), .unset, .unset, .unset] [(.int ((p2 >>> ((28 : Int32) &&& 31)).toInt8.toInt32)), (.int (19 : Int32)), (.ref b1)]))
  have Vx21 := V20
  obtain ⟨cl21, Ar21, qk21, S21, M21, H21, G21⟩ := Vx21
  have hin21 : ¬ ((19 : Int32) < 0 ∨ cl21.slots.size ≤ ((19 : Int32)).toNatClampNeg) := inb_of S21 ⟨by decide, by decide⟩
  obtain ⟨T21, h21, X21, e21, W21, st21⟩ := stB X20 hx hZ e20 Ar21 (j := (19 : Int32)) hin21 (g := (mkF m 197 #[.val (.int p1), .val (.int p2), .val (.long q3), .second, .val (.ref b1), .unset, .unset, .unset] [(.int ((p2 >>> ((28 : Int32) &&& 31)).toInt8.toInt32)), (.int (19 : Int32)), (.ref b1)])) rfl rfl (hb hby at_197)
  refine GlW.st st21 ?_
  have Z21 : n0 ≤ h21.size := Nat.le_trans Z20 (Keep.of_wr W21).1
  have N21 := Fr.snoc X21 N20 gzb1
  have V21 : Arv Z h21 b1 k1 .byte (20 : Int32) [(.int (nar .byte (p2.toInt8.toInt32))), (.int (nar .byte ((p2 >>> ((8 : Int32) &&& 31)).toInt8.toInt32))), (.int (nar .byte ((p2 >>> ((16 : Int32) &&& 31)).toInt8.toInt32))), (.int (nar .byte ((p2 >>> ((24 : Int32) &&& 31)).toInt8.toInt32))), (.int (nar .byte (p1.toInt8.toInt32))), (.int (nar .byte ((q3.toInt32).toInt8.toInt32))), (.int (nar .byte (((q3 >>> ((8 : Int32) &&& 0x3f).toInt64).toInt32).toInt8.toInt32))), (.int (nar .byte (((q3 >>> ((16 : Int32) &&& 0x3f).toInt64).toInt32).toInt8.toInt32))), (.int (nar .byte (((q3 >>> ((24 : Int32) &&& 0x3f).toInt64).toInt32).toInt8.toInt32))), (.int (nar .byte (((q3 >>> ((32 : Int32) &&& 0x3f).toInt64).toInt32).toInt8.toInt32))), (.int (nar .byte (((q3 >>> ((40 : Int32) &&& 0x3f).toInt64).toInt32).toInt8.toInt32))), (.int (nar .byte (((q3 >>> ((48 : Int32) &&& 0x3f).toInt64).toInt32).toInt8.toInt32))), (.int (nar .byte (((q3 >>> ((56 : Int32) &&& 0x3f).toInt64).toInt32).toInt8.toInt32))), (.int (nar .byte ((p1 >>> ((8 : Int32) &&& 31)).toInt8.toInt32))), (.int (nar .byte ((p1 >>> ((16 : Int32) &&& 31)).toInt8.toInt32))), (.int (nar .byte ((p1 >>> ((24 : Int32) &&& 31)).toInt8.toInt32))), (.int (nar .byte ((p2 >>> ((4 : Int32) &&& 31)).toInt8.toInt32))), (.int (nar .byte ((p2 >>> ((12 : Int32) &&& 31)).toInt8.toInt32))), (.int (nar .byte ((p2 >>> ((20 : Int32) &&& 31)).toInt8.toInt32))), (.int (nar .byte ((p2 >>> ((28 : Int32) &&& 31)).toInt8.toInt32)))] (.int (0 : Int32)) := Arv.set Ar21 qk21 S21 M21 H21 G21 (fits_nar_byte _) W21 19 rfl (Nat.le_of_ble_eq_true rfl)
  show GlW _ _ _ _ _ _ _ (T21.setTop (mkF m 198 #[.val (.int p1), .val (.int p2), .val (.long q3), .second, .val (.ref b1), .unset, .unset, .unset] []))
  obtain ⟨T22, h22, X22, e22, E22, A22, D22, -, st22⟩ := newO X21 hx hZ hown (hw _ (List.mem_of_getElem? (i := 1) rfl)) (hw _ (List.mem_of_getElem? (i := 2) rfl)) (hw _ (List.mem_of_getElem? (i := 3) rfl)) e21 (g := (mkF m 198 #[.val (.int p1), .val (.int p2), .val (.long q3), .second, .val (.ref b1), .unset, .unset, .unset] [])) rfl (hb hby at_198) (by decide) (by decide)
  obtain ⟨b22, g22⟩ : ∃ z, z = h21.size := ⟨_, rfl⟩
  rw [← g22] at A22 D22 st22
  refine GlW.st st22 ?_
  have ne_b1_b22 : b1 ≠ b22 := Nat.ne_of_lt (Nat.lt_of_lt_of_le V21.lt (Nat.le_of_eq g22.symm))
  have gzb22 : n0 ≤ b22 := Nat.le_trans Z21 (Nat.le_of_eq g22.symm)
  have Z22 : n0 ≤ h22.size := Nat.le_trans Z21 E22.1
  have V21'23 : Arv Z h22 b1 k1 .byte (20 : Int32) [(.int (nar .byte (p2.toInt8.toInt32))), (.int (nar .byte ((p2 >>> ((8 : Int32) &&& 31)).toInt8.toInt32))), (.int (nar .byte ((p2 >>> ((16 : Int32) &&& 31)).toInt8.toInt32))), (.int (nar .byte ((p2 >>> ((24 : Int32) &&& 31)).toInt8.toInt32))), (.int (nar .byte (p1.toInt8.toInt32))), (.int (nar .byte ((q3.toInt32).toInt8.toInt32))), (.int (nar .byte (((q3 >>> ((8 : Int32) &&& 0x3f).toInt64).toInt32).toInt8.toInt32))), (.int (nar .byte (((q3 >>> ((16 : Int32) &&& 0x3f).toInt64).toInt32).toInt8.toInt32))), (.int (nar .byte (((q3 >>> ((24 : Int32) &&& 0x3f).toInt64).toInt32).toInt8.toInt32))), (.int (nar .byte (((q3 >>> ((32 : Int32) &&& 0x3f).toInt64).toInt32).toInt8.toInt32))), (.int (nar .byte (((q3 >>> ((40 : Int32) &&& 0x3f).toInt64).toInt32).toInt8.toInt32))), (.int (nar .byte (((q3 >>> ((48 : Int32) &&& 0x3f).toInt64).toInt32).toInt8.toInt32))), (.int (nar .byte (((q3 >>> ((56 : Int32) &&& 0x3f).toInt64).toInt32).toInt8.toInt32))), (.int (nar .byte ((p1 >>> ((8 : Int32) &&& 31)).toInt8.toInt32))), (.int (nar .byte ((p1 >>> ((16 : Int32) &&& 31)).toInt8.toInt32))), (.int (nar .byte ((p1 >>> ((24 : Int32) &&& 31)).toInt8.toInt32))), (.int (nar .byte ((p2 >>> ((4 : Int32) &&& 31)).toInt8.toInt32))), (.int (nar .byte ((p2 >>> ((12 : Int32) &&& 31)).toInt8.toInt32))), (.int (nar .byte ((p2 >>> ((20 : Int32) &&& 31)).toInt8.toInt32))), (.int (nar .byte ((p2 >>> ((28 : Int32) &&& 31)).toInt8.toInt32)))] (.int (0 : Int32)) := V21.ext E22
  have F22_path : Fld Z h22 b22 "com/example/meisai/meisai/DiameterMessage" "path" "Ljava/lang/String;" .null := D22 (Or.inr (hw _ (List.mem_of_getElem? (i := 20) rfl))) (ty := (.object "java/lang/String")) (by decide)
  have F22_bytes : Fld Z h22 b22 "com/example/meisai/meisai/DiameterMessage" "bytes" "[B" .null := D22 (Or.inr (hw _ (List.mem_of_getElem? (i := 22) rfl))) (ty := (.array .byte)) (by decide)
  have F22_pieceStarts : Fld Z h22 b22 "com/example/meisai/meisai/DiameterMessage" "pieceStarts" "[I" .null := D22 (Or.inr (hw _ (List.mem_of_getElem? (i := 24) rfl))) (ty := (.array .int)) (by decide)
  have F22_pieceOffsets : Fld Z h22 b22 "com/example/meisai/meisai/DiameterMessage" "pieceOffsets" "[J" .null := D22 (Or.inr (hw _ (List.mem_of_getElem? (i := 26) rfl))) (ty := (.array .long)) (by decide)
  have F22_time : Fld Z h22 b22 "com/example/meisai/meisai/DiameterMessage" "time" "J" (.long (0 : Int64)) := D22 (Or.inr (hw _ (List.mem_of_getElem? (i := 28) rfl))) (ty := .long) (by decide)
  show GlW _ _ _ _ _ _ _ (T22.setTop (mkF m 201 #[.val (.int p1), .val (.int p2), .val (.long q3), .second, .val (.ref b1), .unset, .unset, .unset] [(.ref b22)]))
  refine GlW.st (fun t k => XS.dup X22.here hx rfl (hb hby at_201) rfl rfl k) ?_
  show GlW _ _ _ _ _ _ _ (T22.setTop (mkF m 202 #[.val (.int p1), .val (.int p2), .val (.long q3), .second, .val (.ref b1), .unset, .unset, .unset] [(.ref b22), (.ref b22)]))
  have wS24 : ∀ a ∈ Bundle.stringAtoms, a.before a0 Z = true := fun d hd => by
    simp only [Bundle.stringAtoms, List.mem_cons, List.not_mem_nil, or_false] at hd
    rcases hd with rfl | rfl | rfl | rfl | rfl | rfl | rfl
    · exact (hw _ (List.mem_of_getElem? (i := 5) rfl))
    · exact (hw _ (List.mem_of_getElem? (i := 6) rfl))
    · exact (hw _ (List.mem_of_getElem? (i := 0) rfl))
    · exact (hw _ (List.mem_of_getElem? (i := 7) rfl))
    · exact (hw _ (List.mem_of_getElem? (i := 8) rfl))
    · exact (hw _ (List.mem_of_getElem? (i := 9) rfl))
    · exact (hw _ (List.mem_of_getElem? (i := 10) rfl))
  obtain ⟨sa24, T24, h24, kk24, X24, e24, E24, hS24, hkk24, hZ, hown, st24⟩ := ldcS (s := s) (vm0 := s.vm) X22 hx hZ hown (hw _ (List.mem_of_getElem? (i := 4) rfl)) wS24 e22 ((State.WarmedH.refl s).since 0) (Nat.zero_le _) (g := (mkF m 202 #[.val (.int p1), .val (.int p2), .val (.long q3), .second, .val (.ref b1), .unset, .unset, .unset] [(.ref b22), (.ref b22)])) rfl (hb hby at_202) (n := 4) (by decide) (by decide) (by decide) (by decide)
  refine GlW.st st24 ?_
  have Z24 : n0 ≤ h24.size := Nat.le_trans Z22 E24.1
  have V21'25 : Arv Z h24 b1 k1 .byte (20 : Int32) [(.int (nar .byte (p2.toInt8.toInt32))), (.int (nar .byte ((p2 >>> ((8 : Int32) &&& 31)).toInt8.toInt32))), (.int (nar .byte ((p2 >>> ((16 : Int32) &&& 31)).toInt8.toInt32))), (.int (nar .byte ((p2 >>> ((24 : Int32) &&& 31)).toInt8.toInt32))), (.int (nar .byte (p1.toInt8.toInt32))), (.int (nar .byte ((q3.toInt32).toInt8.toInt32))), (.int (nar .byte (((q3 >>> ((8 : Int32) &&& 0x3f).toInt64).toInt32).toInt8.toInt32))), (.int (nar .byte (((q3 >>> ((16 : Int32) &&& 0x3f).toInt64).toInt32).toInt8.toInt32))), (.int (nar .byte (((q3 >>> ((24 : Int32) &&& 0x3f).toInt64).toInt32).toInt8.toInt32))), (.int (nar .byte (((q3 >>> ((32 : Int32) &&& 0x3f).toInt64).toInt32).toInt8.toInt32))), (.int (nar .byte (((q3 >>> ((40 : Int32) &&& 0x3f).toInt64).toInt32).toInt8.toInt32))), (.int (nar .byte (((q3 >>> ((48 : Int32) &&& 0x3f).toInt64).toInt32).toInt8.toInt32))), (.int (nar .byte (((q3 >>> ((56 : Int32) &&& 0x3f).toInt64).toInt32).toInt8.toInt32))), (.int (nar .byte ((p1 >>> ((8 : Int32) &&& 31)).toInt8.toInt32))), (.int (nar .byte ((p1 >>> ((16 : Int32) &&& 31)).toInt8.toInt32))), (.int (nar .byte ((p1 >>> ((24 : Int32) &&& 31)).toInt8.toInt32))), (.int (nar .byte ((p2 >>> ((4 : Int32) &&& 31)).toInt8.toInt32))), (.int (nar .byte ((p2 >>> ((12 : Int32) &&& 31)).toInt8.toInt32))), (.int (nar .byte ((p2 >>> ((20 : Int32) &&& 31)).toInt8.toInt32))), (.int (nar .byte ((p2 >>> ((28 : Int32) &&& 31)).toInt8.toInt32)))] (.int (0 : Int32)) := V21'23.ext E24
  have A22'26 : Exa Z h24 b22 "com/example/meisai/meisai/DiameterMessage" := A22.ext E24
  have F22_path'27 : Fld Z h24 b22 "com/example/meisai/meisai/DiameterMessage" "path" "Ljava/lang/String;" .null := F22_path.ext E24
  have F22_bytes'28 : Fld Z h24 b22 "com/example/meisai/meisai/DiameterMessage" "bytes" "[B" .null := F22_bytes.ext E24
  have F22_pieceStarts'29 : Fld Z h24 b22 "com/example/meisai/meisai/DiameterMessage" "pieceStarts" "[I" .null := F22_pieceStarts.ext E24
  have F22_pieceOffsets'30 : Fld Z h24 b22 "com/example/meisai/meisai/DiameterMessage" "pieceOffsets" "[J" .null := F22_pieceOffsets.ext E24
  have F22_time'31 : Fld Z h24 b22 "com/example/meisai/meisai/DiameterMessage" "time" "J" (.long (0 : Int64)) := F22_time.ext E24
  show GlW _ _ _ _ _ _ _ (T24.setTop (mkF m 204 #[.val (.int p1), .val (.int p2), .val (.long q3), .second, .val (.ref b1), .unset, .unset, .unset] [(.ref sa24), (.ref b22), (.ref b22)]))
  refine GlW.st (fun t k => XS.aload X24.here hx rfl (hb hby at_204) rfl rfl k) ?_
  show GlW _ _ _ _ _ _ _ (T24.setTop (mkF m 206 #[.val (.int p1), .val (.int p2), .val (.long q3), .second, .val (.ref b1), .unset, .unset, .unset] [(.ref b1), (.ref sa24), (.ref b22), (.ref b22)]))
  refine GlW.st (fun t k => XS.iconst X24.here hx rfl (hb hby at_206) k) ?_
  show GlW _ _ _ _ _ _ _ (T24.setTop (mkF m 207 #[.val (.int p1), .val (.int p2), .val (.long q3), .second, .val (.ref b1), .unset, .unset, .unset] [(.int (1 : Int32)), (.ref b1), (.ref sa24), (.ref b22), (.ref b22)]))
  obtain ⟨T32, h32, k32, X32, e32, E32, A32, st32⟩ := newP X24 hx hZ (hw _ (List.mem_of_getElem? (i := 11) rfl)) e24 (g := (mkF m 207 #[.val (.int p1), .val (.int p2), .val (.long q3), .second, .val (.ref b1), .unset, .unset, .unset] [(.int (1 : Int32)), (.ref b1), (.ref sa24), (.ref b22), (.ref b22)])) rfl (hb hby at_207) rfl (by decide) (cap := 1) (by decide) (by decide) (by decide) (by decide)
  obtain ⟨b32, g32⟩ : ∃ z, z = h24.size := ⟨_, rfl⟩
  rw [← g32] at A32 st32
  refine GlW.st st32 ?_
  have ne_b1_b32 : b1 ≠ b32 := Nat.ne_of_lt (Nat.lt_of_lt_of_le V21'25.lt (Nat.le_of_eq g32.symm))
  have ne_b22_b32 : b22 ≠ b32 := Nat.ne_of_lt (Nat.lt_of_lt_of_le A22'26.lt (Nat.le_of_eq g32.symm))
  have gzb32 : n0 ≤ b32 := Nat.le_trans Z24 (Nat.le_of_eq g32.symm)
  have Z32 : n0 ≤ h32.size := Nat.le_trans Z24 E32.1
  have kz32 : kk24 ≤ h32.size := Nat.le_trans hkk24 E32.1
  have V21'33 : Arv Z h32 b1 k1 .byte (20 : Int32) [(.int (nar .byte (p2.toInt8.toInt32))), (.int (nar .byte ((p2 >>> ((8 : Int32) &&& 31)).toInt8.toInt32))), (.int (nar .byte ((p2 >>> ((16 : Int32) &&& 31)).toInt8.toInt32))), (.int (nar .byte ((p2 >>> ((24 : Int32) &&& 31)).toInt8.toInt32))), (.int (nar .byte (p1.toInt8.toInt32))), (.int (nar .byte ((q3.toInt32).toInt8.toInt32))), (.int (nar .byte (((q3 >>> ((8 : Int32) &&& 0x3f).toInt64).toInt32).toInt8.toInt32))), (.int (nar .byte (((q3 >>> ((16 : Int32) &&& 0x3f).toInt64).toInt32).toInt8.toInt32))), (.int (nar .byte (((q3 >>> ((24 : Int32) &&& 0x3f).toInt64).toInt32).toInt8.toInt32))), (.int (nar .byte (((q3 >>> ((32 : Int32) &&& 0x3f).toInt64).toInt32).toInt8.toInt32))), (.int (nar .byte (((q3 >>> ((40 : Int32) &&& 0x3f).toInt64).toInt32).toInt8.toInt32))), (.int (nar .byte (((q3 >>> ((48 : Int32) &&& 0x3f).toInt64).toInt32).toInt8.toInt32))), (.int (nar .byte (((q3 >>> ((56 : Int32) &&& 0x3f).toInt64).toInt32).toInt8.toInt32))), (.int (nar .byte ((p1 >>> ((8 : Int32) &&& 31)).toInt8.toInt32))), (.int (nar .byte ((p1 >>> ((16 : Int32) &&& 31)).toInt8.toInt32))), (.int (nar .byte ((p1 >>> ((24 : Int32) &&& 31)).toInt8.toInt32))), (.int (nar .byte ((p2 >>> ((4 : Int32) &&& 31)).toInt8.toInt32))), (.int (nar .byte ((p2 >>> ((12 : Int32) &&& 31)).toInt8.toInt32))), (.int (nar .byte ((p2 >>> ((20 : Int32) &&& 31)).toInt8.toInt32))), (.int (nar .byte ((p2 >>> ((28 : Int32) &&& 31)).toInt8.toInt32)))] (.int (0 : Int32)) := V21'25.ext E32
  have A22'34 : Exa Z h32 b22 "com/example/meisai/meisai/DiameterMessage" := A22'26.ext E32
  have F22_path'35 : Fld Z h32 b22 "com/example/meisai/meisai/DiameterMessage" "path" "Ljava/lang/String;" .null := F22_path'27.ext E32
  have F22_bytes'36 : Fld Z h32 b22 "com/example/meisai/meisai/DiameterMessage" "bytes" "[B" .null := F22_bytes'28.ext E32
  have F22_pieceStarts'37 : Fld Z h32 b22 "com/example/meisai/meisai/DiameterMessage" "pieceStarts" "[I" .null := F22_pieceStarts'29.ext E32
  have F22_pieceOffsets'38 : Fld Z h32 b22 "com/example/meisai/meisai/DiameterMessage" "pieceOffsets" "[J" .null := F22_pieceOffsets'30.ext E32
  have F22_time'39 : Fld Z h32 b22 "com/example/meisai/meisai/DiameterMessage" "time" "J" (.long (0 : Int64)) := F22_time'31.ext E32
  have V32 : Arv Z h32 b32 k32 .int (1 : Int32) [(.int (0 : Int32))] (.int (0 : Int32)) := (Arv.new A32 (by decide)).pad (pad_rep [] (.int (0 : Int32)) 1)
  show GlW _ _ _ _ _ _ _ (T32.setTop (mkF m 209 #[.val (.int p1), .val (.int p2), .val (.long q3), .second, .val (.ref b1), .unset, .unset, .unset] [(.ref b32), (.ref b1), (.ref sa24), (.ref b22), (.ref b22)]))
  refine GlW.st (fun t k => XS.dup X32.here hx rfl (hb hby at_209) rfl rfl k) ?_
  show GlW _ _ _ _ _ _ _ (T32.setTop (mkF m 210 #[.val (.int p1), .val (.int p2), .val (.long q3), .second, .val (.ref b1), .unset, .unset, .unset] [(.ref b32), (.ref b32), (.ref b1), (.ref sa24), (.ref b22), (.ref b22)]))
  refine GlW.st (fun t k => XS.iconst X32.here hx rfl (hb hby at_210) k) ?_
  show GlW _ _ _ _ _ _ _ (T32.setTop (mkF m 211 #[.val (.int p1), .val (.int p2), .val (.long q3), .second, .val (.ref b1), .unset, .unset, .unset] [(.int (0 : Int32)), (.ref b32), (.ref b32), (.ref b1), (.ref sa24), (.ref b22), (.ref b22)]))
  refine GlW.st (fun t k => XS.iconst X32.here hx rfl (hb hby at_211) k) ?_
  show GlW _ _ _ _ _ _ _ (T32.setTop (mkF m 212 #[.val (.int p1), .val (.int p2), .val (.long q3), .second, .val (.ref b1), .unset, .unset, .unset] [(.int (0 : Int32)), (.int (0 : Int32)), (.ref b32), (.ref b32), (.ref b1), (.ref sa24), (.ref b22), (.ref b22)]))
  have Vx40 := V32
  obtain ⟨cl40, Ar40, qk40, S40, M40, H40, G40⟩ := Vx40
  have hin40 : ¬ ((0 : Int32) < 0 ∨ cl40.slots.size ≤ ((0 : Int32)).toNatClampNeg) := inb_of S40 ⟨by decide, by decide⟩
  obtain ⟨T40, h40, X40, e40, W40, st40⟩ := stI X32 hx hZ e32 Ar40 (j := (0 : Int32)) hin40 (g := (mkF m 212 #[.val (.int p1), .val (.int p2), .val (.long q3), .second, .val (.ref b1), .unset, .unset, .unset] [(.int (0 : Int32)), (.int (0 : Int32)), (.ref b32), (.ref b32), (.ref b1), (.ref sa24), (.ref b22), (.ref b22)])) rfl rfl (hb hby at_212)
  refine GlW.st st40 ?_
  have Z40 : n0 ≤ h40.size := Nat.le_trans Z32 (Keep.of_wr W40).1
  have kz40 : kk24 ≤ h40.size := Nat.le_trans kz32 (Keep.of_wr W40).1
  have N40 := Fr.snoc X40 N21 gzb32
  have V21'41 : Arv Z h40 b1 k1 .byte (20 : Int32) [(.int (nar .byte (p2.toInt8.toInt32))), (.int (nar .byte ((p2 >>> ((8 : Int32) &&& 31)).toInt8.toInt32))), (.int (nar .byte ((p2 >>> ((16 : Int32) &&& 31)).toInt8.toInt32))), (.int (nar .byte ((p2 >>> ((24 : Int32) &&& 31)).toInt8.toInt32))), (.int (nar .byte (p1.toInt8.toInt32))), (.int (nar .byte ((q3.toInt32).toInt8.toInt32))), (.int (nar .byte (((q3 >>> ((8 : Int32) &&& 0x3f).toInt64).toInt32).toInt8.toInt32))), (.int (nar .byte (((q3 >>> ((16 : Int32) &&& 0x3f).toInt64).toInt32).toInt8.toInt32))), (.int (nar .byte (((q3 >>> ((24 : Int32) &&& 0x3f).toInt64).toInt32).toInt8.toInt32))), (.int (nar .byte (((q3 >>> ((32 : Int32) &&& 0x3f).toInt64).toInt32).toInt8.toInt32))), (.int (nar .byte (((q3 >>> ((40 : Int32) &&& 0x3f).toInt64).toInt32).toInt8.toInt32))), (.int (nar .byte (((q3 >>> ((48 : Int32) &&& 0x3f).toInt64).toInt32).toInt8.toInt32))), (.int (nar .byte (((q3 >>> ((56 : Int32) &&& 0x3f).toInt64).toInt32).toInt8.toInt32))), (.int (nar .byte ((p1 >>> ((8 : Int32) &&& 31)).toInt8.toInt32))), (.int (nar .byte ((p1 >>> ((16 : Int32) &&& 31)).toInt8.toInt32))), (.int (nar .byte ((p1 >>> ((24 : Int32) &&& 31)).toInt8.toInt32))), (.int (nar .byte ((p2 >>> ((4 : Int32) &&& 31)).toInt8.toInt32))), (.int (nar .byte ((p2 >>> ((12 : Int32) &&& 31)).toInt8.toInt32))), (.int (nar .byte ((p2 >>> ((20 : Int32) &&& 31)).toInt8.toInt32))), (.int (nar .byte ((p2 >>> ((28 : Int32) &&& 31)).toInt8.toInt32)))] (.int (0 : Int32)) := V21'33.other W40 ne_b1_b32
  have A22'42 : Exa Z h40 b22 "com/example/meisai/meisai/DiameterMessage" := A22'34.wr W40
  have F22_path'43 : Fld Z h40 b22 "com/example/meisai/meisai/DiameterMessage" "path" "Ljava/lang/String;" .null := F22_path'35.other W40 (Or.inl ne_b22_b32)
  have F22_bytes'44 : Fld Z h40 b22 "com/example/meisai/meisai/DiameterMessage" "bytes" "[B" .null := F22_bytes'36.other W40 (Or.inl ne_b22_b32)
  have F22_pieceStarts'45 : Fld Z h40 b22 "com/example/meisai/meisai/DiameterMessage" "pieceStarts" "[I" .null := F22_pieceStarts'37.other W40 (Or.inl ne_b22_b32)
  have F22_pieceOffsets'46 : Fld Z h40 b22 "com/example/meisai/meisai/DiameterMessage" "pieceOffsets" "[J" .null := F22_pieceOffsets'38.other W40 (Or.inl ne_b22_b32)
  have F22_time'47 : Fld Z h40 b22 "com/example/meisai/meisai/DiameterMessage" "time" "J" (.long (0 : Int64)) := F22_time'39.other W40 (Or.inl ne_b22_b32)
  have V40 : Arv Z h40 b32 k32 .int (1 : Int32) [(.int (0 : Int32))] (.int (0 : Int32)) := Arv.set Ar40 qk40 S40 M40 H40 G40 rfl W40 0 rfl (Nat.le_of_ble_eq_true rfl)
  show GlW _ _ _ _ _ _ _ (T40.setTop (mkF m 213 #[.val (.int p1), .val (.int p2), .val (.long q3), .second, .val (.ref b1), .unset, .unset, .unset] [(.ref b32), (.ref b1), (.ref sa24), (.ref b22), (.ref b22)]))
  refine GlW.st (fun t k => XS.iconst X40.here hx rfl (hb hby at_213) k) ?_
  show GlW _ _ _ _ _ _ _ (T40.setTop (mkF m 214 #[.val (.int p1), .val (.int p2), .val (.long q3), .second, .val (.ref b1), .unset, .unset, .unset] [(.int (1 : Int32)), (.ref b32), (.ref b1), (.ref sa24), (.ref b22), (.ref b22)]))
  obtain ⟨T48, h48, k48, X48, e48, E48, A48, st48⟩ := newP X40 hx hZ (hw _ (List.mem_of_getElem? (i := 12) rfl)) e40 (g := (mkF m 214 #[.val (.int p1), .val (.int p2), .val (.long q3), .second, .val (.ref b1), .unset, .unset, .unset] [(.int (1 : Int32)), (.ref b32), (.ref b1), (.ref sa24), (.ref b22), (.ref b22)])) rfl (hb hby at_214) rfl (by decide) (cap := 1) (by decide) (by decide) (by decide) (by decide)
  obtain ⟨b48, g48⟩ : ∃ z, z = h40.size := ⟨_, rfl⟩
  rw [← g48] at A48 st48
  refine GlW.st st48 ?_
  have ne_b1_b48 : b1 ≠ b48 := Nat.ne_of_lt (Nat.lt_of_lt_of_le V21'41.lt (Nat.le_of_eq g48.symm))
  have ne_b22_b48 : b22 ≠ b48 := Nat.ne_of_lt (Nat.lt_of_lt_of_le A22'42.lt (Nat.le_of_eq g48.symm))
  have ne_b32_b48 : b32 ≠ b48 := Nat.ne_of_lt (Nat.lt_of_lt_of_le V40.lt (Nat.le_of_eq g48.symm))
  have gzb48 : n0 ≤ b48 := Nat.le_trans Z40 (Nat.le_of_eq g48.symm)
  have Z48 : n0 ≤ h48.size := Nat.le_trans Z40 E48.1
  have kz48 : kk24 ≤ h48.size := Nat.le_trans kz40 E48.1
  have V21'49 : Arv Z h48 b1 k1 .byte (20 : Int32) [(.int (nar .byte (p2.toInt8.toInt32))), (.int (nar .byte ((p2 >>> ((8 : Int32) &&& 31)).toInt8.toInt32))), (.int (nar .byte ((p2 >>> ((16 : Int32) &&& 31)).toInt8.toInt32))), (.int (nar .byte ((p2 >>> ((24 : Int32) &&& 31)).toInt8.toInt32))), (.int (nar .byte (p1.toInt8.toInt32))), (.int (nar .byte ((q3.toInt32).toInt8.toInt32))), (.int (nar .byte (((q3 >>> ((8 : Int32) &&& 0x3f).toInt64).toInt32).toInt8.toInt32))), (.int (nar .byte (((q3 >>> ((16 : Int32) &&& 0x3f).toInt64).toInt32).toInt8.toInt32))), (.int (nar .byte (((q3 >>> ((24 : Int32) &&& 0x3f).toInt64).toInt32).toInt8.toInt32))), (.int (nar .byte (((q3 >>> ((32 : Int32) &&& 0x3f).toInt64).toInt32).toInt8.toInt32))), (.int (nar .byte (((q3 >>> ((40 : Int32) &&& 0x3f).toInt64).toInt32).toInt8.toInt32))), (.int (nar .byte (((q3 >>> ((48 : Int32) &&& 0x3f).toInt64).toInt32).toInt8.toInt32))), (.int (nar .byte (((q3 >>> ((56 : Int32) &&& 0x3f).toInt64).toInt32).toInt8.toInt32))), (.int (nar .byte ((p1 >>> ((8 : Int32) &&& 31)).toInt8.toInt32))), (.int (nar .byte ((p1 >>> ((16 : Int32) &&& 31)).toInt8.toInt32))), (.int (nar .byte ((p1 >>> ((24 : Int32) &&& 31)).toInt8.toInt32))), (.int (nar .byte ((p2 >>> ((4 : Int32) &&& 31)).toInt8.toInt32))), (.int (nar .byte ((p2 >>> ((12 : Int32) &&& 31)).toInt8.toInt32))), (.int (nar .byte ((p2 >>> ((20 : Int32) &&& 31)).toInt8.toInt32))), (.int (nar .byte ((p2 >>> ((28 : Int32) &&& 31)).toInt8.toInt32)))] (.int (0 : Int32)) := V21'41.ext E48
  have A22'50 : Exa Z h48 b22 "com/example/meisai/meisai/DiameterMessage" := A22'42.ext E48
  have F22_path'51 : Fld Z h48 b22 "com/example/meisai/meisai/DiameterMessage" "path" "Ljava/lang/String;" .null := F22_path'43.ext E48
  have F22_bytes'52 : Fld Z h48 b22 "com/example/meisai/meisai/DiameterMessage" "bytes" "[B" .null := F22_bytes'44.ext E48
  have F22_pieceStarts'53 : Fld Z h48 b22 "com/example/meisai/meisai/DiameterMessage" "pieceStarts" "[I" .null := F22_pieceStarts'45.ext E48
  have F22_pieceOffsets'54 : Fld Z h48 b22 "com/example/meisai/meisai/DiameterMessage" "pieceOffsets" "[J" .null := F22_pieceOffsets'46.ext E48
  have F22_time'55 : Fld Z h48 b22 "com/example/meisai/meisai/DiameterMessage" "time" "J" (.long (0 : Int64)) := F22_time'47.ext E48
  have V40'56 : Arv Z h48 b32 k32 .int (1 : Int32) [(.int (0 : Int32))] (.int (0 : Int32)) := V40.ext E48
  have V48 : Arv Z h48 b48 k48 .long (1 : Int32) [(.long (0 : Int64))] (.long (0 : Int64)) := (Arv.new A48 (by decide)).pad (pad_rep [] (.long (0 : Int64)) 1)
  show GlW _ _ _ _ _ _ _ (T48.setTop (mkF m 216 #[.val (.int p1), .val (.int p2), .val (.long q3), .second, .val (.ref b1), .unset, .unset, .unset] [(.ref b48), (.ref b32), (.ref b1), (.ref sa24), (.ref b22), (.ref b22)]))
  refine GlW.st (fun t k => XS.dup X48.here hx rfl (hb hby at_216) rfl rfl k) ?_
  show GlW _ _ _ _ _ _ _ (T48.setTop (mkF m 217 #[.val (.int p1), .val (.int p2), .val (.long q3), .second, .val (.ref b1), .unset, .unset, .unset] [(.ref b48), (.ref b48), (.ref b32), (.ref b1), (.ref sa24), (.ref b22), (.ref b22)]))
  refine GlW.st (fun t k => XS.iconst X48.here hx rfl (hb hby at_217) k) ?_
  show GlW _ _ _ _ _ _ _ (T48.setTop (mkF m 218 #[.val (.int p1), .val (.int p2), .val (.long q3), .second, .val (.ref b1), .unset, .unset, .unset] [(.int (0 : Int32)), (.ref b48), (.ref b48), (.ref b32), (.ref b1), (.ref sa24), (.ref b22), (.ref b22)]))
  refine GlW.st (fun t k => XS.lconst X48.here hx rfl (hb hby at_218) k) ?_
  show GlW _ _ _ _ _ _ _ (T48.setTop (mkF m 219 #[.val (.int p1), .val (.int p2), .val (.long q3), .second, .val (.ref b1), .unset, .unset, .unset] [(.long (0 : Int64)), (.int (0 : Int32)), (.ref b48), (.ref b48), (.ref b32), (.ref b1), (.ref sa24), (.ref b22), (.ref b22)]))
  have Vx57 := V48
  obtain ⟨cl57, Ar57, qk57, S57, M57, H57, G57⟩ := Vx57
  have hin57 : ¬ ((0 : Int32) < 0 ∨ cl57.slots.size ≤ ((0 : Int32)).toNatClampNeg) := inb_of S57 ⟨by decide, by decide⟩
  obtain ⟨T57, h57, X57, e57, W57, st57⟩ := stJ X48 hx hZ e48 Ar57 (j := (0 : Int32)) hin57 (g := (mkF m 219 #[.val (.int p1), .val (.int p2), .val (.long q3), .second, .val (.ref b1), .unset, .unset, .unset] [(.long (0 : Int64)), (.int (0 : Int32)), (.ref b48), (.ref b48), (.ref b32), (.ref b1), (.ref sa24), (.ref b22), (.ref b22)])) rfl rfl (hb hby at_219)
  refine GlW.st st57 ?_
  have Z57 : n0 ≤ h57.size := Nat.le_trans Z48 (Keep.of_wr W57).1
  have kz57 : kk24 ≤ h57.size := Nat.le_trans kz48 (Keep.of_wr W57).1
  have N57 := Fr.snoc X57 N40 gzb48
  have V21'58 : Arv Z h57 b1 k1 .byte (20 : Int32) [(.int (nar .byte (p2.toInt8.toInt32))), (.int (nar .byte ((p2 >>> ((8 : Int32) &&& 31)).toInt8.toInt32))), (.int (nar .byte ((p2 >>> ((16 : Int32) &&& 31)).toInt8.toInt32))), (.int (nar .byte ((p2 >>> ((24 : Int32) &&& 31)).toInt8.toInt32))), (.int (nar .byte (p1.toInt8.toInt32))), (.int (nar .byte ((q3.toInt32).toInt8.toInt32))), (.int (nar .byte (((q3 >>> ((8 : Int32) &&& 0x3f).toInt64).toInt32).toInt8.toInt32))), (.int (nar .byte (((q3 >>> ((16 : Int32) &&& 0x3f).toInt64).toInt32).toInt8.toInt32))), (.int (nar .byte (((q3 >>> ((24 : Int32) &&& 0x3f).toInt64).toInt32).toInt8.toInt32))), (.int (nar .byte (((q3 >>> ((32 : Int32) &&& 0x3f).toInt64).toInt32).toInt8.toInt32))), (.int (nar .byte (((q3 >>> ((40 : Int32) &&& 0x3f).toInt64).toInt32).toInt8.toInt32))), (.int (nar .byte (((q3 >>> ((48 : Int32) &&& 0x3f).toInt64).toInt32).toInt8.toInt32))), (.int (nar .byte (((q3 >>> ((56 : Int32) &&& 0x3f).toInt64).toInt32).toInt8.toInt32))), (.int (nar .byte ((p1 >>> ((8 : Int32) &&& 31)).toInt8.toInt32))), (.int (nar .byte ((p1 >>> ((16 : Int32) &&& 31)).toInt8.toInt32))), (.int (nar .byte ((p1 >>> ((24 : Int32) &&& 31)).toInt8.toInt32))), (.int (nar .byte ((p2 >>> ((4 : Int32) &&& 31)).toInt8.toInt32))), (.int (nar .byte ((p2 >>> ((12 : Int32) &&& 31)).toInt8.toInt32))), (.int (nar .byte ((p2 >>> ((20 : Int32) &&& 31)).toInt8.toInt32))), (.int (nar .byte ((p2 >>> ((28 : Int32) &&& 31)).toInt8.toInt32)))] (.int (0 : Int32)) := V21'49.other W57 ne_b1_b48
  have A22'59 : Exa Z h57 b22 "com/example/meisai/meisai/DiameterMessage" := A22'50.wr W57
  have F22_path'60 : Fld Z h57 b22 "com/example/meisai/meisai/DiameterMessage" "path" "Ljava/lang/String;" .null := F22_path'51.other W57 (Or.inl ne_b22_b48)
  have F22_bytes'61 : Fld Z h57 b22 "com/example/meisai/meisai/DiameterMessage" "bytes" "[B" .null := F22_bytes'52.other W57 (Or.inl ne_b22_b48)
  have F22_pieceStarts'62 : Fld Z h57 b22 "com/example/meisai/meisai/DiameterMessage" "pieceStarts" "[I" .null := F22_pieceStarts'53.other W57 (Or.inl ne_b22_b48)
  have F22_pieceOffsets'63 : Fld Z h57 b22 "com/example/meisai/meisai/DiameterMessage" "pieceOffsets" "[J" .null := F22_pieceOffsets'54.other W57 (Or.inl ne_b22_b48)
  have F22_time'64 : Fld Z h57 b22 "com/example/meisai/meisai/DiameterMessage" "time" "J" (.long (0 : Int64)) := F22_time'55.other W57 (Or.inl ne_b22_b48)
  have V40'65 : Arv Z h57 b32 k32 .int (1 : Int32) [(.int (0 : Int32))] (.int (0 : Int32)) := V40'56.other W57 ne_b32_b48
  have V57 : Arv Z h57 b48 k48 .long (1 : Int32) [(.long (0 : Int64))] (.long (0 : Int64)) := Arv.set Ar57 qk57 S57 M57 H57 G57 rfl W57 0 rfl (Nat.le_of_ble_eq_true rfl)
  show GlW _ _ _ _ _ _ _ (T57.setTop (mkF m 220 #[.val (.int p1), .val (.int p2), .val (.long q3), .second, .val (.ref b1), .unset, .unset, .unset] [(.ref b48), (.ref b32), (.ref b1), (.ref sa24), (.ref b22), (.ref b22)]))
  refine GlW.st (fun t k => XS.lloadN X57.here hx rfl (hb hby at_220) rfl  k) ?_
  show GlW _ _ _ _ _ _ _ (T57.setTop (mkF m 221 #[.val (.int p1), .val (.int p2), .val (.long q3), .second, .val (.ref b1), .unset, .unset, .unset] [(.long q3), (.ref b48), (.ref b32), (.ref b1), (.ref sa24), (.ref b22), (.ref b22)]))
  obtain ⟨_, _, ⟨T66, L66, k66, n66⟩, -, X66, ⟨Lc66, hQ66, l66, y66, z66⟩, st66⟩ := X57.specialBack hx (y := (⟨"com/example/meisai/meisai/DiameterMessage", "<init>", "(Ljava/lang/String;[B[I[JJ)V"⟩ : MethodName)) rfl hown (mvT hZ (hw _ (List.mem_of_getElem? (i := 13) rfl))) (mvT hZ (hw _ (List.mem_of_getElem? (i := 14) rfl))) (mvT hZ (hw _ (List.mem_of_getElem? (i := 15) rfl))) (by decide) (backOf (W := 1) (rm1 l Z a0 hw [] b22 sa24 b1 b32 b48 q3 (.null) (.null) (.null) (.null) ((.long (0 : Int64))) h57 n0 Z57 A22'59 F22_path'60 F22_bytes'61 F22_pieceStarts'62 F22_pieceOffsets'63 F22_time'64 gzb22) hZ (hw _ (List.mem_of_getElem? (i := 15) rfl)) (hw _ (List.mem_of_getElem? (i := 3) rfl)) (by decide) (by decide)) (g := (mkF m 221 #[.val (.int p1), .val (.int p2), .val (.long q3), .second, .val (.ref b1), .unset, .unset, .unset] [(.long q3), (.ref b48), (.ref b32), (.ref b1), (.ref sa24), (.ref b22), (.ref b22)])) rfl (by rw [hml]; rfl) (Steps.refl _) (a := b22) (argsL := [(.ref sa24), (.ref b1), (.ref b32), (.ref b48), (.long q3)]) (rest := [(.ref b22)]) (lenOf pd_0 rfl) rfl (by show 2 * 0 + _ ≤ _; exact Nat.le_of_eq rfl) (hb hby at_221) (fun _ _ => ⟨rfl, e57, (by decide : 6 + 0 ≤ _), (by decide : 35 + 0 ≤ _)⟩)
  dsimp only [Pt.U, Pt.locs, Pt.cells, Pt.slots] at X66 l66 y66 z66 st66 hQ66
  rw [y66, z66] at X66
  obtain ⟨rfl, N66q, Kq66, Fq66_0, Fq66_1, Fq66_2, Fq66_3, Fq66_4, Fq66_5⟩ := hQ66
  have N66 : Fr n0 L66 := by rw [l66]; exact Fr.app N57 N66q
  have Z66 : n0 ≤ T66.heap.size := Nat.le_trans Z57 Kq66.1
  have kz66 : kk24 ≤ T66.heap.size := Nat.le_trans kz57 Kq66.1
  have V21'67 : Arv Z T66.heap b1 k1 .byte (20 : Int32) [(.int (nar .byte (p2.toInt8.toInt32))), (.int (nar .byte ((p2 >>> ((8 : Int32) &&& 31)).toInt8.toInt32))), (.int (nar .byte ((p2 >>> ((16 : Int32) &&& 31)).toInt8.toInt32))), (.int (nar .byte ((p2 >>> ((24 : Int32) &&& 31)).toInt8.toInt32))), (.int (nar .byte (p1.toInt8.toInt32))), (.int (nar .byte ((q3.toInt32).toInt8.toInt32))), (.int (nar .byte (((q3 >>> ((8 : Int32) &&& 0x3f).toInt64).toInt32).toInt8.toInt32))), (.int (nar .byte (((q3 >>> ((16 : Int32) &&& 0x3f).toInt64).toInt32).toInt8.toInt32))), (.int (nar .byte (((q3 >>> ((24 : Int32) &&& 0x3f).toInt64).toInt32).toInt8.toInt32))), (.int (nar .byte (((q3 >>> ((32 : Int32) &&& 0x3f).toInt64).toInt32).toInt8.toInt32))), (.int (nar .byte (((q3 >>> ((40 : Int32) &&& 0x3f).toInt64).toInt32).toInt8.toInt32))), (.int (nar .byte (((q3 >>> ((48 : Int32) &&& 0x3f).toInt64).toInt32).toInt8.toInt32))), (.int (nar .byte (((q3 >>> ((56 : Int32) &&& 0x3f).toInt64).toInt32).toInt8.toInt32))), (.int (nar .byte ((p1 >>> ((8 : Int32) &&& 31)).toInt8.toInt32))), (.int (nar .byte ((p1 >>> ((16 : Int32) &&& 31)).toInt8.toInt32))), (.int (nar .byte ((p1 >>> ((24 : Int32) &&& 31)).toInt8.toInt32))), (.int (nar .byte ((p2 >>> ((4 : Int32) &&& 31)).toInt8.toInt32))), (.int (nar .byte ((p2 >>> ((12 : Int32) &&& 31)).toInt8.toInt32))), (.int (nar .byte ((p2 >>> ((20 : Int32) &&& 31)).toInt8.toInt32))), (.int (nar .byte ((p2 >>> ((28 : Int32) &&& 31)).toInt8.toInt32)))] (.int (0 : Int32)) := V21'58.keep Kq66 (ninS ne_b1_b22 nin0)
  have V40'68 : Arv Z T66.heap b32 k32 .int (1 : Int32) [(.int (0 : Int32))] (.int (0 : Int32)) := V40'65.keep Kq66 (ninS (Ne.symm ne_b22_b32) nin0)
  have V57'69 : Arv Z T66.heap b48 k48 .long (1 : Int32) [(.long (0 : Int64))] (.long (0 : Int64)) := V57.keep Kq66 (ninS (Ne.symm ne_b22_b48) nin0)
  refine GlW.to st66 ?_
  show GlW _ _ _ _ _ _ _ (T66.setTop (mkF m 224 #[.val (.int p1), .val (.int p2), .val (.long q3), .second, .val (.ref b1), .unset, .unset, .unset] [(.ref b22)]))
  refine GlW.st (fun t k => XS.astore X66.here hx rfl (hb hby at_224) rfl rfl (l' := #[.val (.int p1), .val (.int p2), .val (.long q3), .second, .val (.ref b1), .val (.ref b22), .unset, .unset]) rfl k) ?_
  show GlW _ _ _ _ _ _ _ (T66.setTop (mkF m 226 #[.val (.int p1), .val (.int p2), .val (.long q3), .second, .val (.ref b1), .val (.ref b22), .unset, .unset] []))
  refine GlW.st (fun t k => XS.iloadN X66.here hx rfl (hb hby at_226) rfl  k) ?_
  show GlW _ _ _ _ _ _ _ (T66.setTop (mkF m 227 #[.val (.int p1), .val (.int p2), .val (.long q3), .second, .val (.ref b1), .val (.ref b22), .unset, .unset] [(.int p1)]))
  refine GlW.st (fun t k => XS.sipush X66.here hx rfl (hb hby at_227) k) ?_
  show GlW _ _ _ _ _ _ _ (T66.setTop (mkF m 230 #[.val (.int p1), .val (.int p2), .val (.long q3), .second, .val (.ref b1), .val (.ref b22), .unset, .unset] [(.int (255 : Int32)), (.int p1)]))
  refine GlW.st (fun t k => XS.iand X66.here hx rfl (hb hby at_230) rfl k) ?_
  show GlW _ _ _ _ _ _ _ (T66.setTop (mkF m 231 #[.val (.int p1), .val (.int p2), .val (.long q3), .second, .val (.ref b1), .val (.ref b22), .unset, .unset] [(.int (p1 &&& (255 : Int32)))]))
  refine GlW.st (fun t k => XS.istore X66.here hx rfl (hb hby at_231) rfl (l' := #[.val (.int p1), .val (.int p2), .val (.long q3), .second, .val (.ref b1), .val (.ref b22), .val (.int (p1 &&& (255 : Int32))), .unset]) rfl k) ?_
  show GlW _ _ _ _ _ _ _ (T66.setTop (mkF m 233 #[.val (.int p1), .val (.int p2), .val (.long q3), .second, .val (.ref b1), .val (.ref b22), .val (.int (p1 &&& (255 : Int32))), .unset] []))
  refine GlW.st (fun t k => XS.iload X66.here hx rfl (hb hby at_233) rfl  k) ?_
  show GlW _ _ _ _ _ _ _ (T66.setTop (mkF m 235 #[.val (.int p1), .val (.int p2), .val (.long q3), .second, .val (.ref b1), .val (.ref b22), .val (.int (p1 &&& (255 : Int32))), .unset] [(.int (p1 &&& (255 : Int32)))]))
  refine GlW.st (fun t k => XS.sipush X66.here hx rfl (hb hby at_235) k) ?_
  show GlW _ _ _ _ _ _ _ (T66.setTop (mkF m 238 #[.val (.int p1), .val (.int p2), .val (.long q3), .second, .val (.ref b1), .val (.ref b22), .val (.int (p1 &&& (255 : Int32))), .unset] [(.int (128 : Int32)), (.int (p1 &&& (255 : Int32)))]))
  have J70 : ∀ (Tj70 : State) (Lj70 : List Loc) (Xj70 : Stand p l e room_1 (s.setVm T24.vm) m #[(.int p1), (.int p2), (.long q3)] below meth c Tj70 Lj70 6 35) (ej70 : Tj70.heap = T66.heap) (Nj70 : Fr n0 Lj70) (z246s0 : Int32) (hz246s0 : z246s0 = (if (p1 &&& (255 : Int32)) < (128 : Int32) then (0 : Int32) else (1 : Int32))), GlW p e below s (Q0 Z p1 p2 q3 h0 n0) room_1.cells room_1.slots (Tj70.setTop (mkF m 246 #[.val (.int p1), .val (.int p2), .val (.long q3), .second, .val (.ref b1), .val (.ref b22), .val (.int (p1 &&& (255 : Int32))), .unset] [(.int z246s0)])) := by
    intro Tj70 Lj70 Xj70 ej70 Nj70 z246s0 hz246s0
    show GlW _ _ _ _ _ _ _ (Tj70.setTop (mkF m 246 #[.val (.int p1), .val (.int p2), .val (.long q3), .second, .val (.ref b1), .val (.ref b22), .val (.int (p1 &&& (255 : Int32))), .unset] [(.int z246s0)]))
    refine GlW.st (fun t k => XS.istore Xj70.here hx rfl (hb hby at_246) rfl (l' := #[.val (.int p1), .val (.int p2), .val (.long q3), .second, .val (.ref b1), .val (.ref b22), .val (.int (p1 &&& (255 : Int32))), .val (.int z246s0)]) rfl k) ?_
    show GlW _ _ _ _ _ _ _ (Tj70.setTop (mkF m 248 #[.val (.int p1), .val (.int p2), .val (.long q3), .second, .val (.ref b1), .val (.ref b22), .val (.int (p1 &&& (255 : Int32))), .val (.int z246s0)] []))
    refine GlW.st (fun t k => XS.aload Xj70.here hx rfl (hb hby at_248) rfl rfl k) ?_
    show GlW _ _ _ _ _ _ _ (Tj70.setTop (mkF m 250 #[.val (.int p1), .val (.int p2), .val (.long q3), .second, .val (.ref b1), .val (.ref b22), .val (.int (p1 &&& (255 : Int32))), .val (.int z246s0)] [(.ref b22)]))
    obtain ⟨cq71, kq71, qa71, qb71, qc71⟩ := isOf hZ ej70 Fq66_0
    obtain ⟨_, _, ⟨T71, L71, k71, n71⟩, -, X71, ⟨Lc71, hQ71, l71, y71, z71⟩, st71⟩ := Xj70.virtualBack hx (y := (⟨"com/example/meisai/meisai/DiameterMessage", "isRequest", "()Z"⟩ : MethodName)) (z := (⟨"com/example/meisai/meisai/DiameterMessage", "isRequest", "()Z"⟩ : MethodName)) hown (mvT hZ (hw _ (List.mem_of_getElem? (i := 29) rfl))) (mvT hZ (hw _ (List.mem_of_getElem? (i := 30) rfl))) (notFace_of_selects (args := #[]) (mvT hZ (hw _ (List.mem_of_getElem? (i := 32) rfl)))) (mvT hZ (hw _ (List.mem_of_getElem? (i := 32) rfl))) (mvT hZ (hw _ (List.mem_of_getElem? (i := 31) rfl))) (by decide) (backOf (W := 0) (rm3 l Z a0 hw [] b22 (b1) (k1) ((nar .byte (p2.toInt8.toInt32))) ((nar .byte ((p2 >>> ((8 : Int32) &&& 31)).toInt8.toInt32))) ((nar .byte ((p2 >>> ((16 : Int32) &&& 31)).toInt8.toInt32))) ((nar .byte ((p2 >>> ((24 : Int32) &&& 31)).toInt8.toInt32))) ((nar .byte (p1.toInt8.toInt32))) ((nar .byte ((q3.toInt32).toInt8.toInt32))) ((nar .byte (((q3 >>> ((8 : Int32) &&& 0x3f).toInt64).toInt32).toInt8.toInt32))) ((nar .byte (((q3 >>> ((16 : Int32) &&& 0x3f).toInt64).toInt32).toInt8.toInt32))) ((nar .byte (((q3 >>> ((24 : Int32) &&& 0x3f).toInt64).toInt32).toInt8.toInt32))) ((nar .byte (((q3 >>> ((32 : Int32) &&& 0x3f).toInt64).toInt32).toInt8.toInt32))) ((nar .byte (((q3 >>> ((40 : Int32) &&& 0x3f).toInt64).toInt32).toInt8.toInt32))) ((nar .byte (((q3 >>> ((48 : Int32) &&& 0x3f).toInt64).toInt32).toInt8.toInt32))) ((nar .byte (((q3 >>> ((56 : Int32) &&& 0x3f).toInt64).toInt32).toInt8.toInt32))) ((nar .byte ((p1 >>> ((8 : Int32) &&& 31)).toInt8.toInt32))) ((nar .byte ((p1 >>> ((16 : Int32) &&& 31)).toInt8.toInt32))) ((nar .byte ((p1 >>> ((24 : Int32) &&& 31)).toInt8.toInt32))) ((nar .byte ((p2 >>> ((4 : Int32) &&& 31)).toInt8.toInt32))) ((nar .byte ((p2 >>> ((12 : Int32) &&& 31)).toInt8.toInt32))) ((nar .byte ((p2 >>> ((20 : Int32) &&& 31)).toInt8.toInt32))) ((nar .byte ((p2 >>> ((28 : Int32) &&& 31)).toInt8.toInt32))) T66.heap n0  Fq66_2 V21'67) hZ (hw _ (List.mem_of_getElem? (i := 33) rfl)) (hw _ (List.mem_of_getElem? (i := 3) rfl)) (by decide) (by decide)) qa71 qc71 (g := (mkF m 250 #[.val (.int p1), .val (.int p2), .val (.long q3), .second, .val (.ref b1), .val (.ref b22), .val (.int (p1 &&& (255 : Int32))), .val (.int z246s0)] [(.ref b22)])) rfl (by rw [hml]; rfl) (Steps.refl _) (argsL := []) (rest := []) (lenOf pd_1 rfl) rfl (by show 2 * 0 + _ ≤ _; exact Nat.le_of_eq rfl) (hb hby at_250) (fun _ _ => ⟨rfl, ej70, (by decide : 6 + 0 ≤ _), (by decide : 35 + 0 ≤ _)⟩)
    dsimp only [Pt.U, Pt.locs, Pt.cells, Pt.slots] at X71 l71 y71 z71 st71 hQ71
    rw [y71, z71] at X71
    obtain ⟨rfl, N71q, e71⟩ := hQ71
    have N71 : Fr n0 L71 := by rw [l71]; exact Fr.app Nj70 N71q
    refine GlW.to st71 ?_
    show GlW _ _ _ _ _ _ _ (T71.setTop (mkF m 253 #[.val (.int p1), .val (.int p2), .val (.long q3), .second, .val (.ref b1), .val (.ref b22), .val (.int (p1 &&& (255 : Int32))), .val (.int z246s0)] [(.int (own_req (nar .byte (p1.toInt8.toInt32))))]))
    refine GlW.st (fun t k => XS.iload X71.here hx rfl (hb hby at_253) rfl  k) ?_
    show GlW _ _ _ _ _ _ _ (T71.setTop (mkF m 255 #[.val (.int p1), .val (.int p2), .val (.long q3), .second, .val (.ref b1), .val (.ref b22), .val (.int (p1 &&& (255 : Int32))), .val (.int z246s0)] [(.int z246s0), (.int (own_req (nar .byte (p1.toInt8.toInt32))))]))
    have hc255_72 : (own_req (nar .byte (p1.toInt8.toInt32))) = z246s0 := by rw [hz246s0]; exact own_flag _
    refine GlW.st (fun t k => XS.icmpNo X71.here hx rfl (hb hby at_255) rfl (teq hc255_72).2 k) ?_
    show GlW _ _ _ _ _ _ _ (T71.setTop (mkF m 258 #[.val (.int p1), .val (.int p2), .val (.long q3), .second, .val (.ref b1), .val (.ref b22), .val (.int (p1 &&& (255 : Int32))), .val (.int z246s0)] []))
    refine GlW.st (fun t k => XS.iconst X71.here hx rfl (hb hby at_258) k) ?_
    show GlW _ _ _ _ _ _ _ (T71.setTop (mkF m 259 #[.val (.int p1), .val (.int p2), .val (.long q3), .second, .val (.ref b1), .val (.ref b22), .val (.int (p1 &&& (255 : Int32))), .val (.int z246s0)] [(.int (1 : Int32))]))
    refine GlW.st (fun t k => XS.goto X71.here hx rfl (pc0 := 259) (pc' := 263) rfl (hb hby at_259) (by decide) (by decide) k) ?_
    show GlW _ _ _ _ _ _ _ (T71.setTop (mkF m 263 #[.val (.int p1), .val (.int p2), .val (.long q3), .second, .val (.ref b1), .val (.ref b22), .val (.int (p1 &&& (255 : Int32))), .val (.int z246s0)] [(.int (1 : Int32))]))
    exact GlW.retN X71 hx hS24 (by rw [e71]; exact kz66) hlk Bd.returns (by simp) (hb hby at_263) (⟨rfl, N71⟩) (by decide) (by decide)
  by_cases hc238 : (p1 &&& (255 : Int32)) < (128 : Int32)
  · refine GlW.st (fun t k => XS.icmpYes X66.here hx rfl (pc0 := 238) (pc' := 245) rfl (hb hby at_238) rfl (tlt hc238).1 (by decide) (by decide) k) ?_
    show GlW _ _ _ _ _ _ _ (T66.setTop (mkF m 245 #[.val (.int p1), .val (.int p2), .val (.long q3), .second, .val (.ref b1), .val (.ref b22), .val (.int (p1 &&& (255 : Int32))), .unset] []))
    refine GlW.st (fun t k => XS.iconst X66.here hx rfl (hb hby at_245) k) ?_
    show GlW _ _ _ _ _ _ _ (T66.setTop (mkF m 246 #[.val (.int p1), .val (.int p2), .val (.long q3), .second, .val (.ref b1), .val (.ref b22), .val (.int (p1 &&& (255 : Int32))), .unset] [(.int (0 : Int32))]))
    exact J70 _ _ X66 rfl N66 _ (by simp only [if_pos hc238])
  · refine GlW.st (fun t k => XS.icmpNo X66.here hx rfl (hb hby at_238) rfl (flt hc238).1 k) ?_
    show GlW _ _ _ _ _ _ _ (T66.setTop (mkF m 241 #[.val (.int p1), .val (.int p2), .val (.long q3), .second, .val (.ref b1), .val (.ref b22), .val (.int (p1 &&& (255 : Int32))), .unset] []))
    refine GlW.st (fun t k => XS.iconst X66.here hx rfl (hb hby at_241) k) ?_
    show GlW _ _ _ _ _ _ _ (T66.setTop (mkF m 242 #[.val (.int p1), .val (.int p2), .val (.long q3), .second, .val (.ref b1), .val (.ref b22), .val (.int (p1 &&& (255 : Int32))), .unset] [(.int (1 : Int32))]))
    refine GlW.st (fun t k => XS.goto X66.here hx rfl (pc0 := 242) (pc' := 246) rfl (hb hby at_242) (by decide) (by decide) k) ?_
    show GlW _ _ _ _ _ _ _ (T66.setTop (mkF m 246 #[.val (.int p1), .val (.int p2), .val (.long q3), .second, .val (.ref b1), .val (.ref b22), .val (.int (p1 &&& (255 : Int32))), .unset] [(.int (1 : Int32))]))
    exact J70 _ _ X66 rfl N66 _ (by simp only [if_neg hc238])
set_option maxRecDepth 65536 in
set_option maxHeartbeats 40000000 in
theorem comes_1 {Post : Tables → Env → Array Value → State → Outcome → State → Prop} (hpost : ∀ tb e args s v u, (limb_1_1.after args s (.returned v) u = true ∧ limb_1_2.after args s (.returned v) u = true ∧ True) → ReturnedEndW s (.returned v) u (Jvm.fieldLocs frame_1_writes args s ++ Jvm.arrayLocs frame_1_arrays args s ++ Jvm.staticLocs frame_1_statics s) 24 1152 → Post tb e args s (.returned v) u) :
    ArmFor flags0 classFile x code maxLocals ret World_1 tables_1 room_1 Calls_1 rest_1 Pre_1 Post := by
  intro l hfl _ _ p e ha hc hk s m args below hf hA hF happ hP
  obtain ⟨hcalls, hrest, hpre⟩ := hP
  obtain ⟨-, -, -, hnamed, -, -, -, hat⟩ := (Spec.applies_iff hf).mp happ
  obtain ⟨hg, hn⟩ := and_e (Cond.before_iff.mp (show (Jvm.Cond.and given_1 narrow_1).before args s = true from hpre))
  obtain ⟨hcnt, hr0⟩ := and_e hg
  obtain ⟨ha0, hr1⟩ := and_e hr0
  obtain ⟨ha1, hr2⟩ := and_e hr1
  have ha2 := hr2
  obtain ⟨w0, w1, w2, rfl⟩ : ∃ w0 w1 w2 : Value, args = #[w0, w1, w2] := by
    have hs : args.size = 3 := by simpa [Cond.value, given_1] using hcnt
    obtain ⟨L⟩ := args
    match L, hs with
    | [w0, w1, w2], _ => exact ⟨w0, w1, w2, rfl⟩
  have hw := fun d (hd : d ∈ tables_1) => atoms_spec (ws := Jvm.Cond.code x code maxLocals ret :: tables_1) hat d (List.mem_cons_of_mem _ hd)
  obtain ⟨i0, ei0⟩ := is_v ha0
  obtain rfl : w0 = (.int i0) := Option.some.inj ei0
  obtain ⟨i1, ei1⟩ := is_v ha1
  obtain rfl : w1 = (.int i1) := Option.some.inj ei1
  obtain ⟨i2, ei2⟩ := isL_v ha2
  obtain rfl : w2 = (.long i2) := Option.some.inj ei2
  obtain ⟨n, o, h1, h2, h3, _, L, rfl, ⟨rfl, N⟩, hq⟩ := rm0 l s _ hw tables_1 i0 i1 i2 s.heap s.heap.size (Nat.le_refl _) p e ha hc hk s m _ below hf ((Spec.applies_iff_loose hf).mp happ).1 ⟨rfl, State.Warmed39.refl s, rfl⟩ trivial
  refine ⟨n, _, h1, h2, h3, hpost _ _ _ _ _ _ ⟨Cond.after_iff.mpr rfl, Cond.after_iff.mpr (eq_i res_at (Term.int_eval (1)) rfl), trivial⟩ ⟨hq.1, hq.2.1, hq.2.2.1, (hq.2.2.2.sift fun y hy => Or.inr (N y hy)).mono (by decide) (by decide)⟩⟩
theorem main_1_1 : Claimed_1_1 := comes_1 fun _ _ _ _ _ _ h hF => ⟨h.1, hF⟩
theorem main_1_2 : Claimed_1_2 := comes_1 fun _ _ _ _ _ _ h hF => ⟨h.2.1, hF⟩
end Jvm.Pilot.@@N@@
namespace Jvm.Pilot.@@N@@
open Jvm Jvm.ClassFile Sem Op Lib Jvm.Free Jvm.Stand Jvm.Pilot.@@N@@.Jvm.D
/-! MADE BY PROGRAM (witnessworld.py) out of the Statement's table words and the real class files: 16 classes; the members and pool entries that the words name. The judged class is class 1, her method 1. -/
namespace start1
open Jvm.ClassFile
def u (s : String) : CpInfo := .utf8 (stringToUtf16 s)
/-- a pool by its gaps: so many unusable entries, then the entry; so many at the end -/
def gap : Nat → List CpInfo → List CpInfo
  | 0, r => r
  | n + 1, r => .unusable :: gap n r
def poolList (es : List (Nat × CpInfo)) (last : Nat) : List CpInfo := es.foldr (fun e r => gap e.1 (e.2 :: r)) (gap last [])
def pool (es : List (Nat × CpInfo)) (last : Nat) : Array CpInfo := ⟨poolList es last⟩
def fileOf (pool : Array CpInfo) (this : Nat) (attrs : Array Attribute := #[]) (ms : Array MethodInfo := #[]) (fl : Nat := 33) (sup : Nat := 0) (ifs : Array Nat := #[]) (fds : Array FieldInfo := #[]) : ClassFile where
  minorVersion := 0
  majorVersion := 65
  constantPool := pool
  accessFlags := fl
  thisClass := this
  superClass := sup
  interfaces := ifs
  fields := fds
  methods := ms
  attributes := attrs
def plain (name : String) (sup : Option ClassId) : Class where
  name := name
  kind := .ordinary
  loader := none
  accessFlags := 33
  super := sup
  interfaces := #[]
  cf := none
  fields := #[]
  methods := #[]
  instanceTypes := #[]
  staticTypes := #[]
  resolved := #[]
  callSites := []
  init := .initialized
  statics := none
  mirror := none

def pool0 : Array CpInfo := pool [(5, u "<init>"), (0, u "()V"), (1, .class_ 10), (1, u "java/lang/Object")] 113

def k0c0 : Code := { maxStack := 0, maxLocals := 1, code := object_method_1_code, exceptionTable := #[], attributes := #[] }
def k0m0 : Method := { name := "<init>", desc := "()V", sig := { parameters := [], returnType := none }, accessFlags := 1, code := some k0c0 }
/-- java/lang/Object -/
def k0 : Class := { plain "java/lang/Object" none with
  accessFlags := 33
  interfaces := #[]
  cf := some (fileOf pool0 8 #[] #[{ accessFlags := 1, nameIndex := 5, descriptorIndex := 6, attributes := #[] }] 33 0 #[] #[])
  fields := #[]
  methods := #[k0m0]
  instanceTypes := #[]
  staticTypes := #[]
  resolved := Array.replicate 124 none
  statics := none }

def pool1 : Array CpInfo := pool [(2, .class_ 4), (1, u "java/lang/Object"), (0, u "<init>"), (0, u "()V"), (0, .class_ 8), (0, u "com/example/meisai/meisai/DiameterMessage"), (0, .string 10), (0, u "p"), (0, .methodref 7 12), (0, .nameAndType 5 13), (0, u "(Ljava/lang/String;[B[I[JJ)V"), (0, .methodref 7 15), (0, .nameAndType 16 17), (0, u "isRequest"), (0, u "()Z"), (0, .class_ 19), (0, u "com/example/meisai/meisai/DiameterMessageIsRequestPinLaw"), (2, u "law"), (0, u "(IIJ)Z")] 5

def k1m0 : Method := { name := "<init>", desc := "()V", sig := { parameters := [], returnType := none }, accessFlags := 1, code := none }
def k1c1 : Code := { maxStack := 10, maxLocals := 8, code := code, exceptionTable := #[], attributes := #[] }
def k1m1 : Method := { name := "law", desc := "(IIJ)Z", sig := { parameters := [.int, .int, .long], returnType := some .boolean }, accessFlags := 9, code := some k1c1 }
/-- com/example/meisai/meisai/DiameterMessageIsRequestPinLaw -/
def k1 : Class := { plain "com/example/meisai/meisai/DiameterMessageIsRequestPinLaw" (some 0) with
  accessFlags := 49
  interfaces := #[]
  cf := some (fileOf pool1 18 #[] #[{ accessFlags := 1, nameIndex := 5, descriptorIndex := 6, attributes := #[] }, { accessFlags := 9, nameIndex := 22, descriptorIndex := 23, attributes := #[] }] 49 2 #[] #[])
  fields := #[]
  methods := #[k1m0, k1m1]
  instanceTypes := #[]
  staticTypes := #[]
  resolved := Array.replicate 29 none
  statics := none }

def pool2 : Array CpInfo := pool [(3, .methodref 4 5), (0, .class_ 6), (0, .nameAndType 7 8), (0, u "java/lang/Object"), (0, u "<init>"), (0, u "()V"), (0, .fieldref 10 11), (0, .class_ 12), (0, .nameAndType 13 14), (0, u "com/example/meisai/meisai/DiameterMessage"), (0, u "path"), (0, u "Ljava/lang/String;"), (0, .fieldref 10 16), (0, .nameAndType 17 18), (0, u "bytes"), (0, u "[B"), (0, .fieldref 10 20), (0, .nameAndType 21 22), (0, u "pieceStarts"), (0, u "[I"), (0, .fieldref 10 24), (0, .nameAndType 25 26), (0, u "pieceOffsets"), (0, u "[J"), (0, .fieldref 10 28), (0, .nameAndType 29 30), (0, u "time"), (0, u "J"), (35, .class_ 68), (1, u "com/example/meisai/meisai/DiameterMessage$Avp"), (107, u "HEADER_BYTES"), (0, u "I"), (2, u "REQUEST_FLAG"), (1, u "AVP_HEADER_BYTES"), (1, u "VENDOR_FLAG"), (0, u "VENDOR_ID_BYTES"), (1, u "SECONDS_1900_TO_1970"), (0, u "NTP_ERA_SECONDS"), (0, u "NTP_ERA_0_BIT"), (1, u "(Ljava/lang/String;[B[I[JJ)V"), (3, u "isRequest"), (0, u "()Z")] 40

def k2c0 : Code := { maxStack := 3, maxLocals := 7, code := prog_5_method_1_code, exceptionTable := #[], attributes := #[] }
def k2m0 : Method := { name := "<init>", desc := "(Ljava/lang/String;[B[I[JJ)V", sig := { parameters := [(.object "java/lang/String"), (.array .byte), (.array .int), (.array .long), .long], returnType := none }, accessFlags := 0, code := some k2c0 }
def k2c1 : Code := { maxStack := 2, maxLocals := 1, code := prog_5_method_3_code, exceptionTable := #[], attributes := #[] }
def k2m1 : Method := { name := "isRequest", desc := "()Z", sig := { parameters := [], returnType := some .boolean }, accessFlags := 0, code := some k2c1 }
/-- com/example/meisai/meisai/DiameterMessage -/
def k2 : Class := { plain "com/example/meisai/meisai/DiameterMessage" (some 0) with
  accessFlags := 32
  interfaces := #[]
  cf := some (fileOf pool2 10 #[.nestMembers #[66]] #[{ accessFlags := 0, nameIndex := 7, descriptorIndex := 191, attributes := #[] }, { accessFlags := 0, nameIndex := 195, descriptorIndex := 196, attributes := #[] }] 32 4 #[] #[{ accessFlags := 24, nameIndex := 176, descriptorIndex := 177, attributes := #[] }, { accessFlags := 26, nameIndex := 180, descriptorIndex := 177, attributes := #[] }, { accessFlags := 26, nameIndex := 182, descriptorIndex := 177, attributes := #[] }, { accessFlags := 26, nameIndex := 184, descriptorIndex := 177, attributes := #[] }, { accessFlags := 26, nameIndex := 185, descriptorIndex := 177, attributes := #[] }, { accessFlags := 26, nameIndex := 187, descriptorIndex := 30, attributes := #[] }, { accessFlags := 26, nameIndex := 188, descriptorIndex := 30, attributes := #[] }, { accessFlags := 26, nameIndex := 189, descriptorIndex := 177, attributes := #[] }, { accessFlags := 18, nameIndex := 13, descriptorIndex := 14, attributes := #[] }, { accessFlags := 18, nameIndex := 17, descriptorIndex := 18, attributes := #[] }, { accessFlags := 18, nameIndex := 21, descriptorIndex := 22, attributes := #[] }, { accessFlags := 18, nameIndex := 25, descriptorIndex := 26, attributes := #[] }, { accessFlags := 18, nameIndex := 29, descriptorIndex := 30, attributes := #[] }])
  fields := #[{ name := "HEADER_BYTES", type := .int, accessFlags := 24, slot := 0, constantValue := 0 }, { name := "REQUEST_FLAG", type := .int, accessFlags := 26, slot := 1, constantValue := 0 }, { name := "AVP_HEADER_BYTES", type := .int, accessFlags := 26, slot := 2, constantValue := 0 }, { name := "VENDOR_FLAG", type := .int, accessFlags := 26, slot := 3, constantValue := 0 }, { name := "VENDOR_ID_BYTES", type := .int, accessFlags := 26, slot := 4, constantValue := 0 }, { name := "SECONDS_1900_TO_1970", type := .long, accessFlags := 26, slot := 5, constantValue := 0 }, { name := "NTP_ERA_SECONDS", type := .long, accessFlags := 26, slot := 6, constantValue := 0 }, { name := "NTP_ERA_0_BIT", type := .int, accessFlags := 26, slot := 7, constantValue := 0 }, { name := "path", type := (.object "java/lang/String"), accessFlags := 18, slot := 0, constantValue := 0 }, { name := "bytes", type := (.array .byte), accessFlags := 18, slot := 1, constantValue := 0 }, { name := "pieceStarts", type := (.array .int), accessFlags := 18, slot := 2, constantValue := 0 }, { name := "pieceOffsets", type := (.array .long), accessFlags := 18, slot := 3, constantValue := 0 }, { name := "time", type := .long, accessFlags := 18, slot := 4, constantValue := 0 }]
  methods := #[k2m0, k2m1]
  instanceTypes := #[(.object "java/lang/String"), (.array .byte), (.array .int), (.array .long), .long]
  staticTypes := #[.int, .int, .int, .int, .int, .long, .long, .int]
  resolved := Array.replicate 237 none
  statics := none }

def pool3 : Array CpInfo := pool [(1, .class_ 2), (0, u "java/io/Serializable"), (0, .class_ 4), (0, u "java/lang/Object")] 2

/-- java/io/Serializable -/
def k3 : Class := { plain "java/io/Serializable" (some 0) with
  accessFlags := 1537
  interfaces := #[]
  cf := some (fileOf pool3 1 #[] #[] 1537 3 #[] #[])
  fields := #[]
  methods := #[]
  instanceTypes := #[]
  staticTypes := #[]
  resolved := Array.replicate 7 none
  statics := none }

def pool4 : Array CpInfo := pool [(1, .class_ 2), (0, u "java/lang/Comparable"), (0, .class_ 4), (0, u "java/lang/Object")] 7

/-- java/lang/Comparable -/
def k4 : Class := { plain "java/lang/Comparable" (some 0) with
  accessFlags := 1537
  interfaces := #[]
  cf := some (fileOf pool4 1 #[] #[] 1537 3 #[] #[])
  fields := #[]
  methods := #[]
  instanceTypes := #[]
  staticTypes := #[]
  resolved := Array.replicate 12 none
  statics := none }

def pool5 : Array CpInfo := pool [(2, .class_ 4), (1, u "java/lang/CharSequence"), (42, .class_ 48), (0, u "java/lang/CharSequence$1CodePointIterator"), (10, .class_ 60), (0, u "java/lang/CharSequence$1CharIterator"), (5, .class_ 67), (0, u "java/lang/Object")] 63

/-- java/lang/CharSequence -/
def k5 : Class := { plain "java/lang/CharSequence" (some 0) with
  accessFlags := 1537
  interfaces := #[]
  cf := some (fileOf pool5 2 #[.nestMembers #[47, 59]] #[] 1537 66 #[] #[])
  fields := #[]
  methods := #[]
  instanceTypes := #[]
  staticTypes := #[]
  resolved := Array.replicate 131 none
  statics := none }

def pool6 : Array CpInfo := pool [(1, .class_ 2), (0, u "java/lang/constant/Constable"), (0, .class_ 4), (0, u "java/lang/Object")] 6

/-- java/lang/constant/Constable -/
def k6 : Class := { plain "java/lang/constant/Constable" (some 0) with
  accessFlags := 1537
  interfaces := #[]
  cf := some (fileOf pool6 1 #[] #[] 1537 3 #[] #[])
  fields := #[]
  methods := #[]
  instanceTypes := #[]
  staticTypes := #[]
  resolved := Array.replicate 11 none
  statics := none }

def pool7 : Array CpInfo := pool [(1, .class_ 2), (0, u "java/lang/constant/ConstantDesc"), (0, .class_ 4), (0, u "java/lang/Object")] 32

/-- java/lang/constant/ConstantDesc -/
def k7 : Class := { plain "java/lang/constant/ConstantDesc" (some 0) with
  accessFlags := 1537
  interfaces := #[]
  cf := some (fileOf pool7 1 #[] #[] 1537 3 #[] #[])
  fields := #[]
  methods := #[]
  instanceTypes := #[]
  staticTypes := #[]
  resolved := Array.replicate 37 none
  statics := none }

def pool8 : Array CpInfo := pool [(2, .class_ 4), (1, u "java/lang/Object"), (0, u "<init>"), (0, u "()V"), (3, .class_ 12), (1, u "java/lang/String"), (0, u "value"), (0, u "[B"), (2, u "coder"), (0, u "B"), (2, u "hash"), (0, u "I"), (2, u "hashIsZero"), (0, u "Z"), (13, u "COMPACT_STRINGS"), (534, .class_ 576), (0, u "java/lang/CharSequence"), (22, u "CASE_INSENSITIVE_ORDER"), (0, u "Ljava/util/Comparator;"), (500, u "serialPersistentFields"), (0, u "[Ljava/io/ObjectStreamField;"), (0, .class_ 1104), (0, u "java/lang/String$CaseInsensitiveComparator"), (1, .class_ 1107), (0, u "java/io/Serializable"), (0, .class_ 1109), (0, u "java/lang/Comparable"), (0, .class_ 1111), (0, u "java/lang/constant/Constable"), (0, .class_ 1113), (0, u "java/lang/constant/ConstantDesc"), (2, u "serialVersionUID"), (0, u "J"), (3, u "REPL"), (0, u "C"), (2, u "LATIN1"), (1, u "UTF16")] 323

def k8m0 : Method := { name := "<init>", desc := "()V", sig := { parameters := [], returnType := none }, accessFlags := 1, code := none }
/-- java/lang/String -/
def k8 : Class := { plain "java/lang/String" (some 0) with
  accessFlags := 49
  interfaces := #[3, 4, 5, 6, 7]
  cf := some (fileOf pool8 10 #[.nestMembers #[1103]] #[{ accessFlags := 1, nameIndex := 5, descriptorIndex := 6, attributes := #[] }] 49 2 #[1106, 1108, 575, 1110, 1112] #[{ accessFlags := 18, nameIndex := 13, descriptorIndex := 14, attributes := #[] }, { accessFlags := 18, nameIndex := 17, descriptorIndex := 18, attributes := #[] }, { accessFlags := 2, nameIndex := 21, descriptorIndex := 22, attributes := #[] }, { accessFlags := 2, nameIndex := 25, descriptorIndex := 26, attributes := #[] }, { accessFlags := 26, nameIndex := 1116, descriptorIndex := 1117, attributes := #[] }, { accessFlags := 24, nameIndex := 40, descriptorIndex := 26, attributes := #[] }, { accessFlags := 26, nameIndex := 1101, descriptorIndex := 1102, attributes := #[] }, { accessFlags := 26, nameIndex := 1121, descriptorIndex := 1122, attributes := #[] }, { accessFlags := 25, nameIndex := 599, descriptorIndex := 600, attributes := #[] }, { accessFlags := 24, nameIndex := 1125, descriptorIndex := 18, attributes := #[] }, { accessFlags := 24, nameIndex := 1127, descriptorIndex := 18, attributes := #[] }])
  fields := #[{ name := "value", type := (.array .byte), accessFlags := 18, slot := 0, constantValue := 0 }, { name := "coder", type := .byte, accessFlags := 18, slot := 1, constantValue := 0 }, { name := "hash", type := .int, accessFlags := 2, slot := 2, constantValue := 0 }, { name := "hashIsZero", type := .boolean, accessFlags := 2, slot := 3, constantValue := 0 }, { name := "serialVersionUID", type := .long, accessFlags := 26, slot := 0, constantValue := 0 }, { name := "COMPACT_STRINGS", type := .boolean, accessFlags := 24, slot := 1, constantValue := 0 }, { name := "serialPersistentFields", type := (.array (.object "java/io/ObjectStreamField")), accessFlags := 26, slot := 2, constantValue := 0 }, { name := "REPL", type := .char, accessFlags := 26, slot := 3, constantValue := 0 }, { name := "CASE_INSENSITIVE_ORDER", type := (.object "java/util/Comparator"), accessFlags := 25, slot := 4, constantValue := 0 }, { name := "LATIN1", type := .byte, accessFlags := 24, slot := 5, constantValue := 0 }, { name := "UTF16", type := .byte, accessFlags := 24, slot := 6, constantValue := 0 }]
  methods := #[k8m0]
  instanceTypes := #[(.array .byte), .byte, .int, .boolean]
  staticTypes := #[.long, .boolean, (.array (.object "java/io/ObjectStreamField")), .char, (.object "java/util/Comparator"), .byte, .byte]
  resolved := Array.replicate 1451 none
  statics := none }

def pool9 : Array CpInfo := pool [(1, u "java/lang/Cloneable"), (0, .class_ 1), (0, u "java/lang/Object"), (0, .class_ 3)] 3

/-- java/lang/Cloneable -/
def k9 : Class := { plain "java/lang/Cloneable" (some 0) with
  accessFlags := 1537
  interfaces := #[]
  cf := some (fileOf pool9 2 #[] #[] 1537 4 #[] #[])
  fields := #[]
  methods := #[]
  instanceTypes := #[]
  staticTypes := #[]
  resolved := Array.replicate 8 none
  statics := none }

/-- the primitive byte -/
def k10 : Class := { plain "byte" none with kind := .primitive 'B', accessFlags := 0x411 }
/-- [B -/
def k11 : Class := { plain "[B" (some 0) with kind := .array 10 .byte, interfaces := #[9, 3], accessFlags := 1041 }

/-- the primitive int -/
def k12 : Class := { plain "int" none with kind := .primitive 'I', accessFlags := 0x411 }
/-- [I -/
def k13 : Class := { plain "[I" (some 0) with kind := .array 12 .int, interfaces := #[9, 3], accessFlags := 1041 }

/-- the primitive long -/
def k14 : Class := { plain "long" none with kind := .primitive 'J', accessFlags := 0x411 }
/-- [J -/
def k15 : Class := { plain "[J" (some 0) with kind := .array 14 .long, interfaces := #[9, 3], accessFlags := 1041 }

def heap : Heap := #[]
def classes : Array Class := #[k0, k1, k2, k3, k4, k5, k6, k7, k8, k9, k10, k11, k12, k13, k14, k15]
def interned : List (Array UInt16 × Addr) := []
def slotsUsed : Nat := 0
def theMethod : MethodId := ⟨1, 1⟩
def args0 : Array Value := #[.int 5, .int 3, .long (-7)]
def aboutOver (below : List Frame) : State where
  vm := { classes := classes, interned := interned.toArray }
  heap := heap
  slotsUsed := slotsUsed
  threads := #[{ frames := .invoking theMethod args0 :: below }]
def below0 : List Frame := [.native { method := ⟨0, 0⟩, args := #[] }]
def about1 : State := aboutOver below0
def p0 : Program := .bare "" "" ""
def e0 : Env := launch0.env 0 0 0
theorem w_frames : about1.frames = Frame.invoking theMethod args0 :: below0 := rfl
set_option maxRecDepth 65536 in
theorem w_args : argsFit about1.vm theMethod args0 = true := by decide +kernel
set_option maxRecDepth 65536 in
theorem w_heap : heapFits about1 = true := by decide +kernel
set_option maxRecDepth 65536 in
theorem w_runnable : about1.curStatus? = some .runnable := by decide +kernel
set_option maxRecDepth 65536 in
theorem w_alone : about1.alone = true := by decide +kernel
set_option maxRecDepth 65536 in
theorem w_named : about1.methodNamed? x = some theMethod := by decide +kernel
set_option maxRecDepth 65536 in
theorem w_hears : about1.hears theMethod below0 = true := by decide +kernel
set_option maxRecDepth 65536 in
theorem w_ripe : about1.ripe theMethod args0 below0 = true := by decide +kernel
theorem w_running : about1.status = .running := rfl
set_option maxRecDepth 65536 in
theorem w_room : about1.hasRoom e0.platform room_1 = true :=
  launch0.hasRoom_least _ room_1 (by decide +kernel) (by decide +kernel) (by decide +kernel) (by decide +kernel) (by decide +kernel) (by decide +kernel)
theorem allAtoms_all (ts : List Jvm.Cond) (a : Array Jvm.Value) (st : Jvm.State) : (allAtoms ts).before a st = ts.all (fun c => c.before a st) := by
  induction ts with
  | nil => rfl
  | cons c t ih =>
    show (Jvm.Cond.and c (allAtoms t)).before a st = _
    rw [Jvm.Cond.before_and, ih, List.all_cons]
def words1 : List Jvm.Cond := Jvm.Cond.code x code maxLocals ret :: tables_1
/-- a 'code' word, met by the world's own term for the bytes: nothing is compared byte by byte -/
theorem code_word {y : MethodName} {bytes : ByteArray} {mx : Nat} {rt : Option FieldType} {a : Array Value} {s : State} {m : MethodId} {meth : Method} {c : Code} (h1 : s.methodNamed? y = some m) (h2 : s.vm.method? m = some meth) (h3 : meth.code = some c) (h4 : c.code = bytes)
    (h5 : (c.maxLocals == mx && c.exceptionTable.isEmpty && decide (c.maxStack ≤ mostOperands) && decide (meth.sig.returnType = rt) && !meth.locks && decide (parseMethodDescriptor y.desc = some meth.sig)) = true) : (Jvm.Cond.code y bytes mx rt).before a s = true := by
  simp only [Bool.and_eq_true, beq_iff_eq, Bool.not_eq_true', decide_eq_true_eq] at h5
  obtain ⟨⟨⟨⟨⟨g1, g2⟩, g3⟩, g4⟩, g5⟩, g6⟩ := h5
  simp [Cond.before, Cond.holds, Cond.value, h1, h2, h3, h4, g1, g2, g3, g4, g5, g6]
def isCode : Jvm.Cond → Bool
  | .code _ _ _ _ => true
  | _ => false
theorem all_split {L : List Jvm.Cond} {P : Jvm.Cond → Bool} (h1 : L.all (fun c => isCode c || P c) = true) (h2 : ∀ c ∈ L.filter isCode, P c = true) : L.all P = true := by
  refine List.all_eq_true.mpr fun c hc => ?_
  have h := List.all_eq_true.mp h1 c hc
  rcases Bool.eq_false_or_eq_true (isCode c) with hi | hi
  · exact h2 c (List.mem_filter.mpr ⟨hc, hi⟩)
  · simpa [hi] using h
set_option maxRecDepth 65536 in
theorem w_c0 : (Jvm.Cond.code x code maxLocals ret).before args0 about1 = true := code_word (m := ⟨1, 1⟩) (meth := k1m1) (c := k1c1) (by decide +kernel) rfl rfl rfl (by decide +kernel)
set_option maxRecDepth 65536 in
theorem w_c1 : (Jvm.Cond.code ({ cls := "com/example/meisai/meisai/DiameterMessage", name := "<init>", desc := "(Ljava/lang/String;[B[I[JJ)V" } : Jvm.MethodName) prog_5_method_1_code (7 : Nat) (Option.none : Option Jvm.ClassFile.FieldType)).before args0 about1 = true := code_word (m := ⟨2, 0⟩) (meth := k2m0) (c := k2c0) (by decide +kernel) rfl rfl rfl (by decide +kernel)
set_option maxRecDepth 65536 in
theorem w_c2 : (Jvm.Cond.code ({ cls := "java/lang/Object", name := "<init>", desc := "()V" } : Jvm.MethodName) object_method_1_code (1 : Nat) (Option.none : Option Jvm.ClassFile.FieldType)).before args0 about1 = true := code_word (m := ⟨0, 0⟩) (meth := k0m0) (c := k0c0) (by decide +kernel) rfl rfl rfl (by decide +kernel)
set_option maxRecDepth 65536 in
theorem w_c3 : (Jvm.Cond.code ({ cls := "com/example/meisai/meisai/DiameterMessage", name := "isRequest", desc := "()Z" } : Jvm.MethodName) prog_5_method_3_code (1 : Nat) (Option.some Jvm.ClassFile.FieldType.boolean)).before args0 about1 = true := code_word (m := ⟨2, 1⟩) (meth := k2m1) (c := k2c1) (by decide +kernel) rfl rfl rfl (by decide +kernel)
def codes1 : List Jvm.Cond := [Jvm.Cond.code x code maxLocals ret, Jvm.Cond.code ({ cls := "com/example/meisai/meisai/DiameterMessage", name := "<init>", desc := "(Ljava/lang/String;[B[I[JJ)V" } : Jvm.MethodName) prog_5_method_1_code (7 : Nat) (Option.none : Option Jvm.ClassFile.FieldType), Jvm.Cond.code ({ cls := "java/lang/Object", name := "<init>", desc := "()V" } : Jvm.MethodName) object_method_1_code (1 : Nat) (Option.none : Option Jvm.ClassFile.FieldType), Jvm.Cond.code ({ cls := "com/example/meisai/meisai/DiameterMessage", name := "isRequest", desc := "()Z" } : Jvm.MethodName) prog_5_method_3_code (1 : Nat) (Option.some Jvm.ClassFile.FieldType.boolean)]
set_option maxRecDepth 65536 in
theorem codes_eq : words1.filter isCode = codes1 := rfl
theorem w_codes : ∀ c ∈ words1.filter isCode, c.before args0 about1 = true := by
  rw [codes_eq]
  intro c hc
  simp only [codes1, List.mem_cons, List.not_mem_nil, or_false] at hc
  rcases hc with rfl | rfl | rfl | rfl
  · exact w_c0
  · exact w_c1
  · exact w_c2
  · exact w_c3
set_option maxRecDepth 65536 in
theorem w_t1 : (words1.take 24).all (fun c => isCode c || c.before args0 about1) = true := by decide +kernel
set_option maxRecDepth 65536 in
theorem w_t2 : (words1.drop 24).all (fun c => isCode c || c.before args0 about1) = true := by decide +kernel
theorem w_tables : (allAtoms (Jvm.Cond.code x code maxLocals ret :: tables_1)).before args0 about1 = true := by
  rw [allAtoms_all]
  show words1.all (fun c => c.before args0 about1) = true
  refine all_split ?_ w_codes
  rw [← List.take_append_drop 24 words1, List.all_append, w_t1, w_t2]
  rfl
set_option maxRecDepth 65536 in
theorem w_case : (Jvm.Cond.and given_1 narrow_1).before args0 about1 = true := by decide +kernel
theorem w_applies : (headSpec (Jvm.Cond.code x code maxLocals ret :: tables_1) room_1).applies x e0.platform about1 = true :=
  (Spec.applies_iff w_frames).mpr ⟨w_running, w_runnable, w_alone, w_named, w_hears, w_ripe, w_room, w_tables⟩
theorem atStart : AtStart classFile x code maxLocals ret World_1 tables_1 room_1 Calls_1 rest_1 Pre_1 launch0 p0 e0 about1 theMethod args0 below0 :=
  ⟨lists_1, trivial, launch0.admits_env _ _ _, launch0.least_env, fairChoices_fair.cas, fairChoices_fair.clock, w_frames, w_args, w_heap, w_applies, trivial, trivial, w_case⟩
end start1
theorem witness_1 : WitnessClaimed_1 := ⟨start1.p0, start1.e0, start1.about1, start1.theMethod, start1.args0, start1.below0, start1.atStart⟩
end Jvm.Pilot.@@N@@
