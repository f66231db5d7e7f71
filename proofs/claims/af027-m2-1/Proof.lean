import JvmDerived
import JvmDerived.Pilot.@@N@@Statement
import JvmDerived.Pilot.@@N@@Code
set_option linter.unusedVariables false
set_option linter.unusedSimpArgs false
namespace Jvm.RoadKit
open Sem ClassFile Op Lib Jvm.Stand Jvm.Free Jvm.LawKit
section New
variable {p : Program} {l : Launch} {e : Env} {R : Room} {s : State} {m : MethodId} {args : Array Value} {below : List Frame} {meth : Method} {c : Code} {T T' : State} {locs : List Loc} {cells slots cs sl : Nat} {Q : Option Value → Heap → List Loc → Prop}
/-- from T the run ends, and Q holds at the end -/
def Gl (p : Program) (e : Env) (below : List Frame) (s : State) (Q : Option Value → Heap → List Loc → Prop) (cs sl : Nat) (T : State) : Prop :=
  ∃ s₂ o, Steps p.tables e below T s₂ ∧ s₂.status = .running ∧ Ended s₂ below o ∧ ∃ v L, o = .returned v ∧ Q v s₂.heap L ∧ FrameEnd s o s₂ L cs sl
theorem Gl.st (k : ∀ t, Steps p.tables e below T' t → Steps p.tables e below T t) (h : Gl p e below s Q cs sl T') : Gl p e below s Q cs sl T := by
  obtain ⟨a, o, h1, r⟩ := h
  exact ⟨a, o, k _ h1, r⟩
theorem Gl.to (k : Steps p.tables e below T T') (h : Gl p e below s Q cs sl T') : Gl p e below s Q cs sl T := Gl.st (fun _ q => k.trans q) h
theorem Gl.fin (X : Stand p l e R s m args below meth c T locs cells slots) {v : Option Value} (hv : meth.sig.returnType = none → v = none) (hlk : meth.locks = false) (hQ : Q v T.heap locs) (hc : cells ≤ cs) (hs : slots ≤ sl) {S0 : State}
    (k : ∀ fs, (∀ (f : JFrame) (acts : List Action), f.method = m → f.locked = none → f.entered = [] → (doReturn e (T.setTop f) acts v).1 = T.setFrames fs) → Steps p.tables e below S0 (T.setFrames fs)) : Gl p e below s Q cs sl S0 := by
  obtain ⟨fs, hr, hrun, hended, hW, hsame⟩ := X.leave hv hlk
  exact ⟨_, _, k fs hr, hrun, hended, v, locs, rfl, hQ, ⟨_, rfl⟩, hW, hsame.mono hc hs⟩
theorem Gl.retN (X : Stand p l e R s m args below meth c T locs cells slots) (hx : p.tables.exec = Jvm.exec) (hlk : meth.locks = false) {pc : Nat} {Ls : Array Slot} {z : Int32} {t : FieldType} {rest : List Value} (hret : meth.sig.returnType = some t) (ht : t = .boolean ∨ t = .byte ∨ t = .char ∨ t = .short)
    (hd : decode c.code pc = .ok (.ireturn, 1)) (hQ : Q (some (.int (nar t z))) T.heap locs) (hc : cells ≤ cs) (hs : slots ≤ sl) : Gl p e below s Q cs sl (T.setTop (mkF m pc Ls (.int z :: rest))) :=
  Gl.fin X (fun h => by rw [hret] at h; cases h) hlk hQ hc hs fun _ hr => Jvm.RoadKit.retN X hx hret ht hd hr
theorem Gl.retI (X : Stand p l e R s m args below meth c T locs cells slots) (hx : p.tables.exec = Jvm.exec) (hlk : meth.locks = false) {pc : Nat} {Ls : Array Slot} {z : Int32} {rest : List Value} (hret : meth.sig.returnType = some .int)
    (hd : decode c.code pc = .ok (.ireturn, 1)) (hQ : Q (some (.int z)) T.heap locs) (hc : cells ≤ cs) (hs : slots ≤ sl) : Gl p e below s Q cs sl (T.setTop (mkF m pc Ls (.int z :: rest))) :=
  Gl.fin X (fun h => by rw [hret] at h; cases h) hlk hQ hc hs fun _ hr => retOut X hx hret rfl (Or.inl ⟨rfl, Or.inl rfl, z, rfl⟩) hd hr
theorem Gl.retJ (X : Stand p l e R s m args below meth c T locs cells slots) (hx : p.tables.exec = Jvm.exec) (hlk : meth.locks = false) {pc : Nat} {Ls : Array Slot} {z : Int64} {rest : List Value} (hret : meth.sig.returnType = some .long)
    (hd : decode c.code pc = .ok (.lreturn, 1)) (hQ : Q (some (.long z)) T.heap locs) (hc : cells ≤ cs) (hs : slots ≤ sl) : Gl p e below s Q cs sl (T.setTop (mkF m pc Ls (.long z :: rest))) :=
  Gl.fin X (fun h => by rw [hret] at h; cases h) hlk hQ hc hs fun _ hr => retOut X hx hret rfl (Or.inr (Or.inl ⟨rfl, rfl, z, rfl⟩)) hd hr
theorem Gl.retV (X : Stand p l e R s m args below meth c T locs cells slots) (hx : p.tables.exec = Jvm.exec) (hlk : meth.locks = false) {pc : Nat} {Ls : Array Slot} (hret : meth.sig.returnType = none)
    (hd : decode c.code pc = .ok (.return_, 1)) (hQ : Q none T.heap locs) (hc : cells ≤ cs) (hs : slots ≤ sl) : Gl p e below s Q cs sl (T.setTop (mkF m pc Ls [])) :=
  Gl.fin X (fun _ => rfl) hlk hQ hc hs fun _ hr => X.returnOut hx hret hd hr
/-- .. where String constants may have been interned -/
def GlW (p : Program) (e : Env) (below : List Frame) (s : State) (Q : Option Value → Heap → List Loc → Prop) (cs sl : Nat) (T : State) : Prop :=
  ∃ s₂ o, Steps p.tables e below T s₂ ∧ s₂.status = .running ∧ Ended s₂ below o ∧ ∃ v L, o = .returned v ∧ Q v s₂.heap L ∧ ReturnedEndW s o s₂ L cs sl
theorem GlW.st (k : ∀ t, Steps p.tables e below T' t → Steps p.tables e below T t) (h : GlW p e below s Q cs sl T') : GlW p e below s Q cs sl T := by
  obtain ⟨a, o, h1, r⟩ := h
  exact ⟨a, o, k _ h1, r⟩
theorem GlW.to (k : Steps p.tables e below T T') (h : GlW p e below s Q cs sl T') : GlW p e below s Q cs sl T := GlW.st (fun _ q => k.trans q) h
theorem GlW.retN {vm₁ : Vm} (X : Stand p l e R (s.setVm vm₁) m args below meth c T locs cells slots) (hx : p.tables.exec = Jvm.exec) {n : Nat} (hS : s.Since vm₁ n) (hn : n ≤ T.heap.size) (hlk : meth.locks = false) {pc : Nat} {Ls : Array Slot} {z : Int32} {t : FieldType} {rest : List Value} (hret : meth.sig.returnType = some t) (ht : t = .boolean ∨ t = .byte ∨ t = .char ∨ t = .short)
    (hd : decode c.code pc = .ok (.ireturn, 1)) (hQ : Q (some (.int (nar t z))) T.heap locs) (hc : cells ≤ cs) (hs : slots ≤ sl) : GlW p e below s Q cs sl (T.setTop (mkF m pc Ls (.int z :: rest))) := by
  obtain ⟨fs, hr, hrun, hended, h1, h2, h3, h4⟩ := X.leaveW hS hn (v := some (.int (nar t z))) (fun h => by rw [hret] at h; cases h) hlk
  exact ⟨_, _, Jvm.RoadKit.retN X hx hret ht hd hr, hrun, hended, _, locs, rfl, hQ, h1, h2, h3, h4.mono hc hs⟩
theorem lc_t {x y : Int64} (h : x < y) : ifCond.holds .lt (lcmpW x y) = true ∧ ifCond.holds .ge (lcmpW x y) = false ∧ ifCond.holds .gt (lcmpW y x) = true ∧ ifCond.holds .le (lcmpW y x) = false :=
  have a := tlt ((lw_lt x y).mpr h)
  have b := tlt ((lw_gt y x).mpr h)
  ⟨(if0 _ _).trans a.1, (if0 _ _).trans a.2.1, (if0 _ _).trans b.2.2.1, (if0 _ _).trans b.2.2.2⟩
theorem lc_f {x y : Int64} (h : ¬ x < y) : ifCond.holds .lt (lcmpW x y) = false ∧ ifCond.holds .ge (lcmpW x y) = true ∧ ifCond.holds .gt (lcmpW y x) = false ∧ ifCond.holds .le (lcmpW y x) = true :=
  have a := flt (fun q => h ((lw_lt x y).mp q))
  have b := flt (fun q => h ((lw_gt y x).mp q))
  ⟨(if0 _ _).trans a.1, (if0 _ _).trans a.2.1, (if0 _ _).trans b.2.2.1, (if0 _ _).trans b.2.2.2⟩
theorem le_t {x y : Int64} (h : x = y) : ifCond.holds .eq (lcmpW x y) = true ∧ ifCond.holds .ne (lcmpW x y) = false :=
  have a := teq ((lw_eq x y).mpr h)
  ⟨(if0 _ _).trans a.1, (if0 _ _).trans a.2⟩
theorem le_f {x y : Int64} (h : ¬ x = y) : ifCond.holds .eq (lcmpW x y) = false ∧ ifCond.holds .ne (lcmpW x y) = true :=
  have a := feq (fun q => h ((lw_eq x y).mp q))
  ⟨(if0 _ _).trans a.1, (if0 _ _).trans a.2⟩
end New
end Jvm.RoadKit
namespace Jvm.Pilot.@@N@@
open Jvm Jvm.ClassFile Sem Op Lib Jvm.Free Jvm.Stand Jvm.LawKit Jvm.RoadKit Bundle Jvm.Pilot.@@N@@.Jvm.D
theorem d1_0 : decode prog_27_method_1_code 0 = .ok (.aload_n 0, 1) := by decide +kernel
theorem d1_1 : decode prog_27_method_1_code 1 = .ok (.invokespecial 3, 3) := by decide +kernel
theorem d1_4 : decode prog_27_method_1_code 4 = .ok (.aload_n 0, 1) := by decide +kernel
theorem d1_5 : decode prog_27_method_1_code 5 = .ok (.aload_n 1, 1) := by decide +kernel
theorem d1_6 : decode prog_27_method_1_code 6 = .ok (.putfield 9, 3) := by decide +kernel
theorem d1_9 : decode prog_27_method_1_code 9 = .ok (.return_, 1) := by decide +kernel
theorem pf_0 : plainFor (⟨"com/example/enact/enact/engine/Marking", "<init>", "([I)V"⟩ : MethodName) = true := by decide +kernel
def Q1 (Z : State) (a1 : Addr) (a2 : Addr) (u_tokens : Value) (h0 : Heap) (n0 : Nat) (v : Option Value) (h : Heap) (L : List Loc) : Prop := v = none ∧ Fr n0 L ∧ Keep h0 h [a1] ∧ Exa Z h a1 "com/example/enact/enact/engine/Marking" ∧ Fld Z h a1 "com/example/enact/enact/engine/Marking" "tokens" "[I" (.ref a2)
theorem ef_1 (m : MethodId) (a1 : Addr) (a2 : Addr) : entryFrame m #[(.ref a1), (.ref a2)] 2 = mkF m 0 #[.val (.ref a1), .val (.ref a2)] [] := by first | (simp [entryFrame, mkF, argsToLocals, Value.category]; done) | rfl
set_option maxRecDepth 65536 in
set_option maxHeartbeats 40000000 in
theorem rm1 (l : Launch) (Z : State) (a0 : Array Value) (hw : ∀ d ∈ tables_1, d.before a0 Z = true) (ws : List Jvm.Cond) (a1 : Addr) (a2 : Addr) (u_tokens : Value) (h0 : Heap) (n0 : Nat) (Z0 : n0 ≤ h0.size) (E_a1 : Exa Z h0 a1 "com/example/enact/enact/engine/Marking") (F_tokens : Fld Z h0 a1 "com/example/enact/enact/engine/Marking" "tokens" "[I" u_tokens) (g_a1 : n0 ≤ a1) :
    MetFree l (⟨"com/example/enact/enact/engine/Marking", "<init>", "([I)V"⟩ : MethodName) (head1 (Jvm.Cond.code (⟨"com/example/enact/enact/engine/Marking", "<init>", "([I)V"⟩ : MethodName) prog_27_method_1_code 2 none :: ws) ({ frames := 1, cells := 0, slots := 0, locals := 12 } : Room)) (fun a U => a = #[(.ref a1), (.ref a2)] ∧ Z.Warmed39 U.vm ∧ U.heap = h0) (fun _ _ _ _ _ => True) (fun _ U o U' => ∃ v L, o = .returned v ∧ Q1 Z a1 a2 u_tokens h0 n0 v U'.heap L ∧ FrameEnd U o U' L ({ frames := 1, cells := 0, slots := 0, locals := 12 } : Room).cells ({ frames := 1, cells := 0, slots := 0, locals := 12 } : Room).slots) := by
  refine MetFree.of_bodySF pf_0 hisR ?_
  intro p e s m args below meth c s₁ Bd hml0 hP hK
  obtain ⟨rfl, hZ, hh⟩ := hP
  have hx := Bd.exec
  have hby := Bd.bytes
  have hlk : meth.locks = false := BodyLoose.notSynchronized Bd
  have hml : c.maxLocals = 2 := hml0
  have hown : s.vm.findClass "com/example/enact/enact/engine/Marking" = some m.cls := findClass_of_methodNamed Bd.named
  have hnm := (name_of_methodNamed Bd.named Bd.method).1
  have X0 : Stand p l e ({ frames := 1, cells := 0, slots := 0, locals := 12 } : Room) s m #[(.ref a1), (.ref a2)] below meth c s₁ [] 0 0 := Stand.of_body Bd
  have e0 : s₁.heap = h0 := by rw [← hh, Bd.state]; rfl
  have N0 := Fr.nil n0
  have K0 : Keep h0 h0 [a1] := Keep.refl h0 _
  show Gl p e below s (Q1 Z a1 a2 u_tokens h0 n0) ({ frames := 1, cells := 0, slots := 0, locals := 12 } : Room).cells ({ frames := 1, cells := 0, slots := 0, locals := 12 } : Room).slots (s₁.setTop (entryFrame m #[(.ref a1), (.ref a2)] 2))
  rw [ef_1]
  show Gl _ _ _ _ _ _ _ (s₁.setTop (mkF m 0 #[.val (.ref a1), .val (.ref a2)] []))
  refine Gl.st (fun t k => XS.aloadN X0.here hx rfl (hb hby d1_0) rfl rfl k) ?_
  show Gl _ _ _ _ _ _ _ (s₁.setTop (mkF m 1 #[.val (.ref a1), .val (.ref a2)] [(.ref a1)]))
  obtain ⟨T1, X1, e1, st1⟩ := initO X0 hx hZ hown (hw _ (List.mem_of_getElem? (i := 7) rfl)) (hw _ (List.mem_of_getElem? (i := 8) rfl)) (hw _ (List.mem_of_getElem? (i := 9) rfl)) e0 (g := (mkF m 1 #[.val (.ref a1), .val (.ref a2)] [(.ref a1)])) rfl (by rw [hml]; rfl) rfl (hb hby d1_1) (by decide) (W := 0) (by show 2 * 0 + _ ≤ _; exact Nat.le_of_eq rfl) (by decide)
  refine Gl.st st1 ?_
  show Gl _ _ _ _ _ _ _ (T1.setTop (mkF m 4 #[.val (.ref a1), .val (.ref a2)] []))
  refine Gl.st (fun t k => XS.aloadN X1.here hx rfl (hb hby d1_4) rfl rfl k) ?_
  show Gl _ _ _ _ _ _ _ (T1.setTop (mkF m 5 #[.val (.ref a1), .val (.ref a2)] [(.ref a1)]))
  refine Gl.st (fun t k => XS.aloadN X1.here hx rfl (hb hby d1_5) rfl rfl k) ?_
  show Gl _ _ _ _ _ _ _ (T1.setTop (mkF m 6 #[.val (.ref a1), .val (.ref a2)] [(.ref a2), (.ref a1)]))
  obtain ⟨T2, h2, X2, e2, W2, st2⟩ := putF X1 hx hZ hown (host := "") (Or.inl (hw _ (List.mem_of_getElem? (i := 10) rfl))) Via.refl e1 F_tokens E_a1 (Or.inr ⟨(hw _ (List.mem_of_getElem? (i := 11) rfl)), rfl, hnm⟩) (hw _ (List.mem_of_getElem? (i := 2) rfl)) (ty := (.array .int)) (by decide) rfl rfl (g := (mkF m 6 #[.val (.ref a1), .val (.ref a2)] [(.ref a2), (.ref a1)])) rfl rfl (hb hby d1_6)
  refine Gl.st st2 ?_
  have Z2 : n0 ≤ h2.size := Nat.le_trans Z0 (Keep.of_wr W2).1
  have N2 := Fr.snoc X2 N0 g_a1
  have K2 : Keep h0 h2 [a1] := K0.wr W2 (Or.inl (List.mem_of_getElem? (i := 0) rfl))
  have E_a1'3 : Exa Z h2 a1 "com/example/enact/enact/engine/Marking" := E_a1.wr W2
  have Fw2 : Fld Z h2 a1 "com/example/enact/enact/engine/Marking" "tokens" "[I" (.ref a2) := F_tokens.same W2
  show Gl _ _ _ _ _ _ _ (T2.setTop (mkF m 9 #[.val (.ref a1), .val (.ref a2)] []))
  exact Gl.retV X2 hx hlk Bd.returns (hb hby d1_9) (by
        rw [e2]
        exact ⟨rfl, N2, K2, E_a1'3, Fw2⟩) (by decide) (by decide)
def own_covers (w0 : Int32) (w1 : Int32) (w2 : Int32) (u0 : Int32) (u1 : Int32) (u2 : Int32) : Int32 := (if w0 < u0 then (nar .boolean (0 : Int32)) else (if w1 < u1 then (nar .boolean (0 : Int32)) else (if w2 < u2 then (nar .boolean (0 : Int32)) else (nar .boolean (1 : Int32)))))
theorem d3_0 : decode prog_27_method_12_code 0 = .ok (.iconst 1, 1) := by decide +kernel
theorem d3_1 : decode prog_27_method_12_code 1 = .ok (.istore_n 2, 1) := by decide +kernel
theorem d3_2 : decode prog_27_method_12_code 2 = .ok (.iconst 0, 1) := by decide +kernel
theorem d3_3 : decode prog_27_method_12_code 3 = .ok (.istore_n 3, 1) := by decide +kernel
theorem d3_4 : decode prog_27_method_12_code 4 = .ok (.iload_n 3, 1) := by decide +kernel
theorem d3_5 : decode prog_27_method_12_code 5 = .ok (.aload_n 0, 1) := by decide +kernel
theorem d3_6 : decode prog_27_method_12_code 6 = .ok (.getfield 9, 3) := by decide +kernel
theorem d3_9 : decode prog_27_method_12_code 9 = .ok (.arraylength, 1) := by decide +kernel
theorem d3_10 : decode prog_27_method_12_code 10 = .ok (.if_icmp .ge 34, 3) := by decide +kernel
theorem d3_13 : decode prog_27_method_12_code 13 = .ok (.iload_n 2, 1) := by decide +kernel
theorem d3_14 : decode prog_27_method_12_code 14 = .ok (.ifCond .eq 30, 3) := by decide +kernel
theorem d3_17 : decode prog_27_method_12_code 17 = .ok (.aload_n 0, 1) := by decide +kernel
theorem d3_18 : decode prog_27_method_12_code 18 = .ok (.getfield 9, 3) := by decide +kernel
theorem d3_21 : decode prog_27_method_12_code 21 = .ok (.iload_n 3, 1) := by decide +kernel
theorem d3_22 : decode prog_27_method_12_code 22 = .ok (.iaload, 1) := by decide +kernel
theorem d3_23 : decode prog_27_method_12_code 23 = .ok (.aload_n 1, 1) := by decide +kernel
theorem d3_24 : decode prog_27_method_12_code 24 = .ok (.getfield 9, 3) := by decide +kernel
theorem d3_27 : decode prog_27_method_12_code 27 = .ok (.iload_n 3, 1) := by decide +kernel
theorem d3_28 : decode prog_27_method_12_code 28 = .ok (.iaload, 1) := by decide +kernel
theorem d3_29 : decode prog_27_method_12_code 29 = .ok (.if_icmp .lt 7, 3) := by decide +kernel
theorem d3_32 : decode prog_27_method_12_code 32 = .ok (.iconst 1, 1) := by decide +kernel
theorem d3_33 : decode prog_27_method_12_code 33 = .ok (.goto 4, 3) := by decide +kernel
theorem d3_36 : decode prog_27_method_12_code 36 = .ok (.iconst 0, 1) := by decide +kernel
theorem d3_37 : decode prog_27_method_12_code 37 = .ok (.istore_n 2, 1) := by decide +kernel
theorem d3_38 : decode prog_27_method_12_code 38 = .ok (.iinc 3 1, 3) := by decide +kernel
theorem d3_41 : decode prog_27_method_12_code 41 = .ok (.goto (-37), 3) := by decide +kernel
theorem d3_44 : decode prog_27_method_12_code 44 = .ok (.iload_n 2, 1) := by decide +kernel
theorem d3_45 : decode prog_27_method_12_code 45 = .ok (.ireturn, 1) := by decide +kernel
theorem pf_1 : plainFor (⟨"com/example/enact/enact/engine/Marking", "covers", "(Lcom/example/enact/enact/engine/Marking;)Z"⟩ : MethodName) = true := by decide +kernel
def Q3 (Z : State) (a1 : Addr) (a2 : Addr) (ca : Addr) (ck : ClassId) (da : Addr) (dk : ClassId) (w0 : Int32) (w1 : Int32) (w2 : Int32) (u0 : Int32) (u1 : Int32) (u2 : Int32) (h0 : Heap) (n0 : Nat) (v : Option Value) (h : Heap) (L : List Loc) : Prop := v = some (.int (own_covers w0 w1 w2 u0 u1 u2)) ∧ Fr n0 L ∧ h = h0
theorem ef_3 (m : MethodId) (a1 : Addr) (a2 : Addr) : entryFrame m #[(.ref a1), (.ref a2)] 4 = mkF m 0 #[.val (.ref a1), .val (.ref a2), .unset, .unset] [] := by first | (simp [entryFrame, mkF, argsToLocals, Value.category]; done) | rfl
set_option maxRecDepth 65536 in
set_option maxHeartbeats 40000000 in
theorem rm3 (l : Launch) (Z : State) (a0 : Array Value) (hw : ∀ d ∈ tables_1, d.before a0 Z = true) (ws : List Jvm.Cond) (a1 : Addr) (a2 : Addr) (ca : Addr) (ck : ClassId) (da : Addr) (dk : ClassId) (w0 : Int32) (w1 : Int32) (w2 : Int32) (u0 : Int32) (u1 : Int32) (u2 : Int32) (h0 : Heap) (n0 : Nat) (Fc : Fld Z h0 a1 "com/example/enact/enact/engine/Marking" "tokens" "[I" (.ref ca)) (Vc : Arv Z h0 ca ck .int (3 : Int32) [(.int w0), (.int w1), (.int w2)] (.int (0 : Int32))) (Fd : Fld Z h0 a2 "com/example/enact/enact/engine/Marking" "tokens" "[I" (.ref da)) (Vd : Arv Z h0 da dk .int (3 : Int32) [(.int u0), (.int u1), (.int u2)] (.int (0 : Int32))) :
    MetFree l (⟨"com/example/enact/enact/engine/Marking", "covers", "(Lcom/example/enact/enact/engine/Marking;)Z"⟩ : MethodName) (head1 (Jvm.Cond.code (⟨"com/example/enact/enact/engine/Marking", "covers", "(Lcom/example/enact/enact/engine/Marking;)Z"⟩ : MethodName) prog_27_method_12_code 4 (some .boolean) :: ws) ({ frames := 0, cells := 0, slots := 0, locals := 0 } : Room)) (fun a U => a = #[(.ref a1), (.ref a2)] ∧ Z.Warmed39 U.vm ∧ U.heap = h0) (fun _ _ _ _ _ => True) (fun _ U o U' => ∃ v L, o = .returned v ∧ Q3 Z a1 a2 ca ck da dk w0 w1 w2 u0 u1 u2 h0 n0 v U'.heap L ∧ FrameEnd U o U' L ({ frames := 0, cells := 0, slots := 0, locals := 0 } : Room).cells ({ frames := 0, cells := 0, slots := 0, locals := 0 } : Room).slots) := by
  refine MetFree.of_bodySF pf_1 hisR ?_
  intro p e s m args below meth c s₁ Bd hml0 hP hK
  obtain ⟨rfl, hZ, hh⟩ := hP
  have hx := Bd.exec
  have hby := Bd.bytes
  have hlk : meth.locks = false := BodyLoose.notSynchronized Bd
  have hml : c.maxLocals = 4 := hml0
  have hown : s.vm.findClass "com/example/enact/enact/engine/Marking" = some m.cls := findClass_of_methodNamed Bd.named
  have hnm := (name_of_methodNamed Bd.named Bd.method).1
  have X0 : Stand p l e ({ frames := 0, cells := 0, slots := 0, locals := 0 } : Room) s m #[(.ref a1), (.ref a2)] below meth c s₁ [] 0 0 := Stand.of_body Bd
  have e0 : s₁.heap = h0 := by rw [← hh, Bd.state]; rfl
  have N0 := Fr.nil n0
  show Gl p e below s (Q3 Z a1 a2 ca ck da dk w0 w1 w2 u0 u1 u2 h0 n0) ({ frames := 0, cells := 0, slots := 0, locals := 0 } : Room).cells ({ frames := 0, cells := 0, slots := 0, locals := 0 } : Room).slots (s₁.setTop (entryFrame m #[(.ref a1), (.ref a2)] 4))
  rw [ef_3]
  show Gl _ _ _ _ _ _ _ (s₁.setTop (mkF m 0 #[.val (.ref a1), .val (.ref a2), .unset, .unset] []))
  refine Gl.st (fun t k => XS.iconst X0.here hx rfl (hb hby d3_0) k) ?_
  show Gl _ _ _ _ _ _ _ (s₁.setTop (mkF m 1 #[.val (.ref a1), .val (.ref a2), .unset, .unset] [(.int (1 : Int32))]))
  refine Gl.st (fun t k => XS.istoreN X0.here hx rfl (hb hby d3_1) rfl (l' := #[.val (.ref a1), .val (.ref a2), .val (.int (1 : Int32)), .unset]) rfl k) ?_
  show Gl _ _ _ _ _ _ _ (s₁.setTop (mkF m 2 #[.val (.ref a1), .val (.ref a2), .val (.int (1 : Int32)), .unset] []))
  refine Gl.st (fun t k => XS.iconst X0.here hx rfl (hb hby d3_2) k) ?_
  show Gl _ _ _ _ _ _ _ (s₁.setTop (mkF m 3 #[.val (.ref a1), .val (.ref a2), .val (.int (1 : Int32)), .unset] [(.int (0 : Int32))]))
  refine Gl.st (fun t k => XS.istoreN X0.here hx rfl (hb hby d3_3) rfl (l' := #[.val (.ref a1), .val (.ref a2), .val (.int (1 : Int32)), .val (.int (0 : Int32))]) rfl k) ?_
  show Gl _ _ _ _ _ _ _ (s₁.setTop (mkF m 4 #[.val (.ref a1), .val (.ref a2), .val (.int (1 : Int32)), .val (.int (0 : Int32))] []))
  refine Gl.st (fun t k => XS.iloadN X0.here hx rfl (hb hby d3_4) rfl  k) ?_
  show Gl _ _ _ _ _ _ _ (s₁.setTop (mkF m 5 #[.val (.ref a1), .val (.ref a2), .val (.int (1 : Int32)), .val (.int (0 : Int32))] [(.int (0 : Int32))]))
  refine Gl.st (fun t k => XS.aloadN X0.here hx rfl (hb hby d3_5) rfl rfl k) ?_
  show Gl _ _ _ _ _ _ _ (s₁.setTop (mkF m 6 #[.val (.ref a1), .val (.ref a2), .val (.int (1 : Int32)), .val (.int (0 : Int32))] [(.ref a1), (.int (0 : Int32))]))
  obtain ⟨T1, X1, e1, st1⟩ := getF X0 hx hZ hown (host := "") (Or.inl (hw _ (List.mem_of_getElem? (i := 10) rfl))) Via.refl e0 Fc (g := (mkF m 6 #[.val (.ref a1), .val (.ref a2), .val (.int (1 : Int32)), .val (.int (0 : Int32))] [(.ref a1), (.int (0 : Int32))])) rfl rfl (hb hby d3_6)
  refine Gl.st st1 ?_
  show Gl _ _ _ _ _ _ _ (T1.setTop (mkF m 9 #[.val (.ref a1), .val (.ref a2), .val (.int (1 : Int32)), .val (.int (0 : Int32))] [(.ref ca), (.int (0 : Int32))]))
  have Vx2 := Vc
  obtain ⟨cl2, Ar2, qk2, S2, M2, H2, G2⟩ := Vx2
  refine Gl.st (X1.arraylength hx (by rw [e1]; exact Ar2.1) (State.isArrayOf_alike hZ.alike Ar2.2.1) (g := (mkF m 9 #[.val (.ref a1), .val (.ref a2), .val (.int (1 : Int32)), .val (.int (0 : Int32))] [(.ref ca), (.int (0 : Int32))])) rfl rfl (hb hby d3_9)) ?_
  rw [len_of S2 M2]
  show Gl _ _ _ _ _ _ _ (T1.setTop (mkF m 10 #[.val (.ref a1), .val (.ref a2), .val (.int (1 : Int32)), .val (.int (0 : Int32))] [(.int (3 : Int32)), (.int (0 : Int32))]))
  refine Gl.st (fun t k => XS.icmpNo X1.here hx rfl (hb hby d3_10) rfl (tlt (by decide : (0 : Int32) < (3 : Int32))).2.1 k) ?_
  show Gl _ _ _ _ _ _ _ (T1.setTop (mkF m 13 #[.val (.ref a1), .val (.ref a2), .val (.int (1 : Int32)), .val (.int (0 : Int32))] []))
  refine Gl.st (fun t k => XS.iloadN X1.here hx rfl (hb hby d3_13) rfl  k) ?_
  show Gl _ _ _ _ _ _ _ (T1.setTop (mkF m 14 #[.val (.ref a1), .val (.ref a2), .val (.int (1 : Int32)), .val (.int (0 : Int32))] [(.int (1 : Int32))]))
  refine Gl.st (fun t k => XS.ifNo X1.here hx rfl (hb hby d3_14) rfl ((if0 _ _).trans (feq (by decide : ¬ ((1 : Int32) = (0 : Int32)))).1) k) ?_
  show Gl _ _ _ _ _ _ _ (T1.setTop (mkF m 17 #[.val (.ref a1), .val (.ref a2), .val (.int (1 : Int32)), .val (.int (0 : Int32))] []))
  refine Gl.st (fun t k => XS.aloadN X1.here hx rfl (hb hby d3_17) rfl rfl k) ?_
  show Gl _ _ _ _ _ _ _ (T1.setTop (mkF m 18 #[.val (.ref a1), .val (.ref a2), .val (.int (1 : Int32)), .val (.int (0 : Int32))] [(.ref a1)]))
  obtain ⟨T3, X3, e3, st3⟩ := getF X1 hx hZ hown (host := "") (Or.inl (hw _ (List.mem_of_getElem? (i := 10) rfl))) Via.refl e1 Fc (g := (mkF m 18 #[.val (.ref a1), .val (.ref a2), .val (.int (1 : Int32)), .val (.int (0 : Int32))] [(.ref a1)])) rfl rfl (hb hby d3_18)
  refine Gl.st st3 ?_
  show Gl _ _ _ _ _ _ _ (T3.setTop (mkF m 21 #[.val (.ref a1), .val (.ref a2), .val (.int (1 : Int32)), .val (.int (0 : Int32))] [(.ref ca)]))
  refine Gl.st (fun t k => XS.iloadN X3.here hx rfl (hb hby d3_21) rfl  k) ?_
  show Gl _ _ _ _ _ _ _ (T3.setTop (mkF m 22 #[.val (.ref a1), .val (.ref a2), .val (.int (1 : Int32)), .val (.int (0 : Int32))] [(.int (0 : Int32)), (.ref ca)]))
  have Vx4 := Vc
  obtain ⟨cl4, Ar4, qk4, S4, M4, H4, G4⟩ := Vx4
  have hin4 : ¬ ((0 : Int32) < 0 ∨ cl4.slots.size ≤ ((0 : Int32)).toNatClampNeg) := inb_of S4 ⟨by decide, by decide⟩
  have hat4 : cl4.slots[((0 : Int32)).toNatClampNeg]? = some (.int w0) := H4.at hin4 rfl
  refine Gl.st (X3.iaload hx (j := (0 : Int32)) (v := (.int w0)) (by rw [e3]; exact Ar4.1) (State.isArrayOf_alike hZ.alike Ar4.2.1) Ar4.2.2 hin4 hat4 (g := (mkF m 22 #[.val (.ref a1), .val (.ref a2), .val (.int (1 : Int32)), .val (.int (0 : Int32))] [(.int (0 : Int32)), (.ref ca)])) rfl rfl (hb hby d3_22)) ?_
  show Gl _ _ _ _ _ _ _ (T3.setTop (mkF m 23 #[.val (.ref a1), .val (.ref a2), .val (.int (1 : Int32)), .val (.int (0 : Int32))] [(.int w0)]))
  refine Gl.st (fun t k => XS.aloadN X3.here hx rfl (hb hby d3_23) rfl rfl k) ?_
  show Gl _ _ _ _ _ _ _ (T3.setTop (mkF m 24 #[.val (.ref a1), .val (.ref a2), .val (.int (1 : Int32)), .val (.int (0 : Int32))] [(.ref a2), (.int w0)]))
  obtain ⟨T5, X5, e5, st5⟩ := getF X3 hx hZ hown (host := "") (Or.inl (hw _ (List.mem_of_getElem? (i := 10) rfl))) Via.refl e3 Fd (g := (mkF m 24 #[.val (.ref a1), .val (.ref a2), .val (.int (1 : Int32)), .val (.int (0 : Int32))] [(.ref a2), (.int w0)])) rfl rfl (hb hby d3_24)
  refine Gl.st st5 ?_
  show Gl _ _ _ _ _ _ _ (T5.setTop (mkF m 27 #[.val (.ref a1), .val (.ref a2), .val (.int (1 : Int32)), .val (.int (0 : Int32))] [(.ref da), (.int w0)]))
  refine Gl.st (fun t k => XS.iloadN X5.here hx rfl (hb hby d3_27) rfl  k) ?_
  show Gl _ _ _ _ _ _ _ (T5.setTop (mkF m 28 #[.val (.ref a1), .val (.ref a2), .val (.int (1 : Int32)), .val (.int (0 : Int32))] [(.int (0 : Int32)), (.ref da), (.int w0)]))
  have Vx6 := Vd
  obtain ⟨cl6, Ar6, qk6, S6, M6, H6, G6⟩ := Vx6
  have hin6 : ¬ ((0 : Int32) < 0 ∨ cl6.slots.size ≤ ((0 : Int32)).toNatClampNeg) := inb_of S6 ⟨by decide, by decide⟩
  have hat6 : cl6.slots[((0 : Int32)).toNatClampNeg]? = some (.int u0) := H6.at hin6 rfl
  refine Gl.st (X5.iaload hx (j := (0 : Int32)) (v := (.int u0)) (by rw [e5]; exact Ar6.1) (State.isArrayOf_alike hZ.alike Ar6.2.1) Ar6.2.2 hin6 hat6 (g := (mkF m 28 #[.val (.ref a1), .val (.ref a2), .val (.int (1 : Int32)), .val (.int (0 : Int32))] [(.int (0 : Int32)), (.ref da), (.int w0)])) rfl rfl (hb hby d3_28)) ?_
  show Gl _ _ _ _ _ _ _ (T5.setTop (mkF m 29 #[.val (.ref a1), .val (.ref a2), .val (.int (1 : Int32)), .val (.int (0 : Int32))] [(.int u0), (.int w0)]))
  by_cases hc29 : w0 < u0
  · refine Gl.st (fun t k => XS.icmpYes X5.here hx rfl (pc0 := 29) (pc' := 36) rfl (hb hby d3_29) rfl (tlt hc29).1 (by decide) (by decide) k) ?_
    show Gl _ _ _ _ _ _ _ (T5.setTop (mkF m 36 #[.val (.ref a1), .val (.ref a2), .val (.int (1 : Int32)), .val (.int (0 : Int32))] []))
    refine Gl.st (fun t k => XS.iconst X5.here hx rfl (hb hby d3_36) k) ?_
    show Gl _ _ _ _ _ _ _ (T5.setTop (mkF m 37 #[.val (.ref a1), .val (.ref a2), .val (.int (1 : Int32)), .val (.int (0 : Int32))] [(.int (0 : Int32))]))
    refine Gl.st (fun t k => XS.istoreN X5.here hx rfl (hb hby d3_37) rfl (l' := #[.val (.ref a1), .val (.ref a2), .val (.int (0 : Int32)), .val (.int (0 : Int32))]) rfl k) ?_
    show Gl _ _ _ _ _ _ _ (T5.setTop (mkF m 38 #[.val (.ref a1), .val (.ref a2), .val (.int (0 : Int32)), .val (.int (0 : Int32))] []))
    refine Gl.st (fun t k => XS.iinc X5.here hx rfl (hb hby d3_38) rfl (l' := #[.val (.ref a1), .val (.ref a2), .val (.int (0 : Int32)), .val (.int (1 : Int32))]) rfl k) ?_
    show Gl _ _ _ _ _ _ _ (T5.setTop (mkF m 41 #[.val (.ref a1), .val (.ref a2), .val (.int (0 : Int32)), .val (.int (1 : Int32))] []))
    refine Gl.st (fun t k => XS.goto X5.here hx rfl (pc0 := 41) (pc' := 4) rfl (hb hby d3_41) (by decide) (by decide) k) ?_
    show Gl _ _ _ _ _ _ _ (T5.setTop (mkF m 4 #[.val (.ref a1), .val (.ref a2), .val (.int (0 : Int32)), .val (.int (1 : Int32))] []))
    refine Gl.st (fun t k => XS.iloadN X5.here hx rfl (hb hby d3_4) rfl  k) ?_
    show Gl _ _ _ _ _ _ _ (T5.setTop (mkF m 5 #[.val (.ref a1), .val (.ref a2), .val (.int (0 : Int32)), .val (.int (1 : Int32))] [(.int (1 : Int32))]))
    refine Gl.st (fun t k => XS.aloadN X5.here hx rfl (hb hby d3_5) rfl rfl k) ?_
    show Gl _ _ _ _ _ _ _ (T5.setTop (mkF m 6 #[.val (.ref a1), .val (.ref a2), .val (.int (0 : Int32)), .val (.int (1 : Int32))] [(.ref a1), (.int (1 : Int32))]))
    obtain ⟨T7, X7, e7, st7⟩ := getF X5 hx hZ hown (host := "") (Or.inl (hw _ (List.mem_of_getElem? (i := 10) rfl))) Via.refl e5 Fc (g := (mkF m 6 #[.val (.ref a1), .val (.ref a2), .val (.int (0 : Int32)), .val (.int (1 : Int32))] [(.ref a1), (.int (1 : Int32))])) rfl rfl (hb hby d3_6)
    refine Gl.st st7 ?_
    show Gl _ _ _ _ _ _ _ (T7.setTop (mkF m 9 #[.val (.ref a1), .val (.ref a2), .val (.int (0 : Int32)), .val (.int (1 : Int32))] [(.ref ca), (.int (1 : Int32))]))
    have Vx8 := Vc
    obtain ⟨cl8, Ar8, qk8, S8, M8, H8, G8⟩ := Vx8
    refine Gl.st (X7.arraylength hx (by rw [e7]; exact Ar8.1) (State.isArrayOf_alike hZ.alike Ar8.2.1) (g := (mkF m 9 #[.val (.ref a1), .val (.ref a2), .val (.int (0 : Int32)), .val (.int (1 : Int32))] [(.ref ca), (.int (1 : Int32))])) rfl rfl (hb hby d3_9)) ?_
    rw [len_of S8 M8]
    show Gl _ _ _ _ _ _ _ (T7.setTop (mkF m 10 #[.val (.ref a1), .val (.ref a2), .val (.int (0 : Int32)), .val (.int (1 : Int32))] [(.int (3 : Int32)), (.int (1 : Int32))]))
    refine Gl.st (fun t k => XS.icmpNo X7.here hx rfl (hb hby d3_10) rfl (tlt (by decide : (1 : Int32) < (3 : Int32))).2.1 k) ?_
    show Gl _ _ _ _ _ _ _ (T7.setTop (mkF m 13 #[.val (.ref a1), .val (.ref a2), .val (.int (0 : Int32)), .val (.int (1 : Int32))] []))
    refine Gl.st (fun t k => XS.iloadN X7.here hx rfl (hb hby d3_13) rfl  k) ?_
    show Gl _ _ _ _ _ _ _ (T7.setTop (mkF m 14 #[.val (.ref a1), .val (.ref a2), .val (.int (0 : Int32)), .val (.int (1 : Int32))] [(.int (0 : Int32))]))
    refine Gl.st (fun t k => XS.ifYes X7.here hx rfl (pc0 := 14) (pc' := 44) rfl (hb hby d3_14) rfl ((if0 _ _).trans (teq (rfl : (0 : Int32) = (0 : Int32))).1) (by decide) (by decide) k) ?_
    show Gl _ _ _ _ _ _ _ (T7.setTop (mkF m 44 #[.val (.ref a1), .val (.ref a2), .val (.int (0 : Int32)), .val (.int (1 : Int32))] []))
    refine Gl.st (fun t k => XS.iloadN X7.here hx rfl (hb hby d3_44) rfl  k) ?_
    show Gl _ _ _ _ _ _ _ (T7.setTop (mkF m 45 #[.val (.ref a1), .val (.ref a2), .val (.int (0 : Int32)), .val (.int (1 : Int32))] [(.int (0 : Int32))]))
    exact Gl.retN X7 hx hlk Bd.returns (by simp) (hb hby d3_45) (⟨congrArg (fun z => some (Value.int z)) (show (nar .boolean (0 : Int32)) = (own_covers w0 w1 w2 u0 u1 u2) from by simp only [own_covers, if_pos hc29]), N0, e7⟩) (by decide) (by decide)
  · refine Gl.st (fun t k => XS.icmpNo X5.here hx rfl (hb hby d3_29) rfl (flt hc29).1 k) ?_
    show Gl _ _ _ _ _ _ _ (T5.setTop (mkF m 32 #[.val (.ref a1), .val (.ref a2), .val (.int (1 : Int32)), .val (.int (0 : Int32))] []))
    refine Gl.st (fun t k => XS.iconst X5.here hx rfl (hb hby d3_32) k) ?_
    show Gl _ _ _ _ _ _ _ (T5.setTop (mkF m 33 #[.val (.ref a1), .val (.ref a2), .val (.int (1 : Int32)), .val (.int (0 : Int32))] [(.int (1 : Int32))]))
    refine Gl.st (fun t k => XS.goto X5.here hx rfl (pc0 := 33) (pc' := 37) rfl (hb hby d3_33) (by decide) (by decide) k) ?_
    show Gl _ _ _ _ _ _ _ (T5.setTop (mkF m 37 #[.val (.ref a1), .val (.ref a2), .val (.int (1 : Int32)), .val (.int (0 : Int32))] [(.int (1 : Int32))]))
    refine Gl.st (fun t k => XS.istoreN X5.here hx rfl (hb hby d3_37) rfl (l' := #[.val (.ref a1), .val (.ref a2), .val (.int (1 : Int32)), .val (.int (0 : Int32))]) rfl k) ?_
    show Gl _ _ _ _ _ _ _ (T5.setTop (mkF m 38 #[.val (.ref a1), .val (.ref a2), .val (.int (1 : Int32)), .val (.int (0 : Int32))] []))
    refine Gl.st (fun t k => XS.iinc X5.here hx rfl (hb hby d3_38) rfl (l' := #[.val (.ref a1), .val (.ref a2), .val (.int (1 : Int32)), .val (.int (1 : Int32))]) rfl k) ?_
    show Gl _ _ _ _ _ _ _ (T5.setTop (mkF m 41 #[.val (.ref a1), .val (.ref a2), .val (.int (1 : Int32)), .val (.int (1 : Int32))] []))
    refine Gl.st (fun t k => XS.goto X5.here hx rfl (pc0 := 41) (pc' := 4) rfl (hb hby d3_41) (by decide) (by decide) k) ?_
    show Gl _ _ _ _ _ _ _ (T5.setTop (mkF m 4 #[.val (.ref a1), .val (.ref a2), .val (.int (1 : Int32)), .val (.int (1 : Int32))] []))
    refine Gl.st (fun t k => XS.iloadN X5.here hx rfl (hb hby d3_4) rfl  k) ?_
    show Gl _ _ _ _ _ _ _ (T5.setTop (mkF m 5 #[.val (.ref a1), .val (.ref a2), .val (.int (1 : Int32)), .val (.int (1 : Int32))] [(.int (1 : Int32))]))
    refine Gl.st (fun t k => XS.aloadN X5.here hx rfl (hb hby d3_5) rfl rfl k) ?_
    show Gl _ _ _ _ _ _ _ (T5.setTop (mkF m 6 #[.val (.ref a1), .val (.ref a2), .val (.int (1 : Int32)), .val (.int (1 : Int32))] [(.ref a1), (.int (1 : Int32))]))
    obtain ⟨T9, X9, e9, st9⟩ := getF X5 hx hZ hown (host := "") (Or.inl (hw _ (List.mem_of_getElem? (i := 10) rfl))) Via.refl e5 Fc (g := (mkF m 6 #[.val (.ref a1), .val (.ref a2), .val (.int (1 : Int32)), .val (.int (1 : Int32))] [(.ref a1), (.int (1 : Int32))])) rfl rfl (hb hby d3_6)
    refine Gl.st st9 ?_
    show Gl _ _ _ _ _ _ _ (T9.setTop (mkF m 9 #[.val (.ref a1), .val (.ref a2), .val (.int (1 : Int32)), .val (.int (1 : Int32))] [(.ref ca), (.int (1 : Int32))]))
    have Vx10 := Vc
    obtain ⟨cl10, Ar10, qk10, S10, M10, H10, G10⟩ := Vx10
    refine Gl.st (X9.arraylength hx (by rw [e9]; exact Ar10.1) (State.isArrayOf_alike hZ.alike Ar10.2.1) (g := (mkF m 9 #[.val (.ref a1), .val (.ref a2), .val (.int (1 : Int32)), .val (.int (1 : Int32))] [(.ref ca), (.int (1 : Int32))])) rfl rfl (hb hby d3_9)) ?_
    rw [len_of S10 M10]
    show Gl _ _ _ _ _ _ _ (T9.setTop (mkF m 10 #[.val (.ref a1), .val (.ref a2), .val (.int (1 : Int32)), .val (.int (1 : Int32))] [(.int (3 : Int32)), (.int (1 : Int32))]))
    refine Gl.st (fun t k => XS.icmpNo X9.here hx rfl (hb hby d3_10) rfl (tlt (by decide : (1 : Int32) < (3 : Int32))).2.1 k) ?_
    show Gl _ _ _ _ _ _ _ (T9.setTop (mkF m 13 #[.val (.ref a1), .val (.ref a2), .val (.int (1 : Int32)), .val (.int (1 : Int32))] []))
    refine Gl.st (fun t k => XS.iloadN X9.here hx rfl (hb hby d3_13) rfl  k) ?_
    show Gl _ _ _ _ _ _ _ (T9.setTop (mkF m 14 #[.val (.ref a1), .val (.ref a2), .val (.int (1 : Int32)), .val (.int (1 : Int32))] [(.int (1 : Int32))]))
    refine Gl.st (fun t k => XS.ifNo X9.here hx rfl (hb hby d3_14) rfl ((if0 _ _).trans (feq (by decide : ¬ ((1 : Int32) = (0 : Int32)))).1) k) ?_
    show Gl _ _ _ _ _ _ _ (T9.setTop (mkF m 17 #[.val (.ref a1), .val (.ref a2), .val (.int (1 : Int32)), .val (.int (1 : Int32))] []))
    refine Gl.st (fun t k => XS.aloadN X9.here hx rfl (hb hby d3_17) rfl rfl k) ?_
    show Gl _ _ _ _ _ _ _ (T9.setTop (mkF m 18 #[.val (.ref a1), .val (.ref a2), .val (.int (1 : Int32)), .val (.int (1 : Int32))] [(.ref a1)]))
    obtain ⟨T11, X11, e11, st11⟩ := getF X9 hx hZ hown (host := "") (Or.inl (hw _ (List.mem_of_getElem? (i := 10) rfl))) Via.refl e9 Fc (g := (mkF m 18 #[.val (.ref a1), .val (.ref a2), .val (.int (1 : Int32)), .val (.int (1 : Int32))] [(.ref a1)])) rfl rfl (hb hby d3_18)
    refine Gl.st st11 ?_
    show Gl _ _ _ _ _ _ _ (T11.setTop (mkF m 21 #[.val (.ref a1), .val (.ref a2), .val (.int (1 : Int32)), .val (.int (1 : Int32))] [(.ref ca)]))
    refine Gl.st (fun t k => XS.iloadN X11.here hx rfl (hb hby d3_21) rfl  k) ?_
    show Gl _ _ _ _ _ _ _ (T11.setTop (mkF m 22 #[.val (.ref a1), .val (.ref a2), .val (.int (1 : Int32)), .val (.int (1 : Int32))] [(.int (1 : Int32)), (.ref ca)]))
    have Vx12 := Vc
    obtain ⟨cl12, Ar12, qk12, S12, M12, H12, G12⟩ := Vx12
    have hin12 : ¬ ((1 : Int32) < 0 ∨ cl12.slots.size ≤ ((1 : Int32)).toNatClampNeg) := inb_of S12 ⟨by decide, by decide⟩
    have hat12 : cl12.slots[((1 : Int32)).toNatClampNeg]? = some (.int w1) := H12.at hin12 rfl
    refine Gl.st (X11.iaload hx (j := (1 : Int32)) (v := (.int w1)) (by rw [e11]; exact Ar12.1) (State.isArrayOf_alike hZ.alike Ar12.2.1) Ar12.2.2 hin12 hat12 (g := (mkF m 22 #[.val (.ref a1), .val (.ref a2), .val (.int (1 : Int32)), .val (.int (1 : Int32))] [(.int (1 : Int32)), (.ref ca)])) rfl rfl (hb hby d3_22)) ?_
    show Gl _ _ _ _ _ _ _ (T11.setTop (mkF m 23 #[.val (.ref a1), .val (.ref a2), .val (.int (1 : Int32)), .val (.int (1 : Int32))] [(.int w1)]))
    refine Gl.st (fun t k => XS.aloadN X11.here hx rfl (hb hby d3_23) rfl rfl k) ?_
    show Gl _ _ _ _ _ _ _ (T11.setTop (mkF m 24 #[.val (.ref a1), .val (.ref a2), .val (.int (1 : Int32)), .val (.int (1 : Int32))] [(.ref a2), (.int w1)]))
    obtain ⟨T13, X13, e13, st13⟩ := getF X11 hx hZ hown (host := "") (Or.inl (hw _ (List.mem_of_getElem? (i := 10) rfl))) Via.refl e11 Fd (g := (mkF m 24 #[.val (.ref a1), .val (.ref a2), .val (.int (1 : Int32)), .val (.int (1 : Int32))] [(.ref a2), (.int w1)])) rfl rfl (hb hby d3_24)
    refine Gl.st st13 ?_
    show Gl _ _ _ _ _ _ _ (T13.setTop (mkF m 27 #[.val (.ref a1), .val (.ref a2), .val (.int (1 : Int32)), .val (.int (1 : Int32))] [(.ref da), (.int w1)]))
    refine Gl.st (fun t k => XS.iloadN X13.here hx rfl (hb hby d3_27) rfl  k) ?_
    show Gl _ _ _ _ _ _ _ (T13.setTop (mkF m 28 #[.val (.ref a1), .val (.ref a2), .val (.int (1 : Int32)), .val (.int (1 : Int32))] [(.int (1 : Int32)), (.ref da), (.int w1)]))
    have Vx14 := Vd
    obtain ⟨cl14, Ar14, qk14, S14, M14, H14, G14⟩ := Vx14
    have hin14 : ¬ ((1 : Int32) < 0 ∨ cl14.slots.size ≤ ((1 : Int32)).toNatClampNeg) := inb_of S14 ⟨by decide, by decide⟩
    have hat14 : cl14.slots[((1 : Int32)).toNatClampNeg]? = some (.int u1) := H14.at hin14 rfl
    refine Gl.st (X13.iaload hx (j := (1 : Int32)) (v := (.int u1)) (by rw [e13]; exact Ar14.1) (State.isArrayOf_alike hZ.alike Ar14.2.1) Ar14.2.2 hin14 hat14 (g := (mkF m 28 #[.val (.ref a1), .val (.ref a2), .val (.int (1 : Int32)), .val (.int (1 : Int32))] [(.int (1 : Int32)), (.ref da), (.int w1)])) rfl rfl (hb hby d3_28)) ?_
    show Gl _ _ _ _ _ _ _ (T13.setTop (mkF m 29 #[.val (.ref a1), .val (.ref a2), .val (.int (1 : Int32)), .val (.int (1 : Int32))] [(.int u1), (.int w1)]))
    by_cases hc29_2 : w1 < u1
    · refine Gl.st (fun t k => XS.icmpYes X13.here hx rfl (pc0 := 29) (pc' := 36) rfl (hb hby d3_29) rfl (tlt hc29_2).1 (by decide) (by decide) k) ?_
      show Gl _ _ _ _ _ _ _ (T13.setTop (mkF m 36 #[.val (.ref a1), .val (.ref a2), .val (.int (1 : Int32)), .val (.int (1 : Int32))] []))
      refine Gl.st (fun t k => XS.iconst X13.here hx rfl (hb hby d3_36) k) ?_
      show Gl _ _ _ _ _ _ _ (T13.setTop (mkF m 37 #[.val (.ref a1), .val (.ref a2), .val (.int (1 : Int32)), .val (.int (1 : Int32))] [(.int (0 : Int32))]))
      refine Gl.st (fun t k => XS.istoreN X13.here hx rfl (hb hby d3_37) rfl (l' := #[.val (.ref a1), .val (.ref a2), .val (.int (0 : Int32)), .val (.int (1 : Int32))]) rfl k) ?_
      show Gl _ _ _ _ _ _ _ (T13.setTop (mkF m 38 #[.val (.ref a1), .val (.ref a2), .val (.int (0 : Int32)), .val (.int (1 : Int32))] []))
      refine Gl.st (fun t k => XS.iinc X13.here hx rfl (hb hby d3_38) rfl (l' := #[.val (.ref a1), .val (.ref a2), .val (.int (0 : Int32)), .val (.int (2 : Int32))]) rfl k) ?_
      show Gl _ _ _ _ _ _ _ (T13.setTop (mkF m 41 #[.val (.ref a1), .val (.ref a2), .val (.int (0 : Int32)), .val (.int (2 : Int32))] []))
      refine Gl.st (fun t k => XS.goto X13.here hx rfl (pc0 := 41) (pc' := 4) rfl (hb hby d3_41) (by decide) (by decide) k) ?_
      show Gl _ _ _ _ _ _ _ (T13.setTop (mkF m 4 #[.val (.ref a1), .val (.ref a2), .val (.int (0 : Int32)), .val (.int (2 : Int32))] []))
      refine Gl.st (fun t k => XS.iloadN X13.here hx rfl (hb hby d3_4) rfl  k) ?_
      show Gl _ _ _ _ _ _ _ (T13.setTop (mkF m 5 #[.val (.ref a1), .val (.ref a2), .val (.int (0 : Int32)), .val (.int (2 : Int32))] [(.int (2 : Int32))]))
      refine Gl.st (fun t k => XS.aloadN X13.here hx rfl (hb hby d3_5) rfl rfl k) ?_
      show Gl _ _ _ _ _ _ _ (T13.setTop (mkF m 6 #[.val (.ref a1), .val (.ref a2), .val (.int (0 : Int32)), .val (.int (2 : Int32))] [(.ref a1), (.int (2 : Int32))]))
      obtain ⟨T15, X15, e15, st15⟩ := getF X13 hx hZ hown (host := "") (Or.inl (hw _ (List.mem_of_getElem? (i := 10) rfl))) Via.refl e13 Fc (g := (mkF m 6 #[.val (.ref a1), .val (.ref a2), .val (.int (0 : Int32)), .val (.int (2 : Int32))] [(.ref a1), (.int (2 : Int32))])) rfl rfl (hb hby d3_6)
      refine Gl.st st15 ?_
      show Gl _ _ _ _ _ _ _ (T15.setTop (mkF m 9 #[.val (.ref a1), .val (.ref a2), .val (.int (0 : Int32)), .val (.int (2 : Int32))] [(.ref ca), (.int (2 : Int32))]))
      have Vx16 := Vc
      obtain ⟨cl16, Ar16, qk16, S16, M16, H16, G16⟩ := Vx16
      refine Gl.st (X15.arraylength hx (by rw [e15]; exact Ar16.1) (State.isArrayOf_alike hZ.alike Ar16.2.1) (g := (mkF m 9 #[.val (.ref a1), .val (.ref a2), .val (.int (0 : Int32)), .val (.int (2 : Int32))] [(.ref ca), (.int (2 : Int32))])) rfl rfl (hb hby d3_9)) ?_
      rw [len_of S16 M16]
      show Gl _ _ _ _ _ _ _ (T15.setTop (mkF m 10 #[.val (.ref a1), .val (.ref a2), .val (.int (0 : Int32)), .val (.int (2 : Int32))] [(.int (3 : Int32)), (.int (2 : Int32))]))
      refine Gl.st (fun t k => XS.icmpNo X15.here hx rfl (hb hby d3_10) rfl (tlt (by decide : (2 : Int32) < (3 : Int32))).2.1 k) ?_
      show Gl _ _ _ _ _ _ _ (T15.setTop (mkF m 13 #[.val (.ref a1), .val (.ref a2), .val (.int (0 : Int32)), .val (.int (2 : Int32))] []))
      refine Gl.st (fun t k => XS.iloadN X15.here hx rfl (hb hby d3_13) rfl  k) ?_
      show Gl _ _ _ _ _ _ _ (T15.setTop (mkF m 14 #[.val (.ref a1), .val (.ref a2), .val (.int (0 : Int32)), .val (.int (2 : Int32))] [(.int (0 : Int32))]))
      refine Gl.st (fun t k => XS.ifYes X15.here hx rfl (pc0 := 14) (pc' := 44) rfl (hb hby d3_14) rfl ((if0 _ _).trans (teq (rfl : (0 : Int32) = (0 : Int32))).1) (by decide) (by decide) k) ?_
      show Gl _ _ _ _ _ _ _ (T15.setTop (mkF m 44 #[.val (.ref a1), .val (.ref a2), .val (.int (0 : Int32)), .val (.int (2 : Int32))] []))
      refine Gl.st (fun t k => XS.iloadN X15.here hx rfl (hb hby d3_44) rfl  k) ?_
      show Gl _ _ _ _ _ _ _ (T15.setTop (mkF m 45 #[.val (.ref a1), .val (.ref a2), .val (.int (0 : Int32)), .val (.int (2 : Int32))] [(.int (0 : Int32))]))
      exact Gl.retN X15 hx hlk Bd.returns (by simp) (hb hby d3_45) (⟨congrArg (fun z => some (Value.int z)) (show (nar .boolean (0 : Int32)) = (own_covers w0 w1 w2 u0 u1 u2) from by simp only [own_covers, if_neg hc29, if_pos hc29_2]), N0, e15⟩) (by decide) (by decide)
    · refine Gl.st (fun t k => XS.icmpNo X13.here hx rfl (hb hby d3_29) rfl (flt hc29_2).1 k) ?_
      show Gl _ _ _ _ _ _ _ (T13.setTop (mkF m 32 #[.val (.ref a1), .val (.ref a2), .val (.int (1 : Int32)), .val (.int (1 : Int32))] []))
      refine Gl.st (fun t k => XS.iconst X13.here hx rfl (hb hby d3_32) k) ?_
      show Gl _ _ _ _ _ _ _ (T13.setTop (mkF m 33 #[.val (.ref a1), .val (.ref a2), .val (.int (1 : Int32)), .val (.int (1 : Int32))] [(.int (1 : Int32))]))
      refine Gl.st (fun t k => XS.goto X13.here hx rfl (pc0 := 33) (pc' := 37) rfl (hb hby d3_33) (by decide) (by decide) k) ?_
      show Gl _ _ _ _ _ _ _ (T13.setTop (mkF m 37 #[.val (.ref a1), .val (.ref a2), .val (.int (1 : Int32)), .val (.int (1 : Int32))] [(.int (1 : Int32))]))
      refine Gl.st (fun t k => XS.istoreN X13.here hx rfl (hb hby d3_37) rfl (l' := #[.val (.ref a1), .val (.ref a2), .val (.int (1 : Int32)), .val (.int (1 : Int32))]) rfl k) ?_
      show Gl _ _ _ _ _ _ _ (T13.setTop (mkF m 38 #[.val (.ref a1), .val (.ref a2), .val (.int (1 : Int32)), .val (.int (1 : Int32))] []))
      refine Gl.st (fun t k => XS.iinc X13.here hx rfl (hb hby d3_38) rfl (l' := #[.val (.ref a1), .val (.ref a2), .val (.int (1 : Int32)), .val (.int (2 : Int32))]) rfl k) ?_
      show Gl _ _ _ _ _ _ _ (T13.setTop (mkF m 41 #[.val (.ref a1), .val (.ref a2), .val (.int (1 : Int32)), .val (.int (2 : Int32))] []))
      refine Gl.st (fun t k => XS.goto X13.here hx rfl (pc0 := 41) (pc' := 4) rfl (hb hby d3_41) (by decide) (by decide) k) ?_
      show Gl _ _ _ _ _ _ _ (T13.setTop (mkF m 4 #[.val (.ref a1), .val (.ref a2), .val (.int (1 : Int32)), .val (.int (2 : Int32))] []))
      refine Gl.st (fun t k => XS.iloadN X13.here hx rfl (hb hby d3_4) rfl  k) ?_
      show Gl _ _ _ _ _ _ _ (T13.setTop (mkF m 5 #[.val (.ref a1), .val (.ref a2), .val (.int (1 : Int32)), .val (.int (2 : Int32))] [(.int (2 : Int32))]))
      refine Gl.st (fun t k => XS.aloadN X13.here hx rfl (hb hby d3_5) rfl rfl k) ?_
      show Gl _ _ _ _ _ _ _ (T13.setTop (mkF m 6 #[.val (.ref a1), .val (.ref a2), .val (.int (1 : Int32)), .val (.int (2 : Int32))] [(.ref a1), (.int (2 : Int32))]))
      obtain ⟨T17, X17, e17, st17⟩ := getF X13 hx hZ hown (host := "") (Or.inl (hw _ (List.mem_of_getElem? (i := 10) rfl))) Via.refl e13 Fc (g := (mkF m 6 #[.val (.ref a1), .val (.ref a2), .val (.int (1 : Int32)), .val (.int (2 : Int32))] [(.ref a1), (.int (2 : Int32))])) rfl rfl (hb hby d3_6)
      refine Gl.st st17 ?_
      show Gl _ _ _ _ _ _ _ (T17.setTop (mkF m 9 #[.val (.ref a1), .val (.ref a2), .val (.int (1 : Int32)), .val (.int (2 : Int32))] [(.ref ca), (.int (2 : Int32))]))
      have Vx18 := Vc
      obtain ⟨cl18, Ar18, qk18, S18, M18, H18, G18⟩ := Vx18
      refine Gl.st (X17.arraylength hx (by rw [e17]; exact Ar18.1) (State.isArrayOf_alike hZ.alike Ar18.2.1) (g := (mkF m 9 #[.val (.ref a1), .val (.ref a2), .val (.int (1 : Int32)), .val (.int (2 : Int32))] [(.ref ca), (.int (2 : Int32))])) rfl rfl (hb hby d3_9)) ?_
      rw [len_of S18 M18]
      show Gl _ _ _ _ _ _ _ (T17.setTop (mkF m 10 #[.val (.ref a1), .val (.ref a2), .val (.int (1 : Int32)), .val (.int (2 : Int32))] [(.int (3 : Int32)), (.int (2 : Int32))]))
      refine Gl.st (fun t k => XS.icmpNo X17.here hx rfl (hb hby d3_10) rfl (tlt (by decide : (2 : Int32) < (3 : Int32))).2.1 k) ?_
      show Gl _ _ _ _ _ _ _ (T17.setTop (mkF m 13 #[.val (.ref a1), .val (.ref a2), .val (.int (1 : Int32)), .val (.int (2 : Int32))] []))
      refine Gl.st (fun t k => XS.iloadN X17.here hx rfl (hb hby d3_13) rfl  k) ?_
      show Gl _ _ _ _ _ _ _ (T17.setTop (mkF m 14 #[.val (.ref a1), .val (.ref a2), .val (.int (1 : Int32)), .val (.int (2 : Int32))] [(.int (1 : Int32))]))
      refine Gl.st (fun t k => XS.ifNo X17.here hx rfl (hb hby d3_14) rfl ((if0 _ _).trans (feq (by decide : ¬ ((1 : Int32) = (0 : Int32)))).1) k) ?_
      show Gl _ _ _ _ _ _ _ (T17.setTop (mkF m 17 #[.val (.ref a1), .val (.ref a2), .val (.int (1 : Int32)), .val (.int (2 : Int32))] []))
      refine Gl.st (fun t k => XS.aloadN X17.here hx rfl (hb hby d3_17) rfl rfl k) ?_
      show Gl _ _ _ _ _ _ _ (T17.setTop (mkF m 18 #[.val (.ref a1), .val (.ref a2), .val (.int (1 : Int32)), .val (.int (2 : Int32))] [(.ref a1)]))
      obtain ⟨T19, X19, e19, st19⟩ := getF X17 hx hZ hown (host := "") (Or.inl (hw _ (List.mem_of_getElem? (i := 10) rfl))) Via.refl e17 Fc (g := (mkF m 18 #[.val (.ref a1), .val (.ref a2), .val (.int (1 : Int32)), .val (.int (2 : Int32))] [(.ref a1)])) rfl rfl (hb hby d3_18)
      refine Gl.st st19 ?_
      show Gl _ _ _ _ _ _ _ (T19.setTop (mkF m 21 #[.val (.ref a1), .val (.ref a2), .val (.int (1 : Int32)), .val (.int (2 : Int32))] [(.ref ca)]))
      refine Gl.st (fun t k => XS.iloadN X19.here hx rfl (hb hby d3_21) rfl  k) ?_
      show Gl _ _ _ _ _ _ _ (T19.setTop (mkF m 22 #[.val (.ref a1), .val (.ref a2), .val (.int (1 : Int32)), .val (.int (2 : Int32))] [(.int (2 : Int32)), (.ref ca)]))
      have Vx20 := Vc
      obtain ⟨cl20, Ar20, qk20, S20, M20, H20, G20⟩ := Vx20
      have hin20 : ¬ ((2 : Int32) < 0 ∨ cl20.slots.size ≤ ((2 : Int32)).toNatClampNeg) := inb_of S20 ⟨by decide, by decide⟩
      have hat20 : cl20.slots[((2 : Int32)).toNatClampNeg]? = some (.int w2) := H20.at hin20 rfl
      refine Gl.st (X19.iaload hx (j := (2 : Int32)) (v := (.int w2)) (by rw [e19]; exact Ar20.1) (State.isArrayOf_alike hZ.alike Ar20.2.1) Ar20.2.2 hin20 hat20 (g := (mkF m 22 #[.val (.ref a1), .val (.ref a2), .val (.int (1 : Int32)), .val (.int (2 : Int32))] [(.int (2 : Int32)), (.ref ca)])) rfl rfl (hb hby d3_22)) ?_
      show Gl _ _ _ _ _ _ _ (T19.setTop (mkF m 23 #[.val (.ref a1), .val (.ref a2), .val (.int (1 : Int32)), .val (.int (2 : Int32))] [(.int w2)]))
      refine Gl.st (fun t k => XS.aloadN X19.here hx rfl (hb hby d3_23) rfl rfl k) ?_
      show Gl _ _ _ _ _ _ _ (T19.setTop (mkF m 24 #[.val (.ref a1), .val (.ref a2), .val (.int (1 : Int32)), .val (.int (2 : Int32))] [(.ref a2), (.int w2)]))
      obtain ⟨T21, X21, e21, st21⟩ := getF X19 hx hZ hown (host := "") (Or.inl (hw _ (List.mem_of_getElem? (i := 10) rfl))) Via.refl e19 Fd (g := (mkF m 24 #[.val (.ref a1), .val (.ref a2), .val (.int (1 : Int32)), .val (.int (2 : Int32))] [(.ref a2), (.int w2)])) rfl rfl (hb hby d3_24)
      refine Gl.st st21 ?_
      show Gl _ _ _ _ _ _ _ (T21.setTop (mkF m 27 #[.val (.ref a1), .val (.ref a2), .val (.int (1 : Int32)), .val (.int (2 : Int32))] [(.ref da), (.int w2)]))
      refine Gl.st (fun t k => XS.iloadN X21.here hx rfl (hb hby d3_27) rfl  k) ?_
      show Gl _ _ _ _ _ _ _ (T21.setTop (mkF m 28 #[.val (.ref a1), .val (.ref a2), .val (.int (1 : Int32)), .val (.int (2 : Int32))] [(.int (2 : Int32)), (.ref da), (.int w2)]))
      have Vx22 := Vd
      obtain ⟨cl22, Ar22, qk22, S22, M22, H22, G22⟩ := Vx22
      have hin22 : ¬ ((2 : Int32) < 0 ∨ cl22.slots.size ≤ ((2 : Int32)).toNatClampNeg) := inb_of S22 ⟨by decide, by decide⟩
      have hat22 : cl22.slots[((2 : Int32)).toNatClampNeg]? = some (.int u2) := H22.at hin22 rfl
      refine Gl.st (X21.iaload hx (j := (2 : Int32)) (v := (.int u2)) (by rw [e21]; exact Ar22.1) (State.isArrayOf_alike hZ.alike Ar22.2.1) Ar22.2.2 hin22 hat22 (g := (mkF m 28 #[.val (.ref a1), .val (.ref a2), .val (.int (1 : Int32)), .val (.int (2 : Int32))] [(.int (2 : Int32)), (.ref da), (.int w2)])) rfl rfl (hb hby d3_28)) ?_
      show Gl _ _ _ _ _ _ _ (T21.setTop (mkF m 29 #[.val (.ref a1), .val (.ref a2), .val (.int (1 : Int32)), .val (.int (2 : Int32))] [(.int u2), (.int w2)]))
      by_cases hc29_3 : w2 < u2
      · refine Gl.st (fun t k => XS.icmpYes X21.here hx rfl (pc0 := 29) (pc' := 36) rfl (hb hby d3_29) rfl (tlt hc29_3).1 (by decide) (by decide) k) ?_
        show Gl _ _ _ _ _ _ _ (T21.setTop (mkF m 36 #[.val (.ref a1), .val (.ref a2), .val (.int (1 : Int32)), .val (.int (2 : Int32))] []))
        refine Gl.st (fun t k => XS.iconst X21.here hx rfl (hb hby d3_36) k) ?_
        show Gl _ _ _ _ _ _ _ (T21.setTop (mkF m 37 #[.val (.ref a1), .val (.ref a2), .val (.int (1 : Int32)), .val (.int (2 : Int32))] [(.int (0 : Int32))]))
        refine Gl.st (fun t k => XS.istoreN X21.here hx rfl (hb hby d3_37) rfl (l' := #[.val (.ref a1), .val (.ref a2), .val (.int (0 : Int32)), .val (.int (2 : Int32))]) rfl k) ?_
        show Gl _ _ _ _ _ _ _ (T21.setTop (mkF m 38 #[.val (.ref a1), .val (.ref a2), .val (.int (0 : Int32)), .val (.int (2 : Int32))] []))
        refine Gl.st (fun t k => XS.iinc X21.here hx rfl (hb hby d3_38) rfl (l' := #[.val (.ref a1), .val (.ref a2), .val (.int (0 : Int32)), .val (.int (3 : Int32))]) rfl k) ?_
        show Gl _ _ _ _ _ _ _ (T21.setTop (mkF m 41 #[.val (.ref a1), .val (.ref a2), .val (.int (0 : Int32)), .val (.int (3 : Int32))] []))
        refine Gl.st (fun t k => XS.goto X21.here hx rfl (pc0 := 41) (pc' := 4) rfl (hb hby d3_41) (by decide) (by decide) k) ?_
        show Gl _ _ _ _ _ _ _ (T21.setTop (mkF m 4 #[.val (.ref a1), .val (.ref a2), .val (.int (0 : Int32)), .val (.int (3 : Int32))] []))
        refine Gl.st (fun t k => XS.iloadN X21.here hx rfl (hb hby d3_4) rfl  k) ?_
        show Gl _ _ _ _ _ _ _ (T21.setTop (mkF m 5 #[.val (.ref a1), .val (.ref a2), .val (.int (0 : Int32)), .val (.int (3 : Int32))] [(.int (3 : Int32))]))
        refine Gl.st (fun t k => XS.aloadN X21.here hx rfl (hb hby d3_5) rfl rfl k) ?_
        show Gl _ _ _ _ _ _ _ (T21.setTop (mkF m 6 #[.val (.ref a1), .val (.ref a2), .val (.int (0 : Int32)), .val (.int (3 : Int32))] [(.ref a1), (.int (3 : Int32))]))
        obtain ⟨T23, X23, e23, st23⟩ := getF X21 hx hZ hown (host := "") (Or.inl (hw _ (List.mem_of_getElem? (i := 10) rfl))) Via.refl e21 Fc (g := (mkF m 6 #[.val (.ref a1), .val (.ref a2), .val (.int (0 : Int32)), .val (.int (3 : Int32))] [(.ref a1), (.int (3 : Int32))])) rfl rfl (hb hby d3_6)
        refine Gl.st st23 ?_
        show Gl _ _ _ _ _ _ _ (T23.setTop (mkF m 9 #[.val (.ref a1), .val (.ref a2), .val (.int (0 : Int32)), .val (.int (3 : Int32))] [(.ref ca), (.int (3 : Int32))]))
        have Vx24 := Vc
        obtain ⟨cl24, Ar24, qk24, S24, M24, H24, G24⟩ := Vx24
        refine Gl.st (X23.arraylength hx (by rw [e23]; exact Ar24.1) (State.isArrayOf_alike hZ.alike Ar24.2.1) (g := (mkF m 9 #[.val (.ref a1), .val (.ref a2), .val (.int (0 : Int32)), .val (.int (3 : Int32))] [(.ref ca), (.int (3 : Int32))])) rfl rfl (hb hby d3_9)) ?_
        rw [len_of S24 M24]
        show Gl _ _ _ _ _ _ _ (T23.setTop (mkF m 10 #[.val (.ref a1), .val (.ref a2), .val (.int (0 : Int32)), .val (.int (3 : Int32))] [(.int (3 : Int32)), (.int (3 : Int32))]))
        refine Gl.st (fun t k => XS.icmpYes X23.here hx rfl (pc0 := 10) (pc' := 44) rfl (hb hby d3_10) rfl (flt (by decide : ¬ ((3 : Int32) < (3 : Int32)))).2.1 (by decide) (by decide) k) ?_
        show Gl _ _ _ _ _ _ _ (T23.setTop (mkF m 44 #[.val (.ref a1), .val (.ref a2), .val (.int (0 : Int32)), .val (.int (3 : Int32))] []))
        refine Gl.st (fun t k => XS.iloadN X23.here hx rfl (hb hby d3_44) rfl  k) ?_
        show Gl _ _ _ _ _ _ _ (T23.setTop (mkF m 45 #[.val (.ref a1), .val (.ref a2), .val (.int (0 : Int32)), .val (.int (3 : Int32))] [(.int (0 : Int32))]))
        exact Gl.retN X23 hx hlk Bd.returns (by simp) (hb hby d3_45) (⟨congrArg (fun z => some (Value.int z)) (show (nar .boolean (0 : Int32)) = (own_covers w0 w1 w2 u0 u1 u2) from by simp only [own_covers, if_neg hc29, if_neg hc29_2, if_pos hc29_3]), N0, e23⟩) (by decide) (by decide)
      · refine Gl.st (fun t k => XS.icmpNo X21.here hx rfl (hb hby d3_29) rfl (flt hc29_3).1 k) ?_
        show Gl _ _ _ _ _ _ _ (T21.setTop (mkF m 32 #[.val (.ref a1), .val (.ref a2), .val (.int (1 : Int32)), .val (.int (2 : Int32))] []))
        refine Gl.st (fun t k => XS.iconst X21.here hx rfl (hb hby d3_32) k) ?_
        show Gl _ _ _ _ _ _ _ (T21.setTop (mkF m 33 #[.val (.ref a1), .val (.ref a2), .val (.int (1 : Int32)), .val (.int (2 : Int32))] [(.int (1 : Int32))]))
        refine Gl.st (fun t k => XS.goto X21.here hx rfl (pc0 := 33) (pc' := 37) rfl (hb hby d3_33) (by decide) (by decide) k) ?_
        show Gl _ _ _ _ _ _ _ (T21.setTop (mkF m 37 #[.val (.ref a1), .val (.ref a2), .val (.int (1 : Int32)), .val (.int (2 : Int32))] [(.int (1 : Int32))]))
        refine Gl.st (fun t k => XS.istoreN X21.here hx rfl (hb hby d3_37) rfl (l' := #[.val (.ref a1), .val (.ref a2), .val (.int (1 : Int32)), .val (.int (2 : Int32))]) rfl k) ?_
        show Gl _ _ _ _ _ _ _ (T21.setTop (mkF m 38 #[.val (.ref a1), .val (.ref a2), .val (.int (1 : Int32)), .val (.int (2 : Int32))] []))
        refine Gl.st (fun t k => XS.iinc X21.here hx rfl (hb hby d3_38) rfl (l' := #[.val (.ref a1), .val (.ref a2), .val (.int (1 : Int32)), .val (.int (3 : Int32))]) rfl k) ?_
        show Gl _ _ _ _ _ _ _ (T21.setTop (mkF m 41 #[.val (.ref a1), .val (.ref a2), .val (.int (1 : Int32)), .val (.int (3 : Int32))] []))
        refine Gl.st (fun t k => XS.goto X21.here hx rfl (pc0 := 41) (pc' := 4) rfl (hb hby d3_41) (by decide) (by decide) k) ?_
        show Gl _ _ _ _ _ _ _ (T21.setTop (mkF m 4 #[.val (.ref a1), .val (.ref a2), .val (.int (1 : Int32)), .val (.int (3 : Int32))] []))
        refine Gl.st (fun t k => XS.iloadN X21.here hx rfl (hb hby d3_4) rfl  k) ?_
        show Gl _ _ _ _ _ _ _ (T21.setTop (mkF m 5 #[.val (.ref a1), .val (.ref a2), .val (.int (1 : Int32)), .val (.int (3 : Int32))] [(.int (3 : Int32))]))
        refine Gl.st (fun t k => XS.aloadN X21.here hx rfl (hb hby d3_5) rfl rfl k) ?_
        show Gl _ _ _ _ _ _ _ (T21.setTop (mkF m 6 #[.val (.ref a1), .val (.ref a2), .val (.int (1 : Int32)), .val (.int (3 : Int32))] [(.ref a1), (.int (3 : Int32))]))
        obtain ⟨T25, X25, e25, st25⟩ := getF X21 hx hZ hown (host := "") (Or.inl (hw _ (List.mem_of_getElem? (i := 10) rfl))) Via.refl e21 Fc (g := (mkF m 6 #[.val (.ref a1), .val (.ref a2), .val (.int (1 : Int32)), .val (.int (3 : Int32))] [(.ref a1), (.int (3 : Int32))])) rfl rfl (hb hby d3_6)
        refine Gl.st st25 ?_
        show Gl _ _ _ _ _ _ _ (T25.setTop (mkF m 9 #[.val (.ref a1), .val (.ref a2), .val (.int (1 : Int32)), .val (.int (3 : Int32))] [(.ref ca), (.int (3 : Int32))]))
        have Vx26 := Vc
        obtain ⟨cl26, Ar26, qk26, S26, M26, H26, G26⟩ := Vx26
        refine Gl.st (X25.arraylength hx (by rw [e25]; exact Ar26.1) (State.isArrayOf_alike hZ.alike Ar26.2.1) (g := (mkF m 9 #[.val (.ref a1), .val (.ref a2), .val (.int (1 : Int32)), .val (.int (3 : Int32))] [(.ref ca), (.int (3 : Int32))])) rfl rfl (hb hby d3_9)) ?_
        rw [len_of S26 M26]
        show Gl _ _ _ _ _ _ _ (T25.setTop (mkF m 10 #[.val (.ref a1), .val (.ref a2), .val (.int (1 : Int32)), .val (.int (3 : Int32))] [(.int (3 : Int32)), (.int (3 : Int32))]))
        refine Gl.st (fun t k => XS.icmpYes X25.here hx rfl (pc0 := 10) (pc' := 44) rfl (hb hby d3_10) rfl (flt (by decide : ¬ ((3 : Int32) < (3 : Int32)))).2.1 (by decide) (by decide) k) ?_
        show Gl _ _ _ _ _ _ _ (T25.setTop (mkF m 44 #[.val (.ref a1), .val (.ref a2), .val (.int (1 : Int32)), .val (.int (3 : Int32))] []))
        refine Gl.st (fun t k => XS.iloadN X25.here hx rfl (hb hby d3_44) rfl  k) ?_
        show Gl _ _ _ _ _ _ _ (T25.setTop (mkF m 45 #[.val (.ref a1), .val (.ref a2), .val (.int (1 : Int32)), .val (.int (3 : Int32))] [(.int (1 : Int32))]))
        exact Gl.retN X25 hx hlk Bd.returns (by simp) (hb hby d3_45) (⟨congrArg (fun z => some (Value.int z)) (show (nar .boolean (1 : Int32)) = (own_covers w0 w1 w2 u0 u1 u2) from by simp only [own_covers, if_neg hc29, if_neg hc29_2, if_neg hc29_3]), N0, e25⟩) (by decide) (by decide)
theorem pf_2 : plainFor (⟨"com/example/enact/enact/engine/MarkingCoversPinLaw", "law", "(IIIIII)Z"⟩ : MethodName) = true := by decide +kernel
def Q0 (Z : State) (p1 : Int32) (p2 : Int32) (p3 : Int32) (p4 : Int32) (p5 : Int32) (p6 : Int32) (h0 : Heap) (n0 : Nat) (v : Option Value) (h : Heap) (L : List Loc) : Prop := v = some (.int 1) ∧ Fr n0 L
theorem ef_0 (m : MethodId) (p1 : Int32) (p2 : Int32) (p3 : Int32) (p4 : Int32) (p5 : Int32) (p6 : Int32) : entryFrame m #[(.int p1), (.int p2), (.int p3), (.int p4), (.int p5), (.int p6)] maxLocals = mkF m 0 #[.val (.int p1), .val (.int p2), .val (.int p3), .val (.int p4), .val (.int p5), .val (.int p6), .unset, .unset, .unset, .unset, .unset, .unset, .unset] [] := by first | (simp [entryFrame, mkF, argsToLocals, Value.category, maxLocals]; done) | rfl
theorem pd_0 : parseMethodDescriptor "([I)V" = some ⟨[(.array .int)], none⟩ := by decide +kernel
theorem pd_1 : parseMethodDescriptor "(Lcom/example/enact/enact/engine/Marking;)Z" = some ⟨[(.object "com/example/enact/enact/engine/Marking")], some .boolean⟩ := by decide +kernel
set_option maxRecDepth 65536 in
set_option maxHeartbeats 40000000 in
theorem rm0 (l : Launch) (Z : State) (a0 : Array Value) (hw : ∀ d ∈ tables_1, d.before a0 Z = true) (ws : List Jvm.Cond) (p1 : Int32) (p2 : Int32) (p3 : Int32) (p4 : Int32) (p5 : Int32) (p6 : Int32) (h0 : Heap) (n0 : Nat) (Z0 : n0 ≤ h0.size) :
    MetFree l x (head1 (Jvm.Cond.code x code maxLocals ret :: ws) room_1) (fun a U => a = #[(.int p1), (.int p2), (.int p3), (.int p4), (.int p5), (.int p6)] ∧ Z.Warmed39 U.vm ∧ U.heap = h0) (fun _ _ _ _ _ => True) (fun _ U o U' => ∃ v L, o = .returned v ∧ Q0 Z p1 p2 p3 p4 p5 p6 h0 n0 v U'.heap L ∧ FrameEnd U o U' L room_1.cells room_1.slots) := by
  refine MetFree.of_bodySF pf_2 hisR ?_
  intro p e s m args below meth c s₁ Bd hml0 hP hK
  obtain ⟨rfl, hZ, hh⟩ := hP
  have hx := Bd.exec
  have hby := Bd.bytes
  have hlk : meth.locks = false := BodyLoose.notSynchronized Bd
  have hml : c.maxLocals = 13 := hml0
  have hown : s.vm.findClass "com/example/enact/enact/engine/MarkingCoversPinLaw" = some m.cls := findClass_of_methodNamed Bd.named
  have hnm := (name_of_methodNamed Bd.named Bd.method).1
  have X0 : Stand p l e room_1 s m #[(.int p1), (.int p2), (.int p3), (.int p4), (.int p5), (.int p6)] below meth c s₁ [] 0 0 := Stand.of_body Bd
  have e0 : s₁.heap = h0 := by rw [← hh, Bd.state]; rfl
  have N0 := Fr.nil n0
  show Gl p e below s (Q0 Z p1 p2 p3 p4 p5 p6 h0 n0) room_1.cells room_1.slots (s₁.setTop (entryFrame m #[(.int p1), (.int p2), (.int p3), (.int p4), (.int p5), (.int p6)] maxLocals))
  rw [ef_0]
  show Gl _ _ _ _ _ _ _ (s₁.setTop (mkF m 0 #[.val (.int p1), .val (.int p2), .val (.int p3), .val (.int p4), .val (.int p5), .val (.int p6), .unset, .unset, .unset, .unset, .unset, .unset, .unset] []))
  refine Gl.st (fun t k => XS.iconst X0.here hx rfl (hb hby at_0) k) ?_
  show Gl _ _ _ _ _ _ _ (s₁.setTop (mkF m 1 #[.val (.int p1), .val (.int p2), .val (.int p3), .val (.int p4), .val (.int p5), .val (.int p6), .unset, .unset, .unset, .unset, .unset, .unset, .unset] [(.int (3 : Int32))]))
  obtain ⟨T1, h1, k1, X1, e1, E1, A1, st1⟩ := newP X0 hx hZ (hw _ (List.mem_of_getElem? (i := 0) rfl)) e0 (g := (mkF m 1 #[.val (.int p1), .val (.int p2), .val (.int p3), .val (.int p4), .val (.int p5), .val (.int p6), .unset, .unset, .unset, .unset, .unset, .unset, .unset] [(.int (3 : Int32))])) rfl (hb hby at_1) rfl (by decide) (cap := 3) (by decide) (by decide) (by decide) (by decide)
  obtain ⟨b1, g1⟩ : ∃ z, z = h0.size := ⟨_, rfl⟩
  rw [← g1] at A1 st1
  refine Gl.st st1 ?_
  have gzb1 : n0 ≤ b1 := Nat.le_trans Z0 (Nat.le_of_eq g1.symm)
  have Z1 : n0 ≤ h1.size := Nat.le_trans Z0 E1.1
  have V1 : Arv Z h1 b1 k1 .int (3 : Int32) [(.int (0 : Int32)), (.int (0 : Int32)), (.int (0 : Int32))] (.int (0 : Int32)) := (Arv.new A1 (by decide)).pad (pad_rep [] (.int (0 : Int32)) 3)
  show Gl _ _ _ _ _ _ _ (T1.setTop (mkF m 3 #[.val (.int p1), .val (.int p2), .val (.int p3), .val (.int p4), .val (.int p5), .val (.int p6), .unset, .unset, .unset, .unset, .unset, .unset, .unset] [(.ref b1)]))
  refine Gl.st (fun t k => XS.dup X1.here hx rfl (hb hby at_3) rfl rfl k) ?_
  show Gl _ _ _ _ _ _ _ (T1.setTop (mkF m 4 #[.val (.int p1), .val (.int p2), .val (.int p3), .val (.int p4), .val (.int p5), .val (.int p6), .unset, .unset, .unset, .unset, .unset, .unset, .unset] [(.ref b1), (.ref b1)]))
  refine Gl.st (fun t k => XS.iconst X1.here hx rfl (hb hby at_4) k) ?_
  show Gl _ _ _ _ _ _ _ (T1.setTop (mkF m 5 #[.val (.int p1), .val (.int p2), .val (.int p3), .val (.int p4), .val (.int p5), .val (.int p6), .unset, .unset, .unset, .unset, .unset, .unset, .unset] [(.int (0 : Int32)), (.ref b1), (.ref b1)]))
  refine Gl.st (fun t k => XS.iloadN X1.here hx rfl (hb hby at_5) rfl  k) ?_
  show Gl _ _ _ _ _ _ _ (T1.setTop (mkF m 6 #[.val (.int p1), .val (.int p2), .val (.int p3), .val (.int p4), .val (.int p5), .val (.int p6), .unset, .unset, .unset, .unset, .unset, .unset, .unset] [(.int p1), (.int (0 : Int32)), (.ref b1), (.ref b1)]))
  have Vx2 := V1
  obtain ⟨cl2, Ar2, qk2, S2, M2, H2, G2⟩ := Vx2
  have hin2 : ¬ ((0 : Int32) < 0 ∨ cl2.slots.size ≤ ((0 : Int32)).toNatClampNeg) := inb_of S2 ⟨by decide, by decide⟩
  obtain ⟨T2, h2, X2, e2, W2, st2⟩ := stI X1 hx hZ e1 Ar2 (j := (0 : Int32)) hin2 (g := (mkF m 6 #[.val (.int p1), .val (.int p2), .val (.int p3), .val (.int p4), .val (.int p5), .val (.int p6), .unset, .unset, .unset, .unset, .unset, .unset, .unset] [(.int p1), (.int (0 : Int32)), (.ref b1), (.ref b1)])) rfl rfl (hb hby at_6)
  refine Gl.st st2 ?_
  have Z2 : n0 ≤ h2.size := Nat.le_trans Z1 (Keep.of_wr W2).1
  have N2 := Fr.snoc X2 N0 gzb1
  have V2 : Arv Z h2 b1 k1 .int (3 : Int32) [(.int p1), (.int (0 : Int32)), (.int (0 : Int32))] (.int (0 : Int32)) := Arv.set Ar2 qk2 S2 M2 H2 G2 rfl W2 0 rfl (Nat.le_of_ble_eq_true rfl)
  show Gl _ _ _ _ _ _ _ (T2.setTop (mkF m 7 #[.val (.int p1), .val (.int p2), .val (.int p3), .val (.int p4), .val (.int p5), .val (.int p6), .unset, .unset, .unset, .unset, .unset, .unset, .unset] [(.ref b1)]))
  refine Gl.st (fun t k => XS.dup X2.here hx rfl (hb hby at_7) rfl rfl k) ?_
  show Gl _ _ _ _ _ _ _ (T2.setTop (mkF m 8 #[.val (.int p1), .val (.int p2), .val (.int p3), .val (.int p4), .val (.int p5), .val (.int p6), .unset, .unset, .unset, .unset, .unset, .unset, .unset] [(.ref b1), (.ref b1)]))
  refine Gl.st (fun t k => XS.iconst X2.here hx rfl (hb hby at_8) k) ?_
  show Gl _ _ _ _ _ _ _ (T2.setTop (mkF m 9 #[.val (.int p1), .val (.int p2), .val (.int p3), .val (.int p4), .val (.int p5), .val (.int p6), .unset, .unset, .unset, .unset, .unset, .unset, .unset] [(.int (1 : Int32)), (.ref b1), (.ref b1)]))
  refine Gl.st (fun t k => XS.iloadN X2.here hx rfl (hb hby at_9) rfl  k) ?_
  show Gl _ _ _ _ _ _ _ (T2.setTop (mkF m 10 #[.val (.int p1), .val (.int p2), .val (.int p3), .val (.int p4), .val (.int p5), .val (.int p6), .unset, .unset, .unset, .unset, .unset, .unset, .unset] [(.int p2), (.int (1 : Int32)), (.ref b1), (.ref b1)]))
  have Vx3 := V2
  obtain ⟨cl3, Ar3, qk3, S3, M3, H3, G3⟩ := Vx3
  have hin3 : ¬ ((1 : Int32) < 0 ∨ cl3.slots.size ≤ ((1 : Int32)).toNatClampNeg) := inb_of S3 ⟨by decide, by decide⟩
  obtain ⟨T3, h3, X3, e3, W3, st3⟩ := stI X2 hx hZ e2 Ar3 (j := (1 : Int32)) hin3 (g := (mkF m 10 #[.val (.int p1), .val (.int p2), .val (.int p3), .val (.int p4), .val (.int p5), .val (.int p6), .unset, .unset, .unset, .unset, .unset, .unset, .unset] [(.int p2), (.int (1 : Int32)), (.ref b1), (.ref b1)])) rfl rfl (hb hby at_10)
  refine Gl.st st3 ?_
  have Z3 : n0 ≤ h3.size := Nat.le_trans Z2 (Keep.of_wr W3).1
  have N3 := Fr.snoc X3 N2 gzb1
  have V3 : Arv Z h3 b1 k1 .int (3 : Int32) [(.int p1), (.int p2), (.int (0 : Int32))] (.int (0 : Int32)) := Arv.set Ar3 qk3 S3 M3 H3 G3 rfl W3 1 rfl (Nat.le_of_ble_eq_true rfl)
  show Gl _ _ _ _ _ _ _ (T3.setTop (mkF m 11 #[.val (.int p1), .val (.int p2), .val (.int p3), .val (.int p4), .val (.int p5), .val (.int p6), .unset, .unset, .unset, .unset, .unset, .unset, .unset] [(.ref b1)]))
  refine Gl.st (fun t k => XS.dup X3.here hx rfl (hb hby at_11) rfl rfl k) ?_
  show Gl _ _ _ _ _ _ _ (T3.setTop (mkF m 12 #[.val (.int p1), .val (.int p2), .val (.int p3), .val (.int p4), .val (.int p5), .val (.int p6), .unset, .unset, .unset, .unset, .unset, .unset, .unset] [(.ref b1), (.ref b1)]))
  refine Gl.st (fun t k => XS.iconst X3.here hx rfl (hb hby at_12) k) ?_
  show Gl _ _ _ _ _ _ _ (T3.setTop (mkF m 13 #[.val (.int p1), .val (.int p2), .val (.int p3), .val (.int p4), .val (.int p5), .val (.int p6), .unset, .unset, .unset, .unset, .unset, .unset, .unset] [(.int (2 : Int32)), (.ref b1), (.ref b1)]))
  refine Gl.st (fun t k => XS.iloadN X3.here hx rfl (hb hby at_13) rfl  k) ?_
  show Gl _ _ _ _ _ _ _ (T3.setTop (mkF m 14 #[.val (.int p1), .val (.int p2), .val (.int p3), .val (.int p4), .val (.int p5), .val (.int p6), .unset, .unset, .unset, .unset, .unset, .unset, .unset] [(.int p3), (.int (2 : Int32)), (.ref b1), (.ref b1)]))
  have Vx4 := V3
  obtain ⟨cl4, Ar4, qk4, S4, M4, H4, G4⟩ := Vx4
  have hin4 : ¬ ((2 : Int32) < 0 ∨ cl4.slots.size ≤ ((2 : Int32)).toNatClampNeg) := inb_of S4 ⟨by decide, by decide⟩
  obtain ⟨T4, h4, X4, e4, W4, st4⟩ := stI X3 hx hZ e3 Ar4 (j := (2 : Int32)) hin4 (g := (mkF m 14 #[.val (.int p1), .val (.int p2), .val (.int p3), .val (.int p4), .val (.int p5), .val (.int p6), .unset, .unset, .unset, .unset, .unset, .unset, .unset] [(.int p3), (.int (2 : Int32)), (.ref b1), (.ref b1)])) rfl rfl (hb hby at_14)
  refine Gl.st st4 ?_
  have Z4 : n0 ≤ h4.size := Nat.le_trans Z3 (Keep.of_wr W4).1
  have N4 := Fr.snoc X4 N3 gzb1
  have V4 : Arv Z h4 b1 k1 .int (3 : Int32) [(.int p1), (.int p2), (.int p3)] (.int (0 : Int32)) := Arv.set Ar4 qk4 S4 M4 H4 G4 rfl W4 2 rfl (Nat.le_of_ble_eq_true rfl)
  show Gl _ _ _ _ _ _ _ (T4.setTop (mkF m 15 #[.val (.int p1), .val (.int p2), .val (.int p3), .val (.int p4), .val (.int p5), .val (.int p6), .unset, .unset, .unset, .unset, .unset, .unset, .unset] [(.ref b1)]))
  refine Gl.st (fun t k => XS.astore X4.here hx rfl (hb hby at_15) rfl rfl (l' := #[.val (.int p1), .val (.int p2), .val (.int p3), .val (.int p4), .val (.int p5), .val (.int p6), .val (.ref b1), .unset, .unset, .unset, .unset, .unset, .unset]) rfl k) ?_
  show Gl _ _ _ _ _ _ _ (T4.setTop (mkF m 17 #[.val (.int p1), .val (.int p2), .val (.int p3), .val (.int p4), .val (.int p5), .val (.int p6), .val (.ref b1), .unset, .unset, .unset, .unset, .unset, .unset] []))
  refine Gl.st (fun t k => XS.iconst X4.here hx rfl (hb hby at_17) k) ?_
  show Gl _ _ _ _ _ _ _ (T4.setTop (mkF m 18 #[.val (.int p1), .val (.int p2), .val (.int p3), .val (.int p4), .val (.int p5), .val (.int p6), .val (.ref b1), .unset, .unset, .unset, .unset, .unset, .unset] [(.int (3 : Int32))]))
  obtain ⟨T5, h5, k5, X5, e5, E5, A5, st5⟩ := newP X4 hx hZ (hw _ (List.mem_of_getElem? (i := 0) rfl)) e4 (g := (mkF m 18 #[.val (.int p1), .val (.int p2), .val (.int p3), .val (.int p4), .val (.int p5), .val (.int p6), .val (.ref b1), .unset, .unset, .unset, .unset, .unset, .unset] [(.int (3 : Int32))])) rfl (hb hby at_18) rfl (by decide) (cap := 3) (by decide) (by decide) (by decide) (by decide)
  obtain ⟨b5, g5⟩ : ∃ z, z = h4.size := ⟨_, rfl⟩
  rw [← g5] at A5 st5
  refine Gl.st st5 ?_
  have ne_b1_b5 : b1 ≠ b5 := Nat.ne_of_lt (Nat.lt_of_lt_of_le V4.lt (Nat.le_of_eq g5.symm))
  have gzb5 : n0 ≤ b5 := Nat.le_trans Z4 (Nat.le_of_eq g5.symm)
  have Z5 : n0 ≤ h5.size := Nat.le_trans Z4 E5.1
  have V4'6 : Arv Z h5 b1 k1 .int (3 : Int32) [(.int p1), (.int p2), (.int p3)] (.int (0 : Int32)) := V4.ext E5
  have V5 : Arv Z h5 b5 k5 .int (3 : Int32) [(.int (0 : Int32)), (.int (0 : Int32)), (.int (0 : Int32))] (.int (0 : Int32)) := (Arv.new A5 (by decide)).pad (pad_rep [] (.int (0 : Int32)) 3)
  show Gl _ _ _ _ _ _ _ (T5.setTop (mkF m 20 #[.val (.int p1), .val (.int p2), .val (.int p3), .val (.int p4), .val (.int p5), .val (.int p6), .val (.ref b1), .unset, .unset, .unset, .unset, .unset, .unset] [(.ref b5)]))
  refine Gl.st (fun t k => XS.dup X5.here hx rfl (hb hby at_20) rfl rfl k) ?_
  show Gl _ _ _ _ _ _ _ (T5.setTop (mkF m 21 #[.val (.int p1), .val (.int p2), .val (.int p3), .val (.int p4), .val (.int p5), .val (.int p6), .val (.ref b1), .unset, .unset, .unset, .unset, .unset, .unset] [(.ref b5), (.ref b5)]))
  refine Gl.st (fun t k => XS.iconst X5.here hx rfl (hb hby at_21) k) ?_
  show Gl _ _ _ _ _ _ _ (T5.setTop (mkF m 22 #[.val (.int p1), .val (.int p2), .val (.int p3), .val (.int p4), .val (.int p5), .val (.int p6), .val (.ref b1), .unset, .unset, .unset, .unset, .unset, .unset] [(.int (0 : Int32)), (.ref b5), (.ref b5)]))
  refine Gl.st (fun t k => XS.iloadN X5.here hx rfl (hb hby at_22) rfl  k) ?_
  show Gl _ _ _ _ _ _ _ (T5.setTop (mkF m 23 #[.val (.int p1), .val (.int p2), .val (.int p3), .val (.int p4), .val (.int p5), .val (.int p6), .val (.ref b1), .unset, .unset, .unset, .unset, .unset, .unset] [(.int p4), (.int (0 : Int32)), (.ref b5), (.ref b5)]))
  have Vx7 := V5
  obtain ⟨cl7, Ar7, qk7, S7, M7, H7, G7⟩ := Vx7
  have hin7 : ¬ ((0 : Int32) < 0 ∨ cl7.slots.size ≤ ((0 : Int32)).toNatClampNeg) := inb_of S7 ⟨by decide, by decide⟩
  obtain ⟨T7, h7, X7, e7, W7, st7⟩ := stI X5 hx hZ e5 Ar7 (j := (0 : Int32)) hin7 (g := (mkF m 23 #[.val (.int p1), .val (.int p2), .val (.int p3), .val (.int p4), .val (.int p5), .val (.int p6), .val (.ref b1), .unset, .unset, .unset, .unset, .unset, .unset] [(.int p4), (.int (0 : Int32)), (.ref b5), (.ref b5)])) rfl rfl (hb hby at_23)
  refine Gl.st st7 ?_
  have Z7 : n0 ≤ h7.size := Nat.le_trans Z5 (Keep.of_wr W7).1
  have N7 := Fr.snoc X7 N4 gzb5
  have V4'8 : Arv Z h7 b1 k1 .int (3 : Int32) [(.int p1), (.int p2), (.int p3)] (.int (0 : Int32)) := V4'6.other W7 ne_b1_b5
  have V7 : Arv Z h7 b5 k5 .int (3 : Int32) [(.int p4), (.int (0 : Int32)), (.int (0 : Int32))] (.int (0 : Int32)) := Arv.set Ar7 qk7 S7 M7 H7 G7 rfl W7 0 rfl (Nat.le_of_ble_eq_true rfl)
  show Gl _ _ _ _ _ _ _ (T7.setTop (mkF m 24 #[.val (.int p1), .val (.int p2), .val (.int p3), .val (.int p4), .val (.int p5), .val (.int p6), .val (.ref b1), .unset, .unset, .unset, .unset, .unset, .unset] [(.ref b5)]))
  refine Gl.st (fun t k => XS.dup X7.here hx rfl (hb hby at_24) rfl rfl k) ?_
  show Gl _ _ _ _ _ _ _ (T7.setTop (mkF m 25 #[.val (.int p1), .val (.int p2), .val (.int p3), .val (.int p4), .val (.int p5), .val (.int p6), .val (.ref b1), .unset, .unset, .unset, .unset, .unset, .unset] [(.ref b5), (.ref b5)]))
  refine Gl.st (fun t k => XS.iconst X7.here hx rfl (hb hby at_25) k) ?_
  show Gl _ _ _ _ _ _ _ (T7.setTop (mkF m 26 #[.val (.int p1), .val (.int p2), .val (.int p3), .val (.int p4), .val (.int p5), .val (.int p6), .val (.ref b1), .unset, .unset, .unset, .unset, .unset, .unset] [(.int (1 : Int32)), (.ref b5), (.ref b5)]))
  refine Gl.st (fun t k => XS.iload X7.here hx rfl (hb hby at_26) rfl  k) ?_
  show Gl _ _ _ _ _ _ _ (T7.setTop (mkF m 28 #[.val (.int p1), .val (.int p2), .val (.int p3), .val (.int p4), .val (.int p5), .val (.int p6), .val (.ref b1), .unset, .unset, .unset, .unset, .unset, .unset] [(.int p5), (.int (1 : Int32)), (.ref b5), (.ref b5)]))
  have Vx9 := V7
  obtain ⟨cl9, Ar9, qk9, S9, M9, H9, G9⟩ := Vx9
  have hin9 : ¬ ((1 : Int32) < 0 ∨ cl9.slots.size ≤ ((1 : Int32)).toNatClampNeg) := inb_of S9 ⟨by decide, by decide⟩
  obtain ⟨T9, h9, X9, e9, W9, st9⟩ := stI X7 hx hZ e7 Ar9 (j := (1 : Int32)) hin9 (g := (mkF m 28 #[.val (.int p1), .val (.int p2), .val (.int p3), .val (.int p4), .val (.int p5), .val (.int p6), .val (.ref b1), .unset, .unset, .unset, .unset, .unset, .unset] [(.int p5), (.int (1 : Int32)), (.ref b5), (.ref b5)])) rfl rfl (hb hby at_28)
  refine Gl.st st9 ?_
  have Z9 : n0 ≤ h9.size := Nat.le_trans Z7 (Keep.of_wr W9).1
  have N9 := Fr.snoc X9 N7 gzb5
  have V4'10 : Arv Z h9 b1 k1 .int (3 : Int32) [(.int p1), (.int p2), (.int p3)] (.int (0 : Int32)) := V4'8.other W9 ne_b1_b5
  have V9 : Arv Z h9 b5 k5 .int (3 : Int32) [(.int p4), (.int p5), (.int (0 : Int32))] (.int (0 : Int32)) := Arv.set Ar9 qk9 S9 M9 H9 G9 rfl W9 1 rfl (Nat.le_of_ble_eq_true rfl)
  show Gl _ _ _ _ _ _ _ (T9.setTop (mkF m 29 #[.val (.int p1), .val (.int p2), .val (.int p3), .val (.int p4), .val (.int p5), .val (.int p6), .val (.ref b1), .unset, .unset, .unset, .unset, .unset, .unset] [(.ref b5)]))
  refine Gl.st (fun t k => XS.dup X9.here hx rfl (hb hby at_29) rfl rfl k) ?_
  show Gl _ _ _ _ _ _ _ (T9.setTop (mkF m 30 #[.val (.int p1), .val (.int p2), .val (.int p3), .val (.int p4), .val (.int p5), .val (.int p6), .val (.ref b1), .unset, .unset, .unset, .unset, .unset, .unset] [(.ref b5), (.ref b5)]))
  refine Gl.st (fun t k => XS.iconst X9.here hx rfl (hb hby at_30) k) ?_
  show Gl _ _ _ _ _ _ _ (T9.setTop (mkF m 31 #[.val (.int p1), .val (.int p2), .val (.int p3), .val (.int p4), .val (.int p5), .val (.int p6), .val (.ref b1), .unset, .unset, .unset, .unset, .unset, .unset] [(.int (2 : Int32)), (.ref b5), (.ref b5)]))
  refine Gl.st (fun t k => XS.iload X9.here hx rfl (hb hby at_31) rfl  k) ?_
  show Gl _ _ _ _ _ _ _ (T9.setTop (mkF m 33 #[.val (.int p1), .val (.int p2), .val (.int p3), .val (.int p4), .val (.int p5), .val (.int p6), .val (.ref b1), .unset, .unset, .unset, .unset, .unset, .unset] [(.int p6), (.int (2 : Int32)), (.ref b5), (.ref b5)]))
  have Vx11 := V9
  obtain ⟨cl11, Ar11, qk11, S11, M11, H11, G11⟩ := Vx11
  have hin11 : ¬ ((2 : Int32) < 0 ∨ cl11.slots.size ≤ ((2 : Int32)).toNatClampNeg) := inb_of S11 ⟨by decide, by decide⟩
  obtain ⟨T11, h11, X11, e11, W11, st11⟩ := stI X9 hx hZ e9 Ar11 (j := (2 : Int32)) hin11 (g := (mkF m 33 #[.val (.int p1), .val (.int p2), .val (.int p3), .val (.int p4), .val (.int p5), .val (.int p6), .val (.ref b1), .unset, .unset, .unset, .unset, .unset, .unset] [(.int p6), (.int (2 : Int32)), (.ref b5), (.ref b5)])) rfl rfl (hb hby at_33)
  refine Gl.st st11 ?_
  have Z11 : n0 ≤ h11.size := Nat.le_trans Z9 (Keep.of_wr W11).1
  have N11 := Fr.snoc X11 N9 gzb5
  have V4'12 : Arv Z h11 b1 k1 .int (3 : Int32) [(.int p1), (.int p2), (.int p3)] (.int (0 : Int32)) := V4'10.other W11 ne_b1_b5
  have V11 : Arv Z h11 b5 k5 .int (3 : Int32) [(.int p4), (.int p5), (.int p6)] (.int (0 : Int32)) := Arv.set Ar11 qk11 S11 M11 H11 G11 rfl W11 2 rfl (Nat.le_of_ble_eq_true rfl)
  show Gl _ _ _ _ _ _ _ (T11.setTop (mkF m 34 #[.val (.int p1), .val (.int p2), .val (.int p3), .val (.int p4), .val (.int p5), .val (.int p6), .val (.ref b1), .unset, .unset, .unset, .unset, .unset, .unset] [(.ref b5)]))
  refine Gl.st (fun t k => XS.astore X11.here hx rfl (hb hby at_34) rfl rfl (l' := #[.val (.int p1), .val (.int p2), .val (.int p3), .val (.int p4), .val (.int p5), .val (.int p6), .val (.ref b1), .val (.ref b5), .unset, .unset, .unset, .unset, .unset]) rfl k) ?_
  show Gl _ _ _ _ _ _ _ (T11.setTop (mkF m 36 #[.val (.int p1), .val (.int p2), .val (.int p3), .val (.int p4), .val (.int p5), .val (.int p6), .val (.ref b1), .val (.ref b5), .unset, .unset, .unset, .unset, .unset] []))
  obtain ⟨T13, h13, X13, e13, E13, A13, D13, -, st13⟩ := newO X11 hx hZ hown (hw _ (List.mem_of_getElem? (i := 1) rfl)) (hw _ (List.mem_of_getElem? (i := 2) rfl)) (hw _ (List.mem_of_getElem? (i := 3) rfl)) e11 (g := (mkF m 36 #[.val (.int p1), .val (.int p2), .val (.int p3), .val (.int p4), .val (.int p5), .val (.int p6), .val (.ref b1), .val (.ref b5), .unset, .unset, .unset, .unset, .unset] [])) rfl (hb hby at_36) (by decide) (by decide)
  obtain ⟨b13, g13⟩ : ∃ z, z = h11.size := ⟨_, rfl⟩
  rw [← g13] at A13 D13 st13
  refine Gl.st st13 ?_
  have ne_b1_b13 : b1 ≠ b13 := Nat.ne_of_lt (Nat.lt_of_lt_of_le V4'12.lt (Nat.le_of_eq g13.symm))
  have ne_b5_b13 : b5 ≠ b13 := Nat.ne_of_lt (Nat.lt_of_lt_of_le V11.lt (Nat.le_of_eq g13.symm))
  have gzb13 : n0 ≤ b13 := Nat.le_trans Z11 (Nat.le_of_eq g13.symm)
  have Z13 : n0 ≤ h13.size := Nat.le_trans Z11 E13.1
  have V4'14 : Arv Z h13 b1 k1 .int (3 : Int32) [(.int p1), (.int p2), (.int p3)] (.int (0 : Int32)) := V4'12.ext E13
  have V11'15 : Arv Z h13 b5 k5 .int (3 : Int32) [(.int p4), (.int p5), (.int p6)] (.int (0 : Int32)) := V11.ext E13
  have F13_tokens : Fld Z h13 b13 "com/example/enact/enact/engine/Marking" "tokens" "[I" .null := D13 (Or.inr (hw _ (List.mem_of_getElem? (i := 11) rfl))) (ty := (.array .int)) (by decide)
  show Gl _ _ _ _ _ _ _ (T13.setTop (mkF m 39 #[.val (.int p1), .val (.int p2), .val (.int p3), .val (.int p4), .val (.int p5), .val (.int p6), .val (.ref b1), .val (.ref b5), .unset, .unset, .unset, .unset, .unset] [(.ref b13)]))
  refine Gl.st (fun t k => XS.dup X13.here hx rfl (hb hby at_39) rfl rfl k) ?_
  show Gl _ _ _ _ _ _ _ (T13.setTop (mkF m 40 #[.val (.int p1), .val (.int p2), .val (.int p3), .val (.int p4), .val (.int p5), .val (.int p6), .val (.ref b1), .val (.ref b5), .unset, .unset, .unset, .unset, .unset] [(.ref b13), (.ref b13)]))
  refine Gl.st (fun t k => XS.aload X13.here hx rfl (hb hby at_40) rfl rfl k) ?_
  show Gl _ _ _ _ _ _ _ (T13.setTop (mkF m 42 #[.val (.int p1), .val (.int p2), .val (.int p3), .val (.int p4), .val (.int p5), .val (.int p6), .val (.ref b1), .val (.ref b5), .unset, .unset, .unset, .unset, .unset] [(.ref b1), (.ref b13), (.ref b13)]))
  obtain ⟨_, _, ⟨T16, L16, k16, n16⟩, -, X16, ⟨Lc16, hQ16, l16, y16, z16⟩, st16⟩ := X13.specialBack hx (y := (⟨"com/example/enact/enact/engine/Marking", "<init>", "([I)V"⟩ : MethodName)) rfl hown (mvT hZ (hw _ (List.mem_of_getElem? (i := 4) rfl))) (mvT hZ (hw _ (List.mem_of_getElem? (i := 5) rfl))) (mvT hZ (hw _ (List.mem_of_getElem? (i := 6) rfl))) (by decide) (backOf (W := 1) (rm1 l Z a0 hw [] b13 b1 (.null) h13 n0 Z13 A13 F13_tokens gzb13) hZ (hw _ (List.mem_of_getElem? (i := 6) rfl)) (hw _ (List.mem_of_getElem? (i := 3) rfl)) (by decide) (by decide)) (g := (mkF m 42 #[.val (.int p1), .val (.int p2), .val (.int p3), .val (.int p4), .val (.int p5), .val (.int p6), .val (.ref b1), .val (.ref b5), .unset, .unset, .unset, .unset, .unset] [(.ref b1), (.ref b13), (.ref b13)])) rfl (by rw [hml]; rfl) (Steps.refl _) (a := b13) (argsL := [(.ref b1)]) (rest := [(.ref b13)]) (lenOf pd_0 rfl) rfl (by show 2 * 0 + _ ≤ _; exact Nat.le_of_eq rfl) (hb hby at_42) (fun _ _ => ⟨rfl, e13, (by decide : 3 + 0 ≤ _), (by decide : 8 + 0 ≤ _)⟩)
  dsimp only [Pt.U, Pt.locs, Pt.cells, Pt.slots] at X16 l16 y16 z16 st16 hQ16
  subst l16 y16 z16
  obtain ⟨rfl, N16q, Kq16, Fq16_0, Fq16_1⟩ := hQ16
  have N16 := Fr.app N11 N16q
  have Z16 : n0 ≤ T16.heap.size := Nat.le_trans Z13 Kq16.1
  have V4'17 : Arv Z T16.heap b1 k1 .int (3 : Int32) [(.int p1), (.int p2), (.int p3)] (.int (0 : Int32)) := V4'14.keep Kq16 (ninS ne_b1_b13 nin0)
  have V11'18 : Arv Z T16.heap b5 k5 .int (3 : Int32) [(.int p4), (.int p5), (.int p6)] (.int (0 : Int32)) := V11'15.keep Kq16 (ninS ne_b5_b13 nin0)
  refine Gl.to st16 ?_
  show Gl _ _ _ _ _ _ _ (T16.setTop (mkF m 45 #[.val (.int p1), .val (.int p2), .val (.int p3), .val (.int p4), .val (.int p5), .val (.int p6), .val (.ref b1), .val (.ref b5), .unset, .unset, .unset, .unset, .unset] [(.ref b13)]))
  refine Gl.st (fun t k => XS.astore X16.here hx rfl (hb hby at_45) rfl rfl (l' := #[.val (.int p1), .val (.int p2), .val (.int p3), .val (.int p4), .val (.int p5), .val (.int p6), .val (.ref b1), .val (.ref b5), .val (.ref b13), .unset, .unset, .unset, .unset]) rfl k) ?_
  show Gl _ _ _ _ _ _ _ (T16.setTop (mkF m 47 #[.val (.int p1), .val (.int p2), .val (.int p3), .val (.int p4), .val (.int p5), .val (.int p6), .val (.ref b1), .val (.ref b5), .val (.ref b13), .unset, .unset, .unset, .unset] []))
  obtain ⟨T19, h19, X19, e19, E19, A19, D19, -, st19⟩ := newO X16 hx hZ hown (hw _ (List.mem_of_getElem? (i := 1) rfl)) (hw _ (List.mem_of_getElem? (i := 2) rfl)) (hw _ (List.mem_of_getElem? (i := 3) rfl)) rfl (g := (mkF m 47 #[.val (.int p1), .val (.int p2), .val (.int p3), .val (.int p4), .val (.int p5), .val (.int p6), .val (.ref b1), .val (.ref b5), .val (.ref b13), .unset, .unset, .unset, .unset] [])) rfl (hb hby at_47) (by decide) (by decide)
  obtain ⟨b19, g19⟩ : ∃ z, z = T16.heap.size := ⟨_, rfl⟩
  rw [← g19] at A19 D19 st19
  refine Gl.st st19 ?_
  have ne_b1_b19 : b1 ≠ b19 := Nat.ne_of_lt (Nat.lt_of_lt_of_le V4'17.lt (Nat.le_of_eq g19.symm))
  have ne_b13_b19 : b13 ≠ b19 := Nat.ne_of_lt (Nat.lt_of_lt_of_le Fq16_0.lt (Nat.le_of_eq g19.symm))
  have ne_b5_b19 : b5 ≠ b19 := Nat.ne_of_lt (Nat.lt_of_lt_of_le V11'18.lt (Nat.le_of_eq g19.symm))
  have gzb19 : n0 ≤ b19 := Nat.le_trans Z16 (Nat.le_of_eq g19.symm)
  have Z19 : n0 ≤ h19.size := Nat.le_trans Z16 E19.1
  have V4'20 : Arv Z h19 b1 k1 .int (3 : Int32) [(.int p1), (.int p2), (.int p3)] (.int (0 : Int32)) := V4'17.ext E19
  have V11'21 : Arv Z h19 b5 k5 .int (3 : Int32) [(.int p4), (.int p5), (.int p6)] (.int (0 : Int32)) := V11'18.ext E19
  have Fq16_0'22 : Exa Z h19 b13 "com/example/enact/enact/engine/Marking" := Fq16_0.ext E19
  have Fq16_1'23 : Fld Z h19 b13 "com/example/enact/enact/engine/Marking" "tokens" "[I" (.ref b1) := Fq16_1.ext E19
  have F19_tokens : Fld Z h19 b19 "com/example/enact/enact/engine/Marking" "tokens" "[I" .null := D19 (Or.inr (hw _ (List.mem_of_getElem? (i := 11) rfl))) (ty := (.array .int)) (by decide)
  show Gl _ _ _ _ _ _ _ (T19.setTop (mkF m 50 #[.val (.int p1), .val (.int p2), .val (.int p3), .val (.int p4), .val (.int p5), .val (.int p6), .val (.ref b1), .val (.ref b5), .val (.ref b13), .unset, .unset, .unset, .unset] [(.ref b19)]))
  refine Gl.st (fun t k => XS.dup X19.here hx rfl (hb hby at_50) rfl rfl k) ?_
  show Gl _ _ _ _ _ _ _ (T19.setTop (mkF m 51 #[.val (.int p1), .val (.int p2), .val (.int p3), .val (.int p4), .val (.int p5), .val (.int p6), .val (.ref b1), .val (.ref b5), .val (.ref b13), .unset, .unset, .unset, .unset] [(.ref b19), (.ref b19)]))
  refine Gl.st (fun t k => XS.aload X19.here hx rfl (hb hby at_51) rfl rfl k) ?_
  show Gl _ _ _ _ _ _ _ (T19.setTop (mkF m 53 #[.val (.int p1), .val (.int p2), .val (.int p3), .val (.int p4), .val (.int p5), .val (.int p6), .val (.ref b1), .val (.ref b5), .val (.ref b13), .unset, .unset, .unset, .unset] [(.ref b5), (.ref b19), (.ref b19)]))
  obtain ⟨_, _, ⟨T24, L24, k24, n24⟩, -, X24, ⟨Lc24, hQ24, l24, y24, z24⟩, st24⟩ := X19.specialBack hx (y := (⟨"com/example/enact/enact/engine/Marking", "<init>", "([I)V"⟩ : MethodName)) rfl hown (mvT hZ (hw _ (List.mem_of_getElem? (i := 4) rfl))) (mvT hZ (hw _ (List.mem_of_getElem? (i := 5) rfl))) (mvT hZ (hw _ (List.mem_of_getElem? (i := 6) rfl))) (by decide) (backOf (W := 1) (rm1 l Z a0 hw [] b19 b5 (.null) h19 n0 Z19 A19 F19_tokens gzb19) hZ (hw _ (List.mem_of_getElem? (i := 6) rfl)) (hw _ (List.mem_of_getElem? (i := 3) rfl)) (by decide) (by decide)) (g := (mkF m 53 #[.val (.int p1), .val (.int p2), .val (.int p3), .val (.int p4), .val (.int p5), .val (.int p6), .val (.ref b1), .val (.ref b5), .val (.ref b13), .unset, .unset, .unset, .unset] [(.ref b5), (.ref b19), (.ref b19)])) rfl (by rw [hml]; rfl) (Steps.refl _) (a := b19) (argsL := [(.ref b5)]) (rest := [(.ref b19)]) (lenOf pd_0 rfl) rfl (by show 2 * 0 + _ ≤ _; exact Nat.le_of_eq rfl) (hb hby at_53) (fun _ _ => ⟨rfl, e19, (by decide : 4 + 0 ≤ _), (by decide : 10 + 0 ≤ _)⟩)
  dsimp only [Pt.U, Pt.locs, Pt.cells, Pt.slots] at X24 l24 y24 z24 st24 hQ24
  subst l24 y24 z24
  obtain ⟨rfl, N24q, Kq24, Fq24_0, Fq24_1⟩ := hQ24
  have N24 := Fr.app N16 N24q
  have Z24 : n0 ≤ T24.heap.size := Nat.le_trans Z19 Kq24.1
  have V4'25 : Arv Z T24.heap b1 k1 .int (3 : Int32) [(.int p1), (.int p2), (.int p3)] (.int (0 : Int32)) := V4'20.keep Kq24 (ninS ne_b1_b19 nin0)
  have V11'26 : Arv Z T24.heap b5 k5 .int (3 : Int32) [(.int p4), (.int p5), (.int p6)] (.int (0 : Int32)) := V11'21.keep Kq24 (ninS ne_b5_b19 nin0)
  have Fq16_0'27 : Exa Z T24.heap b13 "com/example/enact/enact/engine/Marking" := Fq16_0'22.keep Kq24
  have Fq16_1'28 : Fld Z T24.heap b13 "com/example/enact/enact/engine/Marking" "tokens" "[I" (.ref b1) := Fq16_1'23.keep Kq24 (ninS ne_b13_b19 nin0)
  refine Gl.to st24 ?_
  show Gl _ _ _ _ _ _ _ (T24.setTop (mkF m 56 #[.val (.int p1), .val (.int p2), .val (.int p3), .val (.int p4), .val (.int p5), .val (.int p6), .val (.ref b1), .val (.ref b5), .val (.ref b13), .unset, .unset, .unset, .unset] [(.ref b19)]))
  refine Gl.st (fun t k => XS.astore X24.here hx rfl (hb hby at_56) rfl rfl (l' := #[.val (.int p1), .val (.int p2), .val (.int p3), .val (.int p4), .val (.int p5), .val (.int p6), .val (.ref b1), .val (.ref b5), .val (.ref b13), .val (.ref b19), .unset, .unset, .unset]) rfl k) ?_
  show Gl _ _ _ _ _ _ _ (T24.setTop (mkF m 58 #[.val (.int p1), .val (.int p2), .val (.int p3), .val (.int p4), .val (.int p5), .val (.int p6), .val (.ref b1), .val (.ref b5), .val (.ref b13), .val (.ref b19), .unset, .unset, .unset] []))
  refine Gl.st (fun t k => XS.iloadN X24.here hx rfl (hb hby at_58) rfl  k) ?_
  show Gl _ _ _ _ _ _ _ (T24.setTop (mkF m 59 #[.val (.int p1), .val (.int p2), .val (.int p3), .val (.int p4), .val (.int p5), .val (.int p6), .val (.ref b1), .val (.ref b5), .val (.ref b13), .val (.ref b19), .unset, .unset, .unset] [(.int p1)]))
  refine Gl.st (fun t k => XS.iloadN X24.here hx rfl (hb hby at_59) rfl  k) ?_
  show Gl _ _ _ _ _ _ _ (T24.setTop (mkF m 60 #[.val (.int p1), .val (.int p2), .val (.int p3), .val (.int p4), .val (.int p5), .val (.int p6), .val (.ref b1), .val (.ref b5), .val (.ref b13), .val (.ref b19), .unset, .unset, .unset] [(.int p4), (.int p1)]))
  have J29 : ∀ (Tj29 : State) (Lj29 : List Loc) (Xj29 : Stand p l e room_1 s m #[(.int p1), (.int p2), (.int p3), (.int p4), (.int p5), (.int p6)] below meth c Tj29 Lj29 4 10) (ej29 : Tj29.heap = T24.heap) (Nj29 : Fr n0 Lj29) (z80s0 : Int32) (hz80s0 : z80s0 = (if p1 < p4 then (0 : Int32) else (if p2 < p5 then (0 : Int32) else (if p3 < p6 then (0 : Int32) else (1 : Int32))))), Gl p e below s (Q0 Z p1 p2 p3 p4 p5 p6 h0 n0) room_1.cells room_1.slots (Tj29.setTop (mkF m 80 #[.val (.int p1), .val (.int p2), .val (.int p3), .val (.int p4), .val (.int p5), .val (.int p6), .val (.ref b1), .val (.ref b5), .val (.ref b13), .val (.ref b19), .unset, .unset, .unset] [(.int z80s0)])) := by
    intro Tj29 Lj29 Xj29 ej29 Nj29 z80s0 hz80s0
    show Gl _ _ _ _ _ _ _ (Tj29.setTop (mkF m 80 #[.val (.int p1), .val (.int p2), .val (.int p3), .val (.int p4), .val (.int p5), .val (.int p6), .val (.ref b1), .val (.ref b5), .val (.ref b13), .val (.ref b19), .unset, .unset, .unset] [(.int z80s0)]))
    refine Gl.st (fun t k => XS.istore Xj29.here hx rfl (hb hby at_80) rfl (l' := #[.val (.int p1), .val (.int p2), .val (.int p3), .val (.int p4), .val (.int p5), .val (.int p6), .val (.ref b1), .val (.ref b5), .val (.ref b13), .val (.ref b19), .val (.int z80s0), .unset, .unset]) rfl k) ?_
    show Gl _ _ _ _ _ _ _ (Tj29.setTop (mkF m 82 #[.val (.int p1), .val (.int p2), .val (.int p3), .val (.int p4), .val (.int p5), .val (.int p6), .val (.ref b1), .val (.ref b5), .val (.ref b13), .val (.ref b19), .val (.int z80s0), .unset, .unset] []))
    refine Gl.st (fun t k => XS.aload Xj29.here hx rfl (hb hby at_82) rfl rfl k) ?_
    show Gl _ _ _ _ _ _ _ (Tj29.setTop (mkF m 84 #[.val (.int p1), .val (.int p2), .val (.int p3), .val (.int p4), .val (.int p5), .val (.int p6), .val (.ref b1), .val (.ref b5), .val (.ref b13), .val (.ref b19), .val (.int z80s0), .unset, .unset] [(.ref b13)]))
    refine Gl.st (fun t k => XS.aload Xj29.here hx rfl (hb hby at_84) rfl rfl k) ?_
    show Gl _ _ _ _ _ _ _ (Tj29.setTop (mkF m 86 #[.val (.int p1), .val (.int p2), .val (.int p3), .val (.int p4), .val (.int p5), .val (.int p6), .val (.ref b1), .val (.ref b5), .val (.ref b13), .val (.ref b19), .val (.int z80s0), .unset, .unset] [(.ref b19), (.ref b13)]))
    obtain ⟨cq30, kq30, qa30, qb30, qc30⟩ := isOf hZ ej29 Fq16_0'27
    obtain ⟨_, _, ⟨T30, L30, k30, n30⟩, -, X30, ⟨Lc30, hQ30, l30, y30, z30⟩, st30⟩ := Xj29.virtualBack hx (y := (⟨"com/example/enact/enact/engine/Marking", "covers", "(Lcom/example/enact/enact/engine/Marking;)Z"⟩ : MethodName)) (z := (⟨"com/example/enact/enact/engine/Marking", "covers", "(Lcom/example/enact/enact/engine/Marking;)Z"⟩ : MethodName)) hown (mvT hZ (hw _ (List.mem_of_getElem? (i := 12) rfl))) (mvT hZ (hw _ (List.mem_of_getElem? (i := 13) rfl))) (notFace_of_selects (args := #[]) (mvT hZ (hw _ (List.mem_of_getElem? (i := 15) rfl)))) (mvT hZ (hw _ (List.mem_of_getElem? (i := 15) rfl))) (mvT hZ (hw _ (List.mem_of_getElem? (i := 14) rfl))) (by decide) (backOf (W := 0) (rm3 l Z a0 hw [] b13 b19 (b1) (k1) (b5) (k5) (p1) (p2) (p3) (p4) (p5) (p6) T24.heap n0  Fq16_1'28 V4'25 Fq24_1 V11'26) hZ (hw _ (List.mem_of_getElem? (i := 16) rfl)) (hw _ (List.mem_of_getElem? (i := 3) rfl)) (by decide) (by decide)) qa30 qc30 (g := (mkF m 86 #[.val (.int p1), .val (.int p2), .val (.int p3), .val (.int p4), .val (.int p5), .val (.int p6), .val (.ref b1), .val (.ref b5), .val (.ref b13), .val (.ref b19), .val (.int z80s0), .unset, .unset] [(.ref b19), (.ref b13)])) rfl (by rw [hml]; rfl) (Steps.refl _) (argsL := [(.ref b19)]) (rest := []) (lenOf pd_1 rfl) rfl (by show 2 * 0 + _ ≤ _; exact Nat.le_of_eq rfl) (hb hby at_86) (fun _ _ => ⟨rfl, ej29, (by decide : 4 + 0 ≤ _), (by decide : 10 + 0 ≤ _)⟩)
    dsimp only [Pt.U, Pt.locs, Pt.cells, Pt.slots] at X30 l30 y30 z30 st30 hQ30
    subst l30 y30 z30
    obtain ⟨rfl, N30q, e30⟩ := hQ30
    have N30 := Fr.app Nj29 N30q
    refine Gl.to st30 ?_
    show Gl _ _ _ _ _ _ _ (T30.setTop (mkF m 89 #[.val (.int p1), .val (.int p2), .val (.int p3), .val (.int p4), .val (.int p5), .val (.int p6), .val (.ref b1), .val (.ref b5), .val (.ref b13), .val (.ref b19), .val (.int z80s0), .unset, .unset] [(.int (own_covers p1 p2 p3 p4 p5 p6))]))
    refine Gl.st (fun t k => XS.istore X30.here hx rfl (hb hby at_89) rfl (l' := #[.val (.int p1), .val (.int p2), .val (.int p3), .val (.int p4), .val (.int p5), .val (.int p6), .val (.ref b1), .val (.ref b5), .val (.ref b13), .val (.ref b19), .val (.int z80s0), .val (.int (own_covers p1 p2 p3 p4 p5 p6)), .unset]) rfl k) ?_
    show Gl _ _ _ _ _ _ _ (T30.setTop (mkF m 91 #[.val (.int p1), .val (.int p2), .val (.int p3), .val (.int p4), .val (.int p5), .val (.int p6), .val (.ref b1), .val (.ref b5), .val (.ref b13), .val (.ref b19), .val (.int z80s0), .val (.int (own_covers p1 p2 p3 p4 p5 p6)), .unset] []))
    refine Gl.st (fun t k => XS.aload X30.here hx rfl (hb hby at_91) rfl rfl k) ?_
    show Gl _ _ _ _ _ _ _ (T30.setTop (mkF m 93 #[.val (.int p1), .val (.int p2), .val (.int p3), .val (.int p4), .val (.int p5), .val (.int p6), .val (.ref b1), .val (.ref b5), .val (.ref b13), .val (.ref b19), .val (.int z80s0), .val (.int (own_covers p1 p2 p3 p4 p5 p6)), .unset] [(.ref b1)]))
    refine Gl.st (fun t k => XS.iconst X30.here hx rfl (hb hby at_93) k) ?_
    show Gl _ _ _ _ _ _ _ (T30.setTop (mkF m 94 #[.val (.int p1), .val (.int p2), .val (.int p3), .val (.int p4), .val (.int p5), .val (.int p6), .val (.ref b1), .val (.ref b5), .val (.ref b13), .val (.ref b19), .val (.int z80s0), .val (.int (own_covers p1 p2 p3 p4 p5 p6)), .unset] [(.int (0 : Int32)), (.ref b1)]))
    have Vx31 := V4'25
    obtain ⟨cl31, Ar31, qk31, S31, M31, H31, G31⟩ := Vx31
    have hin31 : ¬ ((0 : Int32) < 0 ∨ cl31.slots.size ≤ ((0 : Int32)).toNatClampNeg) := inb_of S31 ⟨by decide, by decide⟩
    have hat31 : cl31.slots[((0 : Int32)).toNatClampNeg]? = some (.int p1) := H31.at hin31 rfl
    refine Gl.st (X30.iaload hx (j := (0 : Int32)) (v := (.int p1)) (by rw [e30]; exact Ar31.1) (State.isArrayOf_alike hZ.alike Ar31.2.1) Ar31.2.2 hin31 hat31 (g := (mkF m 94 #[.val (.int p1), .val (.int p2), .val (.int p3), .val (.int p4), .val (.int p5), .val (.int p6), .val (.ref b1), .val (.ref b5), .val (.ref b13), .val (.ref b19), .val (.int z80s0), .val (.int (own_covers p1 p2 p3 p4 p5 p6)), .unset] [(.int (0 : Int32)), (.ref b1)])) rfl rfl (hb hby at_94)) ?_
    show Gl _ _ _ _ _ _ _ (T30.setTop (mkF m 95 #[.val (.int p1), .val (.int p2), .val (.int p3), .val (.int p4), .val (.int p5), .val (.int p6), .val (.ref b1), .val (.ref b5), .val (.ref b13), .val (.ref b19), .val (.int z80s0), .val (.int (own_covers p1 p2 p3 p4 p5 p6)), .unset] [(.int p1)]))
    refine Gl.st (fun t k => XS.iloadN X30.here hx rfl (hb hby at_95) rfl  k) ?_
    show Gl _ _ _ _ _ _ _ (T30.setTop (mkF m 96 #[.val (.int p1), .val (.int p2), .val (.int p3), .val (.int p4), .val (.int p5), .val (.int p6), .val (.ref b1), .val (.ref b5), .val (.ref b13), .val (.ref b19), .val (.int z80s0), .val (.int (own_covers p1 p2 p3 p4 p5 p6)), .unset] [(.int p1), (.int p1)]))
    refine Gl.st (fun t k => XS.icmpNo X30.here hx rfl (hb hby at_96) rfl (teq (rfl : p1 = p1)).2 k) ?_
    show Gl _ _ _ _ _ _ _ (T30.setTop (mkF m 99 #[.val (.int p1), .val (.int p2), .val (.int p3), .val (.int p4), .val (.int p5), .val (.int p6), .val (.ref b1), .val (.ref b5), .val (.ref b13), .val (.ref b19), .val (.int z80s0), .val (.int (own_covers p1 p2 p3 p4 p5 p6)), .unset] []))
    refine Gl.st (fun t k => XS.aload X30.here hx rfl (hb hby at_99) rfl rfl k) ?_
    show Gl _ _ _ _ _ _ _ (T30.setTop (mkF m 101 #[.val (.int p1), .val (.int p2), .val (.int p3), .val (.int p4), .val (.int p5), .val (.int p6), .val (.ref b1), .val (.ref b5), .val (.ref b13), .val (.ref b19), .val (.int z80s0), .val (.int (own_covers p1 p2 p3 p4 p5 p6)), .unset] [(.ref b1)]))
    refine Gl.st (fun t k => XS.iconst X30.here hx rfl (hb hby at_101) k) ?_
    show Gl _ _ _ _ _ _ _ (T30.setTop (mkF m 102 #[.val (.int p1), .val (.int p2), .val (.int p3), .val (.int p4), .val (.int p5), .val (.int p6), .val (.ref b1), .val (.ref b5), .val (.ref b13), .val (.ref b19), .val (.int z80s0), .val (.int (own_covers p1 p2 p3 p4 p5 p6)), .unset] [(.int (1 : Int32)), (.ref b1)]))
    have Vx32 := V4'25
    obtain ⟨cl32, Ar32, qk32, S32, M32, H32, G32⟩ := Vx32
    have hin32 : ¬ ((1 : Int32) < 0 ∨ cl32.slots.size ≤ ((1 : Int32)).toNatClampNeg) := inb_of S32 ⟨by decide, by decide⟩
    have hat32 : cl32.slots[((1 : Int32)).toNatClampNeg]? = some (.int p2) := H32.at hin32 rfl
    refine Gl.st (X30.iaload hx (j := (1 : Int32)) (v := (.int p2)) (by rw [e30]; exact Ar32.1) (State.isArrayOf_alike hZ.alike Ar32.2.1) Ar32.2.2 hin32 hat32 (g := (mkF m 102 #[.val (.int p1), .val (.int p2), .val (.int p3), .val (.int p4), .val (.int p5), .val (.int p6), .val (.ref b1), .val (.ref b5), .val (.ref b13), .val (.ref b19), .val (.int z80s0), .val (.int (own_covers p1 p2 p3 p4 p5 p6)), .unset] [(.int (1 : Int32)), (.ref b1)])) rfl rfl (hb hby at_102)) ?_
    show Gl _ _ _ _ _ _ _ (T30.setTop (mkF m 103 #[.val (.int p1), .val (.int p2), .val (.int p3), .val (.int p4), .val (.int p5), .val (.int p6), .val (.ref b1), .val (.ref b5), .val (.ref b13), .val (.ref b19), .val (.int z80s0), .val (.int (own_covers p1 p2 p3 p4 p5 p6)), .unset] [(.int p2)]))
    refine Gl.st (fun t k => XS.iloadN X30.here hx rfl (hb hby at_103) rfl  k) ?_
    show Gl _ _ _ _ _ _ _ (T30.setTop (mkF m 104 #[.val (.int p1), .val (.int p2), .val (.int p3), .val (.int p4), .val (.int p5), .val (.int p6), .val (.ref b1), .val (.ref b5), .val (.ref b13), .val (.ref b19), .val (.int z80s0), .val (.int (own_covers p1 p2 p3 p4 p5 p6)), .unset] [(.int p2), (.int p2)]))
    refine Gl.st (fun t k => XS.icmpNo X30.here hx rfl (hb hby at_104) rfl (teq (rfl : p2 = p2)).2 k) ?_
    show Gl _ _ _ _ _ _ _ (T30.setTop (mkF m 107 #[.val (.int p1), .val (.int p2), .val (.int p3), .val (.int p4), .val (.int p5), .val (.int p6), .val (.ref b1), .val (.ref b5), .val (.ref b13), .val (.ref b19), .val (.int z80s0), .val (.int (own_covers p1 p2 p3 p4 p5 p6)), .unset] []))
    refine Gl.st (fun t k => XS.aload X30.here hx rfl (hb hby at_107) rfl rfl k) ?_
    show Gl _ _ _ _ _ _ _ (T30.setTop (mkF m 109 #[.val (.int p1), .val (.int p2), .val (.int p3), .val (.int p4), .val (.int p5), .val (.int p6), .val (.ref b1), .val (.ref b5), .val (.ref b13), .val (.ref b19), .val (.int z80s0), .val (.int (own_covers p1 p2 p3 p4 p5 p6)), .unset] [(.ref b1)]))
    refine Gl.st (fun t k => XS.iconst X30.here hx rfl (hb hby at_109) k) ?_
    show Gl _ _ _ _ _ _ _ (T30.setTop (mkF m 110 #[.val (.int p1), .val (.int p2), .val (.int p3), .val (.int p4), .val (.int p5), .val (.int p6), .val (.ref b1), .val (.ref b5), .val (.ref b13), .val (.ref b19), .val (.int z80s0), .val (.int (own_covers p1 p2 p3 p4 p5 p6)), .unset] [(.int (2 : Int32)), (.ref b1)]))
    have Vx33 := V4'25
    obtain ⟨cl33, Ar33, qk33, S33, M33, H33, G33⟩ := Vx33
    have hin33 : ¬ ((2 : Int32) < 0 ∨ cl33.slots.size ≤ ((2 : Int32)).toNatClampNeg) := inb_of S33 ⟨by decide, by decide⟩
    have hat33 : cl33.slots[((2 : Int32)).toNatClampNeg]? = some (.int p3) := H33.at hin33 rfl
    refine Gl.st (X30.iaload hx (j := (2 : Int32)) (v := (.int p3)) (by rw [e30]; exact Ar33.1) (State.isArrayOf_alike hZ.alike Ar33.2.1) Ar33.2.2 hin33 hat33 (g := (mkF m 110 #[.val (.int p1), .val (.int p2), .val (.int p3), .val (.int p4), .val (.int p5), .val (.int p6), .val (.ref b1), .val (.ref b5), .val (.ref b13), .val (.ref b19), .val (.int z80s0), .val (.int (own_covers p1 p2 p3 p4 p5 p6)), .unset] [(.int (2 : Int32)), (.ref b1)])) rfl rfl (hb hby at_110)) ?_
    show Gl _ _ _ _ _ _ _ (T30.setTop (mkF m 111 #[.val (.int p1), .val (.int p2), .val (.int p3), .val (.int p4), .val (.int p5), .val (.int p6), .val (.ref b1), .val (.ref b5), .val (.ref b13), .val (.ref b19), .val (.int z80s0), .val (.int (own_covers p1 p2 p3 p4 p5 p6)), .unset] [(.int p3)]))
    refine Gl.st (fun t k => XS.iloadN X30.here hx rfl (hb hby at_111) rfl  k) ?_
    show Gl _ _ _ _ _ _ _ (T30.setTop (mkF m 112 #[.val (.int p1), .val (.int p2), .val (.int p3), .val (.int p4), .val (.int p5), .val (.int p6), .val (.ref b1), .val (.ref b5), .val (.ref b13), .val (.ref b19), .val (.int z80s0), .val (.int (own_covers p1 p2 p3 p4 p5 p6)), .unset] [(.int p3), (.int p3)]))
    refine Gl.st (fun t k => XS.icmpNo X30.here hx rfl (hb hby at_112) rfl (teq (rfl : p3 = p3)).2 k) ?_
    show Gl _ _ _ _ _ _ _ (T30.setTop (mkF m 115 #[.val (.int p1), .val (.int p2), .val (.int p3), .val (.int p4), .val (.int p5), .val (.int p6), .val (.ref b1), .val (.ref b5), .val (.ref b13), .val (.ref b19), .val (.int z80s0), .val (.int (own_covers p1 p2 p3 p4 p5 p6)), .unset] []))
    refine Gl.st (fun t k => XS.aload X30.here hx rfl (hb hby at_115) rfl rfl k) ?_
    show Gl _ _ _ _ _ _ _ (T30.setTop (mkF m 117 #[.val (.int p1), .val (.int p2), .val (.int p3), .val (.int p4), .val (.int p5), .val (.int p6), .val (.ref b1), .val (.ref b5), .val (.ref b13), .val (.ref b19), .val (.int z80s0), .val (.int (own_covers p1 p2 p3 p4 p5 p6)), .unset] [(.ref b5)]))
    refine Gl.st (fun t k => XS.iconst X30.here hx rfl (hb hby at_117) k) ?_
    show Gl _ _ _ _ _ _ _ (T30.setTop (mkF m 118 #[.val (.int p1), .val (.int p2), .val (.int p3), .val (.int p4), .val (.int p5), .val (.int p6), .val (.ref b1), .val (.ref b5), .val (.ref b13), .val (.ref b19), .val (.int z80s0), .val (.int (own_covers p1 p2 p3 p4 p5 p6)), .unset] [(.int (0 : Int32)), (.ref b5)]))
    have Vx34 := V11'26
    obtain ⟨cl34, Ar34, qk34, S34, M34, H34, G34⟩ := Vx34
    have hin34 : ¬ ((0 : Int32) < 0 ∨ cl34.slots.size ≤ ((0 : Int32)).toNatClampNeg) := inb_of S34 ⟨by decide, by decide⟩
    have hat34 : cl34.slots[((0 : Int32)).toNatClampNeg]? = some (.int p4) := H34.at hin34 rfl
    refine Gl.st (X30.iaload hx (j := (0 : Int32)) (v := (.int p4)) (by rw [e30]; exact Ar34.1) (State.isArrayOf_alike hZ.alike Ar34.2.1) Ar34.2.2 hin34 hat34 (g := (mkF m 118 #[.val (.int p1), .val (.int p2), .val (.int p3), .val (.int p4), .val (.int p5), .val (.int p6), .val (.ref b1), .val (.ref b5), .val (.ref b13), .val (.ref b19), .val (.int z80s0), .val (.int (own_covers p1 p2 p3 p4 p5 p6)), .unset] [(.int (0 : Int32)), (.ref b5)])) rfl rfl (hb hby at_118)) ?_
    show Gl _ _ _ _ _ _ _ (T30.setTop (mkF m 119 #[.val (.int p1), .val (.int p2), .val (.int p3), .val (.int p4), .val (.int p5), .val (.int p6), .val (.ref b1), .val (.ref b5), .val (.ref b13), .val (.ref b19), .val (.int z80s0), .val (.int (own_covers p1 p2 p3 p4 p5 p6)), .unset] [(.int p4)]))
    refine Gl.st (fun t k => XS.iloadN X30.here hx rfl (hb hby at_119) rfl  k) ?_
    show Gl _ _ _ _ _ _ _ (T30.setTop (mkF m 120 #[.val (.int p1), .val (.int p2), .val (.int p3), .val (.int p4), .val (.int p5), .val (.int p6), .val (.ref b1), .val (.ref b5), .val (.ref b13), .val (.ref b19), .val (.int z80s0), .val (.int (own_covers p1 p2 p3 p4 p5 p6)), .unset] [(.int p4), (.int p4)]))
    refine Gl.st (fun t k => XS.icmpNo X30.here hx rfl (hb hby at_120) rfl (teq (rfl : p4 = p4)).2 k) ?_
    show Gl _ _ _ _ _ _ _ (T30.setTop (mkF m 123 #[.val (.int p1), .val (.int p2), .val (.int p3), .val (.int p4), .val (.int p5), .val (.int p6), .val (.ref b1), .val (.ref b5), .val (.ref b13), .val (.ref b19), .val (.int z80s0), .val (.int (own_covers p1 p2 p3 p4 p5 p6)), .unset] []))
    refine Gl.st (fun t k => XS.aload X30.here hx rfl (hb hby at_123) rfl rfl k) ?_
    show Gl _ _ _ _ _ _ _ (T30.setTop (mkF m 125 #[.val (.int p1), .val (.int p2), .val (.int p3), .val (.int p4), .val (.int p5), .val (.int p6), .val (.ref b1), .val (.ref b5), .val (.ref b13), .val (.ref b19), .val (.int z80s0), .val (.int (own_covers p1 p2 p3 p4 p5 p6)), .unset] [(.ref b5)]))
    refine Gl.st (fun t k => XS.iconst X30.here hx rfl (hb hby at_125) k) ?_
    show Gl _ _ _ _ _ _ _ (T30.setTop (mkF m 126 #[.val (.int p1), .val (.int p2), .val (.int p3), .val (.int p4), .val (.int p5), .val (.int p6), .val (.ref b1), .val (.ref b5), .val (.ref b13), .val (.ref b19), .val (.int z80s0), .val (.int (own_covers p1 p2 p3 p4 p5 p6)), .unset] [(.int (1 : Int32)), (.ref b5)]))
    have Vx35 := V11'26
    obtain ⟨cl35, Ar35, qk35, S35, M35, H35, G35⟩ := Vx35
    have hin35 : ¬ ((1 : Int32) < 0 ∨ cl35.slots.size ≤ ((1 : Int32)).toNatClampNeg) := inb_of S35 ⟨by decide, by decide⟩
    have hat35 : cl35.slots[((1 : Int32)).toNatClampNeg]? = some (.int p5) := H35.at hin35 rfl
    refine Gl.st (X30.iaload hx (j := (1 : Int32)) (v := (.int p5)) (by rw [e30]; exact Ar35.1) (State.isArrayOf_alike hZ.alike Ar35.2.1) Ar35.2.2 hin35 hat35 (g := (mkF m 126 #[.val (.int p1), .val (.int p2), .val (.int p3), .val (.int p4), .val (.int p5), .val (.int p6), .val (.ref b1), .val (.ref b5), .val (.ref b13), .val (.ref b19), .val (.int z80s0), .val (.int (own_covers p1 p2 p3 p4 p5 p6)), .unset] [(.int (1 : Int32)), (.ref b5)])) rfl rfl (hb hby at_126)) ?_
    show Gl _ _ _ _ _ _ _ (T30.setTop (mkF m 127 #[.val (.int p1), .val (.int p2), .val (.int p3), .val (.int p4), .val (.int p5), .val (.int p6), .val (.ref b1), .val (.ref b5), .val (.ref b13), .val (.ref b19), .val (.int z80s0), .val (.int (own_covers p1 p2 p3 p4 p5 p6)), .unset] [(.int p5)]))
    refine Gl.st (fun t k => XS.iload X30.here hx rfl (hb hby at_127) rfl  k) ?_
    show Gl _ _ _ _ _ _ _ (T30.setTop (mkF m 129 #[.val (.int p1), .val (.int p2), .val (.int p3), .val (.int p4), .val (.int p5), .val (.int p6), .val (.ref b1), .val (.ref b5), .val (.ref b13), .val (.ref b19), .val (.int z80s0), .val (.int (own_covers p1 p2 p3 p4 p5 p6)), .unset] [(.int p5), (.int p5)]))
    refine Gl.st (fun t k => XS.icmpNo X30.here hx rfl (hb hby at_129) rfl (teq (rfl : p5 = p5)).2 k) ?_
    show Gl _ _ _ _ _ _ _ (T30.setTop (mkF m 132 #[.val (.int p1), .val (.int p2), .val (.int p3), .val (.int p4), .val (.int p5), .val (.int p6), .val (.ref b1), .val (.ref b5), .val (.ref b13), .val (.ref b19), .val (.int z80s0), .val (.int (own_covers p1 p2 p3 p4 p5 p6)), .unset] []))
    refine Gl.st (fun t k => XS.aload X30.here hx rfl (hb hby at_132) rfl rfl k) ?_
    show Gl _ _ _ _ _ _ _ (T30.setTop (mkF m 134 #[.val (.int p1), .val (.int p2), .val (.int p3), .val (.int p4), .val (.int p5), .val (.int p6), .val (.ref b1), .val (.ref b5), .val (.ref b13), .val (.ref b19), .val (.int z80s0), .val (.int (own_covers p1 p2 p3 p4 p5 p6)), .unset] [(.ref b5)]))
    refine Gl.st (fun t k => XS.iconst X30.here hx rfl (hb hby at_134) k) ?_
    show Gl _ _ _ _ _ _ _ (T30.setTop (mkF m 135 #[.val (.int p1), .val (.int p2), .val (.int p3), .val (.int p4), .val (.int p5), .val (.int p6), .val (.ref b1), .val (.ref b5), .val (.ref b13), .val (.ref b19), .val (.int z80s0), .val (.int (own_covers p1 p2 p3 p4 p5 p6)), .unset] [(.int (2 : Int32)), (.ref b5)]))
    have Vx36 := V11'26
    obtain ⟨cl36, Ar36, qk36, S36, M36, H36, G36⟩ := Vx36
    have hin36 : ¬ ((2 : Int32) < 0 ∨ cl36.slots.size ≤ ((2 : Int32)).toNatClampNeg) := inb_of S36 ⟨by decide, by decide⟩
    have hat36 : cl36.slots[((2 : Int32)).toNatClampNeg]? = some (.int p6) := H36.at hin36 rfl
    refine Gl.st (X30.iaload hx (j := (2 : Int32)) (v := (.int p6)) (by rw [e30]; exact Ar36.1) (State.isArrayOf_alike hZ.alike Ar36.2.1) Ar36.2.2 hin36 hat36 (g := (mkF m 135 #[.val (.int p1), .val (.int p2), .val (.int p3), .val (.int p4), .val (.int p5), .val (.int p6), .val (.ref b1), .val (.ref b5), .val (.ref b13), .val (.ref b19), .val (.int z80s0), .val (.int (own_covers p1 p2 p3 p4 p5 p6)), .unset] [(.int (2 : Int32)), (.ref b5)])) rfl rfl (hb hby at_135)) ?_
    show Gl _ _ _ _ _ _ _ (T30.setTop (mkF m 136 #[.val (.int p1), .val (.int p2), .val (.int p3), .val (.int p4), .val (.int p5), .val (.int p6), .val (.ref b1), .val (.ref b5), .val (.ref b13), .val (.ref b19), .val (.int z80s0), .val (.int (own_covers p1 p2 p3 p4 p5 p6)), .unset] [(.int p6)]))
    refine Gl.st (fun t k => XS.iload X30.here hx rfl (hb hby at_136) rfl  k) ?_
    show Gl _ _ _ _ _ _ _ (T30.setTop (mkF m 138 #[.val (.int p1), .val (.int p2), .val (.int p3), .val (.int p4), .val (.int p5), .val (.int p6), .val (.ref b1), .val (.ref b5), .val (.ref b13), .val (.ref b19), .val (.int z80s0), .val (.int (own_covers p1 p2 p3 p4 p5 p6)), .unset] [(.int p6), (.int p6)]))
    refine Gl.st (fun t k => XS.icmpNo X30.here hx rfl (hb hby at_138) rfl (teq (rfl : p6 = p6)).2 k) ?_
    show Gl _ _ _ _ _ _ _ (T30.setTop (mkF m 141 #[.val (.int p1), .val (.int p2), .val (.int p3), .val (.int p4), .val (.int p5), .val (.int p6), .val (.ref b1), .val (.ref b5), .val (.ref b13), .val (.ref b19), .val (.int z80s0), .val (.int (own_covers p1 p2 p3 p4 p5 p6)), .unset] []))
    refine Gl.st (fun t k => XS.iconst X30.here hx rfl (hb hby at_141) k) ?_
    show Gl _ _ _ _ _ _ _ (T30.setTop (mkF m 142 #[.val (.int p1), .val (.int p2), .val (.int p3), .val (.int p4), .val (.int p5), .val (.int p6), .val (.ref b1), .val (.ref b5), .val (.ref b13), .val (.ref b19), .val (.int z80s0), .val (.int (own_covers p1 p2 p3 p4 p5 p6)), .unset] [(.int (1 : Int32))]))
    refine Gl.st (fun t k => XS.goto X30.here hx rfl (pc0 := 142) (pc' := 146) rfl (hb hby at_142) (by decide) (by decide) k) ?_
    show Gl _ _ _ _ _ _ _ (T30.setTop (mkF m 146 #[.val (.int p1), .val (.int p2), .val (.int p3), .val (.int p4), .val (.int p5), .val (.int p6), .val (.ref b1), .val (.ref b5), .val (.ref b13), .val (.ref b19), .val (.int z80s0), .val (.int (own_covers p1 p2 p3 p4 p5 p6)), .unset] [(.int (1 : Int32))]))
    refine Gl.st (fun t k => XS.istore X30.here hx rfl (hb hby at_146) rfl (l' := #[.val (.int p1), .val (.int p2), .val (.int p3), .val (.int p4), .val (.int p5), .val (.int p6), .val (.ref b1), .val (.ref b5), .val (.ref b13), .val (.ref b19), .val (.int z80s0), .val (.int (own_covers p1 p2 p3 p4 p5 p6)), .val (.int (1 : Int32))]) rfl k) ?_
    show Gl _ _ _ _ _ _ _ (T30.setTop (mkF m 148 #[.val (.int p1), .val (.int p2), .val (.int p3), .val (.int p4), .val (.int p5), .val (.int p6), .val (.ref b1), .val (.ref b5), .val (.ref b13), .val (.ref b19), .val (.int z80s0), .val (.int (own_covers p1 p2 p3 p4 p5 p6)), .val (.int (1 : Int32))] []))
    refine Gl.st (fun t k => XS.iload X30.here hx rfl (hb hby at_148) rfl  k) ?_
    show Gl _ _ _ _ _ _ _ (T30.setTop (mkF m 150 #[.val (.int p1), .val (.int p2), .val (.int p3), .val (.int p4), .val (.int p5), .val (.int p6), .val (.ref b1), .val (.ref b5), .val (.ref b13), .val (.ref b19), .val (.int z80s0), .val (.int (own_covers p1 p2 p3 p4 p5 p6)), .val (.int (1 : Int32))] [(.int (own_covers p1 p2 p3 p4 p5 p6))]))
    refine Gl.st (fun t k => XS.iload X30.here hx rfl (hb hby at_150) rfl  k) ?_
    show Gl _ _ _ _ _ _ _ (T30.setTop (mkF m 152 #[.val (.int p1), .val (.int p2), .val (.int p3), .val (.int p4), .val (.int p5), .val (.int p6), .val (.ref b1), .val (.ref b5), .val (.ref b13), .val (.ref b19), .val (.int z80s0), .val (.int (own_covers p1 p2 p3 p4 p5 p6)), .val (.int (1 : Int32))] [(.int z80s0), (.int (own_covers p1 p2 p3 p4 p5 p6))]))
    have hc152_37 : (own_covers p1 p2 p3 p4 p5 p6) = z80s0 := by rw [hz80s0]; rfl
    refine Gl.st (fun t k => XS.icmpNo X30.here hx rfl (hb hby at_152) rfl (teq hc152_37).2 k) ?_
    show Gl _ _ _ _ _ _ _ (T30.setTop (mkF m 155 #[.val (.int p1), .val (.int p2), .val (.int p3), .val (.int p4), .val (.int p5), .val (.int p6), .val (.ref b1), .val (.ref b5), .val (.ref b13), .val (.ref b19), .val (.int z80s0), .val (.int (own_covers p1 p2 p3 p4 p5 p6)), .val (.int (1 : Int32))] []))
    refine Gl.st (fun t k => XS.iload X30.here hx rfl (hb hby at_155) rfl  k) ?_
    show Gl _ _ _ _ _ _ _ (T30.setTop (mkF m 157 #[.val (.int p1), .val (.int p2), .val (.int p3), .val (.int p4), .val (.int p5), .val (.int p6), .val (.ref b1), .val (.ref b5), .val (.ref b13), .val (.ref b19), .val (.int z80s0), .val (.int (own_covers p1 p2 p3 p4 p5 p6)), .val (.int (1 : Int32))] [(.int (1 : Int32))]))
    refine Gl.st (fun t k => XS.ifNo X30.here hx rfl (hb hby at_157) rfl ((if0 _ _).trans (feq (by decide : ¬ ((1 : Int32) = (0 : Int32)))).1) k) ?_
    show Gl _ _ _ _ _ _ _ (T30.setTop (mkF m 160 #[.val (.int p1), .val (.int p2), .val (.int p3), .val (.int p4), .val (.int p5), .val (.int p6), .val (.ref b1), .val (.ref b5), .val (.ref b13), .val (.ref b19), .val (.int z80s0), .val (.int (own_covers p1 p2 p3 p4 p5 p6)), .val (.int (1 : Int32))] []))
    refine Gl.st (fun t k => XS.iconst X30.here hx rfl (hb hby at_160) k) ?_
    show Gl _ _ _ _ _ _ _ (T30.setTop (mkF m 161 #[.val (.int p1), .val (.int p2), .val (.int p3), .val (.int p4), .val (.int p5), .val (.int p6), .val (.ref b1), .val (.ref b5), .val (.ref b13), .val (.ref b19), .val (.int z80s0), .val (.int (own_covers p1 p2 p3 p4 p5 p6)), .val (.int (1 : Int32))] [(.int (1 : Int32))]))
    refine Gl.st (fun t k => XS.goto X30.here hx rfl (pc0 := 161) (pc' := 165) rfl (hb hby at_161) (by decide) (by decide) k) ?_
    show Gl _ _ _ _ _ _ _ (T30.setTop (mkF m 165 #[.val (.int p1), .val (.int p2), .val (.int p3), .val (.int p4), .val (.int p5), .val (.int p6), .val (.ref b1), .val (.ref b5), .val (.ref b13), .val (.ref b19), .val (.int z80s0), .val (.int (own_covers p1 p2 p3 p4 p5 p6)), .val (.int (1 : Int32))] [(.int (1 : Int32))]))
    exact Gl.retN X30 hx hlk Bd.returns (by simp) (hb hby at_165) (⟨rfl, N30⟩) (by decide) (by decide)
  by_cases hc60 : p1 < p4
  · refine Gl.st (fun t k => XS.icmpYes X24.here hx rfl (pc0 := 60) (pc' := 79) rfl (hb hby at_60) rfl (tlt hc60).1 (by decide) (by decide) k) ?_
    show Gl _ _ _ _ _ _ _ (T24.setTop (mkF m 79 #[.val (.int p1), .val (.int p2), .val (.int p3), .val (.int p4), .val (.int p5), .val (.int p6), .val (.ref b1), .val (.ref b5), .val (.ref b13), .val (.ref b19), .unset, .unset, .unset] []))
    refine Gl.st (fun t k => XS.iconst X24.here hx rfl (hb hby at_79) k) ?_
    show Gl _ _ _ _ _ _ _ (T24.setTop (mkF m 80 #[.val (.int p1), .val (.int p2), .val (.int p3), .val (.int p4), .val (.int p5), .val (.int p6), .val (.ref b1), .val (.ref b5), .val (.ref b13), .val (.ref b19), .unset, .unset, .unset] [(.int (0 : Int32))]))
    exact J29 _ _ X24 rfl N24 _ (by simp only [if_pos hc60])
  · refine Gl.st (fun t k => XS.icmpNo X24.here hx rfl (hb hby at_60) rfl (flt hc60).1 k) ?_
    show Gl _ _ _ _ _ _ _ (T24.setTop (mkF m 63 #[.val (.int p1), .val (.int p2), .val (.int p3), .val (.int p4), .val (.int p5), .val (.int p6), .val (.ref b1), .val (.ref b5), .val (.ref b13), .val (.ref b19), .unset, .unset, .unset] []))
    refine Gl.st (fun t k => XS.iloadN X24.here hx rfl (hb hby at_63) rfl  k) ?_
    show Gl _ _ _ _ _ _ _ (T24.setTop (mkF m 64 #[.val (.int p1), .val (.int p2), .val (.int p3), .val (.int p4), .val (.int p5), .val (.int p6), .val (.ref b1), .val (.ref b5), .val (.ref b13), .val (.ref b19), .unset, .unset, .unset] [(.int p2)]))
    refine Gl.st (fun t k => XS.iload X24.here hx rfl (hb hby at_64) rfl  k) ?_
    show Gl _ _ _ _ _ _ _ (T24.setTop (mkF m 66 #[.val (.int p1), .val (.int p2), .val (.int p3), .val (.int p4), .val (.int p5), .val (.int p6), .val (.ref b1), .val (.ref b5), .val (.ref b13), .val (.ref b19), .unset, .unset, .unset] [(.int p5), (.int p2)]))
    by_cases hc66 : p2 < p5
    · refine Gl.st (fun t k => XS.icmpYes X24.here hx rfl (pc0 := 66) (pc' := 79) rfl (hb hby at_66) rfl (tlt hc66).1 (by decide) (by decide) k) ?_
      show Gl _ _ _ _ _ _ _ (T24.setTop (mkF m 79 #[.val (.int p1), .val (.int p2), .val (.int p3), .val (.int p4), .val (.int p5), .val (.int p6), .val (.ref b1), .val (.ref b5), .val (.ref b13), .val (.ref b19), .unset, .unset, .unset] []))
      refine Gl.st (fun t k => XS.iconst X24.here hx rfl (hb hby at_79) k) ?_
      show Gl _ _ _ _ _ _ _ (T24.setTop (mkF m 80 #[.val (.int p1), .val (.int p2), .val (.int p3), .val (.int p4), .val (.int p5), .val (.int p6), .val (.ref b1), .val (.ref b5), .val (.ref b13), .val (.ref b19), .unset, .unset, .unset] [(.int (0 : Int32))]))
      exact J29 _ _ X24 rfl N24 _ (by simp only [if_neg hc60, if_pos hc66])
    · refine Gl.st (fun t k => XS.icmpNo X24.here hx rfl (hb hby at_66) rfl (flt hc66).1 k) ?_
      show Gl _ _ _ _ _ _ _ (T24.setTop (mkF m 69 #[.val (.int p1), .val (.int p2), .val (.int p3), .val (.int p4), .val (.int p5), .val (.int p6), .val (.ref b1), .val (.ref b5), .val (.ref b13), .val (.ref b19), .unset, .unset, .unset] []))
      refine Gl.st (fun t k => XS.iloadN X24.here hx rfl (hb hby at_69) rfl  k) ?_
      show Gl _ _ _ _ _ _ _ (T24.setTop (mkF m 70 #[.val (.int p1), .val (.int p2), .val (.int p3), .val (.int p4), .val (.int p5), .val (.int p6), .val (.ref b1), .val (.ref b5), .val (.ref b13), .val (.ref b19), .unset, .unset, .unset] [(.int p3)]))
      refine Gl.st (fun t k => XS.iload X24.here hx rfl (hb hby at_70) rfl  k) ?_
      show Gl _ _ _ _ _ _ _ (T24.setTop (mkF m 72 #[.val (.int p1), .val (.int p2), .val (.int p3), .val (.int p4), .val (.int p5), .val (.int p6), .val (.ref b1), .val (.ref b5), .val (.ref b13), .val (.ref b19), .unset, .unset, .unset] [(.int p6), (.int p3)]))
      by_cases hc72 : p3 < p6
      · refine Gl.st (fun t k => XS.icmpYes X24.here hx rfl (pc0 := 72) (pc' := 79) rfl (hb hby at_72) rfl (tlt hc72).1 (by decide) (by decide) k) ?_
        show Gl _ _ _ _ _ _ _ (T24.setTop (mkF m 79 #[.val (.int p1), .val (.int p2), .val (.int p3), .val (.int p4), .val (.int p5), .val (.int p6), .val (.ref b1), .val (.ref b5), .val (.ref b13), .val (.ref b19), .unset, .unset, .unset] []))
        refine Gl.st (fun t k => XS.iconst X24.here hx rfl (hb hby at_79) k) ?_
        show Gl _ _ _ _ _ _ _ (T24.setTop (mkF m 80 #[.val (.int p1), .val (.int p2), .val (.int p3), .val (.int p4), .val (.int p5), .val (.int p6), .val (.ref b1), .val (.ref b5), .val (.ref b13), .val (.ref b19), .unset, .unset, .unset] [(.int (0 : Int32))]))
        exact J29 _ _ X24 rfl N24 _ (by simp only [if_neg hc60, if_neg hc66, if_pos hc72])
      · refine Gl.st (fun t k => XS.icmpNo X24.here hx rfl (hb hby at_72) rfl (flt hc72).1 k) ?_
        show Gl _ _ _ _ _ _ _ (T24.setTop (mkF m 75 #[.val (.int p1), .val (.int p2), .val (.int p3), .val (.int p4), .val (.int p5), .val (.int p6), .val (.ref b1), .val (.ref b5), .val (.ref b13), .val (.ref b19), .unset, .unset, .unset] []))
        refine Gl.st (fun t k => XS.iconst X24.here hx rfl (hb hby at_75) k) ?_
        show Gl _ _ _ _ _ _ _ (T24.setTop (mkF m 76 #[.val (.int p1), .val (.int p2), .val (.int p3), .val (.int p4), .val (.int p5), .val (.int p6), .val (.ref b1), .val (.ref b5), .val (.ref b13), .val (.ref b19), .unset, .unset, .unset] [(.int (1 : Int32))]))
        refine Gl.st (fun t k => XS.goto X24.here hx rfl (pc0 := 76) (pc' := 80) rfl (hb hby at_76) (by decide) (by decide) k) ?_
        show Gl _ _ _ _ _ _ _ (T24.setTop (mkF m 80 #[.val (.int p1), .val (.int p2), .val (.int p3), .val (.int p4), .val (.int p5), .val (.int p6), .val (.ref b1), .val (.ref b5), .val (.ref b13), .val (.ref b19), .unset, .unset, .unset] [(.int (1 : Int32))]))
        exact J29 _ _ X24 rfl N24 _ (by simp only [if_neg hc60, if_neg hc66, if_neg hc72])
set_option maxRecDepth 65536 in
set_option maxHeartbeats 40000000 in
theorem comes_1 {Post : Tables → Env → Array Value → State → Outcome → State → Prop} (hpost : ∀ tb e args s v u, (limb_1_1.after args s (.returned v) u = true ∧ limb_1_2.after args s (.returned v) u = true ∧ True) → FrameEnd s (.returned v) u (Jvm.fieldLocs frame_1_writes args s ++ Jvm.arrayLocs frame_1_arrays args s ++ Jvm.staticLocs frame_1_statics s) 16 128 → Post tb e args s (.returned v) u) :
    ArmFor flags0 classFile x code maxLocals ret World_1 tables_1 room_1 Calls_1 rest_1 Pre_1 Post := by
  intro l hfl _ _ p e ha hc hk s m args below hf hA hF happ hP
  obtain ⟨hcalls, hrest, hpre⟩ := hP
  obtain ⟨-, -, -, hnamed, -, -, -, hat⟩ := (Spec.applies_iff hf).mp happ
  obtain ⟨hg, hn⟩ := and_e (Cond.before_iff.mp (show (Jvm.Cond.and given_1 narrow_1).before args s = true from hpre))
  obtain ⟨hcnt, hr0⟩ := and_e hg
  obtain ⟨ha0, hr1⟩ := and_e hr0
  obtain ⟨ha1, hr2⟩ := and_e hr1
  obtain ⟨ha2, hr3⟩ := and_e hr2
  obtain ⟨ha3, hr4⟩ := and_e hr3
  obtain ⟨ha4, hr5⟩ := and_e hr4
  have ha5 := hr5
  obtain ⟨w0, w1, w2, w3, w4, w5, rfl⟩ : ∃ w0 w1 w2 w3 w4 w5 : Value, args = #[w0, w1, w2, w3, w4, w5] := by
    have hs : args.size = 6 := by simpa [Cond.value, given_1] using hcnt
    obtain ⟨L⟩ := args
    match L, hs with
    | [w0, w1, w2, w3, w4, w5], _ => exact ⟨w0, w1, w2, w3, w4, w5, rfl⟩
  have hw := fun d (hd : d ∈ tables_1) => atoms_spec (ws := Jvm.Cond.code x code maxLocals ret :: tables_1) hat d (List.mem_cons_of_mem _ hd)
  obtain ⟨i0, ei0⟩ := is_v ha0
  obtain rfl : w0 = (.int i0) := Option.some.inj ei0
  obtain ⟨i1, ei1⟩ := is_v ha1
  obtain rfl : w1 = (.int i1) := Option.some.inj ei1
  obtain ⟨i2, ei2⟩ := is_v ha2
  obtain rfl : w2 = (.int i2) := Option.some.inj ei2
  obtain ⟨i3, ei3⟩ := is_v ha3
  obtain rfl : w3 = (.int i3) := Option.some.inj ei3
  obtain ⟨i4, ei4⟩ := is_v ha4
  obtain rfl : w4 = (.int i4) := Option.some.inj ei4
  obtain ⟨i5, ei5⟩ := is_v ha5
  obtain rfl : w5 = (.int i5) := Option.some.inj ei5
  obtain ⟨n, o, h1, h2, h3, _, L, rfl, ⟨rfl, N⟩, hq⟩ := rm0 l s _ hw tables_1 i0 i1 i2 i3 i4 i5 s.heap s.heap.size (Nat.le_refl _) p e ha hc hk s m _ below hf ((Spec.applies_iff_loose hf).mp happ).1 ⟨rfl, State.Warmed39.refl s, rfl⟩ trivial
  refine ⟨n, _, h1, h2, h3, hpost _ _ _ _ _ _ ⟨Cond.after_iff.mpr rfl, Cond.after_iff.mpr (eq_i res_at (Term.int_eval (1)) rfl), trivial⟩ ⟨hq.1, hq.2.1, (hq.2.2.sift fun y hy => Or.inr (N y hy)).mono (by decide) (by decide)⟩⟩
theorem main_1_1 : Claimed_1_1 := comes_1 fun _ _ _ _ _ _ h hF => ⟨h.1, hF⟩
theorem main_1_2 : Claimed_1_2 := comes_1 fun _ _ _ _ _ _ h hF => ⟨h.2.1, hF⟩
end Jvm.Pilot.@@N@@
namespace Jvm.Pilot.@@N@@
open Jvm Jvm.ClassFile Sem Op Lib Jvm.Free Jvm.Stand Jvm.Pilot.@@N@@.Jvm.D
/-! MADE BY PROGRAM (witnessworld.py) out of the Statement's table words and the real class files: 9 classes; the members and pool entries that the words name. The judged class is class 1, her method 1. -/
namespace start1
open Jvm.ClassFile
def u (s : String) : CpInfo := .utf8 (stringToUtf16 s)
/-- a pool by its gaps: so many unusable entries, then the entry; so many at the end -/
def gap : Nat → List CpInfo → List CpInfo
  | 0, r => r
  | n + 1, r => .unusable :: gap n r
def poolList (es : List (Nat × CpInfo)) (last : Nat) : List CpInfo := es.foldr (fun e r => gap e.1 (e.2 :: r)) (gap last [])
def pool (es : List (Nat × CpInfo)) (last : Nat) : Array CpInfo := ⟨poolList es last⟩
def fileOf (pool : Array CpInfo) (this : Nat) (attrs : Array Attribute := #[]) (ms : Array MethodInfo := #[]) (fl : Nat := 33) (sup : Nat := 0) (ifs : Array Nat := #[]) (fds : Array FieldInfo := #[]) : ClassFile where
  minorVersion := 0
  majorVersion := 65
  constantPool := pool
  accessFlags := fl
  thisClass := this
  superClass := sup
  interfaces := ifs
  fields := fds
  methods := ms
  attributes := attrs
def plain (name : String) (sup : Option ClassId) : Class where
  name := name
  kind := .ordinary
  loader := none
  accessFlags := 33
  super := sup
  interfaces := #[]
  cf := none
  fields := #[]
  methods := #[]
  instanceTypes := #[]
  staticTypes := #[]
  resolved := #[]
  callSites := []
  init := .initialized
  statics := none
  mirror := none

def pool0 : Array CpInfo := pool [(5, u "<init>"), (0, u "()V"), (1, .class_ 10), (1, u "java/lang/Object")] 113

def k0c0 : Code := { maxStack := 0, maxLocals := 1, code := object_method_1_code, exceptionTable := #[], attributes := #[] }
def k0m0 : Method := { name := "<init>", desc := "()V", sig := { parameters := [], returnType := none }, accessFlags := 1, code := some k0c0 }
/-- java/lang/Object -/
def k0 : Class := { plain "java/lang/Object" none with
  accessFlags := 33
  interfaces := #[]
  cf := some (fileOf pool0 8 #[] #[{ accessFlags := 1, nameIndex := 5, descriptorIndex := 6, attributes := #[] }] 33 0 #[] #[])
  fields := #[]
  methods := #[k0m0]
  instanceTypes := #[]
  staticTypes := #[]
  resolved := Array.replicate 124 none
  statics := none }

def pool1 : Array CpInfo := pool [(2, .class_ 4), (1, u "java/lang/Object"), (0, u "<init>"), (0, u "()V"), (0, .class_ 8), (0, u "com/example/enact/enact/engine/Marking"), (0, .methodref 7 10), (0, .nameAndType 5 11), (0, u "([I)V"), (0, .methodref 7 13), (0, .nameAndType 14 15), (0, u "covers"), (0, u "(Lcom/example/enact/enact/engine/Marking;)Z"), (0, .class_ 17), (0, u "com/example/enact/enact/engine/MarkingCoversPinLaw"), (2, u "law"), (0, u "(IIIIII)Z")] 5

def k1m0 : Method := { name := "<init>", desc := "()V", sig := { parameters := [], returnType := none }, accessFlags := 1, code := none }
def k1c1 : Code := { maxStack := 4, maxLocals := 13, code := code, exceptionTable := #[], attributes := #[] }
def k1m1 : Method := { name := "law", desc := "(IIIIII)Z", sig := { parameters := [.int, .int, .int, .int, .int, .int], returnType := some .boolean }, accessFlags := 9, code := some k1c1 }
/-- com/example/enact/enact/engine/MarkingCoversPinLaw -/
def k1 : Class := { plain "com/example/enact/enact/engine/MarkingCoversPinLaw" (some 0) with
  accessFlags := 49
  interfaces := #[]
  cf := some (fileOf pool1 16 #[] #[{ accessFlags := 1, nameIndex := 5, descriptorIndex := 6, attributes := #[] }, { accessFlags := 9, nameIndex := 20, descriptorIndex := 21, attributes := #[] }] 49 2 #[] #[])
  fields := #[]
  methods := #[k1m0, k1m1]
  instanceTypes := #[]
  staticTypes := #[]
  resolved := Array.replicate 27 none
  statics := none }

def pool2 : Array CpInfo := pool [(3, .methodref 4 5), (0, .class_ 6), (0, .nameAndType 7 8), (0, u "java/lang/Object"), (0, u "<init>"), (0, u "()V"), (0, .fieldref 10 11), (0, .class_ 12), (0, .nameAndType 13 14), (0, u "com/example/enact/enact/engine/Marking"), (0, u "tokens"), (0, u "[I"), (88, u "([I)V"), (20, u "hash"), (0, u "I"), (4, u "ANY_NUMBER"), (18, u "covers"), (0, u "(Lcom/example/enact/enact/engine/Marking;)Z")] 13

def k2c0 : Code := { maxStack := 2, maxLocals := 2, code := prog_27_method_1_code, exceptionTable := #[], attributes := #[] }
def k2m0 : Method := { name := "<init>", desc := "([I)V", sig := { parameters := [(.array .int)], returnType := none }, accessFlags := 0, code := some k2c0 }
def k2c1 : Code := { maxStack := 3, maxLocals := 4, code := prog_27_method_12_code, exceptionTable := #[], attributes := #[] }
def k2m1 : Method := { name := "covers", desc := "(Lcom/example/enact/enact/engine/Marking;)Z", sig := { parameters := [(.object "com/example/enact/enact/engine/Marking")], returnType := some .boolean }, accessFlags := 0, code := some k2c1 }
/-- com/example/enact/enact/engine/Marking -/
def k2 : Class := { plain "com/example/enact/enact/engine/Marking" (some 0) with
  accessFlags := 48
  interfaces := #[]
  cf := some (fileOf pool2 10 #[] #[{ accessFlags := 0, nameIndex := 7, descriptorIndex := 103, attributes := #[] }, { accessFlags := 0, nameIndex := 149, descriptorIndex := 150, attributes := #[] }] 48 4 #[] #[{ accessFlags := 24, nameIndex := 130, descriptorIndex := 125, attributes := #[] }, { accessFlags := 18, nameIndex := 13, descriptorIndex := 14, attributes := #[] }, { accessFlags := 2, nameIndex := 124, descriptorIndex := 125, attributes := #[] }])
  fields := #[{ name := "ANY_NUMBER", type := .int, accessFlags := 24, slot := 0, constantValue := 0 }, { name := "tokens", type := (.array .int), accessFlags := 18, slot := 0, constantValue := 0 }, { name := "hash", type := .int, accessFlags := 2, slot := 1, constantValue := 0 }]
  methods := #[k2m0, k2m1]
  instanceTypes := #[(.array .int), .int]
  staticTypes := #[.int]
  resolved := Array.replicate 164 none
  statics := none }

def pool3 : Array CpInfo := pool [(1, u "java/lang/Cloneable"), (0, .class_ 1), (0, u "java/lang/Object"), (0, .class_ 3)] 3

/-- java/lang/Cloneable -/
def k3 : Class := { plain "java/lang/Cloneable" (some 0) with
  accessFlags := 1537
  interfaces := #[]
  cf := some (fileOf pool3 2 #[] #[] 1537 4 #[] #[])
  fields := #[]
  methods := #[]
  instanceTypes := #[]
  staticTypes := #[]
  resolved := Array.replicate 8 none
  statics := none }

def pool4 : Array CpInfo := pool [(1, u "java/io/Serializable"), (0, .class_ 1), (0, u "java/lang/Object"), (0, .class_ 3)] 3

/-- java/io/Serializable -/
def k4 : Class := { plain "java/io/Serializable" (some 0) with
  accessFlags := 1537
  interfaces := #[]
  cf := some (fileOf pool4 2 #[] #[] 1537 4 #[] #[])
  fields := #[]
  methods := #[]
  instanceTypes := #[]
  staticTypes := #[]
  resolved := Array.replicate 8 none
  statics := none }

/-- the primitive byte -/
def k5 : Class := { plain "byte" none with kind := .primitive 'B', accessFlags := 0x411 }
/-- [B -/
def k6 : Class := { plain "[B" (some 0) with kind := .array 5 .byte, interfaces := #[3, 4], accessFlags := 1041 }

/-- the primitive int -/
def k7 : Class := { plain "int" none with kind := .primitive 'I', accessFlags := 0x411 }
/-- [I -/
def k8 : Class := { plain "[I" (some 0) with kind := .array 7 .int, interfaces := #[3, 4], accessFlags := 1041 }

def heap : Heap := #[]
def classes : Array Class := #[k0, k1, k2, k3, k4, k5, k6, k7, k8]
def interned : List (Array UInt16 × Addr) := []
def slotsUsed : Nat := 0
def theMethod : MethodId := ⟨1, 1⟩
def args0 : Array Value := #[.int 5, .int 3, .int 0, .int (-7), .int 11, .int 13]
def aboutOver (below : List Frame) : State where
  vm := { classes := classes, interned := interned.toArray }
  heap := heap
  slotsUsed := slotsUsed
  threads := #[{ frames := .invoking theMethod args0 :: below }]
def below0 : List Frame := [.native { method := ⟨0, 0⟩, args := #[] }]
def about1 : State := aboutOver below0
def p0 : Program := .bare "" "" ""
def e0 : Env := launch0.env 0 0 0
theorem w_frames : about1.frames = Frame.invoking theMethod args0 :: below0 := rfl
set_option maxRecDepth 65536 in
theorem w_args : argsFit about1.vm theMethod args0 = true := by decide +kernel
set_option maxRecDepth 65536 in
theorem w_heap : heapFits about1 = true := by decide +kernel
set_option maxRecDepth 65536 in
theorem w_runnable : about1.curStatus? = some .runnable := by decide +kernel
set_option maxRecDepth 65536 in
theorem w_alone : about1.alone = true := by decide +kernel
set_option maxRecDepth 65536 in
theorem w_named : about1.methodNamed? x = some theMethod := by decide +kernel
set_option maxRecDepth 65536 in
theorem w_hears : about1.hears theMethod below0 = true := by decide +kernel
set_option maxRecDepth 65536 in
theorem w_ripe : about1.ripe theMethod args0 below0 = true := by decide +kernel
theorem w_running : about1.status = .running := rfl
set_option maxRecDepth 65536 in
theorem w_room : about1.hasRoom e0.platform room_1 = true :=
  launch0.hasRoom_least _ room_1 (by decide +kernel) (by decide +kernel) (by decide +kernel) (by decide +kernel) (by decide +kernel) (by decide +kernel)
theorem allAtoms_all (ts : List Jvm.Cond) (a : Array Jvm.Value) (st : Jvm.State) : (allAtoms ts).before a st = ts.all (fun c => c.before a st) := by
  induction ts with
  | nil => rfl
  | cons c t ih =>
    show (Jvm.Cond.and c (allAtoms t)).before a st = _
    rw [Jvm.Cond.before_and, ih, List.all_cons]
def words1 : List Jvm.Cond := Jvm.Cond.code x code maxLocals ret :: tables_1
/-- a 'code' word, met by the world's own term for the bytes: nothing is compared byte by byte -/
theorem code_word {y : MethodName} {bytes : ByteArray} {mx : Nat} {rt : Option FieldType} {a : Array Value} {s : State} {m : MethodId} {meth : Method} {c : Code} (h1 : s.methodNamed? y = some m) (h2 : s.vm.method? m = some meth) (h3 : meth.code = some c) (h4 : c.code = bytes)
    (h5 : (c.maxLocals == mx && c.exceptionTable.isEmpty && decide (c.maxStack ≤ mostOperands) && decide (meth.sig.returnType = rt) && !meth.locks && decide (parseMethodDescriptor y.desc = some meth.sig)) = true) : (Jvm.Cond.code y bytes mx rt).before a s = true := by
  simp only [Bool.and_eq_true, beq_iff_eq, Bool.not_eq_true', decide_eq_true_eq] at h5
  obtain ⟨⟨⟨⟨⟨g1, g2⟩, g3⟩, g4⟩, g5⟩, g6⟩ := h5
  simp [Cond.before, Cond.holds, Cond.value, h1, h2, h3, h4, g1, g2, g3, g4, g5, g6]
def isCode : Jvm.Cond → Bool
  | .code _ _ _ _ => true
  | _ => false
theorem all_split {L : List Jvm.Cond} {P : Jvm.Cond → Bool} (h1 : L.all (fun c => isCode c || P c) = true) (h2 : ∀ c ∈ L.filter isCode, P c = true) : L.all P = true := by
  refine List.all_eq_true.mpr fun c hc => ?_
  have h := List.all_eq_true.mp h1 c hc
  rcases Bool.eq_false_or_eq_true (isCode c) with hi | hi
  · exact h2 c (List.mem_filter.mpr ⟨hc, hi⟩)
  · simpa [hi] using h
set_option maxRecDepth 65536 in
theorem w_c0 : (Jvm.Cond.code x code maxLocals ret).before args0 about1 = true := code_word (m := ⟨1, 1⟩) (meth := k1m1) (c := k1c1) (by decide +kernel) rfl rfl rfl (by decide +kernel)
set_option maxRecDepth 65536 in
theorem w_c1 : (Jvm.Cond.code ({ cls := "com/example/enact/enact/engine/Marking", name := "<init>", desc := "([I)V" } : Jvm.MethodName) prog_27_method_1_code (2 : Nat) (Option.none : Option Jvm.ClassFile.FieldType)).before args0 about1 = true := code_word (m := ⟨2, 0⟩) (meth := k2m0) (c := k2c0) (by decide +kernel) rfl rfl rfl (by decide +kernel)
set_option maxRecDepth 65536 in
theorem w_c2 : (Jvm.Cond.code ({ cls := "java/lang/Object", name := "<init>", desc := "()V" } : Jvm.MethodName) object_method_1_code (1 : Nat) (Option.none : Option Jvm.ClassFile.FieldType)).before args0 about1 = true := code_word (m := ⟨0, 0⟩) (meth := k0m0) (c := k0c0) (by decide +kernel) rfl rfl rfl (by decide +kernel)
set_option maxRecDepth 65536 in
theorem w_c3 : (Jvm.Cond.code ({ cls := "com/example/enact/enact/engine/Marking", name := "covers", desc := "(Lcom/example/enact/enact/engine/Marking;)Z" } : Jvm.MethodName) prog_27_method_12_code (4 : Nat) (Option.some Jvm.ClassFile.FieldType.boolean)).before args0 about1 = true := code_word (m := ⟨2, 1⟩) (meth := k2m1) (c := k2c1) (by decide +kernel) rfl rfl rfl (by decide +kernel)
def codes1 : List Jvm.Cond := [Jvm.Cond.code x code maxLocals ret, Jvm.Cond.code ({ cls := "com/example/enact/enact/engine/Marking", name := "<init>", desc := "([I)V" } : Jvm.MethodName) prog_27_method_1_code (2 : Nat) (Option.none : Option Jvm.ClassFile.FieldType), Jvm.Cond.code ({ cls := "java/lang/Object", name := "<init>", desc := "()V" } : Jvm.MethodName) object_method_1_code (1 : Nat) (Option.none : Option Jvm.ClassFile.FieldType), Jvm.Cond.code ({ cls := "com/example/enact/enact/engine/Marking", name := "covers", desc := "(Lcom/example/enact/enact/engine/Marking;)Z" } : Jvm.MethodName) prog_27_method_12_code (4 : Nat) (Option.some Jvm.ClassFile.FieldType.boolean)]
set_option maxRecDepth 65536 in
theorem codes_eq : words1.filter isCode = codes1 := rfl
theorem w_codes : ∀ c ∈ words1.filter isCode, c.before args0 about1 = true := by
  rw [codes_eq]
  intro c hc
  simp only [codes1, List.mem_cons, List.not_mem_nil, or_false] at hc
  rcases hc with rfl | rfl | rfl | rfl
  · exact w_c0
  · exact w_c1
  · exact w_c2
  · exact w_c3
set_option maxRecDepth 65536 in
theorem w_t1 : words1.all (fun c => isCode c || c.before args0 about1) = true := by decide +kernel
theorem w_tables : (allAtoms (Jvm.Cond.code x code maxLocals ret :: tables_1)).before args0 about1 = true := by
  rw [allAtoms_all]
  show words1.all (fun c => c.before args0 about1) = true
  refine all_split ?_ w_codes
  rw [w_t1]
set_option maxRecDepth 65536 in
theorem w_case : (Jvm.Cond.and given_1 narrow_1).before args0 about1 = true := by decide +kernel
theorem w_applies : (headSpec (Jvm.Cond.code x code maxLocals ret :: tables_1) room_1).applies x e0.platform about1 = true :=
  (Spec.applies_iff w_frames).mpr ⟨w_running, w_runnable, w_alone, w_named, w_hears, w_ripe, w_room, w_tables⟩
theorem atStart : AtStart classFile x code maxLocals ret World_1 tables_1 room_1 Calls_1 rest_1 Pre_1 launch0 p0 e0 about1 theMethod args0 below0 :=
  ⟨lists_1, trivial, launch0.admits_env _ _ _, launch0.least_env, fairChoices_fair.cas, fairChoices_fair.clock, w_frames, w_args, w_heap, w_applies, trivial, trivial, w_case⟩
end start1
theorem witness_1 : WitnessClaimed_1 := ⟨start1.p0, start1.e0, start1.about1, start1.theMethod, start1.args0, start1.below0, start1.atStart⟩
end Jvm.Pilot.@@N@@
