import JvmDerived
import JvmDerived.Pilot.@@N@@Statement
import JvmDerived.Pilot.@@N@@Code
set_option linter.unusedVariables false
set_option linter.unusedSimpArgs false
namespace Jvm.RoadKit
open Sem ClassFile Op Lib Jvm.Stand Jvm.Free Jvm.LawKit
section New
variable {p : Program} {l : Launch} {e : Env} {R : Room} {s : State} {m : MethodId} {args : Array Value} {below : List Frame} {meth : Method} {c : Code} {T T' : State} {locs : List Loc} {cells slots cs sl : Nat} {Q : Option Value → Heap → List Loc → Prop}
/-- from T the run ends, and Q holds at the end -/
def Gl (p : Program) (e : Env) (below : List Frame) (s : State) (Q : Option Value → Heap → List Loc → Prop) (cs sl : Nat) (T : State) : Prop :=
  ∃ s₂ o, Steps p.tables e below T s₂ ∧ s₂.status = .running ∧ Ended s₂ below o ∧ ∃ v L, o = .returned v ∧ Q v s₂.heap L ∧ FrameEnd s o s₂ L cs sl
theorem Gl.st (k : ∀ t, Steps p.tables e below T' t → Steps p.tables e below T t) (h : Gl p e below s Q cs sl T') : Gl p e below s Q cs sl T := by
  obtain ⟨a, o, h1, r⟩ := h
  exact ⟨a, o, k _ h1, r⟩
theorem Gl.to (k : Steps p.tables e below T T') (h : Gl p e below s Q cs sl T') : Gl p e below s Q cs sl T := Gl.st (fun _ q => k.trans q) h
theorem Gl.fin (X : Stand p l e R s m args below meth c T locs cells slots) {v : Option Value} (hv : meth.sig.returnType = none → v = none) (hlk : meth.locks = false) (hQ : Q v T.heap locs) (hc : cells ≤ cs) (hs : slots ≤ sl) {S0 : State}
    (k : ∀ fs, (∀ (f : JFrame) (acts : List Action), f.method = m → f.locked = none → f.entered = [] → (doReturn e (T.setTop f) acts v).1 = T.setFrames fs) → Steps p.tables e below S0 (T.setFrames fs)) : Gl p e below s Q cs sl S0 := by
  obtain ⟨fs, hr, hrun, hended, hW, hsame⟩ := X.leave hv hlk
  exact ⟨_, _, k fs hr, hrun, hended, v, locs, rfl, hQ, ⟨_, rfl⟩, hW, hsame.mono hc hs⟩
theorem Gl.retN (X : Stand p l e R s m args below meth c T locs cells slots) (hx : p.tables.exec = Jvm.exec) (hlk : meth.locks = false) {pc : Nat} {Ls : Array Slot} {z : Int32} {t : FieldType} {rest : List Value} (hret : meth.sig.returnType = some t) (ht : t = .boolean ∨ t = .byte ∨ t = .char ∨ t = .short)
    (hd : decode c.code pc = .ok (.ireturn, 1)) (hQ : Q (some (.int (nar t z))) T.heap locs) (hc : cells ≤ cs) (hs : slots ≤ sl) : Gl p e below s Q cs sl (T.setTop (mkF m pc Ls (.int z :: rest))) :=
  Gl.fin X (fun h => by rw [hret] at h; cases h) hlk hQ hc hs fun _ hr => Jvm.RoadKit.retN X hx hret ht hd hr
theorem Gl.retI (X : Stand p l e R s m args below meth c T locs cells slots) (hx : p.tables.exec = Jvm.exec) (hlk : meth.locks = false) {pc : Nat} {Ls : Array Slot} {z : Int32} {rest : List Value} (hret : meth.sig.returnType = some .int)
    (hd : decode c.code pc = .ok (.ireturn, 1)) (hQ : Q (some (.int z)) T.heap locs) (hc : cells ≤ cs) (hs : slots ≤ sl) : Gl p e below s Q cs sl (T.setTop (mkF m pc Ls (.int z :: rest))) :=
  Gl.fin X (fun h => by rw [hret] at h; cases h) hlk hQ hc hs fun _ hr => retOut X hx hret rfl (Or.inl ⟨rfl, Or.inl rfl, z, rfl⟩) hd hr
theorem Gl.retJ (X : Stand p l e R s m args below meth c T locs cells slots) (hx : p.tables.exec = Jvm.exec) (hlk : meth.locks = false) {pc : Nat} {Ls : Array Slot} {z : Int64} {rest : List Value} (hret : meth.sig.returnType = some .long)
    (hd : decode c.code pc = .ok (.lreturn, 1)) (hQ : Q (some (.long z)) T.heap locs) (hc : cells ≤ cs) (hs : slots ≤ sl) : Gl p e below s Q cs sl (T.setTop (mkF m pc Ls (.long z :: rest))) :=
  Gl.fin X (fun h => by rw [hret] at h; cases h) hlk hQ hc hs fun _ hr => retOut X hx hret rfl (Or.inr (Or.inl ⟨rfl, rfl, z, rfl⟩)) hd hr
theorem Gl.retV (X : Stand p l e R s m args below meth c T locs cells slots) (hx : p.tables.exec = Jvm.exec) (hlk : meth.locks = false) {pc : Nat} {Ls : Array Slot} (hret : meth.sig.returnType = none)
    (hd : decode c.code pc = .ok (.return_, 1)) (hQ : Q none T.heap locs) (hc : cells ≤ cs) (hs : slots ≤ sl) : Gl p e below s Q cs sl (T.setTop (mkF m pc Ls [])) :=
  Gl.fin X (fun _ => rfl) hlk hQ hc hs fun _ hr => X.returnOut hx hret hd hr
/-- .. where String constants may have been interned -/
def GlW (p : Program) (e : Env) (below : List Frame) (s : State) (Q : Option Value → Heap → List Loc → Prop) (cs sl : Nat) (T : State) : Prop :=
  ∃ s₂ o, Steps p.tables e below T s₂ ∧ s₂.status = .running ∧ Ended s₂ below o ∧ ∃ v L, o = .returned v ∧ Q v s₂.heap L ∧ ReturnedEndW s o s₂ L cs sl
theorem GlW.st (k : ∀ t, Steps p.tables e below T' t → Steps p.tables e below T t) (h : GlW p e below s Q cs sl T') : GlW p e below s Q cs sl T := by
  obtain ⟨a, o, h1, r⟩ := h
  exact ⟨a, o, k _ h1, r⟩
theorem GlW.to (k : Steps p.tables e below T T') (h : GlW p e below s Q cs sl T') : GlW p e below s Q cs sl T := GlW.st (fun _ q => k.trans q) h
theorem GlW.retN {vm₁ : Vm} (X : Stand p l e R (s.setVm vm₁) m args below meth c T locs cells slots) (hx : p.tables.exec = Jvm.exec) {n : Nat} (hS : s.Since vm₁ n) (hn : n ≤ T.heap.size) (hlk : meth.locks = false) {pc : Nat} {Ls : Array Slot} {z : Int32} {t : FieldType} {rest : List Value} (hret : meth.sig.returnType = some t) (ht : t = .boolean ∨ t = .byte ∨ t = .char ∨ t = .short)
    (hd : decode c.code pc = .ok (.ireturn, 1)) (hQ : Q (some (.int (nar t z))) T.heap locs) (hc : cells ≤ cs) (hs : slots ≤ sl) : GlW p e below s Q cs sl (T.setTop (mkF m pc Ls (.int z :: rest))) := by
  obtain ⟨fs, hr, hrun, hended, h1, h2, h3, h4⟩ := X.leaveW hS hn (v := some (.int (nar t z))) (fun h => by rw [hret] at h; cases h) hlk
  exact ⟨_, _, Jvm.RoadKit.retN X hx hret ht hd hr, hrun, hended, _, locs, rfl, hQ, h1, h2, h3, h4.mono hc hs⟩
theorem lc_t {x y : Int64} (h : x < y) : ifCond.holds .lt (lcmpW x y) = true ∧ ifCond.holds .ge (lcmpW x y) = false ∧ ifCond.holds .gt (lcmpW y x) = true ∧ ifCond.holds .le (lcmpW y x) = false :=
  have a := tlt ((lw_lt x y).mpr h)
  have b := tlt ((lw_gt y x).mpr h)
  ⟨(if0 _ _).trans a.1, (if0 _ _).trans a.2.1, (if0 _ _).trans b.2.2.1, (if0 _ _).trans b.2.2.2⟩
theorem lc_f {x y : Int64} (h : ¬ x < y) : ifCond.holds .lt (lcmpW x y) = false ∧ ifCond.holds .ge (lcmpW x y) = true ∧ ifCond.holds .gt (lcmpW y x) = false ∧ ifCond.holds .le (lcmpW y x) = true :=
  have a := flt (fun q => h ((lw_lt x y).mp q))
  have b := flt (fun q => h ((lw_gt y x).mp q))
  ⟨(if0 _ _).trans a.1, (if0 _ _).trans a.2.1, (if0 _ _).trans b.2.2.1, (if0 _ _).trans b.2.2.2⟩
theorem le_t {x y : Int64} (h : x = y) : ifCond.holds .eq (lcmpW x y) = true ∧ ifCond.holds .ne (lcmpW x y) = false :=
  have a := teq ((lw_eq x y).mpr h)
  ⟨(if0 _ _).trans a.1, (if0 _ _).trans a.2⟩
theorem le_f {x y : Int64} (h : ¬ x = y) : ifCond.holds .eq (lcmpW x y) = false ∧ ifCond.holds .ne (lcmpW x y) = true :=
  have a := feq (fun q => h ((lw_eq x y).mp q))
  ⟨(if0 _ _).trans a.1, (if0 _ _).trans a.2⟩
end New
end Jvm.RoadKit
namespace Jvm.Pilot.@@N@@
open Jvm Jvm.ClassFile Sem Op Lib Jvm.Free Jvm.Stand Jvm.LawKit Jvm.RoadKit Bundle Jvm.Pilot.@@N@@.Jvm.D
theorem d1_0 : decode prog_7_method_1_code 0 = .ok (.aload_n 0, 1) := by decide +kernel
theorem d1_1 : decode prog_7_method_1_code 1 = .ok (.invokespecial 1, 3) := by decide +kernel
theorem d1_4 : decode prog_7_method_1_code 4 = .ok (.aload_n 0, 1) := by decide +kernel
theorem d1_5 : decode prog_7_method_1_code 5 = .ok (.lload_n 1, 1) := by decide +kernel
theorem d1_6 : decode prog_7_method_1_code 6 = .ok (.putfield 7, 3) := by decide +kernel
theorem d1_9 : decode prog_7_method_1_code 9 = .ok (.aload_n 0, 1) := by decide +kernel
theorem d1_10 : decode prog_7_method_1_code 10 = .ok (.aload_n 3, 1) := by decide +kernel
theorem d1_11 : decode prog_7_method_1_code 11 = .ok (.putfield 13, 3) := by decide +kernel
theorem d1_14 : decode prog_7_method_1_code 14 = .ok (.return_, 1) := by decide +kernel
theorem pf_0 : plainFor (⟨"com/example/wary_retry/waryretry/client/RetryFigures", "<init>", "(J[J)V"⟩ : MethodName) = true := by decide +kernel
def Q1 (Z : State) (a1 : Addr) (q2 : Int64) (a3 : Addr) (u_failed : Value) (u_histogram : Value) (h0 : Heap) (n0 : Nat) (v : Option Value) (h : Heap) (L : List Loc) : Prop := v = none ∧ Fr n0 L ∧ Keep h0 h [a1] ∧ Exa Z h a1 "com/example/wary_retry/waryretry/client/RetryFigures" ∧ Fld Z h a1 "com/example/wary_retry/waryretry/client/RetryFigures" "failed" "J" (.long q2) ∧ Fld Z h a1 "com/example/wary_retry/waryretry/client/RetryFigures" "histogram" "[J" (.ref a3)
theorem ef_1 (m : MethodId) (a1 : Addr) (q2 : Int64) (a3 : Addr) : entryFrame m #[(.ref a1), (.long q2), (.ref a3)] 4 = mkF m 0 #[.val (.ref a1), .val (.long q2), .second, .val (.ref a3)] [] := by first | (simp [entryFrame, mkF, argsToLocals, Value.category]; done) | rfl
set_option maxRecDepth 65536 in
set_option maxHeartbeats 40000000 in
theorem rm1 (l : Launch) (Z : State) (a0 : Array Value) (hw : ∀ d ∈ tables_1, d.before a0 Z = true) (ws : List Jvm.Cond) (a1 : Addr) (q2 : Int64) (a3 : Addr) (u_failed : Value) (u_histogram : Value) (h0 : Heap) (n0 : Nat) (Z0 : n0 ≤ h0.size) (E_a1 : Exa Z h0 a1 "com/example/wary_retry/waryretry/client/RetryFigures") (F_failed : Fld Z h0 a1 "com/example/wary_retry/waryretry/client/RetryFigures" "failed" "J" u_failed) (F_histogram : Fld Z h0 a1 "com/example/wary_retry/waryretry/client/RetryFigures" "histogram" "[J" u_histogram) (g_a1 : n0 ≤ a1) :
    MetFree l (⟨"com/example/wary_retry/waryretry/client/RetryFigures", "<init>", "(J[J)V"⟩ : MethodName) (head1 (Jvm.Cond.code (⟨"com/example/wary_retry/waryretry/client/RetryFigures", "<init>", "(J[J)V"⟩ : MethodName) prog_7_method_1_code 4 none :: ws) ({ frames := 1, cells := 0, slots := 0, locals := 12 } : Room)) (fun a U => a = #[(.ref a1), (.long q2), (.ref a3)] ∧ Z.Warmed39 U.vm ∧ U.heap = h0) (fun _ _ _ _ _ => True) (fun _ U o U' => ∃ v L, o = .returned v ∧ Q1 Z a1 q2 a3 u_failed u_histogram h0 n0 v U'.heap L ∧ FrameEnd U o U' L ({ frames := 1, cells := 0, slots := 0, locals := 12 } : Room).cells ({ frames := 1, cells := 0, slots := 0, locals := 12 } : Room).slots) := by
  refine MetFree.of_bodySF pf_0 hisR ?_
  intro p e s m args below meth c s₁ Bd hml0 hP hK
  obtain ⟨rfl, hZ, hh⟩ := hP
  have hx := Bd.exec
  have hby := Bd.bytes
  have hlk : meth.locks = false := BodyLoose.notSynchronized Bd
  have hml : c.maxLocals = 4 := hml0
  have hown : s.vm.findClass "com/example/wary_retry/waryretry/client/RetryFigures" = some m.cls := findClass_of_methodNamed Bd.named
  have hnm := (name_of_methodNamed Bd.named Bd.method).1
  have X0 : Stand p l e ({ frames := 1, cells := 0, slots := 0, locals := 12 } : Room) s m #[(.ref a1), (.long q2), (.ref a3)] below meth c s₁ [] 0 0 := Stand.of_body Bd
  have e0 : s₁.heap = h0 := by rw [← hh, Bd.state]; rfl
  have N0 := Fr.nil n0
  have K0 : Keep h0 h0 [a1] := Keep.refl h0 _
  show Gl p e below s (Q1 Z a1 q2 a3 u_failed u_histogram h0 n0) ({ frames := 1, cells := 0, slots := 0, locals := 12 } : Room).cells ({ frames := 1, cells := 0, slots := 0, locals := 12 } : Room).slots (s₁.setTop (entryFrame m #[(.ref a1), (.long q2), (.ref a3)] 4))
  rw [ef_1]
  show Gl _ _ _ _ _ _ _ (s₁.setTop (mkF m 0 #[.val (.ref a1), .val (.long q2), .second, .val (.ref a3)] []))
  refine Gl.st (fun t k => XS.aloadN X0.here hx rfl (hb hby d1_0) rfl rfl k) ?_
  show Gl _ _ _ _ _ _ _ (s₁.setTop (mkF m 1 #[.val (.ref a1), .val (.long q2), .second, .val (.ref a3)] [(.ref a1)]))
  obtain ⟨T1, X1, e1, st1⟩ := initO X0 hx hZ hown (hw _ (List.mem_of_getElem? (i := 7) rfl)) (hw _ (List.mem_of_getElem? (i := 8) rfl)) (hw _ (List.mem_of_getElem? (i := 9) rfl)) e0 (g := (mkF m 1 #[.val (.ref a1), .val (.long q2), .second, .val (.ref a3)] [(.ref a1)])) rfl (by rw [hml]; rfl) rfl (hb hby d1_1) (by decide) (W := 0) (by show 2 * 0 + _ ≤ _; exact Nat.le_of_eq rfl) (by decide)
  refine Gl.st st1 ?_
  show Gl _ _ _ _ _ _ _ (T1.setTop (mkF m 4 #[.val (.ref a1), .val (.long q2), .second, .val (.ref a3)] []))
  refine Gl.st (fun t k => XS.aloadN X1.here hx rfl (hb hby d1_4) rfl rfl k) ?_
  show Gl _ _ _ _ _ _ _ (T1.setTop (mkF m 5 #[.val (.ref a1), .val (.long q2), .second, .val (.ref a3)] [(.ref a1)]))
  refine Gl.st (fun t k => XS.lloadN X1.here hx rfl (hb hby d1_5) rfl  k) ?_
  show Gl _ _ _ _ _ _ _ (T1.setTop (mkF m 6 #[.val (.ref a1), .val (.long q2), .second, .val (.ref a3)] [(.long q2), (.ref a1)]))
  obtain ⟨T2, h2, X2, e2, W2, st2⟩ := putF X1 hx hZ hown (host := "") (Or.inl (hw _ (List.mem_of_getElem? (i := 10) rfl))) Via.refl e1 F_failed E_a1 (Or.inr ⟨(hw _ (List.mem_of_getElem? (i := 11) rfl)), rfl, hnm⟩) (hw _ (List.mem_of_getElem? (i := 2) rfl)) (ty := .long) (by decide) rfl rfl (g := (mkF m 6 #[.val (.ref a1), .val (.long q2), .second, .val (.ref a3)] [(.long q2), (.ref a1)])) rfl rfl (hb hby d1_6)
  refine Gl.st st2 ?_
  have Z2 : n0 ≤ h2.size := Nat.le_trans Z0 (Keep.of_wr W2).1
  have N2 := Fr.snoc X2 N0 g_a1
  have K2 : Keep h0 h2 [a1] := K0.wr W2 (Or.inl (List.mem_of_getElem? (i := 0) rfl))
  have E_a1'3 : Exa Z h2 a1 "com/example/wary_retry/waryretry/client/RetryFigures" := E_a1.wr W2
  have F_histogram'4 : Fld Z h2 a1 "com/example/wary_retry/waryretry/client/RetryFigures" "histogram" "[J" u_histogram := F_histogram.other W2 (Or.inr (slot_ne (Or.inr (hw _ (List.mem_of_getElem? (i := 13) rfl))) (Or.inr (hw _ (List.mem_of_getElem? (i := 11) rfl))) (by decide) (t := (.array .long)) (t' := .long) (by decide) (by decide)))
  have Fw2 : Fld Z h2 a1 "com/example/wary_retry/waryretry/client/RetryFigures" "failed" "J" (.long q2) := F_failed.same W2
  show Gl _ _ _ _ _ _ _ (T2.setTop (mkF m 9 #[.val (.ref a1), .val (.long q2), .second, .val (.ref a3)] []))
  refine Gl.st (fun t k => XS.aloadN X2.here hx rfl (hb hby d1_9) rfl rfl k) ?_
  show Gl _ _ _ _ _ _ _ (T2.setTop (mkF m 10 #[.val (.ref a1), .val (.long q2), .second, .val (.ref a3)] [(.ref a1)]))
  refine Gl.st (fun t k => XS.aloadN X2.here hx rfl (hb hby d1_10) rfl rfl k) ?_
  show Gl _ _ _ _ _ _ _ (T2.setTop (mkF m 11 #[.val (.ref a1), .val (.long q2), .second, .val (.ref a3)] [(.ref a3), (.ref a1)]))
  obtain ⟨T5, h5, X5, e5, W5, st5⟩ := putF X2 hx hZ hown (host := "") (Or.inl (hw _ (List.mem_of_getElem? (i := 12) rfl))) Via.refl e2 F_histogram'4 E_a1'3 (Or.inr ⟨(hw _ (List.mem_of_getElem? (i := 13) rfl)), rfl, hnm⟩) (hw _ (List.mem_of_getElem? (i := 2) rfl)) (ty := (.array .long)) (by decide) rfl rfl (g := (mkF m 11 #[.val (.ref a1), .val (.long q2), .second, .val (.ref a3)] [(.ref a3), (.ref a1)])) rfl rfl (hb hby d1_11)
  refine Gl.st st5 ?_
  have Z5 : n0 ≤ h5.size := Nat.le_trans Z2 (Keep.of_wr W5).1
  have N5 := Fr.snoc X5 N2 g_a1
  have K5 : Keep h0 h5 [a1] := K2.wr W5 (Or.inl (List.mem_of_getElem? (i := 0) rfl))
  have E_a1'6 : Exa Z h5 a1 "com/example/wary_retry/waryretry/client/RetryFigures" := E_a1'3.wr W5
  have Fw2'7 : Fld Z h5 a1 "com/example/wary_retry/waryretry/client/RetryFigures" "failed" "J" (.long q2) := Fw2.other W5 (Or.inr (slot_ne (Or.inr (hw _ (List.mem_of_getElem? (i := 11) rfl))) (Or.inr (hw _ (List.mem_of_getElem? (i := 13) rfl))) (by decide) (t := .long) (t' := (.array .long)) (by decide) (by decide)))
  have Fw5 : Fld Z h5 a1 "com/example/wary_retry/waryretry/client/RetryFigures" "histogram" "[J" (.ref a3) := F_histogram'4.same W5
  show Gl _ _ _ _ _ _ _ (T5.setTop (mkF m 14 #[.val (.ref a1), .val (.long q2), .second, .val (.ref a3)] []))
  exact Gl.retV X5 hx hlk Bd.returns (hb hby d1_14) (by
        rw [e5]
        exact ⟨rfl, N5, K5, E_a1'6, Fw2'7, Fw5⟩) (by decide) (by decide)
def own_attempts (w0 : Int64) (w1 : Int64) (w2 : Int64) (w3 : Int64) (w4 : Int64) (w5 : Int64) (w6 : Int64) (w7 : Int64) : Int64 := (((((((((0 : Int64) + w0) + w1) + w2) + w3) + w4) + w5) + w6) + w7)
theorem d3_0 : decode prog_7_method_3_code 0 = .ok (.lconst 0, 1) := by decide +kernel
theorem d3_1 : decode prog_7_method_3_code 1 = .ok (.lstore_n 1, 1) := by decide +kernel
theorem d3_2 : decode prog_7_method_3_code 2 = .ok (.aload_n 0, 1) := by decide +kernel
theorem d3_3 : decode prog_7_method_3_code 3 = .ok (.getfield 13, 3) := by decide +kernel
theorem d3_6 : decode prog_7_method_3_code 6 = .ok (.astore_n 3, 1) := by decide +kernel
theorem d3_7 : decode prog_7_method_3_code 7 = .ok (.aload_n 3, 1) := by decide +kernel
theorem d3_8 : decode prog_7_method_3_code 8 = .ok (.arraylength, 1) := by decide +kernel
theorem d3_9 : decode prog_7_method_3_code 9 = .ok (.istore 4, 2) := by decide +kernel
theorem d3_11 : decode prog_7_method_3_code 11 = .ok (.iconst 0, 1) := by decide +kernel
theorem d3_12 : decode prog_7_method_3_code 12 = .ok (.istore 5, 2) := by decide +kernel
theorem d3_14 : decode prog_7_method_3_code 14 = .ok (.iload 5, 2) := by decide +kernel
theorem d3_16 : decode prog_7_method_3_code 16 = .ok (.iload 4, 2) := by decide +kernel
theorem d3_18 : decode prog_7_method_3_code 18 = .ok (.if_icmp .ge 20, 3) := by decide +kernel
theorem d3_21 : decode prog_7_method_3_code 21 = .ok (.aload_n 3, 1) := by decide +kernel
theorem d3_22 : decode prog_7_method_3_code 22 = .ok (.iload 5, 2) := by decide +kernel
theorem d3_24 : decode prog_7_method_3_code 24 = .ok (.laload, 1) := by decide +kernel
theorem d3_25 : decode prog_7_method_3_code 25 = .ok (.lstore 6, 2) := by decide +kernel
theorem d3_27 : decode prog_7_method_3_code 27 = .ok (.lload_n 1, 1) := by decide +kernel
theorem d3_28 : decode prog_7_method_3_code 28 = .ok (.lload 6, 2) := by decide +kernel
theorem d3_30 : decode prog_7_method_3_code 30 = .ok (.ladd, 1) := by decide +kernel
theorem d3_31 : decode prog_7_method_3_code 31 = .ok (.lstore_n 1, 1) := by decide +kernel
theorem d3_32 : decode prog_7_method_3_code 32 = .ok (.iinc 5 1, 3) := by decide +kernel
theorem d3_35 : decode prog_7_method_3_code 35 = .ok (.goto (-21), 3) := by decide +kernel
theorem d3_38 : decode prog_7_method_3_code 38 = .ok (.lload_n 1, 1) := by decide +kernel
theorem d3_39 : decode prog_7_method_3_code 39 = .ok (.lreturn, 1) := by decide +kernel
theorem pf_1 : plainFor (⟨"com/example/wary_retry/waryretry/client/RetryFigures", "retryAttempts", "()J"⟩ : MethodName) = true := by decide +kernel
def Q3 (Z : State) (a1 : Addr) (ca : Addr) (ck : ClassId) (w0 : Int64) (w1 : Int64) (w2 : Int64) (w3 : Int64) (w4 : Int64) (w5 : Int64) (w6 : Int64) (w7 : Int64) (h0 : Heap) (n0 : Nat) (v : Option Value) (h : Heap) (L : List Loc) : Prop := v = some (.long (own_attempts w0 w1 w2 w3 w4 w5 w6 w7)) ∧ Fr n0 L ∧ h = h0
theorem ef_3 (m : MethodId) (a1 : Addr) : entryFrame m #[(.ref a1)] 8 = mkF m 0 #[.val (.ref a1), .unset, .unset, .unset, .unset, .unset, .unset, .unset] [] := by first | (simp [entryFrame, mkF, argsToLocals, Value.category]; done) | rfl
set_option maxRecDepth 65536 in
set_option maxHeartbeats 40000000 in
theorem rm3 (l : Launch) (Z : State) (a0 : Array Value) (hw : ∀ d ∈ tables_1, d.before a0 Z = true) (ws : List Jvm.Cond) (a1 : Addr) (ca : Addr) (ck : ClassId) (w0 : Int64) (w1 : Int64) (w2 : Int64) (w3 : Int64) (w4 : Int64) (w5 : Int64) (w6 : Int64) (w7 : Int64) (h0 : Heap) (n0 : Nat) (Fc : Fld Z h0 a1 "com/example/wary_retry/waryretry/client/RetryFigures" "histogram" "[J" (.ref ca)) (Vc : Arv Z h0 ca ck .long (8 : Int32) [(.long w0), (.long w1), (.long w2), (.long w3), (.long w4), (.long w5), (.long w6), (.long w7)] (.long (0 : Int64))) :
    MetFree l (⟨"com/example/wary_retry/waryretry/client/RetryFigures", "retryAttempts", "()J"⟩ : MethodName) (head1 (Jvm.Cond.code (⟨"com/example/wary_retry/waryretry/client/RetryFigures", "retryAttempts", "()J"⟩ : MethodName) prog_7_method_3_code 8 (some .long) :: ws) ({ frames := 0, cells := 0, slots := 0, locals := 0 } : Room)) (fun a U => a = #[(.ref a1)] ∧ Z.Warmed39 U.vm ∧ U.heap = h0) (fun _ _ _ _ _ => True) (fun _ U o U' => ∃ v L, o = .returned v ∧ Q3 Z a1 ca ck w0 w1 w2 w3 w4 w5 w6 w7 h0 n0 v U'.heap L ∧ FrameEnd U o U' L ({ frames := 0, cells := 0, slots := 0, locals := 0 } : Room).cells ({ frames := 0, cells := 0, slots := 0, locals := 0 } : Room).slots) := by
  refine MetFree.of_bodySF pf_1 hisR ?_
  intro p e s m args below meth c s₁ Bd hml0 hP hK
  obtain ⟨rfl, hZ, hh⟩ := hP
  have hx := Bd.exec
  have hby := Bd.bytes
  have hlk : meth.locks = false := BodyLoose.notSynchronized Bd
  have hml : c.maxLocals = 8 := hml0
  have hown : s.vm.findClass "com/example/wary_retry/waryretry/client/RetryFigures" = some m.cls := findClass_of_methodNamed Bd.named
  have hnm := (name_of_methodNamed Bd.named Bd.method).1
  have X0 : Stand p l e ({ frames := 0, cells := 0, slots := 0, locals := 0 } : Room) s m #[(.ref a1)] below meth c s₁ [] 0 0 := Stand.of_body Bd
  have e0 : s₁.heap = h0 := by rw [← hh, Bd.state]; rfl
  have N0 := Fr.nil n0
  show Gl p e below s (Q3 Z a1 ca ck w0 w1 w2 w3 w4 w5 w6 w7 h0 n0) ({ frames := 0, cells := 0, slots := 0, locals := 0 } : Room).cells ({ frames := 0, cells := 0, slots := 0, locals := 0 } : Room).slots (s₁.setTop (entryFrame m #[(.ref a1)] 8))
  rw [ef_3]
  show Gl _ _ _ _ _ _ _ (s₁.setTop (mkF m 0 #[.val (.ref a1), .unset, .unset, .unset, .unset, .unset, .unset, .unset] []))
  refine Gl.st (fun t k => XS.lconst X0.here hx rfl (hb hby d3_0) k) ?_
  show Gl _ _ _ _ _ _ _ (s₁.setTop (mkF m 1 #[.val (.ref a1), .unset, .unset, .unset, .unset, .unset, .unset, .unset] [(.long (0 : Int64))]))
  refine Gl.st (fun t k => XS.lstoreN X0.here hx rfl (hb hby d3_1) rfl (l' := #[.val (.ref a1), .val (.long (0 : Int64)), .second, .unset, .unset, .unset, .unset, .unset]) rfl k) ?_
  show Gl _ _ _ _ _ _ _ (s₁.setTop (mkF m 2 #[.val (.ref a1), .val (.long (0 : Int64)), .second, .unset, .unset, .unset, .unset, .unset] []))
  refine Gl.st (fun t k => XS.aloadN X0.here hx rfl (hb hby d3_2) rfl rfl k) ?_
  show Gl _ _ _ _ _ _ _ (s₁.setTop (mkF m 3 #[.val (.ref a1), .val (.long (0 : Int64)), .second, .unset, .unset, .unset, .unset, .unset] [(.ref a1)]))
  obtain ⟨T1, X1, e1, st1⟩ := getF X0 hx hZ hown (host := "") (Or.inl (hw _ (List.mem_of_getElem? (i := 12) rfl))) Via.refl e0 Fc (g := (mkF m 3 #[.val (.ref a1), .val (.long (0 : Int64)), .second, .unset, .unset, .unset, .unset, .unset] [(.ref a1)])) rfl rfl (hb hby d3_3)
  refine Gl.st st1 ?_
  show Gl _ _ _ _ _ _ _ (T1.setTop (mkF m 6 #[.val (.ref a1), .val (.long (0 : Int64)), .second, .unset, .unset, .unset, .unset, .unset] [(.ref ca)]))
  refine Gl.st (fun t k => XS.astoreN X1.here hx rfl (hb hby d3_6) rfl rfl (l' := #[.val (.ref a1), .val (.long (0 : Int64)), .second, .val (.ref ca), .unset, .unset, .unset, .unset]) rfl k) ?_
  show Gl _ _ _ _ _ _ _ (T1.setTop (mkF m 7 #[.val (.ref a1), .val (.long (0 : Int64)), .second, .val (.ref ca), .unset, .unset, .unset, .unset] []))
  refine Gl.st (fun t k => XS.aloadN X1.here hx rfl (hb hby d3_7) rfl rfl k) ?_
  show Gl _ _ _ _ _ _ _ (T1.setTop (mkF m 8 #[.val (.ref a1), .val (.long (0 : Int64)), .second, .val (.ref ca), .unset, .unset, .unset, .unset] [(.ref ca)]))
  have Vx2 := Vc
  obtain ⟨cl2, Ar2, qk2, S2, M2, H2, G2⟩ := Vx2
  refine Gl.st (X1.arraylength hx (by rw [e1]; exact Ar2.1) (State.isArrayOf_alike hZ.alike Ar2.2.1) (g := (mkF m 8 #[.val (.ref a1), .val (.long (0 : Int64)), .second, .val (.ref ca), .unset, .unset, .unset, .unset] [(.ref ca)])) rfl rfl (hb hby d3_8)) ?_
  rw [len_of S2 M2]
  show Gl _ _ _ _ _ _ _ (T1.setTop (mkF m 9 #[.val (.ref a1), .val (.long (0 : Int64)), .second, .val (.ref ca), .unset, .unset, .unset, .unset] [(.int (8 : Int32))]))
  refine Gl.st (fun t k => XS.istore X1.here hx rfl (hb hby d3_9) rfl (l' := #[.val (.ref a1), .val (.long (0 : Int64)), .second, .val (.ref ca), .val (.int (8 : Int32)), .unset, .unset, .unset]) rfl k) ?_
  show Gl _ _ _ _ _ _ _ (T1.setTop (mkF m 11 #[.val (.ref a1), .val (.long (0 : Int64)), .second, .val (.ref ca), .val (.int (8 : Int32)), .unset, .unset, .unset] []))
  refine Gl.st (fun t k => XS.iconst X1.here hx rfl (hb hby d3_11) k) ?_
  show Gl _ _ _ _ _ _ _ (T1.setTop (mkF m 12 #[.val (.ref a1), .val (.long (0 : Int64)), .second, .val (.ref ca), .val (.int (8 : Int32)), .unset, .unset, .unset] [(.int (0 : Int32))]))
  refine Gl.st (fun t k => XS.istore X1.here hx rfl (hb hby d3_12) rfl (l' := #[.val (.ref a1), .val (.long (0 : Int64)), .second, .val (.ref ca), .val (.int (8 : Int32)), .val (.int (0 : Int32)), .unset, .unset]) rfl k) ?_
  show Gl _ _ _ _ _ _ _ (T1.setTop (mkF m 14 #[.val (.ref a1), .val (.long (0 : Int64)), .second, .val (.ref ca), .val (.int (8 : Int32)), .val (.int (0 : Int32)), .unset, .unset] []))
  refine Gl.st (fun t k => XS.iload X1.here hx rfl (hb hby d3_14) rfl  k) ?_
  show Gl _ _ _ _ _ _ _ (T1.setTop (mkF m 16 #[.val (.ref a1), .val (.long (0 : Int64)), .second, .val (.ref ca), .val (.int (8 : Int32)), .val (.int (0 : Int32)), .unset, .unset] [(.int (0 : Int32))]))
  refine Gl.st (fun t k => XS.iload X1.here hx rfl (hb hby d3_16) rfl  k) ?_
  show Gl _ _ _ _ _ _ _ (T1.setTop (mkF m 18 #[.val (.ref a1), .val (.long (0 : Int64)), .second, .val (.ref ca), .val (.int (8 : Int32)), .val (.int (0 : Int32)), .unset, .unset] [(.int (8 : Int32)), (.int (0 : Int32))]))
  refine Gl.st (fun t k => XS.icmpNo X1.here hx rfl (hb hby d3_18) rfl (tlt (by decide : (0 : Int32) < (8 : Int32))).2.1 k) ?_
  show Gl _ _ _ _ _ _ _ (T1.setTop (mkF m 21 #[.val (.ref a1), .val (.long (0 : Int64)), .second, .val (.ref ca), .val (.int (8 : Int32)), .val (.int (0 : Int32)), .unset, .unset] []))
  refine Gl.st (fun t k => XS.aloadN X1.here hx rfl (hb hby d3_21) rfl rfl k) ?_
  show Gl _ _ _ _ _ _ _ (T1.setTop (mkF m 22 #[.val (.ref a1), .val (.long (0 : Int64)), .second, .val (.ref ca), .val (.int (8 : Int32)), .val (.int (0 : Int32)), .unset, .unset] [(.ref ca)]))
  refine Gl.st (fun t k => XS.iload X1.here hx rfl (hb hby d3_22) rfl  k) ?_
  show Gl _ _ _ _ _ _ _ (T1.setTop (mkF m 24 #[.val (.ref a1), .val (.long (0 : Int64)), .second, .val (.ref ca), .val (.int (8 : Int32)), .val (.int (0 : Int32)), .unset, .unset] [(.int (0 : Int32)), (.ref ca)]))
  have Vx3 := Vc
  obtain ⟨cl3, Ar3, qk3, S3, M3, H3, G3⟩ := Vx3
  have hin3 : ¬ ((0 : Int32) < 0 ∨ cl3.slots.size ≤ ((0 : Int32)).toNatClampNeg) := inb_of S3 ⟨by decide, by decide⟩
  have hat3 : cl3.slots[((0 : Int32)).toNatClampNeg]? = some (.long w0) := H3.at hin3 rfl
  refine Gl.st (X1.laload hx (j := (0 : Int32)) (v := (.long w0)) (by rw [e1]; exact Ar3.1) (State.isArrayOf_alike hZ.alike Ar3.2.1) Ar3.2.2 hin3 hat3 (g := (mkF m 24 #[.val (.ref a1), .val (.long (0 : Int64)), .second, .val (.ref ca), .val (.int (8 : Int32)), .val (.int (0 : Int32)), .unset, .unset] [(.int (0 : Int32)), (.ref ca)])) rfl rfl (hb hby d3_24)) ?_
  show Gl _ _ _ _ _ _ _ (T1.setTop (mkF m 25 #[.val (.ref a1), .val (.long (0 : Int64)), .second, .val (.ref ca), .val (.int (8 : Int32)), .val (.int (0 : Int32)), .unset, .unset] [(.long w0)]))
  refine Gl.st (fun t k => XS.lstore X1.here hx rfl (hb hby d3_25) rfl (l' := #[.val (.ref a1), .val (.long (0 : Int64)), .second, .val (.ref ca), .val (.int (8 : Int32)), .val (.int (0 : Int32)), .val (.long w0), .second]) rfl k) ?_
  show Gl _ _ _ _ _ _ _ (T1.setTop (mkF m 27 #[.val (.ref a1), .val (.long (0 : Int64)), .second, .val (.ref ca), .val (.int (8 : Int32)), .val (.int (0 : Int32)), .val (.long w0), .second] []))
  refine Gl.st (fun t k => XS.lloadN X1.here hx rfl (hb hby d3_27) rfl  k) ?_
  show Gl _ _ _ _ _ _ _ (T1.setTop (mkF m 28 #[.val (.ref a1), .val (.long (0 : Int64)), .second, .val (.ref ca), .val (.int (8 : Int32)), .val (.int (0 : Int32)), .val (.long w0), .second] [(.long (0 : Int64))]))
  refine Gl.st (fun t k => XS.lload X1.here hx rfl (hb hby d3_28) rfl  k) ?_
  show Gl _ _ _ _ _ _ _ (T1.setTop (mkF m 30 #[.val (.ref a1), .val (.long (0 : Int64)), .second, .val (.ref ca), .val (.int (8 : Int32)), .val (.int (0 : Int32)), .val (.long w0), .second] [(.long w0), (.long (0 : Int64))]))
  refine Gl.st (fun t k => XS.ladd X1.here hx rfl (hb hby d3_30) rfl k) ?_
  show Gl _ _ _ _ _ _ _ (T1.setTop (mkF m 31 #[.val (.ref a1), .val (.long (0 : Int64)), .second, .val (.ref ca), .val (.int (8 : Int32)), .val (.int (0 : Int32)), .val (.long w0), .second] [(.long ((0 : Int64) + w0))]))
  refine Gl.st (fun t k => XS.lstoreN X1.here hx rfl (hb hby d3_31) rfl (l' := #[.val (.ref a1), .val (.long ((0 : Int64) + w0)), .second, .val (.ref ca), .val (.int (8 : Int32)), .val (.int (0 : Int32)), .val (.long w0), .second]) rfl k) ?_
  show Gl _ _ _ _ _ _ _ (T1.setTop (mkF m 32 #[.val (.ref a1), .val (.long ((0 : Int64) + w0)), .second, .val (.ref ca), .val (.int (8 : Int32)), .val (.int (0 : Int32)), .val (.long w0), .second] []))
  refine Gl.st (fun t k => XS.iinc X1.here hx rfl (hb hby d3_32) rfl (l' := #[.val (.ref a1), .val (.long ((0 : Int64) + w0)), .second, .val (.ref ca), .val (.int (8 : Int32)), .val (.int (1 : Int32)), .val (.long w0), .second]) rfl k) ?_
  show Gl _ _ _ _ _ _ _ (T1.setTop (mkF m 35 #[.val (.ref a1), .val (.long ((0 : Int64) + w0)), .second, .val (.ref ca), .val (.int (8 : Int32)), .val (.int (1 : Int32)), .val (.long w0), .second] []))
  refine Gl.st (fun t k => XS.goto X1.here hx rfl (pc0 := 35) (pc' := 14) rfl (hb hby d3_35) (by decide) (by decide) k) ?_
  show Gl _ _ _ _ _ _ _ (T1.setTop (mkF m 14 #[.val (.ref a1), .val (.long ((0 : Int64) + w0)), .second, .val (.ref ca), .val (.int (8 : Int32)), .val (.int (1 : Int32)), .val (.long w0), .second] []))
  refine Gl.st (fun t k => XS.iload X1.here hx rfl (hb hby d3_14) rfl  k) ?_
  show Gl _ _ _ _ _ _ _ (T1.setTop (mkF m 16 #[.val (.ref a1), .val (.long ((0 : Int64) + w0)), .second, .val (.ref ca), .val (.int (8 : Int32)), .val (.int (1 : Int32)), .val (.long w0), .second] [(.int (1 : Int32))]))
  refine Gl.st (fun t k => XS.iload X1.here hx rfl (hb hby d3_16) rfl  k) ?_
  show Gl _ _ _ _ _ _ _ (T1.setTop (mkF m 18 #[.val (.ref a1), .val (.long ((0 : Int64) + w0)), .second, .val (.ref ca), .val (.int (8 : Int32)), .val (.int (1 : Int32)), .val (.long w0), .second] [(.int (8 : Int32)), (.int (1 : Int32))]))
  refine Gl.st (fun t k => XS.icmpNo X1.here hx rfl (hb hby d3_18) rfl (tlt (by decide : (1 : Int32) < (8 : Int32))).2.1 k) ?_
  show Gl _ _ _ _ _ _ _ (T1.setTop (mkF m 21 #[.val (.ref a1), .val (.long ((0 : Int64) + w0)), .second, .val (.ref ca), .val (.int (8 : Int32)), .val (.int (1 : Int32)), .val (.long w0), .second] []))
  refine Gl.st (fun t k => XS.aloadN X1.here hx rfl (hb hby d3_21) rfl rfl k) ?_
  show Gl _ _ _ _ _ _ _ (T1.setTop (mkF m 22 #[.val (.ref a1), .val (.long ((0 : Int64) + w0)), .second, .val (.ref ca), .val (.int (8 : Int32)), .val (.int (1 : Int32)), .val (.long w0), .second] [(.ref ca)]))
  refine Gl.st (fun t k => XS.iload X1.here hx rfl (hb hby d3_22) rfl  k) ?_
  show Gl _ _ _ _ _ _ _ (T1.setTop (mkF m 24 #[.val (.ref a1), .val (.long ((0 : Int64) + w0)), .second, .val (.ref ca), .val (.int (8 : Int32)), .val (.int (1 : Int32)), .val (.long w0), .second] [(.int (1 : Int32)), (.ref ca)]))
  have Vx4 := Vc
  obtain ⟨cl4, Ar4, qk4, S4, M4, H4, G4⟩ := Vx4
  have hin4 : ¬ ((1 : Int32) < 0 ∨ cl4.slots.size ≤ ((1 : Int32)).toNatClampNeg) := inb_of S4 ⟨by decide, by decide⟩
  have hat4 : cl4.slots[((1 : Int32)).toNatClampNeg]? = some (.long w1) := H4.at hin4 rfl
  refine Gl.st (X1.laload hx (j := (1 : Int32)) (v := (.long w1)) (by rw [e1]; exact Ar4.1) (State.isArrayOf_alike hZ.alike Ar4.2.1) Ar4.2.2 hin4 hat4 (g := (mkF m 24 #[.val (.ref a1), .val (.long ((0 : Int64) + w0)), .second, .val (.ref ca), .val (.int (8 : Int32)), .val (.int (1 : Int32)), .val (.long w0), .second] [(.int (1 : Int32)), (.ref ca)])) rfl rfl (hb hby d3_24)) ?_
  show Gl _ _ _ _ _ _ _ (T1.setTop (mkF m 25 #[.val (.ref a1), .val (.long ((0 : Int64) + w0)), .second, .val (.ref ca), .val (.int (8 : Int32)), .val (.int (1 : Int32)), .val (.long w0), .second] [(.long w1)]))
  refine Gl.st (fun t k => XS.lstore X1.here hx rfl (hb hby d3_25) rfl (l' := #[.val (.ref a1), .val (.long ((0 : Int64) + w0)), .second, .val (.ref ca), .val (.int (8 : Int32)), .val (.int (1 : Int32)), .val (.long w1), .second]) rfl k) ?_
  show Gl _ _ _ _ _ _ _ (T1.setTop (mkF m 27 #[.val (.ref a1), .val (.long ((0 : Int64) + w0)), .second, .val (.ref ca), .val (.int (8 : Int32)), .val (.int (1 : Int32)), .val (.long w1), .second] []))
  refine Gl.st (fun t k => XS.lloadN X1.here hx rfl (hb hby d3_27) rfl  k) ?_
  show Gl _ _ _ _ _ _ _ (T1.setTop (mkF m 28 #[.val (.ref a1), .val (.long ((0 : Int64) + w0)), .second, .val (.ref ca), .val (.int (8 : Int32)), .val (.int (1 : Int32)), .val (.long w1), .second] [(.long ((0 : Int64) + w0))]))
  refine Gl.st (fun t k => XS.lload X1.here hx rfl (hb hby d3_28) rfl  k) ?_
  show Gl _ _ _ _ _ _ _ (T1.setTop (mkF m 30 #[.val (.ref a1), .val (.long ((0 : Int64) + w0)), .second, .val (.ref ca), .val (.int (8 : Int32)), .val (.int (1 : Int32)), .val (.long w1), .second] [(.long w1), (.long ((0 : Int64) + w0))]))
  refine Gl.st (fun t k => XS.ladd X1.here hx rfl (hb hby d3_30) rfl k) ?_
  show Gl _ _ _ _ _ _ _ (T1.setTop (mkF m 31 #[.val (.ref a1), .val (.long ((0 : Int64) + w0)), .second, .val (.ref ca), .val (.int (8 : Int32)), .val (.int (1 : Int32)), .val (.long w1), .second] [(.long (((0 : Int64) + w0) + w1))]))
  refine Gl.st (fun t k => XS.lstoreN X1.here hx rfl (hb hby d3_31) rfl (l' := #[.val (.ref a1), .val (.long (((0 : Int64) + w0) + w1)), .second, .val (.ref ca), .val (.int (8 : Int32)), .val (.int (1 : Int32)), .val (.long w1), .second]) rfl k) ?_
  show Gl _ _ _ _ _ _ _ (T1.setTop (mkF m 32 #[.val (.ref a1), .val (.long (((0 : Int64) + w0) + w1)), .second, .val (.ref ca), .val (.int (8 : Int32)), .val (.int (1 : Int32)), .val (.long w1), .second] []))
  refine Gl.st (fun t k => XS.iinc X1.here hx rfl (hb hby d3_32) rfl (l' := #[.val (.ref a1), .val (.long (((0 : Int64) + w0) + w1)), .second, .val (.ref ca), .val (.int (8 : Int32)), .val (.int (2 : Int32)), .val (.long w1), .second]) rfl k) ?_
  show Gl _ _ _ _ _ _ _ (T1.setTop (mkF m 35 #[.val (.ref a1), .val (.long (((0 : Int64) + w0) + w1)), .second, .val (.ref ca), .val (.int (8 : Int32)), .val (.int (2 : Int32)), .val (.long w1), .second] []))
  refine Gl.st (fun t k => XS.goto X1.here hx rfl (pc0 := 35) (pc' := 14) rfl (hb hby d3_35) (by decide) (by decide) k) ?_
  show Gl _ _ _ _ _ _ _ (T1.setTop (mkF m 14 #[.val (.ref a1), .val (.long (((0 : Int64) + w0) + w1)), .second, .val (.ref ca), .val (.int (8 : Int32)), .val (.int (2 : Int32)), .val (.long w1), .second] []))
  refine Gl.st (fun t k => XS.iload X1.here hx rfl (hb hby d3_14) rfl  k) ?_
  show Gl _ _ _ _ _ _ _ (T1.setTop (mkF m 16 #[.val (.ref a1), .val (.long (((0 : Int64) + w0) + w1)), .second, .val (.ref ca), .val (.int (8 : Int32)), .val (.int (2 : Int32)), .val (.long w1), .second] [(.int (2 : Int32))]))
  refine Gl.st (fun t k => XS.iload X1.here hx rfl (hb hby d3_16) rfl  k) ?_
  show Gl _ _ _ _ _ _ _ (T1.setTop (mkF m 18 #[.val (.ref a1), .val (.long (((0 : Int64) + w0) + w1)), .second, .val (.ref ca), .val (.int (8 : Int32)), .val (.int (2 : Int32)), .val (.long w1), .second] [(.int (8 : Int32)), (.int (2 : Int32))]))
  refine Gl.st (fun t k => XS.icmpNo X1.here hx rfl (hb hby d3_18) rfl (tlt (by decide : (2 : Int32) < (8 : Int32))).2.1 k) ?_
  show Gl _ _ _ _ _ _ _ (T1.setTop (mkF m 21 #[.val (.ref a1), .val (.long (((0 : Int64) + w0) + w1)), .second, .val (.ref ca), .val (.int (8 : Int32)), .val (.int (2 : Int32)), .val (.long w1), .second] []))
  refine Gl.st (fun t k => XS.aloadN X1.here hx rfl (hb hby d3_21) rfl rfl k) ?_
  show Gl _ _ _ _ _ _ _ (T1.setTop (mkF m 22 #[.val (.ref a1), .val (.long (((0 : Int64) + w0) + w1)), .second, .val (.ref ca), .val (.int (8 : Int32)), .val (.int (2 : Int32)), .val (.long w1), .second] [(.ref ca)]))
  refine Gl.st (fun t k => XS.iload X1.here hx rfl (hb hby d3_22) rfl  k) ?_
  show Gl _ _ _ _ _ _ _ (T1.setTop (mkF m 24 #[.val (.ref a1), .val (.long (((0 : Int64) + w0) + w1)), .second, .val (.ref ca), .val (.int (8 : Int32)), .val (.int (2 : Int32)), .val (.long w1), .second] [(.int (2 : Int32)), (.ref ca)]))
  have Vx5 := Vc
  obtain ⟨cl5, Ar5, qk5, S5, M5, H5, G5⟩ := Vx5
  have hin5 : ¬ ((2 : Int32) < 0 ∨ cl5.slots.size ≤ ((2 : Int32)).toNatClampNeg) := inb_of S5 ⟨by decide, by decide⟩
  have hat5 : cl5.slots[((2 : Int32)).toNatClampNeg]? = some (.long w2) := H5.at hin5 rfl
  refine Gl.st (X1.laload hx (j := (2 : Int32)) (v := (.long w2)) (by rw [e1]; exact Ar5.1) (State.isArrayOf_alike hZ.alike Ar5.2.1) Ar5.2.2 hin5 hat5 (g := (mkF m 24 #[.val (.ref a1), .val (.long (((0 : Int64) + w0) + w1)), .second, .val (.ref ca), .val (.int (8 : Int32)), .val (.int (2 : Int32)), .val (.long w1), .second] [(.int (2 : Int32)), (.ref ca)])) rfl rfl (hb hby d3_24)) ?_
  show Gl _ _ _ _ _ _ _ (T1.setTop (mkF m 25 #[.val (.ref a1), .val (.long (((0 : Int64) + w0) + w1)), .second, .val (.ref ca), .val (.int (8 : Int32)), .val (.int (2 : Int32)), .val (.long w1), .second] [(.long w2)]))
  refine Gl.st (fun t k => XS.lstore X1.here hx rfl (hb hby d3_25) rfl (l' := #[.val (.ref a1), .val (.long (((0 : Int64) + w0) + w1)), .second, .val (.ref ca), .val (.int (8 : Int32)), .val (.int (2 : Int32)), .val (.long w2), .second]) rfl k) ?_
  show Gl _ _ _ _ _ _ _ (T1.setTop (mkF m 27 #[.val (.ref a1), .val (.long (((0 : Int64) + w0) + w1)), .second, .val (.ref ca), .val (.int (8 : Int32)), .val (.int (2 : Int32)), .val (.long w2), .second] []))
  refine Gl.st (fun t k => XS.lloadN X1.here hx rfl (hb hby d3_27) rfl  k) ?_
  show Gl _ _ _ _ _ _ _ (T1.setTop (mkF m 28 #[.val (.ref a1), .val (.long (((0 : Int64) + w0) + w1)), .second, .val (.ref ca), .val (.int (8 : Int32)), .val (.int (2 : Int32)), .val (.long w2), .second] [(.long (((0 : Int64) + w0) + w1))]))
  refine Gl.st (fun t k => XS.lload X1.here hx rfl (hb hby d3_28) rfl  k) ?_
  show Gl _ _ _ _ _ _ _ (T1.setTop (mkF m 30 #[.val (.ref a1), .val (.long (((0 : Int64) + w0) + w1)), .second, .val (.ref ca), .val (.int (8 : Int32)), .val (.int (2 : Int32)), .val (.long w2), .second] [(.long w2), (.long (((0 : Int64) + w0) + w1))]))
  refine Gl.st (fun t k => XS.ladd X1.here hx rfl (hb hby d3_30) rfl k) ?_
  show Gl _ _ _ _ _ _ _ (T1.setTop (mkF m 31 #[.val (.ref a1), .val (.long (((0 : Int64) + w0) + w1)), .second, .val (.ref ca), .val (.int (8 : Int32)), .val (.int (2 : Int32)), .val (.long w2), .second] [(.long ((((0 : Int64) + w0) + w1) + w2))]))
  refine Gl.st (fun t k => XS.lstoreN X1.here hx rfl (hb hby d3_31) rfl (l' := #[.val (.ref a1), .val (.long ((((0 : Int64) + w0) + w1) + w2)), .second, .val (.ref ca), .val (.int (8 : Int32)), .val (.int (2 : Int32)), .val (.long w2), .second]) rfl k) ?_
  show Gl _ _ _ _ _ _ _ (T1.setTop (mkF m 32 #[.val (.ref a1), .val (.long ((((0 : Int64) + w0) + w1) + w2)), .second, .val (.ref ca), .val (.int (8 : Int32)), .val (.int (2 : Int32)), .val (.long w2), .second] []))
  refine Gl.st (fun t k => XS.iinc X1.here hx rfl (hb hby d3_32) rfl (l' := #[.val (.ref a1), .val (.long ((((0 : Int64) + w0) + w1) + w2)), .second, .val (.ref ca), .val (.int (8 : Int32)), .val (.int (3 : Int32)), .val (.long w2), .second]) rfl k) ?_
  show Gl _ _ _ _ _ _ _ (T1.setTop (mkF m 35 #[.val (.ref a1), .val (.long ((((0 : Int64) + w0) + w1) + w2)), .second, .val (.ref ca), .val (.int (8 : Int32)), .val (.int (3 : Int32)), .val (.long w2), .second] []))
  refine Gl.st (fun t k => XS.goto X1.here hx rfl (pc0 := 35) (pc' := 14) rfl (hb hby d3_35) (by decide) (by decide) k) ?_
  show Gl _ _ _ _ _ _ _ (T1.setTop (mkF m 14 #[.val (.ref a1), .val (.long ((((0 : Int64) + w0) + w1) + w2)), .second, .val (.ref ca), .val (.int (8 : Int32)), .val (.int (3 : Int32)), .val (.long w2), .second] []))
  refine Gl.st (fun t k => XS.iload X1.here hx rfl (hb hby d3_14) rfl  k) ?_
  show Gl _ _ _ _ _ _ _ (T1.setTop (mkF m 16 #[.val (.ref a1), .val (.long ((((0 : Int64) + w0) + w1) + w2)), .second, .val (.ref ca), .val (.int (8 : Int32)), .val (.int (3 : Int32)), .val (.long w2), .second] [(.int (3 : Int32))]))
  refine Gl.st (fun t k => XS.iload X1.here hx rfl (hb hby d3_16) rfl  k) ?_
  show Gl _ _ _ _ _ _ _ (T1.setTop (mkF m 18 #[.val (.ref a1), .val (.long ((((0 : Int64) + w0) + w1) + w2)), .second, .val (.ref ca), .val (.int (8 : Int32)), .val (.int (3 : Int32)), .val (.long w2), .second] [(.int (8 : Int32)), (.int (3 : Int32))]))
  refine Gl.st (fun t k => XS.icmpNo X1.here hx rfl (hb hby d3_18) rfl (tlt (by decide : (3 : Int32) < (8 : Int32))).2.1 k) ?_
  show Gl _ _ _ _ _ _ _ (T1.setTop (mkF m 21 #[.val (.ref a1), .val (.long ((((0 : Int64) + w0) + w1) + w2)), .second, .val (.ref ca), .val (.int (8 : Int32)), .val (.int (3 : Int32)), .val (.long w2), .second] []))
  refine Gl.st (fun t k => XS.aloadN X1.here hx rfl (hb hby d3_21) rfl rfl k) ?_
  show Gl _ _ _ _ _ _ _ (T1.setTop (mkF m 22 #[.val (.ref a1), .val (.long ((((0 : Int64) + w0) + w1) + w2)), .second, .val (.ref ca), .val (.int (8 : Int32)), .val (.int (3 : Int32)), .val (.long w2), .second] [(.ref ca)]))
  refine Gl.st (fun t k => XS.iload X1.here hx rfl (hb hby d3_22) rfl  k) ?_
  show Gl _ _ _ _ _ _ _ (T1.setTop (mkF m 24 #[.val (.ref a1), .val (.long ((((0 : Int64) + w0) + w1) + w2)), .second, .val (.ref ca), .val (.int (8 : Int32)), .val (.int (3 : Int32)), .val (.long w2), .second] [(.int (3 : Int32)), (.ref ca)]))
  have Vx6 := Vc
  obtain ⟨cl6, Ar6, qk6, S6, M6, H6, G6⟩ := Vx6
  have hin6 : ¬ ((3 : Int32) < 0 ∨ cl6.slots.size ≤ ((3 : Int32)).toNatClampNeg) := inb_of S6 ⟨by decide, by decide⟩
  have hat6 : cl6.slots[((3 : Int32)).toNatClampNeg]? = some (.long w3) := H6.at hin6 rfl
  refine Gl.st (X1.laload hx (j := (3 : Int32)) (v := (.long w3)) (by rw [e1]; exact Ar6.1) (State.isArrayOf_alike hZ.alike Ar6.2.1) Ar6.2.2 hin6 hat6 (g := (mkF m 24 #[.val (.ref a1), .val (.long ((((0 : Int64) + w0) + w1) + w2)), .second, .val (.ref ca), .val (.int (8 : Int32)), .val (.int (3 : Int32)), .val (.long w2), .second] [(.int (3 : Int32)), (.ref ca)])) rfl rfl (hb hby d3_24)) ?_
  show Gl _ _ _ _ _ _ _ (T1.setTop (mkF m 25 #[.val (.ref a1), .val (.long ((((0 : Int64) + w0) + w1) + w2)), .second, .val (.ref ca), .val (.int (8 : Int32)), .val (.int (3 : Int32)), .val (.long w2), .second] [(.long w3)]))
  refine Gl.st (fun t k => XS.lstore X1.here hx rfl (hb hby d3_25) rfl (l' := #[.val (.ref a1), .val (.long ((((0 : Int64) + w0) + w1) + w2)), .second, .val (.ref ca), .val (.int (8 : Int32)), .val (.int (3 : Int32)), .val (.long w3), .second]) rfl k) ?_
  show Gl _ _ _ _ _ _ _ (T1.setTop (mkF m 27 #[.val (.ref a1), .val (.long ((((0 : Int64) + w0) + w1) + w2)), .second, .val (.ref ca), .val (.int (8 : Int32)), .val (.int (3 : Int32)), .val (.long w3), .second] []))
  refine Gl.st (fun t k => XS.lloadN X1.here hx rfl (hb hby d3_27) rfl  k) ?_
  show Gl _ _ _ _ _ _ _ (T1.setTop (mkF m 28 #[.val (.ref a1), .val (.long ((((0 : Int64) + w0) + w1) + w2)), .second, .val (.ref ca), .val (.int (8 : Int32)), .val (.int (3 : Int32)), .val (.long w3), .second] [(.long ((((0 : Int64) + w0) + w1) + w2))]))
  refine Gl.st (fun t k => XS.lload X1.here hx rfl (hb hby d3_28) rfl  k) ?_
  show Gl _ _ _ _ _ _ _ (T1.setTop (mkF m 30 #[.val (.ref a1), .val (.long ((((0 : Int64) + w0) + w1) + w2)), .second, .val (.ref ca), .val (.int (8 : Int32)), .val (.int (3 : Int32)), .val (.long w3), .second] [(.long w3), (.long ((((0 : Int64) + w0) + w1) + w2))]))
  refine Gl.st (fun t k => XS.ladd X1.here hx rfl (hb hby d3_30) rfl k) ?_
  show Gl _ _ _ _ _ _ _ (T1.setTop (mkF m 31 #[.val (.ref a1), .val (.long ((((0 : Int64) + w0) + w1) + w2)), .second, .val (.ref ca), .val (.int (8 : Int32)), .val (.int (3 : Int32)), .val (.long w3), .second] [(.long (((((0 : Int64) + w0) + w1) + w2) + w3))]))
  refine Gl.st (fun t k => XS.lstoreN X1.here hx rfl (hb hby d3_31) rfl (l' := #[.val (.ref a1), .val (.long (((((0 : Int64) + w0) + w1) + w2) + w3)), .second, .val (.ref ca), .val (.int (8 : Int32)), .val (.int (3 : Int32)), .val (.long w3), .second]) rfl k) ?_
  show Gl _ _ _ _ _ _ _ (T1.setTop (mkF m 32 #[.val (.ref a1), .val (.long (((((0 : Int64) + w0) + w1) + w2) + w3)), .second, .val (.ref ca), .val (.int (8 : Int32)), .val (.int (3 : Int32)), .val (.long w3), .second] []))
  refine Gl.st (fun t k => XS.iinc X1.here hx rfl (hb hby d3_32) rfl (l' := #[.val (.ref a1), .val (.long (((((0 : Int64) + w0) + w1) + w2) + w3)), .second, .val (.ref ca), .val (.int (8 : Int32)), .val (.int (4 : Int32)), .val (.long w3), .second]) rfl k) ?_
  show Gl _ _ _ _ _ _ _ (T1.setTop (mkF m 35 #[.val (.ref a1), .val (.long (((((0 : Int64) + w0) + w1) + w2) + w3)), .second, .val (.ref ca), .val (.int (8 : Int32)), .val (.int (4 : Int32)), .val (.long w3), .second] []))
  refine Gl.st (fun t k => XS.goto X1.here hx rfl (pc0 := 35) (pc' := 14) rfl (hb hby d3_35) (by decide) (by decide) k) ?_
  show Gl _ _ _ _ _ _ _ (T1.setTop (mkF m 14 #[.val (.ref a1), .val (.long (((((0 : Int64) + w0) + w1) + w2) + w3)), .second, .val (.ref ca), .val (.int (8 : Int32)), .val (.int (4 : Int32)), .val (.long w3), .second] []))
  refine Gl.st (fun t k => XS.iload X1.here hx rfl (hb hby d3_14) rfl  k) ?_
  show Gl _ _ _ _ _ _ _ (T1.setTop (mkF m 16 #[.val (.ref a1), .val (.long (((((0 : Int64) + w0) + w1) + w2) + w3)), .second, .val (.ref ca), .val (.int (8 : Int32)), .val (.int (4 : Int32)), .val (.long w3), .second] [(.int (4 : Int32))]))
  refine Gl.st (fun t k => XS.iload X1.here hx rfl (hb hby d3_16) rfl  k) ?_
  show Gl _ _ _ _ _ _ _ (T1.setTop (mkF m 18 #[.val (.ref a1), .val (.long (((((0 : Int64) + w0) + w1) + w2) + w3)), .second, .val (.ref ca), .val (.int (8 : Int32)), .val (.int (4 : Int32)), .val (.long w3), .second] [(.int (8 : Int32)), (.int (4 : Int32))]))
  refine Gl.st (fun t k => XS.icmpNo X1.here hx rfl (hb hby d3_18) rfl (tlt (by decide : (4 : Int32) < (8 : Int32))).2.1 k) ?_
  show Gl _ _ _ _ _ _ _ (T1.setTop (mkF m 21 #[.val (.ref a1), .val (.long (((((0 : Int64) + w0) + w1) + w2) + w3)), .second, .val (.ref ca), .val (.int (8 : Int32)), .val (.int (4 : Int32)), .val (.long w3), .second] []))
  refine Gl.st (fun t k => XS.aloadN X1.here hx rfl (hb hby d3_21) rfl rfl k) ?_
  show Gl _ _ _ _ _ _ _ (T1.setTop (mkF m 22 #[.val (.ref a1), .val (.long (((((0 : Int64) + w0) + w1) + w2) + w3)), .second, .val (.ref ca), .val (.int (8 : Int32)), .val (.int (4 : Int32)), .val (.long w3), .second] [(.ref ca)]))
  refine Gl.st (fun t k => XS.iload X1.here hx rfl (hb hby d3_22) rfl  k) ?_
  show Gl _ _ _ _ _ _ _ (T1.setTop (mkF m 24 #[.val (.ref a1), .val (.long (((((0 : Int64) + w0) + w1) + w2) + w3)), .second, .val (.ref ca), .val (.int (8 : Int32)), .val (.int (4 : Int32)), .val (.long w3), .second] [(.int (4 : Int32)), (.ref ca)]))
  have Vx7 := Vc
  obtain ⟨cl7, Ar7, qk7, S7, M7, H7, G7⟩ := Vx7
  have hin7 : ¬ ((4 : Int32) < 0 ∨ cl7.slots.size ≤ ((4 : Int32)).toNatClampNeg) := inb_of S7 ⟨by decide, by decide⟩
  have hat7 : cl7.slots[((4 : Int32)).toNatClampNeg]? = some (.long w4) := H7.at hin7 rfl
  refine Gl.st (X1.laload hx (j := (4 : Int32)) (v := (.long w4)) (by rw [e1]; exact Ar7.1) (State.isArrayOf_alike hZ.alike Ar7.2.1) Ar7.2.2 hin7 hat7 (g := (mkF m 24 #[.val (.ref a1), .val (.long (((((0 : Int64) + w0) + w1) + w2) + w3)), .second, .val (.ref ca), .val (.int (8 : Int32)), .val (.int (4 : Int32)), .val (.long w3), .second] [(.int (4 : Int32)), (.ref ca)])) rfl rfl (hb hby d3_24)) ?_
  show Gl _ _ _ _ _ _ _ (T1.setTop (mkF m 25 #[.val (.ref a1), .val (.long (((((0 : Int64) + w0) + w1) + w2) + w3)), .second, .val (.ref ca), .val (.int (8 : Int32)), .val (.int (4 : Int32)), .val (.long w3), .second] [(.long w4)]))
  refine Gl.st (fun t k => XS.lstore X1.here hx rfl (hb hby d3_25) rfl (l' := #[.val (.ref a1), .val (.long (((((0 : Int64) + w0) + w1) + w2) + w3)), .second, .val (.ref ca), .val (.int (8 : Int32)), .val (.int (4 : Int32)), .val (.long w4), .second]) rfl k) ?_
  show Gl _ _ _ _ _ _ _ (T1.setTop (mkF m 27 #[.val (.ref a1), .val (.long (((((0 : Int64) + w0) + w1) + w2) + w3)), .second, .val (.ref ca), .val (.int (8 : Int32)), .val (.int (4 : Int32)), .val (.long w4), .second] []))
  refine Gl.st (fun t k => XS.lloadN X1.here hx rfl (hb hby d3_27) rfl  k) ?_
  show Gl _ _ _ _ _ _ _ (T1.setTop (mkF m 28 #[.val (.ref a1), .val (.long (((((0 : Int64) + w0) + w1) + w2) + w3)), .second, .val (.ref ca), .val (.int (8 : Int32)), .val (.int (4 : Int32)), .val (.long w4), .second] [(.long (((((0 : Int64) + w0) + w1) + w2) + w3))]))
  refine Gl.st (fun t k => XS.lload X1.here hx rfl (hb hby d3_28) rfl  k) ?_
  show Gl _ _ _ _ _ _ _ (T1.setTop (mkF m 30 #[.val (.ref a1), .val (.long (((((0 : Int64) + w0) + w1) + w2) + w3)), .second, .val (.ref ca), .val (.int (8 : Int32)), .val (.int (4 : Int32)), .val (.long w4), .second] [(.long w4), (.long (((((0 : Int64) + w0) + w1) + w2) + w3))]))
  refine Gl.st (fun t k => XS.ladd X1.here hx rfl (hb hby d3_30) rfl k) ?_
  show Gl _ _ _ _ _ _ _ (T1.setTop (mkF m 31 #[.val (.ref a1), .val (.long (((((0 : Int64) + w0) + w1) + w2) + w3)), .second, .val (.ref ca), .val (.int (8 : Int32)), .val (.int (4 : Int32)), .val (.long w4), .second] [(.long ((((((0 : Int64) + w0) + w1) + w2) + w3) + w4))]))
  refine Gl.st (fun t k => XS.lstoreN X1.here hx rfl (hb hby d3_31) rfl (l' := #[.val (.ref a1), .val (.long ((((((0 : Int64) + w0) + w1) + w2) + w3) + w4)), .second, .val (.ref ca), .val (.int (8 : Int32)), .val (.int (4 : Int32)), .val (.long w4), .second]) rfl k) ?_
  show Gl _ _ _ _ _ _ _ (T1.setTop (mkF m 32 #[.val (.ref a1), .val (.long ((((((0 : Int64) + w0) + w1) + w2) + w3) + w4)), .second, .val (.ref ca), .val (.int (8 : Int32)), .val (.int (4 : Int32)), .val (.long w4), .second] []))
  refine Gl.st (fun t k => XS.iinc X1.here hx rfl (hb hby d3_32) rfl (l' := #[.val (.ref a1), .val (.long ((((((0 : Int64) + w0) + w1) + w2) + w3) + w4)), .second, .val (.ref ca), .val (.int (8 : Int32)), .val (.int (5 : Int32)), .val (.long w4), .second]) rfl k) ?_
  show Gl _ _ _ _ _ _ _ (T1.setTop (mkF m 35 #[.val (.ref a1), .val (.long ((((((0 : Int64) + w0) + w1) + w2) + w3) + w4)), .second, .val (.ref ca), .val (.int (8 : Int32)), .val (.int (5 : Int32)), .val (.long w4), .second] []))
  refine Gl.st (fun t k => XS.goto X1.here hx rfl (pc0 := 35) (pc' := 14) rfl (hb hby d3_35) (by decide) (by decide) k) ?_
  show Gl _ _ _ _ _ _ _ (T1.setTop (mkF m 14 #[.val (.ref a1), .val (.long ((((((0 : Int64) + w0) + w1) + w2) + w3) + w4)), .second, .val (.ref ca), .val (.int (8 : Int32)), .val (.int (5 : Int32)), .val (.long w4), .second] []))
  refine Gl.st (fun t k => XS.iload X1.here hx rfl (hb hby d3_14) rfl  k) ?_
  show Gl _ _ _ _ _ _ _ (T1.setTop (mkF m 16 #[.val (.ref a1), .val (.long ((((((0 : Int64) + w0) + w1) + w2) + w3) + w4)), .second, .val (.ref ca), .val (.int (8 : Int32)), .val (.int (5 : Int32)), .val (.long w4), .second] [(.int (5 : Int32))]))
  refine Gl.st (fun t k => XS.iload X1.here hx rfl (hb hby d3_16) rfl  k) ?_
  show Gl _ _ _ _ _ _ _ (T1.setTop (mkF m 18 #[.val (.ref a1), .val (.long ((((((0 : Int64) + w0) + w1) + w2) + w3) + w4)), .second, .val (.ref ca), .val (.int (8 : Int32)), .val (.int (5 : Int32)), .val (.long w4), .second] [(.int (8 : Int32)), (.int (5 : Int32))]))
  refine Gl.st (fun t k => XS.icmpNo X1.here hx rfl (hb hby d3_18) rfl (tlt (by decide : (5 : Int32) < (8 : Int32))).2.1 k) ?_
  show Gl _ _ _ _ _ _ _ (T1.setTop (mkF m 21 #[.val (.ref a1), .val (.long ((((((0 : Int64) + w0) + w1) + w2) + w3) + w4)), .second, .val (.ref ca), .val (.int (8 : Int32)), .val (.int (5 : Int32)), .val (.long w4), .second] []))
  refine Gl.st (fun t k => XS.aloadN X1.here hx rfl (hb hby d3_21) rfl rfl k) ?_
  show Gl _ _ _ _ _ _ _ (T1.setTop (mkF m 22 #[.val (.ref a1), .val (.long ((((((0 : Int64) + w0) + w1) + w2) + w3) + w4)), .second, .val (.ref ca), .val (.int (8 : Int32)), .val (.int (5 : Int32)), .val (.long w4), .second] [(.ref ca)]))
  refine Gl.st (fun t k => XS.iload X1.here hx rfl (hb hby d3_22) rfl  k) ?_
  show Gl _ _ _ _ _ _ _ (T1.setTop (mkF m 24 #[.val (.ref a1), .val (.long ((((((0 : Int64) + w0) + w1) + w2) + w3) + w4)), .second, .val (.ref ca), .val (.int (8 : Int32)), .val (.int (5 : Int32)), .val (.long w4), .second] [(.int (5 : Int32)), (.ref ca)]))
  have Vx8 := Vc
  obtain ⟨cl8, Ar8, qk8, S8, M8, H8, G8⟩ := Vx8
  have hin8 : ¬ ((5 : Int32) < 0 ∨ cl8.slots.size ≤ ((5 : Int32)).toNatClampNeg) := inb_of S8 ⟨by decide, by decide⟩
  have hat8 : cl8.slots[((5 : Int32)).toNatClampNeg]? = some (.long w5) := H8.at hin8 rfl
  refine Gl.st (X1.laload hx (j := (5 : Int32)) (v := (.long w5)) (by rw [e1]; exact Ar8.1) (State.isArrayOf_alike hZ.alike Ar8.2.1) Ar8.2.2 hin8 hat8 (g := (mkF m 24 #[.val (.ref a1), .val (.long ((((((0 : Int64) + w0) + w1) + w2) + w3) + w4)), .second, .val (.ref ca), .val (.int (8 : Int32)), .val (.int (5 : Int32)), .val (.long w4), .second] [(.int (5 : Int32)), (.ref ca)])) rfl rfl (hb hby d3_24)) ?_
  show Gl _ _ _ _ _ _ _ (T1.setTop (mkF m 25 #[.val (.ref a1), .val (.long ((((((0 : Int64) + w0) + w1) + w2) + w3) + w4)), .second, .val (.ref ca), .val (.int (8 : Int32)), .val (.int (5 : Int32)), .val (.long w4), .second] [(.long w5)]))
  refine Gl.st (fun t k => XS.lstore X1.here hx rfl (hb hby d3_25) rfl (l' := #[.val (.ref a1), .val (.long ((((((0 : Int64) + w0) + w1) + w2) + w3) + w4)), .second, .val (.ref ca), .val (.int (8 : Int32)), .val (.int (5 : Int32)), .val (.long w5), .second]) rfl k) ?_
  show Gl _ _ _ _ _ _ _ (T1.setTop (mkF m 27 #[.val (.ref a1), .val (.long ((((((0 : Int64) + w0) + w1) + w2) + w3) + w4)), .second, .val (.ref ca), .val (.int (8 : Int32)), .val (.int (5 : Int32)), .val (.long w5), .second] []))
  refine Gl.st (fun t k => XS.lloadN X1.here hx rfl (hb hby d3_27) rfl  k) ?_
  show Gl _ _ _ _ _ _ _ (T1.setTop (mkF m 28 #[.val (.ref a1), .val (.long ((((((0 : Int64) + w0) + w1) + w2) + w3) + w4)), .second, .val (.ref ca), .val (.int (8 : Int32)), .val (.int (5 : Int32)), .val (.long w5), .second] [(.long ((((((0 : Int64) + w0) + w1) + w2) + w3) + w4))]))
  refine Gl.st (fun t k => XS.lload X1.here hx rfl (hb hby d3_28) rfl  k) ?_
  show Gl _ _ _ _ _ _ _ (T1.setTop (mkF m 30 #[.val (.ref a1), .val (.long ((((((0 : Int64) + w0) + w1) + w2) + w3) + w4)), .second, .val (.ref ca), .val (.int (8 : Int32)), .val (.int (5 : Int32)), .val (.long w5), .second] [(.long w5), (.long ((((((0 : Int64) + w0) + w1) + w2) + w3) + w4))]))
  refine Gl.st (fun t k => XS.ladd X1.here hx rfl (hb hby d3_30) rfl k) ?_
  show Gl _ _ _ _ _ _ _ (T1.setTop (mkF m 31 #[.val (.ref a1), .val (.long ((((((0 : Int64) + w0) + w1) + w2) + w3) + w4)), .second, .val (.ref ca), .val (.int (8 : Int32)), .val (.int (5 : Int32)), .val (.long w5), .second] [(.long (((((((0 : Int64) + w0) + w1) + w2) + w3) + w4) + w5))]))
  refine Gl.st (fun t k => XS.lstoreN X1.here hx rfl (hb hby d3_31) rfl (l' := #[.val (.ref a1), .val (.long (((((((0 : Int64) + w0) + w1) + w2) + w3) + w4) + w5)), .second, .val (.ref ca), .val (.int (8 : Int32)), .val (.int (5 : Int32)), .val (.long w5), .second]) rfl k) ?_
  show Gl _ _ _ _ _ _ _ (T1.setTop (mkF m 32 #[.val (.ref a1), .val (.long (((((((0 : Int64) + w0) + w1) + w2) + w3) + w4) + w5)), .second, .val (.ref ca), .val (.int (8 : Int32)), .val (.int (5 : Int32)), .val (.long w5), .second] []))
  refine Gl.st (fun t k => XS.iinc X1.here hx rfl (hb hby d3_32) rfl (l' := #[.val (.ref a1), .val (.long (((((((0 : Int64) + w0) + w1) + w2) + w3) + w4) + w5)), .second, .val (.ref ca), .val (.int (8 : Int32)), .val (.int (6 : Int32)), .val (.long w5), .second]) rfl k) ?_
  show Gl _ _ _ _ _ _ _ (T1.setTop (mkF m 35 #[.val (.ref a1), .val (.long (((((((0 : Int64) + w0) + w1) + w2) + w3) + w4) + w5)), .second, .val (.ref ca), .val (.int (8 : Int32)), .val (.int (6 : Int32)), .val (.long w5), .second] []))
  refine Gl.st (fun t k => XS.goto X1.here hx rfl (pc0 := 35) (pc' := 14) rfl (hb hby d3_35) (by decide) (by decide) k) ?_
  show Gl _ _ _ _ _ _ _ (T1.setTop (mkF m 14 #[.val (.ref a1), .val (.long (((((((0 : Int64) + w0) + w1) + w2) + w3) + w4) + w5)), .second, .val (.ref ca), .val (.int (8 : Int32)), .val (.int (6 : Int32)), .val (.long w5), .second] []))
  refine Gl.st (fun t k => XS.iload X1.here hx rfl (hb hby d3_14) rfl  k) ?_
  show Gl _ _ _ _ _ _ _ (T1.setTop (mkF m 16 #[.val (.ref a1), .val (.long (((((((0 : Int64) + w0) + w1) + w2) + w3) + w4) + w5)), .second, .val (.ref ca), .val (.int (8 : Int32)), .val (.int (6 : Int32)), .val (.long w5), .second] [(.int (6 : Int32))]))
  refine Gl.st (fun t k => XS.iload X1.here hx rfl (hb hby d3_16) rfl  k) ?_
  show Gl _ _ _ _ _ _ _ (T1.setTop (mkF m 18 #[.val (.ref a1), .val (.long (((((((0 : Int64) + w0) + w1) + w2) + w3) + w4) + w5)), .second, .val (.ref ca), .val (.int (8 : Int32)), .val (.int (6 : Int32)), .val (.long w5), .second] [(.int (8 : Int32)), (.int (6 : Int32))]))
  refine Gl.st (fun t k => XS.icmpNo X1.here hx rfl (hb hby d3_18) rfl (tlt (by decide : (6 : Int32) < (8 : Int32))).2.1 k) ?_
  show Gl _ _ _ _ _ _ _ (T1.setTop (mkF m 21 #[.val (.ref a1), .val (.long (((((((0 : Int64) + w0) + w1) + w2) + w3) + w4) + w5)), .second, .val (.ref ca), .val (.int (8 : Int32)), .val (.int (6 : Int32)), .val (.long w5), .second] []))
  refine Gl.st (fun t k => XS.aloadN X1.here hx rfl (hb hby d3_21) rfl rfl k) ?_
  show Gl _ _ _ _ _ _ _ (T1.setTop (mkF m 22 #[.val (.ref a1), .val (.long (((((((0 : Int64) + w0) + w1) + w2) + w3) + w4) + w5)), .second, .val (.ref ca), .val (.int (8 : Int32)), .val (.int (6 : Int32)), .val (.long w5), .second] [(.ref ca)]))
  refine Gl.st (fun t k => XS.iload X1.here hx rfl (hb hby d3_22) rfl  k) ?_
  show Gl _ _ _ _ _ _ _ (T1.setTop (mkF m 24 #[.val (.ref a1), .val (.long (((((((0 : Int64) + w0) + w1) + w2) + w3) + w4) + w5)), .second, .val (.ref ca), .val (.int (8 : Int32)), .val (.int (6 : Int32)), .val (.long w5), .second] [(.int (6 : Int32)), (.ref ca)]))
  have Vx9 := Vc
  obtain ⟨cl9, Ar9, qk9, S9, M9, H9, G9⟩ := Vx9
  have hin9 : ¬ ((6 : Int32) < 0 ∨ cl9.slots.size ≤ ((6 : Int32)).toNatClampNeg) := inb_of S9 ⟨by decide, by decide⟩
  have hat9 : cl9.slots[((6 : Int32)).toNatClampNeg]? = some (.long w6) := H9.at hin9 rfl
  refine Gl.st (X1.laload hx (j := (6 : Int32)) (v := (.long w6)) (by rw [e1]; exact Ar9.1) (State.isArrayOf_alike hZ.alike Ar9.2.1) Ar9.2.2 hin9 hat9 (g := (mkF m 24 #[.val (.ref a1), .val (.long (((((((0 : Int64) + w0) + w1) + w2) + w3) + w4) + w5)), .second, .val (.ref ca), .val (.int (8 : Int32)), .val (.int (6 : Int32)), .val (.long w5), .second] [(.int (6 : Int32)), (.ref ca)])) rfl rfl (hb hby d3_24)) ?_
  show Gl _ _ _ _ _ _ _ (T1.setTop (mkF m 25 #[.val (.ref a1), .val (.long (((((((0 : Int64) + w0) + w1) + w2) + w3) + w4) + w5)), .second, .val (.ref ca), .val (.int (8 : Int32)), .val (.int (6 : Int32)), .val (.long w5), .second] [(.long w6)]))
  refine Gl.st (fun t k => XS.lstore X1.here hx rfl (hb hby d3_25) rfl (l' := #[.val (.ref a1), .val (.long (((((((0 : Int64) + w0) + w1) + w2) + w3) + w4) + w5)), .second, .val (.ref ca), .val (.int (8 : Int32)), .val (.int (6 : Int32)), .val (.long w6), .second]) rfl k) ?_
  show Gl _ _ _ _ _ _ _ (T1.setTop (mkF m 27 #[.val (.ref a1), .val (.long (((((((0 : Int64) + w0) + w1) + w2) + w3) + w4) + w5)), .second, .val (.ref ca), .val (.int (8 : Int32)), .val (.int (6 : Int32)), .val (.long w6), .second] []))
  refine Gl.st (fun t k => XS.lloadN X1.here hx rfl (hb hby d3_27) rfl  k) ?_
  show Gl _ _ _ _ _ _ _ (T1.setTop (mkF m 28 #[.val (.ref a1), .val (.long (((((((0 : Int64) + w0) + w1) + w2) + w3) + w4) + w5)), .second, .val (.ref ca), .val (.int (8 : Int32)), .val (.int (6 : Int32)), .val (.long w6), .second] [(.long (((((((0 : Int64) + w0) + w1) + w2) + w3) + w4) + w5))]))
  refine Gl.st (fun t k => XS.lload X1.here hx rfl (hb hby d3_28) rfl  k) ?_
  show Gl _ _ _ _ _ _ _ (T1.setTop (mkF m 30 #[.val (.ref a1), .val (.long (((((((0 : Int64) + w0) + w1) + w2) + w3) + w4) + w5)), .second, .val (.ref ca), .val (.int (8 : Int32)), .val (.int (6 : Int32)), .val (.long w6), .second] [(.long w6), (.long (((((((0 : Int64) + w0) + w1) + w2) + w3) + w4) + w5))]))
  refine Gl.st (fun t k => XS.ladd X1.here hx rfl (hb hby d3_30) rfl k) ?_
  show Gl _ _ _ _ _ _ _ (T1.setTop (mkF m 31 #[.val (.ref a1), .val (.long (((((((0 : Int64) + w0) + w1) + w2) + w3) + w4) + w5)), .second, .val (.ref ca), .val (.int (8 : Int32)), .val (.int (6 : Int32)), .val (.long w6), .second] [(.long ((((((((0 : Int64) + w0) + w1) + w2) + w3) + w4) + w5) + w6))]))
  refine Gl.st (fun t k => XS.lstoreN X1.here hx rfl (hb hby d3_31) rfl (l' := #[.val (.ref a1), .val (.long ((((((((0 : Int64) + w0) + w1) + w2) + w3) + w4) + w5) + w6)), .second, .val (.ref ca), .val (.int (8 : Int32)), .val (.int (6 : Int32)), .val (.long w6), .second]) rfl k) ?_
  show Gl _ _ _ _ _ _ _ (T1.setTop (mkF m 32 #[.val (.ref a1), .val (.long ((((((((0 : Int64) + w0) + w1) + w2) + w3) + w4) + w5) + w6)), .second, .val (.ref ca), .val (.int (8 : Int32)), .val (.int (6 : Int32)), .val (.long w6), .second] []))
  refine Gl.st (fun t k => XS.iinc X1.here hx rfl (hb hby d3_32) rfl (l' := #[.val (.ref a1), .val (.long ((((((((0 : Int64) + w0) + w1) + w2) + w3) + w4) + w5) + w6)), .second, .val (.ref ca), .val (.int (8 : Int32)), .val (.int (7 : Int32)), .val (.long w6), .second]) rfl k) ?_
  show Gl _ _ _ _ _ _ _ (T1.setTop (mkF m 35 #[.val (.ref a1), .val (.long ((((((((0 : Int64) + w0) + w1) + w2) + w3) + w4) + w5) + w6)), .second, .val (.ref ca), .val (.int (8 : Int32)), .val (.int (7 : Int32)), .val (.long w6), .second] []))
  refine Gl.st (fun t k => XS.goto X1.here hx rfl (pc0 := 35) (pc' := 14) rfl (hb hby d3_35) (by decide) (by decide) k) ?_
  show Gl _ _ _ _ _ _ _ (T1.setTop (mkF m 14 #[.val (.ref a1), .val (.long ((((((((0 : Int64) + w0) + w1) + w2) + w3) + w4) + w5) + w6)), .second, .val (.ref ca), .val (.int (8 : Int32)), .val (.int (7 : Int32)), .val (.long w6), .second] []))
  refine Gl.st (fun t k => XS.iload X1.here hx rfl (hb hby d3_14) rfl  k) ?_
  show Gl _ _ _ _ _ _ _ (T1.setTop (mkF m 16 #[.val (.ref a1), .val (.long ((((((((0 : Int64) + w0) + w1) + w2) + w3) + w4) + w5) + w6)), .second, .val (.ref ca), .val (.int (8 : Int32)), .val (.int (7 : Int32)), .val (.long w6), .second] [(.int (7 : Int32))]))
  refine Gl.st (fun t k => XS.iload X1.here hx rfl (hb hby d3_16) rfl  k) ?_
  show Gl _ _ _ _ _ _ _ (T1.setTop (mkF m 18 #[.val (.ref a1), .val (.long ((((((((0 : Int64) + w0) + w1) + w2) + w3) + w4) + w5) + w6)), .second, .val (.ref ca), .val (.int (8 : Int32)), .val (.int (7 : Int32)), .val (.long w6), .second] [(.int (8 : Int32)), (.int (7 : Int32))]))
  refine Gl.st (fun t k => XS.icmpNo X1.here hx rfl (hb hby d3_18) rfl (tlt (by decide : (7 : Int32) < (8 : Int32))).2.1 k) ?_
  show Gl _ _ _ _ _ _ _ (T1.setTop (mkF m 21 #[.val (.ref a1), .val (.long ((((((((0 : Int64) + w0) + w1) + w2) + w3) + w4) + w5) + w6)), .second, .val (.ref ca), .val (.int (8 : Int32)), .val (.int (7 : Int32)), .val (.long w6), .second] []))
  refine Gl.st (fun t k => XS.aloadN X1.here hx rfl (hb hby d3_21) rfl rfl k) ?_
  show Gl _ _ _ _ _ _ _ (T1.setTop (mkF m 22 #[.val (.ref a1), .val (.long ((((((((0 : Int64) + w0) + w1) + w2) + w3) + w4) + w5) + w6)), .second, .val (.ref ca), .val (.int (8 : Int32)), .val (.int (7 : Int32)), .val (.long w6), .second] [(.ref ca)]))
  refine Gl.st (fun t k => XS.iload X1.here hx rfl (hb hby d3_22) rfl  k) ?_
  show Gl _ _ _ _ _ _ _ (T1.setTop (mkF m 24 #[.val (.ref a1), .val (.long ((((((((0 : Int64) + w0) + w1) + w2) + w3) + w4) + w5) + w6)), .second, .val (.ref ca), .val (.int (8 : Int32)), .val (.int (7 : Int32)), .val (.long w6), .second] [(.int (7 : Int32)), (.ref ca)]))
  have Vx10 := Vc
  obtain ⟨cl10, Ar10, qk10, S10, M10, H10, G10⟩ := Vx10
  have hin10 : ¬ ((7 : Int32) < 0 ∨ cl10.slots.size ≤ ((7 : Int32)).toNatClampNeg) := inb_of S10 ⟨by decide, by decide⟩
  have hat10 : cl10.slots[((7 : Int32)).toNatClampNeg]? = some (.long w7) := H10.at hin10 rfl
  refine Gl.st (X1.laload hx (j := (7 : Int32)) (v := (.long w7)) (by rw [e1]; exact Ar10.1) (State.isArrayOf_alike hZ.alike Ar10.2.1) Ar10.2.2 hin10 hat10 (g := (mkF m 24 #[.val (.ref a1), .val (.long ((((((((0 : Int64) + w0) + w1) + w2) + w3) + w4) + w5) + w6)), .second, .val (.ref ca), .val (.int (8 : Int32)), .val (.int (7 : Int32)), .val (.long w6), .second] [(.int (7 : Int32)), (.ref ca)])) rfl rfl (hb hby d3_24)) ?_
  show Gl _ _ _ _ _ _ _ (T1.setTop (mkF m 25 #[.val (.ref a1), .val (.long ((((((((0 : Int64) + w0) + w1) + w2) + w3) + w4) + w5) + w6)), .second, .val (.ref ca), .val (.int (8 : Int32)), .val (.int (7 : Int32)), .val (.long w6), .second] [(.long w7)]))
  refine Gl.st (fun t k => XS.lstore X1.here hx rfl (hb hby d3_25) rfl (l' := #[.val (.ref a1), .val (.long ((((((((0 : Int64) + w0) + w1) + w2) + w3) + w4) + w5) + w6)), .second, .val (.ref ca), .val (.int (8 : Int32)), .val (.int (7 : Int32)), .val (.long w7), .second]) rfl k) ?_
  show Gl _ _ _ _ _ _ _ (T1.setTop (mkF m 27 #[.val (.ref a1), .val (.long ((((((((0 : Int64) + w0) + w1) + w2) + w3) + w4) + w5) + w6)), .second, .val (.ref ca), .val (.int (8 : Int32)), .val (.int (7 : Int32)), .val (.long w7), .second] []))
  refine Gl.st (fun t k => XS.lloadN X1.here hx rfl (hb hby d3_27) rfl  k) ?_
  show Gl _ _ _ _ _ _ _ (T1.setTop (mkF m 28 #[.val (.ref a1), .val (.long ((((((((0 : Int64) + w0) + w1) + w2) + w3) + w4) + w5) + w6)), .second, .val (.ref ca), .val (.int (8 : Int32)), .val (.int (7 : Int32)), .val (.long w7), .second] [(.long ((((((((0 : Int64) + w0) + w1) + w2) + w3) + w4) + w5) + w6))]))
  refine Gl.st (fun t k => XS.lload X1.here hx rfl (hb hby d3_28) rfl  k) ?_
  show Gl _ _ _ _ _ _ _ (T1.setTop (mkF m 30 #[.val (.ref a1), .val (.long ((((((((0 : Int64) + w0) + w1) + w2) + w3) + w4) + w5) + w6)), .second, .val (.ref ca), .val (.int (8 : Int32)), .val (.int (7 : Int32)), .val (.long w7), .second] [(.long w7), (.long ((((((((0 : Int64) + w0) + w1) + w2) + w3) + w4) + w5) + w6))]))
  refine Gl.st (fun t k => XS.ladd X1.here hx rfl (hb hby d3_30) rfl k) ?_
  show Gl _ _ _ _ _ _ _ (T1.setTop (mkF m 31 #[.val (.ref a1), .val (.long ((((((((0 : Int64) + w0) + w1) + w2) + w3) + w4) + w5) + w6)), .second, .val (.ref ca), .val (.int (8 : Int32)), .val (.int (7 : Int32)), .val (.long w7), .second] [(.long (((((((((0 : Int64) + w0) + w1) + w2) + w3) + w4) + w5) + w6) + w7))]))
  refine Gl.st (fun t k => XS.lstoreN X1.here hx rfl (hb hby d3_31) rfl (l' := #[.val (.ref a1), .val (.long (((((((((0 : Int64) + w0) + w1) + w2) + w3) + w4) + w5) + w6) + w7)), .second, .val (.ref ca), .val (.int (8 : Int32)), .val (.int (7 : Int32)), .val (.long w7), .second]) rfl k) ?_
  show Gl _ _ _ _ _ _ _ (T1.setTop (mkF m 32 #[.val (.ref a1), .val (.long (((((((((0 : Int64) + w0) + w1) + w2) + w3) + w4) + w5) + w6) + w7)), .second, .val (.ref ca), .val (.int (8 : Int32)), .val (.int (7 : Int32)), .val (.long w7), .second] []))
  refine Gl.st (fun t k => XS.iinc X1.here hx rfl (hb hby d3_32) rfl (l' := #[.val (.ref a1), .val (.long (((((((((0 : Int64) + w0) + w1) + w2) + w3) + w4) + w5) + w6) + w7)), .second, .val (.ref ca), .val (.int (8 : Int32)), .val (.int (8 : Int32)), .val (.long w7), .second]) rfl k) ?_
  show Gl _ _ _ _ _ _ _ (T1.setTop (mkF m 35 #[.val (.ref a1), .val (.long (((((((((0 : Int64) + w0) + w1) + w2) + w3) + w4) + w5) + w6) + w7)), .second, .val (.ref ca), .val (.int (8 : Int32)), .val (.int (8 : Int32)), .val (.long w7), .second] []))
  refine Gl.st (fun t k => XS.goto X1.here hx rfl (pc0 := 35) (pc' := 14) rfl (hb hby d3_35) (by decide) (by decide) k) ?_
  show Gl _ _ _ _ _ _ _ (T1.setTop (mkF m 14 #[.val (.ref a1), .val (.long (((((((((0 : Int64) + w0) + w1) + w2) + w3) + w4) + w5) + w6) + w7)), .second, .val (.ref ca), .val (.int (8 : Int32)), .val (.int (8 : Int32)), .val (.long w7), .second] []))
  refine Gl.st (fun t k => XS.iload X1.here hx rfl (hb hby d3_14) rfl  k) ?_
  show Gl _ _ _ _ _ _ _ (T1.setTop (mkF m 16 #[.val (.ref a1), .val (.long (((((((((0 : Int64) + w0) + w1) + w2) + w3) + w4) + w5) + w6) + w7)), .second, .val (.ref ca), .val (.int (8 : Int32)), .val (.int (8 : Int32)), .val (.long w7), .second] [(.int (8 : Int32))]))
  refine Gl.st (fun t k => XS.iload X1.here hx rfl (hb hby d3_16) rfl  k) ?_
  show Gl _ _ _ _ _ _ _ (T1.setTop (mkF m 18 #[.val (.ref a1), .val (.long (((((((((0 : Int64) + w0) + w1) + w2) + w3) + w4) + w5) + w6) + w7)), .second, .val (.ref ca), .val (.int (8 : Int32)), .val (.int (8 : Int32)), .val (.long w7), .second] [(.int (8 : Int32)), (.int (8 : Int32))]))
  refine Gl.st (fun t k => XS.icmpYes X1.here hx rfl (pc0 := 18) (pc' := 38) rfl (hb hby d3_18) rfl (flt (by decide : ¬ ((8 : Int32) < (8 : Int32)))).2.1 (by decide) (by decide) k) ?_
  show Gl _ _ _ _ _ _ _ (T1.setTop (mkF m 38 #[.val (.ref a1), .val (.long (((((((((0 : Int64) + w0) + w1) + w2) + w3) + w4) + w5) + w6) + w7)), .second, .val (.ref ca), .val (.int (8 : Int32)), .val (.int (8 : Int32)), .val (.long w7), .second] []))
  refine Gl.st (fun t k => XS.lloadN X1.here hx rfl (hb hby d3_38) rfl  k) ?_
  show Gl _ _ _ _ _ _ _ (T1.setTop (mkF m 39 #[.val (.ref a1), .val (.long (((((((((0 : Int64) + w0) + w1) + w2) + w3) + w4) + w5) + w6) + w7)), .second, .val (.ref ca), .val (.int (8 : Int32)), .val (.int (8 : Int32)), .val (.long w7), .second] [(.long (((((((((0 : Int64) + w0) + w1) + w2) + w3) + w4) + w5) + w6) + w7))]))
  exact Gl.retJ X1 hx hlk Bd.returns (hb hby d3_39) (⟨congrArg (fun z => some (Value.long z)) (show (((((((((0 : Int64) + w0) + w1) + w2) + w3) + w4) + w5) + w6) + w7) = (own_attempts w0 w1 w2 w3 w4 w5 w6 w7) from by simp only [own_attempts]), N0, e1⟩) (by decide) (by decide)
theorem pf_2 : plainFor (⟨"com/example/wary_retry/waryretry/client/RetryFiguresRetryAttemptsPinLaw", "law", "(JJJJJJ)Z"⟩ : MethodName) = true := by decide +kernel
def Q0 (Z : State) (q1 : Int64) (q2 : Int64) (q3 : Int64) (q4 : Int64) (q5 : Int64) (q6 : Int64) (h0 : Heap) (n0 : Nat) (v : Option Value) (h : Heap) (L : List Loc) : Prop := v = some (.int 1) ∧ Fr n0 L
theorem ef_0 (m : MethodId) (q1 : Int64) (q2 : Int64) (q3 : Int64) (q4 : Int64) (q5 : Int64) (q6 : Int64) : entryFrame m #[(.long q1), (.long q2), (.long q3), (.long q4), (.long q5), (.long q6)] maxLocals = mkF m 0 #[.val (.long q1), .second, .val (.long q2), .second, .val (.long q3), .second, .val (.long q4), .second, .val (.long q5), .second, .val (.long q6), .second, .unset, .unset, .unset, .unset, .unset, .unset, .unset, .unset, .unset, .unset, .unset, .unset] [] := by first | (simp [entryFrame, mkF, argsToLocals, Value.category, maxLocals]; done) | rfl
theorem pd_0 : parseMethodDescriptor "(J[J)V" = some ⟨[.long, (.array .long)], none⟩ := by decide +kernel
theorem pd_1 : parseMethodDescriptor "()J" = some ⟨[], some .long⟩ := by decide +kernel
set_option maxRecDepth 65536 in
set_option maxHeartbeats 40000000 in
theorem rm0 (l : Launch) (Z : State) (a0 : Array Value) (hw : ∀ d ∈ tables_1, d.before a0 Z = true) (ws : List Jvm.Cond) (q1 : Int64) (q2 : Int64) (q3 : Int64) (q4 : Int64) (q5 : Int64) (q6 : Int64) (h0 : Heap) (n0 : Nat) (Z0 : n0 ≤ h0.size) :
    MetFree l x (head1 (Jvm.Cond.code x code maxLocals ret :: ws) room_1) (fun a U => a = #[(.long q1), (.long q2), (.long q3), (.long q4), (.long q5), (.long q6)] ∧ Z.Warmed39 U.vm ∧ U.heap = h0) (fun _ _ _ _ _ => True) (fun _ U o U' => ∃ v L, o = .returned v ∧ Q0 Z q1 q2 q3 q4 q5 q6 h0 n0 v U'.heap L ∧ FrameEnd U o U' L room_1.cells room_1.slots) := by
  refine MetFree.of_bodySF pf_2 hisR ?_
  intro p e s m args below meth c s₁ Bd hml0 hP hK
  obtain ⟨rfl, hZ, hh⟩ := hP
  have hx := Bd.exec
  have hby := Bd.bytes
  have hlk : meth.locks = false := BodyLoose.notSynchronized Bd
  have hml : c.maxLocals = 24 := hml0
  have hown : s.vm.findClass "com/example/wary_retry/waryretry/client/RetryFiguresRetryAttemptsPinLaw" = some m.cls := findClass_of_methodNamed Bd.named
  have hnm := (name_of_methodNamed Bd.named Bd.method).1
  have X0 : Stand p l e room_1 s m #[(.long q1), (.long q2), (.long q3), (.long q4), (.long q5), (.long q6)] below meth c s₁ [] 0 0 := Stand.of_body Bd
  have e0 : s₁.heap = h0 := by rw [← hh, Bd.state]; rfl
  have N0 := Fr.nil n0
  show Gl p e below s (Q0 Z q1 q2 q3 q4 q5 q6 h0 n0) room_1.cells room_1.slots (s₁.setTop (entryFrame m #[(.long q1), (.long q2), (.long q3), (.long q4), (.long q5), (.long q6)] maxLocals))
  rw [ef_0]
  show Gl _ _ _ _ _ _ _ (s₁.setTop (mkF m 0 #[.val (.long q1), .second, .val (.long q2), .second, .val (.long q3), .second, .val (.long q4), .second, .val (.long q5), .second, .val (.long q6), .second, .unset, .unset, .unset, .unset, .unset, .unset, .unset, .unset, .unset, .unset, .unset, .unset] []))
  refine Gl.st (fun t k => XS.lloadN X0.here hx rfl (hb hby at_0) rfl  k) ?_
  show Gl _ _ _ _ _ _ _ (s₁.setTop (mkF m 1 #[.val (.long q1), .second, .val (.long q2), .second, .val (.long q3), .second, .val (.long q4), .second, .val (.long q5), .second, .val (.long q6), .second, .unset, .unset, .unset, .unset, .unset, .unset, .unset, .unset, .unset, .unset, .unset, .unset] [(.long q1)]))
  refine Gl.st (fun t k => XS.lload X0.here hx rfl (hb hby at_1) rfl  k) ?_
  show Gl _ _ _ _ _ _ _ (s₁.setTop (mkF m 3 #[.val (.long q1), .second, .val (.long q2), .second, .val (.long q3), .second, .val (.long q4), .second, .val (.long q5), .second, .val (.long q6), .second, .unset, .unset, .unset, .unset, .unset, .unset, .unset, .unset, .unset, .unset, .unset, .unset] [(.long q6), (.long q1)]))
  refine Gl.st (fun t k => XS.lxor X0.here hx rfl (hb hby at_3) rfl k) ?_
  show Gl _ _ _ _ _ _ _ (s₁.setTop (mkF m 4 #[.val (.long q1), .second, .val (.long q2), .second, .val (.long q3), .second, .val (.long q4), .second, .val (.long q5), .second, .val (.long q6), .second, .unset, .unset, .unset, .unset, .unset, .unset, .unset, .unset, .unset, .unset, .unset, .unset] [(.long (q1 ^^^ q6))]))
  refine Gl.st (fun t k => XS.lstore X0.here hx rfl (hb hby at_4) rfl (l' := #[.val (.long q1), .second, .val (.long q2), .second, .val (.long q3), .second, .val (.long q4), .second, .val (.long q5), .second, .val (.long q6), .second, .val (.long (q1 ^^^ q6)), .second, .unset, .unset, .unset, .unset, .unset, .unset, .unset, .unset, .unset, .unset]) rfl k) ?_
  show Gl _ _ _ _ _ _ _ (s₁.setTop (mkF m 6 #[.val (.long q1), .second, .val (.long q2), .second, .val (.long q3), .second, .val (.long q4), .second, .val (.long q5), .second, .val (.long q6), .second, .val (.long (q1 ^^^ q6)), .second, .unset, .unset, .unset, .unset, .unset, .unset, .unset, .unset, .unset, .unset] []))
  refine Gl.st (fun t k => XS.lloadN X0.here hx rfl (hb hby at_6) rfl  k) ?_
  show Gl _ _ _ _ _ _ _ (s₁.setTop (mkF m 7 #[.val (.long q1), .second, .val (.long q2), .second, .val (.long q3), .second, .val (.long q4), .second, .val (.long q5), .second, .val (.long q6), .second, .val (.long (q1 ^^^ q6)), .second, .unset, .unset, .unset, .unset, .unset, .unset, .unset, .unset, .unset, .unset] [(.long q2)]))
  refine Gl.st (fun t k => XS.lload X0.here hx rfl (hb hby at_7) rfl  k) ?_
  show Gl _ _ _ _ _ _ _ (s₁.setTop (mkF m 9 #[.val (.long q1), .second, .val (.long q2), .second, .val (.long q3), .second, .val (.long q4), .second, .val (.long q5), .second, .val (.long q6), .second, .val (.long (q1 ^^^ q6)), .second, .unset, .unset, .unset, .unset, .unset, .unset, .unset, .unset, .unset, .unset] [(.long q3), (.long q2)]))
  refine Gl.st (fun t k => XS.lsub X0.here hx rfl (hb hby at_9) rfl k) ?_
  show Gl _ _ _ _ _ _ _ (s₁.setTop (mkF m 10 #[.val (.long q1), .second, .val (.long q2), .second, .val (.long q3), .second, .val (.long q4), .second, .val (.long q5), .second, .val (.long q6), .second, .val (.long (q1 ^^^ q6)), .second, .unset, .unset, .unset, .unset, .unset, .unset, .unset, .unset, .unset, .unset] [(.long (q2 - q3))]))
  refine Gl.st (fun t k => XS.lstore X0.here hx rfl (hb hby at_10) rfl (l' := #[.val (.long q1), .second, .val (.long q2), .second, .val (.long q3), .second, .val (.long q4), .second, .val (.long q5), .second, .val (.long q6), .second, .val (.long (q1 ^^^ q6)), .second, .val (.long (q2 - q3)), .second, .unset, .unset, .unset, .unset, .unset, .unset, .unset, .unset]) rfl k) ?_
  show Gl _ _ _ _ _ _ _ (s₁.setTop (mkF m 12 #[.val (.long q1), .second, .val (.long q2), .second, .val (.long q3), .second, .val (.long q4), .second, .val (.long q5), .second, .val (.long q6), .second, .val (.long (q1 ^^^ q6)), .second, .val (.long (q2 - q3)), .second, .unset, .unset, .unset, .unset, .unset, .unset, .unset, .unset] []))
  refine Gl.st (fun t k => XS.bipush X0.here hx rfl (hb hby at_12) k) ?_
  show Gl _ _ _ _ _ _ _ (s₁.setTop (mkF m 14 #[.val (.long q1), .second, .val (.long q2), .second, .val (.long q3), .second, .val (.long q4), .second, .val (.long q5), .second, .val (.long q6), .second, .val (.long (q1 ^^^ q6)), .second, .val (.long (q2 - q3)), .second, .unset, .unset, .unset, .unset, .unset, .unset, .unset, .unset] [(.int (8 : Int32))]))
  obtain ⟨T1, h1, k1, X1, e1, E1, A1, st1⟩ := newP X0 hx hZ (hw _ (List.mem_of_getElem? (i := 0) rfl)) e0 (g := (mkF m 14 #[.val (.long q1), .second, .val (.long q2), .second, .val (.long q3), .second, .val (.long q4), .second, .val (.long q5), .second, .val (.long q6), .second, .val (.long (q1 ^^^ q6)), .second, .val (.long (q2 - q3)), .second, .unset, .unset, .unset, .unset, .unset, .unset, .unset, .unset] [(.int (8 : Int32))])) rfl (hb hby at_14) rfl (by decide) (cap := 8) (by decide) (by decide) (by decide) (by decide)
  obtain ⟨b1, g1⟩ : ∃ z, z = h0.size := ⟨_, rfl⟩
  rw [← g1] at A1 st1
  refine Gl.st st1 ?_
  have gzb1 : n0 ≤ b1 := Nat.le_trans Z0 (Nat.le_of_eq g1.symm)
  have Z1 : n0 ≤ h1.size := Nat.le_trans Z0 E1.1
  have V1 : Arv Z h1 b1 k1 .long (8 : Int32) [(.long (0 : Int64)), (.long (0 : Int64)), (.long (0 : Int64)), (.long (0 : Int64)), (.long (0 : Int64)), (.long (0 : Int64)), (.long (0 : Int64)), (.long (0 : Int64))] (.long (0 : Int64)) := (Arv.new A1 (by decide)).pad (pad_rep [] (.long (0 : Int64)) 8)
  show Gl _ _ _ _ _ _ _ (T1.setTop (mkF m 16 #[.val (.long q1), .second, .val (.long q2), .second, .val (.long q3), .second, .val (.long q4), .second, .val (.long q5), .second, .val (.long q6), .second, .val (.long (q1 ^^^ q6)), .second, .val (.long (q2 - q3)), .second, .unset, .unset, .unset, .unset, .unset, .unset, .unset, .unset] [(.ref b1)]))
  refine Gl.st (fun t k => XS.dup X1.here hx rfl (hb hby at_16) rfl rfl k) ?_
  show Gl _ _ _ _ _ _ _ (T1.setTop (mkF m 17 #[.val (.long q1), .second, .val (.long q2), .second, .val (.long q3), .second, .val (.long q4), .second, .val (.long q5), .second, .val (.long q6), .second, .val (.long (q1 ^^^ q6)), .second, .val (.long (q2 - q3)), .second, .unset, .unset, .unset, .unset, .unset, .unset, .unset, .unset] [(.ref b1), (.ref b1)]))
  refine Gl.st (fun t k => XS.iconst X1.here hx rfl (hb hby at_17) k) ?_
  show Gl _ _ _ _ _ _ _ (T1.setTop (mkF m 18 #[.val (.long q1), .second, .val (.long q2), .second, .val (.long q3), .second, .val (.long q4), .second, .val (.long q5), .second, .val (.long q6), .second, .val (.long (q1 ^^^ q6)), .second, .val (.long (q2 - q3)), .second, .unset, .unset, .unset, .unset, .unset, .unset, .unset, .unset] [(.int (0 : Int32)), (.ref b1), (.ref b1)]))
  refine Gl.st (fun t k => XS.lloadN X1.here hx rfl (hb hby at_18) rfl  k) ?_
  show Gl _ _ _ _ _ _ _ (T1.setTop (mkF m 19 #[.val (.long q1), .second, .val (.long q2), .second, .val (.long q3), .second, .val (.long q4), .second, .val (.long q5), .second, .val (.long q6), .second, .val (.long (q1 ^^^ q6)), .second, .val (.long (q2 - q3)), .second, .unset, .unset, .unset, .unset, .unset, .unset, .unset, .unset] [(.long q1), (.int (0 : Int32)), (.ref b1), (.ref b1)]))
  have Vx2 := V1
  obtain ⟨cl2, Ar2, qk2, S2, M2, H2, G2⟩ := Vx2
  have hin2 : ¬ ((0 : Int32) < 0 ∨ cl2.slots.size ≤ ((0 : Int32)).toNatClampNeg) := inb_of S2 ⟨by decide, by decide⟩
  obtain ⟨T2, h2, X2, e2, W2, st2⟩ := stJ X1 hx hZ e1 Ar2 (j := (0 : Int32)) hin2 (g := (mkF m 19 #[.val (.long q1), .second, .val (.long q2), .second, .val (.long q3), .second, .val (.long q4), .second, .val (.long q5), .second, .val (.long q6), .second, .val (.long (q1 ^^^ q6)), .second, .val (.long (q2 - q3)), .second, .unset, .unset, .unset, .unset, .unset, .unset, .unset, .unset] [(.long q1), (.int (0 : Int32)), (.ref b1), (.ref b1)])) rfl rfl (hb hby at_19)
  refine Gl.st st2 ?_
  have Z2 : n0 ≤ h2.size := Nat.le_trans Z1 (Keep.of_wr W2).1
  have N2 := Fr.snoc X2 N0 gzb1
  have V2 : Arv Z h2 b1 k1 .long (8 : Int32) [(.long q1), (.long (0 : Int64)), (.long (0 : Int64)), (.long (0 : Int64)), (.long (0 : Int64)), (.long (0 : Int64)), (.long (0 : Int64)), (.long (0 : Int64))] (.long (0 : Int64)) := Arv.set Ar2 qk2 S2 M2 H2 G2 rfl W2 0 rfl (Nat.le_of_ble_eq_true rfl)
  show Gl _ _ _ _ _ _ _ (T2.setTop (mkF m 20 #[.val (.long q1), .second, .val (.long q2), .second, .val (.long q3), .second, .val (.long q4), .second, .val (.long q5), .second, .val (.long q6), .second, .val (.long (q1 ^^^ q6)), .second, .val (.long (q2 - q3)), .second, .unset, .unset, .unset, .unset, .unset, .unset, .unset, .unset] [(.ref b1)]))
  refine Gl.st (fun t k => XS.dup X2.here hx rfl (hb hby at_20) rfl rfl k) ?_
  show Gl _ _ _ _ _ _ _ (T2.setTop (mkF m 21 #[.val (.long q1), .second, .val (.long q2), .second, .val (.long q3), .second, .val (.long q4), .second, .val (.long q5), .second, .val (.long q6), .second, .val (.long (q1 ^^^ q6)), .second, .val (.long (q2 - q3)), .second, .unset, .unset, .unset, .unset, .unset, .unset, .unset, .unset] [(.ref b1), (.ref b1)]))
  refine Gl.st (fun t k => XS.iconst X2.here hx rfl (hb hby at_21) k) ?_
  show Gl _ _ _ _ _ _ _ (T2.setTop (mkF m 22 #[.val (.long q1), .second, .val (.long q2), .second, .val (.long q3), .second, .val (.long q4), .second, .val (.long q5), .second, .val (.long q6), .second, .val (.long (q1 ^^^ q6)), .second, .val (.long (q2 - q3)), .second, .unset, .unset, .unset, .unset, .unset, .unset, .unset, .unset] [(.int (1 : Int32)), (.ref b1), (.ref b1)]))
  refine Gl.st (fun t k => XS.lloadN X2.here hx rfl (hb hby at_22) rfl  k) ?_
  show Gl _ _ _ _ _ _ _ (T2.setTop (mkF m 23 #[.val (.long q1), .second, .val (.long q2), .second, .val (.long q3), .second, .val (.long q4), .second, .val (.long q5), .second, .val (.long q6), .second, .val (.long (q1 ^^^ q6)), .second, .val (.long (q2 - q3)), .second, .unset, .unset, .unset, .unset, .unset, .unset, .unset, .unset] [(.long q2), (.int (1 : Int32)), (.ref b1), (.ref b1)]))
  have Vx3 := V2
  obtain ⟨cl3, Ar3, qk3, S3, M3, H3, G3⟩ := Vx3
  have hin3 : ¬ ((1 : Int32) < 0 ∨ cl3.slots.size ≤ ((1 : Int32)).toNatClampNeg) := inb_of S3 ⟨by decide, by decide⟩
  obtain ⟨T3, h3, X3, e3, W3, st3⟩ := stJ X2 hx hZ e2 Ar3 (j := (1 : Int32)) hin3 (g := (mkF m 23 #[.val (.long q1), .second, .val (.long q2), .second, .val (.long q3), .second, .val (.long q4), .second, .val (.long q5), .second, .val (.long q6), .second, .val (.long (q1 ^^^ q6)), .second, .val (.long (q2 - q3)), .second, .unset, .unset, .unset, .unset, .unset, .unset, .unset, .unset] [(.long q2), (.int (1 : Int32)), (.ref b1), (.ref b1)])) rfl rfl (hb hby at_23)
  refine Gl.st st3 ?_
  have Z3 : n0 ≤ h3.size := Nat.le_trans Z2 (Keep.of_wr W3).1
  have N3 := Fr.snoc X3 N2 gzb1
  have V3 : Arv Z h3 b1 k1 .long (8 : Int32) [(.long q1), (.long q2), (.long (0 : Int64)), (.long (0 : Int64)), (.long (0 : Int64)), (.long (0 : Int64)), (.long (0 : Int64)), (.long (0 : Int64))] (.long (0 : Int64)) := Arv.set Ar3 qk3 S3 M3 H3 G3 rfl W3 1 rfl (Nat.le_of_ble_eq_true rfl)
  show Gl _ _ _ _ _ _ _ (T3.setTop (mkF m 24 #[.val (.long q1), .second, .val (.long q2), .second, .val (.long q3), .second, .val (.long q4), .second, .val (.long q5), .second, .val (.long q6), .second, .val (.long (q1 ^^^ q6)), .second, .val (.long (q2 - q3)), .second, .unset, .unset, .unset, .unset, .unset, .unset, .unset, .unset] [(.ref b1)]))
  refine Gl.st (fun t k => XS.dup X3.here hx rfl (hb hby at_24) rfl rfl k) ?_
  show Gl _ _ _ _ _ _ _ (T3.setTop (mkF m 25 #[.val (.long q1), .second, .val (.long q2), .second, .val (.long q3), .second, .val (.long q4), .second, .val (.long q5), .second, .val (.long q6), .second, .val (.long (q1 ^^^ q6)), .second, .val (.long (q2 - q3)), .second, .unset, .unset, .unset, .unset, .unset, .unset, .unset, .unset] [(.ref b1), (.ref b1)]))
  refine Gl.st (fun t k => XS.iconst X3.here hx rfl (hb hby at_25) k) ?_
  show Gl _ _ _ _ _ _ _ (T3.setTop (mkF m 26 #[.val (.long q1), .second, .val (.long q2), .second, .val (.long q3), .second, .val (.long q4), .second, .val (.long q5), .second, .val (.long q6), .second, .val (.long (q1 ^^^ q6)), .second, .val (.long (q2 - q3)), .second, .unset, .unset, .unset, .unset, .unset, .unset, .unset, .unset] [(.int (2 : Int32)), (.ref b1), (.ref b1)]))
  refine Gl.st (fun t k => XS.lload X3.here hx rfl (hb hby at_26) rfl  k) ?_
  show Gl _ _ _ _ _ _ _ (T3.setTop (mkF m 28 #[.val (.long q1), .second, .val (.long q2), .second, .val (.long q3), .second, .val (.long q4), .second, .val (.long q5), .second, .val (.long q6), .second, .val (.long (q1 ^^^ q6)), .second, .val (.long (q2 - q3)), .second, .unset, .unset, .unset, .unset, .unset, .unset, .unset, .unset] [(.long q3), (.int (2 : Int32)), (.ref b1), (.ref b1)]))
  have Vx4 := V3
  obtain ⟨cl4, Ar4, qk4, S4, M4, H4, G4⟩ := Vx4
  have hin4 : ¬ ((2 : Int32) < 0 ∨ cl4.slots.size ≤ ((2 : Int32)).toNatClampNeg) := inb_of S4 ⟨by decide, by decide⟩
  obtain ⟨T4, h4, X4, e4, W4, st4⟩ := stJ X3 hx hZ e3 Ar4 (j := (2 : Int32)) hin4 (g := (mkF m 28 #[.val (.long q1), .second, .val (.long q2), .second, .val (.long q3), .second, .val (.long q4), .second, .val (.long q5), .second, .val (.long q6), .second, .val (.long (q1 ^^^ q6)), .second, .val (.long (q2 - q3)), .second, .unset, .unset, .unset, .unset, .unset, .unset, .unset, .unset] [(.long q3), (.int (2 : Int32)), (.ref b1), (.ref b1)])) rfl rfl (hb hby at_28)
  refine Gl.st st4 ?_
  have Z4 : n0 ≤ h4.size := Nat.le_trans Z3 (Keep.of_wr W4).1
  have N4 := Fr.snoc X4 N3 gzb1
  have V4 : Arv Z h4 b1 k1 .long (8 : Int32) [(.long q1), (.long q2), (.long q3), (.long (0 : Int64)), (.long (0 : Int64)), (.long (0 : Int64)), (.long (0 : Int64)), (.long (0 : Int64))] (.long (0 : Int64)) := Arv.set Ar4 qk4 S4 M4 H4 G4 rfl W4 2 rfl (Nat.le_of_ble_eq_true rfl)
  show Gl _ _ _ _ _ _ _ (T4.setTop (mkF m 29 #[.val (.long q1), .second, .val (.long q2), .second, .val (.long q3), .second, .val (.long q4), .second, .val (.long q5), .second, .val (.long q6), .second, .val (.long (q1 ^^^ q6)), .second, .val (.long (q2 - q3)), .second, .unset, .unset, .unset, .unset, .unset, .unset, .unset, .unset] [(.ref b1)]))
  refine Gl.st (fun t k => XS.dup X4.here hx rfl (hb hby at_29) rfl rfl k) ?_
  show Gl _ _ _ _ _ _ _ (T4.setTop (mkF m 30 #[.val (.long q1), .second, .val (.long q2), .second, .val (.long q3), .second, .val (.long q4), .second, .val (.long q5), .second, .val (.long q6), .second, .val (.long (q1 ^^^ q6)), .second, .val (.long (q2 - q3)), .second, .unset, .unset, .unset, .unset, .unset, .unset, .unset, .unset] [(.ref b1), (.ref b1)]))
  refine Gl.st (fun t k => XS.iconst X4.here hx rfl (hb hby at_30) k) ?_
  show Gl _ _ _ _ _ _ _ (T4.setTop (mkF m 31 #[.val (.long q1), .second, .val (.long q2), .second, .val (.long q3), .second, .val (.long q4), .second, .val (.long q5), .second, .val (.long q6), .second, .val (.long (q1 ^^^ q6)), .second, .val (.long (q2 - q3)), .second, .unset, .unset, .unset, .unset, .unset, .unset, .unset, .unset] [(.int (3 : Int32)), (.ref b1), (.ref b1)]))
  refine Gl.st (fun t k => XS.lload X4.here hx rfl (hb hby at_31) rfl  k) ?_
  show Gl _ _ _ _ _ _ _ (T4.setTop (mkF m 33 #[.val (.long q1), .second, .val (.long q2), .second, .val (.long q3), .second, .val (.long q4), .second, .val (.long q5), .second, .val (.long q6), .second, .val (.long (q1 ^^^ q6)), .second, .val (.long (q2 - q3)), .second, .unset, .unset, .unset, .unset, .unset, .unset, .unset, .unset] [(.long q4), (.int (3 : Int32)), (.ref b1), (.ref b1)]))
  have Vx5 := V4
  obtain ⟨cl5, Ar5, qk5, S5, M5, H5, G5⟩ := Vx5
  have hin5 : ¬ ((3 : Int32) < 0 ∨ cl5.slots.size ≤ ((3 : Int32)).toNatClampNeg) := inb_of S5 ⟨by decide, by decide⟩
  obtain ⟨T5, h5, X5, e5, W5, st5⟩ := stJ X4 hx hZ e4 Ar5 (j := (3 : Int32)) hin5 (g := (mkF m 33 #[.val (.long q1), .second, .val (.long q2), .second, .val (.long q3), .second, .val (.long q4), .second, .val (.long q5), .second, .val (.long q6), .second, .val (.long (q1 ^^^ q6)), .second, .val (.long (q2 - q3)), .second, .unset, .unset, .unset, .unset, .unset, .unset, .unset, .unset] [(.long q4), (.int (3 : Int32)), (.ref b1), (.ref b1)])) rfl rfl (hb hby at_33)
  refine Gl.st st5 ?_
  have Z5 : n0 ≤ h5.size := Nat.le_trans Z4 (Keep.of_wr W5).1
  have N5 := Fr.snoc X5 N4 gzb1
  have V5 : Arv Z h5 b1 k1 .long (8 : Int32) [(.long q1), (.long q2), (.long q3), (.long q4), (.long (0 : Int64)), (.long (0 : Int64)), (.long (0 : Int64)), (.long (0 : Int64))] (.long (0 : Int64)) := Arv.set Ar5 qk5 S5 M5 H5 G5 rfl W5 3 rfl (Nat.le_of_ble_eq_true rfl)
  show Gl _ _ _ _ _ _ _ (T5.setTop (mkF m 34 #[.val (.long q1), .second, .val (.long q2), .second, .val (.long q3), .second, .val (.long q4), .second, .val (.long q5), .second, .val (.long q6), .second, .val (.long (q1 ^^^ q6)), .second, .val (.long (q2 - q3)), .second, .unset, .unset, .unset, .unset, .unset, .unset, .unset, .unset] [(.ref b1)]))
  refine Gl.st (fun t k => XS.dup X5.here hx rfl (hb hby at_34) rfl rfl k) ?_
  show Gl _ _ _ _ _ _ _ (T5.setTop (mkF m 35 #[.val (.long q1), .second, .val (.long q2), .second, .val (.long q3), .second, .val (.long q4), .second, .val (.long q5), .second, .val (.long q6), .second, .val (.long (q1 ^^^ q6)), .second, .val (.long (q2 - q3)), .second, .unset, .unset, .unset, .unset, .unset, .unset, .unset, .unset] [(.ref b1), (.ref b1)]))
  refine Gl.st (fun t k => XS.iconst X5.here hx rfl (hb hby at_35) k) ?_
  show Gl _ _ _ _ _ _ _ (T5.setTop (mkF m 36 #[.val (.long q1), .second, .val (.long q2), .second, .val (.long q3), .second, .val (.long q4), .second, .val (.long q5), .second, .val (.long q6), .second, .val (.long (q1 ^^^ q6)), .second, .val (.long (q2 - q3)), .second, .unset, .unset, .unset, .unset, .unset, .unset, .unset, .unset] [(.int (4 : Int32)), (.ref b1), (.ref b1)]))
  refine Gl.st (fun t k => XS.lload X5.here hx rfl (hb hby at_36) rfl  k) ?_
  show Gl _ _ _ _ _ _ _ (T5.setTop (mkF m 38 #[.val (.long q1), .second, .val (.long q2), .second, .val (.long q3), .second, .val (.long q4), .second, .val (.long q5), .second, .val (.long q6), .second, .val (.long (q1 ^^^ q6)), .second, .val (.long (q2 - q3)), .second, .unset, .unset, .unset, .unset, .unset, .unset, .unset, .unset] [(.long q5), (.int (4 : Int32)), (.ref b1), (.ref b1)]))
  have Vx6 := V5
  obtain ⟨cl6, Ar6, qk6, S6, M6, H6, G6⟩ := Vx6
  have hin6 : ¬ ((4 : Int32) < 0 ∨ cl6.slots.size ≤ ((4 : Int32)).toNatClampNeg) := inb_of S6 ⟨by decide, by decide⟩
  obtain ⟨T6, h6, X6, e6, W6, st6⟩ := stJ X5 hx hZ e5 Ar6 (j := (4 : Int32)) hin6 (g := (mkF m 38 #[.val (.long q1), .second, .val (.long q2), .second, .val (.long q3), .second, .val (.long q4), .second, .val (.long q5), .second, .val (.long q6), .second, .val (.long (q1 ^^^ q6)), .second, .val (.long (q2 - q3)), .second, .unset, .unset, .unset, .unset, .unset, .unset, .unset, .unset] [(.long q5), (.int (4 : Int32)), (.ref b1), (.ref b1)])) rfl rfl (hb hby at_38)
  refine Gl.st st6 ?_
  have Z6 : n0 ≤ h6.size := Nat.le_trans Z5 (Keep.of_wr W6).1
  have N6 := Fr.snoc X6 N5 gzb1
  have V6 : Arv Z h6 b1 k1 .long (8 : Int32) [(.long q1), (.long q2), (.long q3), (.long q4), (.long q5), (.long (0 : Int64)), (.long (0 : Int64)), (.long (0 : Int64))] (.long (0 : Int64)) := Arv.set Ar6 qk6 S6 M6 H6 G6 rfl W6 4 rfl (Nat.le_of_ble_eq_true rfl)
  show Gl _ _ _ _ _ _ _ (T6.setTop (mkF m 39 #[.val (.long q1), .second, .val (.long q2), .second, .val (.long q3), .second, .val (.long q4), .second, .val (.long q5), .second, .val (.long q6), .second, .val (.long (q1 ^^^ q6)), .second, .val (.long (q2 - q3)), .second, .unset, .unset, .unset, .unset, .unset, .unset, .unset, .unset] [(.ref b1)]))
  refine Gl.st (fun t k => XS.dup X6.here hx rfl (hb hby at_39) rfl rfl k) ?_
  show Gl _ _ _ _ _ _ _ (T6.setTop (mkF m 40 #[.val (.long q1), .second, .val (.long q2), .second, .val (.long q3), .second, .val (.long q4), .second, .val (.long q5), .second, .val (.long q6), .second, .val (.long (q1 ^^^ q6)), .second, .val (.long (q2 - q3)), .second, .unset, .unset, .unset, .unset, .unset, .unset, .unset, .unset] [(.ref b1), (.ref b1)]))
  refine Gl.st (fun t k => XS.iconst X6.here hx rfl (hb hby at_40) k) ?_
  show Gl _ _ _ _ _ _ _ (T6.setTop (mkF m 41 #[.val (.long q1), .second, .val (.long q2), .second, .val (.long q3), .second, .val (.long q4), .second, .val (.long q5), .second, .val (.long q6), .second, .val (.long (q1 ^^^ q6)), .second, .val (.long (q2 - q3)), .second, .unset, .unset, .unset, .unset, .unset, .unset, .unset, .unset] [(.int (5 : Int32)), (.ref b1), (.ref b1)]))
  refine Gl.st (fun t k => XS.lload X6.here hx rfl (hb hby at_41) rfl  k) ?_
  show Gl _ _ _ _ _ _ _ (T6.setTop (mkF m 43 #[.val (.long q1), .second, .val (.long q2), .second, .val (.long q3), .second, .val (.long q4), .second, .val (.long q5), .second, .val (.long q6), .second, .val (.long (q1 ^^^ q6)), .second, .val (.long (q2 - q3)), .second, .unset, .unset, .unset, .unset, .unset, .unset, .unset, .unset] [(.long q6), (.int (5 : Int32)), (.ref b1), (.ref b1)]))
  have Vx7 := V6
  obtain ⟨cl7, Ar7, qk7, S7, M7, H7, G7⟩ := Vx7
  have hin7 : ¬ ((5 : Int32) < 0 ∨ cl7.slots.size ≤ ((5 : Int32)).toNatClampNeg) := inb_of S7 ⟨by decide, by decide⟩
  obtain ⟨T7, h7, X7, e7, W7, st7⟩ := stJ X6 hx hZ e6 Ar7 (j := (5 : Int32)) hin7 (g := (mkF m 43 #[.val (.long q1), .second, .val (.long q2), .second, .val (.long q3), .second, .val (.long q4), .second, .val (.long q5), .second, .val (.long q6), .second, .val (.long (q1 ^^^ q6)), .second, .val (.long (q2 - q3)), .second, .unset, .unset, .unset, .unset, .unset, .unset, .unset, .unset] [(.long q6), (.int (5 : Int32)), (.ref b1), (.ref b1)])) rfl rfl (hb hby at_43)
  refine Gl.st st7 ?_
  have Z7 : n0 ≤ h7.size := Nat.le_trans Z6 (Keep.of_wr W7).1
  have N7 := Fr.snoc X7 N6 gzb1
  have V7 : Arv Z h7 b1 k1 .long (8 : Int32) [(.long q1), (.long q2), (.long q3), (.long q4), (.long q5), (.long q6), (.long (0 : Int64)), (.long (0 : Int64))] (.long (0 : Int64)) := Arv.set Ar7 qk7 S7 M7 H7 G7 rfl W7 5 rfl (Nat.le_of_ble_eq_true rfl)
  show Gl _ _ _ _ _ _ _ (T7.setTop (mkF m 44 #[.val (.long q1), .second, .val (.long q2), .second, .val (.long q3), .second, .val (.long q4), .second, .val (.long q5), .second, .val (.long q6), .second, .val (.long (q1 ^^^ q6)), .second, .val (.long (q2 - q3)), .second, .unset, .unset, .unset, .unset, .unset, .unset, .unset, .unset] [(.ref b1)]))
  refine Gl.st (fun t k => XS.dup X7.here hx rfl (hb hby at_44) rfl rfl k) ?_
  show Gl _ _ _ _ _ _ _ (T7.setTop (mkF m 45 #[.val (.long q1), .second, .val (.long q2), .second, .val (.long q3), .second, .val (.long q4), .second, .val (.long q5), .second, .val (.long q6), .second, .val (.long (q1 ^^^ q6)), .second, .val (.long (q2 - q3)), .second, .unset, .unset, .unset, .unset, .unset, .unset, .unset, .unset] [(.ref b1), (.ref b1)]))
  refine Gl.st (fun t k => XS.bipush X7.here hx rfl (hb hby at_45) k) ?_
  show Gl _ _ _ _ _ _ _ (T7.setTop (mkF m 47 #[.val (.long q1), .second, .val (.long q2), .second, .val (.long q3), .second, .val (.long q4), .second, .val (.long q5), .second, .val (.long q6), .second, .val (.long (q1 ^^^ q6)), .second, .val (.long (q2 - q3)), .second, .unset, .unset, .unset, .unset, .unset, .unset, .unset, .unset] [(.int (6 : Int32)), (.ref b1), (.ref b1)]))
  refine Gl.st (fun t k => XS.lload X7.here hx rfl (hb hby at_47) rfl  k) ?_
  show Gl _ _ _ _ _ _ _ (T7.setTop (mkF m 49 #[.val (.long q1), .second, .val (.long q2), .second, .val (.long q3), .second, .val (.long q4), .second, .val (.long q5), .second, .val (.long q6), .second, .val (.long (q1 ^^^ q6)), .second, .val (.long (q2 - q3)), .second, .unset, .unset, .unset, .unset, .unset, .unset, .unset, .unset] [(.long (q1 ^^^ q6)), (.int (6 : Int32)), (.ref b1), (.ref b1)]))
  have Vx8 := V7
  obtain ⟨cl8, Ar8, qk8, S8, M8, H8, G8⟩ := Vx8
  have hin8 : ¬ ((6 : Int32) < 0 ∨ cl8.slots.size ≤ ((6 : Int32)).toNatClampNeg) := inb_of S8 ⟨by decide, by decide⟩
  obtain ⟨T8, h8, X8, e8, W8, st8⟩ := stJ X7 hx hZ e7 Ar8 (j := (6 : Int32)) hin8 (g := (mkF m 49 #[.val (.long q1), .second, .val (.long q2), .second, .val (.long q3), .second, .val (.long q4), .second, .val (.long q5), .second, .val (.long q6), .second, .val (.long (q1 ^^^ q6)), .second, .val (.long (q2 - q3)), .second, .unset, .unset, .unset, .unset, .unset, .unset, .unset, .unset] [(.long (q1 ^^^ q6)), (.int (6 : Int32)), (.ref b1), (.ref b1)])) rfl rfl (hb hby at_49)
  refine Gl.st st8 ?_
  have Z8 : n0 ≤ h8.size := Nat.le_trans Z7 (Keep.of_wr W8).1
  have N8 := Fr.snoc X8 N7 gzb1
  have V8 : Arv Z h8 b1 k1 .long (8 : Int32) [(.long q1), (.long q2), (.long q3), (.long q4), (.long q5), (.long q6), (.long (q1 ^^^ q6)), (.long (0 : Int64))] (.long (0 : Int64)) := Arv.set Ar8 qk8 S8 M8 H8 G8 rfl W8 6 rfl (Nat.le_of_ble_eq_true rfl)
  show Gl _ _ _ _ _ _ _ (T8.setTop (mkF m 50 #[.val (.long q1), .second, .val (.long q2), .second, .val (.long q3), .second, .val (.long q4), .second, .val (.long q5), .second, .val (.long q6), .second, .val (.long (q1 ^^^ q6)), .second, .val (.long (q2 - q3)), .second, .unset, .unset, .unset, .unset, .unset, .unset, .unset, .unset] [(.ref b1)]))
  refine Gl.st (fun t k => XS.dup X8.here hx rfl (hb hby at_50) rfl rfl k) ?_
  show Gl _ _ _ _ _ _ _ (T8.setTop (mkF m 51 #[.val (.long q1), .second, .val (.long q2), .second, .val (.long q3), .second, .val (.long q4), .second, .val (.long q5), .second, .val (.long q6), .second, .val (.long (q1 ^^^ q6)), .second, .val (.long (q2 - q3)), .second, .unset, .unset, .unset, .unset, .unset, .unset, .unset, .unset] [(.ref b1), (.ref b1)]))
  refine Gl.st (fun t k => XS.bipush X8.here hx rfl (hb hby at_51) k) ?_
  show Gl _ _ _ _ _ _ _ (T8.setTop (mkF m 53 #[.val (.long q1), .second, .val (.long q2), .second, .val (.long q3), .second, .val (.long q4), .second, .val (.long q5), .second, .val (.long q6), .second, .val (.long (q1 ^^^ q6)), .second, .val (.long (q2 - q3)), .second, .unset, .unset, .unset, .unset, .unset, .unset, .unset, .unset] [(.int (7 : Int32)), (.ref b1), (.ref b1)]))
  refine Gl.st (fun t k => XS.lload X8.here hx rfl (hb hby at_53) rfl  k) ?_
  show Gl _ _ _ _ _ _ _ (T8.setTop (mkF m 55 #[.val (.long q1), .second, .val (.long q2), .second, .val (.long q3), .second, .val (.long q4), .second, .val (.long q5), .second, .val (.long q6), .second, .val (.long (q1 ^^^ q6)), .second, .val (.long (q2 - q3)), .second, .unset, .unset, .unset, .unset, .unset, .unset, .unset, .unset] [(.long (q2 - q3)), (.int (7 : Int32)), (.ref b1), (.ref b1)]))
  have Vx9 := V8
  obtain ⟨cl9, Ar9, qk9, S9, M9, H9, G9⟩ := Vx9
  have hin9 : ¬ ((7 : Int32) < 0 ∨ cl9.slots.size ≤ ((7 : Int32)).toNatClampNeg) := inb_of S9 ⟨by decide, by decide⟩
  obtain ⟨T9, h9, X9, e9, W9, st9⟩ := stJ X8 hx hZ e8 Ar9 (j := (7 : Int32)) hin9 (g := (mkF m 55 #[.val (.long q1), .second, .val (.long q2), .second, .val (.long q3), .second, .val (.long q4), .second, .val (.long q5), .second, .val (.long q6), .second, .val (.long (q1 ^^^ q6)), .second, .val (.long (q2 - q3)), .second, .unset, .unset, .unset, .unset, .unset, .unset, .unset, .unset] [(.long (q2 - q3)), (.int (7 : Int32)), (.ref b1), (.ref b1)])) rfl rfl (hb hby at_55)
  refine Gl.st st9 ?_
  have Z9 : n0 ≤ h9.size := Nat.le_trans Z8 (Keep.of_wr W9).1
  have N9 := Fr.snoc X9 N8 gzb1
  have V9 : Arv Z h9 b1 k1 .long (8 : Int32) [(.long q1), (.long q2), (.long q3), (.long q4), (.long q5), (.long q6), (.long (q1 ^^^ q6)), (.long (q2 - q3))] (.long (0 : Int64)) := Arv.set Ar9 qk9 S9 M9 H9 G9 rfl W9 7 rfl (Nat.le_of_ble_eq_true rfl)
  show Gl _ _ _ _ _ _ _ (T9.setTop (mkF m 56 #[.val (.long q1), .second, .val (.long q2), .second, .val (.long q3), .second, .val (.long q4), .second, .val (.long q5), .second, .val (.long q6), .second, .val (.long (q1 ^^^ q6)), .second, .val (.long (q2 - q3)), .second, .unset, .unset, .unset, .unset, .unset, .unset, .unset, .unset] [(.ref b1)]))
  refine Gl.st (fun t k => XS.astore X9.here hx rfl (hb hby at_56) rfl rfl (l' := #[.val (.long q1), .second, .val (.long q2), .second, .val (.long q3), .second, .val (.long q4), .second, .val (.long q5), .second, .val (.long q6), .second, .val (.long (q1 ^^^ q6)), .second, .val (.long (q2 - q3)), .second, .val (.ref b1), .unset, .unset, .unset, .unset, .unset, .unset, .unset]) rfl k) ?_
  show Gl _ _ _ _ _ _ _ (T9.setTop (mkF m 58 #[.val (.long q1), .second, .val (.long q2), .second, .val (.long q3), .second, .val (.long q4), .second, .val (.long q5), .second, .val (.long q6), .second, .val (.long (q1 ^^^ q6)), .second, .val (.long (q2 - q3)), .second, .val (.ref b1), .unset, .unset, .unset, .unset, .unset, .unset, .unset] []))
  obtain ⟨T10, h10, X10, e10, E10, A10, D10, -, st10⟩ := newO X9 hx hZ hown (hw _ (List.mem_of_getElem? (i := 1) rfl)) (hw _ (List.mem_of_getElem? (i := 2) rfl)) (hw _ (List.mem_of_getElem? (i := 3) rfl)) e9 (g := (mkF m 58 #[.val (.long q1), .second, .val (.long q2), .second, .val (.long q3), .second, .val (.long q4), .second, .val (.long q5), .second, .val (.long q6), .second, .val (.long (q1 ^^^ q6)), .second, .val (.long (q2 - q3)), .second, .val (.ref b1), .unset, .unset, .unset, .unset, .unset, .unset, .unset] [])) rfl (hb hby at_58) (by decide) (by decide)
  obtain ⟨b10, g10⟩ : ∃ z, z = h9.size := ⟨_, rfl⟩
  rw [← g10] at A10 D10 st10
  refine Gl.st st10 ?_
  have ne_b1_b10 : b1 ≠ b10 := Nat.ne_of_lt (Nat.lt_of_lt_of_le V9.lt (Nat.le_of_eq g10.symm))
  have gzb10 : n0 ≤ b10 := Nat.le_trans Z9 (Nat.le_of_eq g10.symm)
  have Z10 : n0 ≤ h10.size := Nat.le_trans Z9 E10.1
  have V9'11 : Arv Z h10 b1 k1 .long (8 : Int32) [(.long q1), (.long q2), (.long q3), (.long q4), (.long q5), (.long q6), (.long (q1 ^^^ q6)), (.long (q2 - q3))] (.long (0 : Int64)) := V9.ext E10
  have F10_failed : Fld Z h10 b10 "com/example/wary_retry/waryretry/client/RetryFigures" "failed" "J" (.long (0 : Int64)) := D10 (Or.inr (hw _ (List.mem_of_getElem? (i := 11) rfl))) (ty := .long) (by decide)
  have F10_histogram : Fld Z h10 b10 "com/example/wary_retry/waryretry/client/RetryFigures" "histogram" "[J" .null := D10 (Or.inr (hw _ (List.mem_of_getElem? (i := 13) rfl))) (ty := (.array .long)) (by decide)
  show Gl _ _ _ _ _ _ _ (T10.setTop (mkF m 61 #[.val (.long q1), .second, .val (.long q2), .second, .val (.long q3), .second, .val (.long q4), .second, .val (.long q5), .second, .val (.long q6), .second, .val (.long (q1 ^^^ q6)), .second, .val (.long (q2 - q3)), .second, .val (.ref b1), .unset, .unset, .unset, .unset, .unset, .unset, .unset] [(.ref b10)]))
  refine Gl.st (fun t k => XS.dup X10.here hx rfl (hb hby at_61) rfl rfl k) ?_
  show Gl _ _ _ _ _ _ _ (T10.setTop (mkF m 62 #[.val (.long q1), .second, .val (.long q2), .second, .val (.long q3), .second, .val (.long q4), .second, .val (.long q5), .second, .val (.long q6), .second, .val (.long (q1 ^^^ q6)), .second, .val (.long (q2 - q3)), .second, .val (.ref b1), .unset, .unset, .unset, .unset, .unset, .unset, .unset] [(.ref b10), (.ref b10)]))
  refine Gl.st (fun t k => XS.lload X10.here hx rfl (hb hby at_62) rfl  k) ?_
  show Gl _ _ _ _ _ _ _ (T10.setTop (mkF m 64 #[.val (.long q1), .second, .val (.long q2), .second, .val (.long q3), .second, .val (.long q4), .second, .val (.long q5), .second, .val (.long q6), .second, .val (.long (q1 ^^^ q6)), .second, .val (.long (q2 - q3)), .second, .val (.ref b1), .unset, .unset, .unset, .unset, .unset, .unset, .unset] [(.long q3), (.ref b10), (.ref b10)]))
  refine Gl.st (fun t k => XS.lload X10.here hx rfl (hb hby at_64) rfl  k) ?_
  show Gl _ _ _ _ _ _ _ (T10.setTop (mkF m 66 #[.val (.long q1), .second, .val (.long q2), .second, .val (.long q3), .second, .val (.long q4), .second, .val (.long q5), .second, .val (.long q6), .second, .val (.long (q1 ^^^ q6)), .second, .val (.long (q2 - q3)), .second, .val (.ref b1), .unset, .unset, .unset, .unset, .unset, .unset, .unset] [(.long q4), (.long q3), (.ref b10), (.ref b10)]))
  refine Gl.st (fun t k => XS.lxor X10.here hx rfl (hb hby at_66) rfl k) ?_
  show Gl _ _ _ _ _ _ _ (T10.setTop (mkF m 67 #[.val (.long q1), .second, .val (.long q2), .second, .val (.long q3), .second, .val (.long q4), .second, .val (.long q5), .second, .val (.long q6), .second, .val (.long (q1 ^^^ q6)), .second, .val (.long (q2 - q3)), .second, .val (.ref b1), .unset, .unset, .unset, .unset, .unset, .unset, .unset] [(.long (q3 ^^^ q4)), (.ref b10), (.ref b10)]))
  refine Gl.st (fun t k => XS.aload X10.here hx rfl (hb hby at_67) rfl rfl k) ?_
  show Gl _ _ _ _ _ _ _ (T10.setTop (mkF m 69 #[.val (.long q1), .second, .val (.long q2), .second, .val (.long q3), .second, .val (.long q4), .second, .val (.long q5), .second, .val (.long q6), .second, .val (.long (q1 ^^^ q6)), .second, .val (.long (q2 - q3)), .second, .val (.ref b1), .unset, .unset, .unset, .unset, .unset, .unset, .unset] [(.ref b1), (.long (q3 ^^^ q4)), (.ref b10), (.ref b10)]))
  obtain ⟨_, _, ⟨T12, L12, k12, n12⟩, -, X12, ⟨Lc12, hQ12, l12, y12, z12⟩, st12⟩ := X10.specialBack hx (y := (⟨"com/example/wary_retry/waryretry/client/RetryFigures", "<init>", "(J[J)V"⟩ : MethodName)) rfl hown (mvT hZ (hw _ (List.mem_of_getElem? (i := 4) rfl))) (mvT hZ (hw _ (List.mem_of_getElem? (i := 5) rfl))) (mvT hZ (hw _ (List.mem_of_getElem? (i := 6) rfl))) (by decide) (backOf (W := 1) (rm1 l Z a0 hw [] b10 (q3 ^^^ q4) b1 ((.long (0 : Int64))) (.null) h10 n0 Z10 A10 F10_failed F10_histogram gzb10) hZ (hw _ (List.mem_of_getElem? (i := 6) rfl)) (hw _ (List.mem_of_getElem? (i := 3) rfl)) (by decide) (by decide)) (g := (mkF m 69 #[.val (.long q1), .second, .val (.long q2), .second, .val (.long q3), .second, .val (.long q4), .second, .val (.long q5), .second, .val (.long q6), .second, .val (.long (q1 ^^^ q6)), .second, .val (.long (q2 - q3)), .second, .val (.ref b1), .unset, .unset, .unset, .unset, .unset, .unset, .unset] [(.ref b1), (.long (q3 ^^^ q4)), (.ref b10), (.ref b10)])) rfl (by rw [hml]; rfl) (Steps.refl _) (a := b10) (argsL := [(.long (q3 ^^^ q4)), (.ref b1)]) (rest := [(.ref b10)]) (lenOf pd_0 rfl) rfl (by show 2 * 0 + _ ≤ _; exact Nat.le_of_eq rfl) (hb hby at_69) (fun _ _ => ⟨rfl, e10, (by decide : 2 + 0 ≤ _), (by decide : 10 + 0 ≤ _)⟩)
  dsimp only [Pt.U, Pt.locs, Pt.cells, Pt.slots] at X12 l12 y12 z12 st12 hQ12
  subst l12 y12 z12
  obtain ⟨rfl, N12q, Kq12, Fq12_0, Fq12_1, Fq12_2⟩ := hQ12
  have N12 := Fr.app N9 N12q
  have Z12 : n0 ≤ T12.heap.size := Nat.le_trans Z10 Kq12.1
  have V9'13 : Arv Z T12.heap b1 k1 .long (8 : Int32) [(.long q1), (.long q2), (.long q3), (.long q4), (.long q5), (.long q6), (.long (q1 ^^^ q6)), (.long (q2 - q3))] (.long (0 : Int64)) := V9'11.keep Kq12 (ninS ne_b1_b10 nin0)
  refine Gl.to st12 ?_
  show Gl _ _ _ _ _ _ _ (T12.setTop (mkF m 72 #[.val (.long q1), .second, .val (.long q2), .second, .val (.long q3), .second, .val (.long q4), .second, .val (.long q5), .second, .val (.long q6), .second, .val (.long (q1 ^^^ q6)), .second, .val (.long (q2 - q3)), .second, .val (.ref b1), .unset, .unset, .unset, .unset, .unset, .unset, .unset] [(.ref b10)]))
  refine Gl.st (fun t k => XS.astore X12.here hx rfl (hb hby at_72) rfl rfl (l' := #[.val (.long q1), .second, .val (.long q2), .second, .val (.long q3), .second, .val (.long q4), .second, .val (.long q5), .second, .val (.long q6), .second, .val (.long (q1 ^^^ q6)), .second, .val (.long (q2 - q3)), .second, .val (.ref b1), .val (.ref b10), .unset, .unset, .unset, .unset, .unset, .unset]) rfl k) ?_
  show Gl _ _ _ _ _ _ _ (T12.setTop (mkF m 74 #[.val (.long q1), .second, .val (.long q2), .second, .val (.long q3), .second, .val (.long q4), .second, .val (.long q5), .second, .val (.long q6), .second, .val (.long (q1 ^^^ q6)), .second, .val (.long (q2 - q3)), .second, .val (.ref b1), .val (.ref b10), .unset, .unset, .unset, .unset, .unset, .unset] []))
  refine Gl.st (fun t k => XS.lloadN X12.here hx rfl (hb hby at_74) rfl  k) ?_
  show Gl _ _ _ _ _ _ _ (T12.setTop (mkF m 75 #[.val (.long q1), .second, .val (.long q2), .second, .val (.long q3), .second, .val (.long q4), .second, .val (.long q5), .second, .val (.long q6), .second, .val (.long (q1 ^^^ q6)), .second, .val (.long (q2 - q3)), .second, .val (.ref b1), .val (.ref b10), .unset, .unset, .unset, .unset, .unset, .unset] [(.long q1)]))
  refine Gl.st (fun t k => XS.lloadN X12.here hx rfl (hb hby at_75) rfl  k) ?_
  show Gl _ _ _ _ _ _ _ (T12.setTop (mkF m 76 #[.val (.long q1), .second, .val (.long q2), .second, .val (.long q3), .second, .val (.long q4), .second, .val (.long q5), .second, .val (.long q6), .second, .val (.long (q1 ^^^ q6)), .second, .val (.long (q2 - q3)), .second, .val (.ref b1), .val (.ref b10), .unset, .unset, .unset, .unset, .unset, .unset] [(.long q2), (.long q1)]))
  refine Gl.st (fun t k => XS.ladd X12.here hx rfl (hb hby at_76) rfl k) ?_
  show Gl _ _ _ _ _ _ _ (T12.setTop (mkF m 77 #[.val (.long q1), .second, .val (.long q2), .second, .val (.long q3), .second, .val (.long q4), .second, .val (.long q5), .second, .val (.long q6), .second, .val (.long (q1 ^^^ q6)), .second, .val (.long (q2 - q3)), .second, .val (.ref b1), .val (.ref b10), .unset, .unset, .unset, .unset, .unset, .unset] [(.long (q1 + q2))]))
  refine Gl.st (fun t k => XS.lload X12.here hx rfl (hb hby at_77) rfl  k) ?_
  show Gl _ _ _ _ _ _ _ (T12.setTop (mkF m 79 #[.val (.long q1), .second, .val (.long q2), .second, .val (.long q3), .second, .val (.long q4), .second, .val (.long q5), .second, .val (.long q6), .second, .val (.long (q1 ^^^ q6)), .second, .val (.long (q2 - q3)), .second, .val (.ref b1), .val (.ref b10), .unset, .unset, .unset, .unset, .unset, .unset] [(.long q3), (.long (q1 + q2))]))
  refine Gl.st (fun t k => XS.ladd X12.here hx rfl (hb hby at_79) rfl k) ?_
  show Gl _ _ _ _ _ _ _ (T12.setTop (mkF m 80 #[.val (.long q1), .second, .val (.long q2), .second, .val (.long q3), .second, .val (.long q4), .second, .val (.long q5), .second, .val (.long q6), .second, .val (.long (q1 ^^^ q6)), .second, .val (.long (q2 - q3)), .second, .val (.ref b1), .val (.ref b10), .unset, .unset, .unset, .unset, .unset, .unset] [(.long ((q1 + q2) + q3))]))
  refine Gl.st (fun t k => XS.lload X12.here hx rfl (hb hby at_80) rfl  k) ?_
  show Gl _ _ _ _ _ _ _ (T12.setTop (mkF m 82 #[.val (.long q1), .second, .val (.long q2), .second, .val (.long q3), .second, .val (.long q4), .second, .val (.long q5), .second, .val (.long q6), .second, .val (.long (q1 ^^^ q6)), .second, .val (.long (q2 - q3)), .second, .val (.ref b1), .val (.ref b10), .unset, .unset, .unset, .unset, .unset, .unset] [(.long q4), (.long ((q1 + q2) + q3))]))
  refine Gl.st (fun t k => XS.ladd X12.here hx rfl (hb hby at_82) rfl k) ?_
  show Gl _ _ _ _ _ _ _ (T12.setTop (mkF m 83 #[.val (.long q1), .second, .val (.long q2), .second, .val (.long q3), .second, .val (.long q4), .second, .val (.long q5), .second, .val (.long q6), .second, .val (.long (q1 ^^^ q6)), .second, .val (.long (q2 - q3)), .second, .val (.ref b1), .val (.ref b10), .unset, .unset, .unset, .unset, .unset, .unset] [(.long (((q1 + q2) + q3) + q4))]))
  refine Gl.st (fun t k => XS.lload X12.here hx rfl (hb hby at_83) rfl  k) ?_
  show Gl _ _ _ _ _ _ _ (T12.setTop (mkF m 85 #[.val (.long q1), .second, .val (.long q2), .second, .val (.long q3), .second, .val (.long q4), .second, .val (.long q5), .second, .val (.long q6), .second, .val (.long (q1 ^^^ q6)), .second, .val (.long (q2 - q3)), .second, .val (.ref b1), .val (.ref b10), .unset, .unset, .unset, .unset, .unset, .unset] [(.long q5), (.long (((q1 + q2) + q3) + q4))]))
  refine Gl.st (fun t k => XS.ladd X12.here hx rfl (hb hby at_85) rfl k) ?_
  show Gl _ _ _ _ _ _ _ (T12.setTop (mkF m 86 #[.val (.long q1), .second, .val (.long q2), .second, .val (.long q3), .second, .val (.long q4), .second, .val (.long q5), .second, .val (.long q6), .second, .val (.long (q1 ^^^ q6)), .second, .val (.long (q2 - q3)), .second, .val (.ref b1), .val (.ref b10), .unset, .unset, .unset, .unset, .unset, .unset] [(.long ((((q1 + q2) + q3) + q4) + q5))]))
  refine Gl.st (fun t k => XS.lload X12.here hx rfl (hb hby at_86) rfl  k) ?_
  show Gl _ _ _ _ _ _ _ (T12.setTop (mkF m 88 #[.val (.long q1), .second, .val (.long q2), .second, .val (.long q3), .second, .val (.long q4), .second, .val (.long q5), .second, .val (.long q6), .second, .val (.long (q1 ^^^ q6)), .second, .val (.long (q2 - q3)), .second, .val (.ref b1), .val (.ref b10), .unset, .unset, .unset, .unset, .unset, .unset] [(.long q6), (.long ((((q1 + q2) + q3) + q4) + q5))]))
  refine Gl.st (fun t k => XS.ladd X12.here hx rfl (hb hby at_88) rfl k) ?_
  show Gl _ _ _ _ _ _ _ (T12.setTop (mkF m 89 #[.val (.long q1), .second, .val (.long q2), .second, .val (.long q3), .second, .val (.long q4), .second, .val (.long q5), .second, .val (.long q6), .second, .val (.long (q1 ^^^ q6)), .second, .val (.long (q2 - q3)), .second, .val (.ref b1), .val (.ref b10), .unset, .unset, .unset, .unset, .unset, .unset] [(.long (((((q1 + q2) + q3) + q4) + q5) + q6))]))
  refine Gl.st (fun t k => XS.lload X12.here hx rfl (hb hby at_89) rfl  k) ?_
  show Gl _ _ _ _ _ _ _ (T12.setTop (mkF m 91 #[.val (.long q1), .second, .val (.long q2), .second, .val (.long q3), .second, .val (.long q4), .second, .val (.long q5), .second, .val (.long q6), .second, .val (.long (q1 ^^^ q6)), .second, .val (.long (q2 - q3)), .second, .val (.ref b1), .val (.ref b10), .unset, .unset, .unset, .unset, .unset, .unset] [(.long (q1 ^^^ q6)), (.long (((((q1 + q2) + q3) + q4) + q5) + q6))]))
  refine Gl.st (fun t k => XS.ladd X12.here hx rfl (hb hby at_91) rfl k) ?_
  show Gl _ _ _ _ _ _ _ (T12.setTop (mkF m 92 #[.val (.long q1), .second, .val (.long q2), .second, .val (.long q3), .second, .val (.long q4), .second, .val (.long q5), .second, .val (.long q6), .second, .val (.long (q1 ^^^ q6)), .second, .val (.long (q2 - q3)), .second, .val (.ref b1), .val (.ref b10), .unset, .unset, .unset, .unset, .unset, .unset] [(.long ((((((q1 + q2) + q3) + q4) + q5) + q6) + (q1 ^^^ q6)))]))
  refine Gl.st (fun t k => XS.lload X12.here hx rfl (hb hby at_92) rfl  k) ?_
  show Gl _ _ _ _ _ _ _ (T12.setTop (mkF m 94 #[.val (.long q1), .second, .val (.long q2), .second, .val (.long q3), .second, .val (.long q4), .second, .val (.long q5), .second, .val (.long q6), .second, .val (.long (q1 ^^^ q6)), .second, .val (.long (q2 - q3)), .second, .val (.ref b1), .val (.ref b10), .unset, .unset, .unset, .unset, .unset, .unset] [(.long (q2 - q3)), (.long ((((((q1 + q2) + q3) + q4) + q5) + q6) + (q1 ^^^ q6)))]))
  refine Gl.st (fun t k => XS.ladd X12.here hx rfl (hb hby at_94) rfl k) ?_
  show Gl _ _ _ _ _ _ _ (T12.setTop (mkF m 95 #[.val (.long q1), .second, .val (.long q2), .second, .val (.long q3), .second, .val (.long q4), .second, .val (.long q5), .second, .val (.long q6), .second, .val (.long (q1 ^^^ q6)), .second, .val (.long (q2 - q3)), .second, .val (.ref b1), .val (.ref b10), .unset, .unset, .unset, .unset, .unset, .unset] [(.long (((((((q1 + q2) + q3) + q4) + q5) + q6) + (q1 ^^^ q6)) + (q2 - q3)))]))
  refine Gl.st (fun t k => XS.lstore X12.here hx rfl (hb hby at_95) rfl (l' := #[.val (.long q1), .second, .val (.long q2), .second, .val (.long q3), .second, .val (.long q4), .second, .val (.long q5), .second, .val (.long q6), .second, .val (.long (q1 ^^^ q6)), .second, .val (.long (q2 - q3)), .second, .val (.ref b1), .val (.ref b10), .val (.long (((((((q1 + q2) + q3) + q4) + q5) + q6) + (q1 ^^^ q6)) + (q2 - q3))), .second, .unset, .unset, .unset, .unset]) rfl k) ?_
  show Gl _ _ _ _ _ _ _ (T12.setTop (mkF m 97 #[.val (.long q1), .second, .val (.long q2), .second, .val (.long q3), .second, .val (.long q4), .second, .val (.long q5), .second, .val (.long q6), .second, .val (.long (q1 ^^^ q6)), .second, .val (.long (q2 - q3)), .second, .val (.ref b1), .val (.ref b10), .val (.long (((((((q1 + q2) + q3) + q4) + q5) + q6) + (q1 ^^^ q6)) + (q2 - q3))), .second, .unset, .unset, .unset, .unset] []))
  refine Gl.st (fun t k => XS.aload X12.here hx rfl (hb hby at_97) rfl rfl k) ?_
  show Gl _ _ _ _ _ _ _ (T12.setTop (mkF m 99 #[.val (.long q1), .second, .val (.long q2), .second, .val (.long q3), .second, .val (.long q4), .second, .val (.long q5), .second, .val (.long q6), .second, .val (.long (q1 ^^^ q6)), .second, .val (.long (q2 - q3)), .second, .val (.ref b1), .val (.ref b10), .val (.long (((((((q1 + q2) + q3) + q4) + q5) + q6) + (q1 ^^^ q6)) + (q2 - q3))), .second, .unset, .unset, .unset, .unset] [(.ref b10)]))
  obtain ⟨cq14, kq14, qa14, qb14, qc14⟩ := isOf hZ rfl Fq12_0
  obtain ⟨_, _, ⟨T14, L14, k14, n14⟩, -, X14, ⟨Lc14, hQ14, l14, y14, z14⟩, st14⟩ := X12.virtualBack hx (y := (⟨"com/example/wary_retry/waryretry/client/RetryFigures", "retryAttempts", "()J"⟩ : MethodName)) (z := (⟨"com/example/wary_retry/waryretry/client/RetryFigures", "retryAttempts", "()J"⟩ : MethodName)) hown (mvT hZ (hw _ (List.mem_of_getElem? (i := 14) rfl))) (mvT hZ (hw _ (List.mem_of_getElem? (i := 15) rfl))) (notFace_of_selects (args := #[]) (mvT hZ (hw _ (List.mem_of_getElem? (i := 17) rfl)))) (mvT hZ (hw _ (List.mem_of_getElem? (i := 17) rfl))) (mvT hZ (hw _ (List.mem_of_getElem? (i := 16) rfl))) (by decide) (backOf (W := 0) (rm3 l Z a0 hw [] b10 (b1) (k1) (q1) (q2) (q3) (q4) (q5) (q6) ((q1 ^^^ q6)) ((q2 - q3)) T12.heap n0  Fq12_2 V9'13) hZ (hw _ (List.mem_of_getElem? (i := 18) rfl)) (hw _ (List.mem_of_getElem? (i := 3) rfl)) (by decide) (by decide)) qa14 qc14 (g := (mkF m 99 #[.val (.long q1), .second, .val (.long q2), .second, .val (.long q3), .second, .val (.long q4), .second, .val (.long q5), .second, .val (.long q6), .second, .val (.long (q1 ^^^ q6)), .second, .val (.long (q2 - q3)), .second, .val (.ref b1), .val (.ref b10), .val (.long (((((((q1 + q2) + q3) + q4) + q5) + q6) + (q1 ^^^ q6)) + (q2 - q3))), .second, .unset, .unset, .unset, .unset] [(.ref b10)])) rfl (by rw [hml]; rfl) (Steps.refl _) (argsL := []) (rest := []) (lenOf pd_1 rfl) rfl (by show 2 * 0 + _ ≤ _; exact Nat.le_of_eq rfl) (hb hby at_99) (fun _ _ => ⟨rfl, rfl, (by decide : 2 + 0 ≤ _), (by decide : 10 + 0 ≤ _)⟩)
  dsimp only [Pt.U, Pt.locs, Pt.cells, Pt.slots] at X14 l14 y14 z14 st14 hQ14
  subst l14 y14 z14
  obtain ⟨rfl, N14q, e14⟩ := hQ14
  have N14 := Fr.app N12 N14q
  refine Gl.to st14 ?_
  show Gl _ _ _ _ _ _ _ (T14.setTop (mkF m 102 #[.val (.long q1), .second, .val (.long q2), .second, .val (.long q3), .second, .val (.long q4), .second, .val (.long q5), .second, .val (.long q6), .second, .val (.long (q1 ^^^ q6)), .second, .val (.long (q2 - q3)), .second, .val (.ref b1), .val (.ref b10), .val (.long (((((((q1 + q2) + q3) + q4) + q5) + q6) + (q1 ^^^ q6)) + (q2 - q3))), .second, .unset, .unset, .unset, .unset] [(.long (own_attempts q1 q2 q3 q4 q5 q6 (q1 ^^^ q6) (q2 - q3)))]))
  refine Gl.st (fun t k => XS.lstore X14.here hx rfl (hb hby at_102) rfl (l' := #[.val (.long q1), .second, .val (.long q2), .second, .val (.long q3), .second, .val (.long q4), .second, .val (.long q5), .second, .val (.long q6), .second, .val (.long (q1 ^^^ q6)), .second, .val (.long (q2 - q3)), .second, .val (.ref b1), .val (.ref b10), .val (.long (((((((q1 + q2) + q3) + q4) + q5) + q6) + (q1 ^^^ q6)) + (q2 - q3))), .second, .val (.long (own_attempts q1 q2 q3 q4 q5 q6 (q1 ^^^ q6) (q2 - q3))), .second, .unset, .unset]) rfl k) ?_
  show Gl _ _ _ _ _ _ _ (T14.setTop (mkF m 104 #[.val (.long q1), .second, .val (.long q2), .second, .val (.long q3), .second, .val (.long q4), .second, .val (.long q5), .second, .val (.long q6), .second, .val (.long (q1 ^^^ q6)), .second, .val (.long (q2 - q3)), .second, .val (.ref b1), .val (.ref b10), .val (.long (((((((q1 + q2) + q3) + q4) + q5) + q6) + (q1 ^^^ q6)) + (q2 - q3))), .second, .val (.long (own_attempts q1 q2 q3 q4 q5 q6 (q1 ^^^ q6) (q2 - q3))), .second, .unset, .unset] []))
  refine Gl.st (fun t k => XS.aload X14.here hx rfl (hb hby at_104) rfl rfl k) ?_
  show Gl _ _ _ _ _ _ _ (T14.setTop (mkF m 106 #[.val (.long q1), .second, .val (.long q2), .second, .val (.long q3), .second, .val (.long q4), .second, .val (.long q5), .second, .val (.long q6), .second, .val (.long (q1 ^^^ q6)), .second, .val (.long (q2 - q3)), .second, .val (.ref b1), .val (.ref b10), .val (.long (((((((q1 + q2) + q3) + q4) + q5) + q6) + (q1 ^^^ q6)) + (q2 - q3))), .second, .val (.long (own_attempts q1 q2 q3 q4 q5 q6 (q1 ^^^ q6) (q2 - q3))), .second, .unset, .unset] [(.ref b10)]))
  obtain ⟨cq15, kq15, qa15, qb15, qc15⟩ := isOf hZ e14 Fq12_0
  obtain ⟨_, _, ⟨T15, L15, k15, n15⟩, -, X15, ⟨Lc15, hQ15, l15, y15, z15⟩, st15⟩ := X14.virtualBack hx (y := (⟨"com/example/wary_retry/waryretry/client/RetryFigures", "retryAttempts", "()J"⟩ : MethodName)) (z := (⟨"com/example/wary_retry/waryretry/client/RetryFigures", "retryAttempts", "()J"⟩ : MethodName)) hown (mvT hZ (hw _ (List.mem_of_getElem? (i := 14) rfl))) (mvT hZ (hw _ (List.mem_of_getElem? (i := 15) rfl))) (notFace_of_selects (args := #[]) (mvT hZ (hw _ (List.mem_of_getElem? (i := 17) rfl)))) (mvT hZ (hw _ (List.mem_of_getElem? (i := 17) rfl))) (mvT hZ (hw _ (List.mem_of_getElem? (i := 16) rfl))) (by decide) (backOf (W := 0) (rm3 l Z a0 hw [] b10 (b1) (k1) (q1) (q2) (q3) (q4) (q5) (q6) ((q1 ^^^ q6)) ((q2 - q3)) T12.heap n0  Fq12_2 V9'13) hZ (hw _ (List.mem_of_getElem? (i := 18) rfl)) (hw _ (List.mem_of_getElem? (i := 3) rfl)) (by decide) (by decide)) qa15 qc15 (g := (mkF m 106 #[.val (.long q1), .second, .val (.long q2), .second, .val (.long q3), .second, .val (.long q4), .second, .val (.long q5), .second, .val (.long q6), .second, .val (.long (q1 ^^^ q6)), .second, .val (.long (q2 - q3)), .second, .val (.ref b1), .val (.ref b10), .val (.long (((((((q1 + q2) + q3) + q4) + q5) + q6) + (q1 ^^^ q6)) + (q2 - q3))), .second, .val (.long (own_attempts q1 q2 q3 q4 q5 q6 (q1 ^^^ q6) (q2 - q3))), .second, .unset, .unset] [(.ref b10)])) rfl (by rw [hml]; rfl) (Steps.refl _) (argsL := []) (rest := []) (lenOf pd_1 rfl) rfl (by show 2 * 0 + _ ≤ _; exact Nat.le_of_eq rfl) (hb hby at_106) (fun _ _ => ⟨rfl, e14, (by decide : 2 + 0 ≤ _), (by decide : 10 + 0 ≤ _)⟩)
  dsimp only [Pt.U, Pt.locs, Pt.cells, Pt.slots] at X15 l15 y15 z15 st15 hQ15
  subst l15 y15 z15
  obtain ⟨rfl, N15q, e15⟩ := hQ15
  have N15 := Fr.app N14 N15q
  refine Gl.to st15 ?_
  show Gl _ _ _ _ _ _ _ (T15.setTop (mkF m 109 #[.val (.long q1), .second, .val (.long q2), .second, .val (.long q3), .second, .val (.long q4), .second, .val (.long q5), .second, .val (.long q6), .second, .val (.long (q1 ^^^ q6)), .second, .val (.long (q2 - q3)), .second, .val (.ref b1), .val (.ref b10), .val (.long (((((((q1 + q2) + q3) + q4) + q5) + q6) + (q1 ^^^ q6)) + (q2 - q3))), .second, .val (.long (own_attempts q1 q2 q3 q4 q5 q6 (q1 ^^^ q6) (q2 - q3))), .second, .unset, .unset] [(.long (own_attempts q1 q2 q3 q4 q5 q6 (q1 ^^^ q6) (q2 - q3)))]))
  refine Gl.st (fun t k => XS.lstore X15.here hx rfl (hb hby at_109) rfl (l' := #[.val (.long q1), .second, .val (.long q2), .second, .val (.long q3), .second, .val (.long q4), .second, .val (.long q5), .second, .val (.long q6), .second, .val (.long (q1 ^^^ q6)), .second, .val (.long (q2 - q3)), .second, .val (.ref b1), .val (.ref b10), .val (.long (((((((q1 + q2) + q3) + q4) + q5) + q6) + (q1 ^^^ q6)) + (q2 - q3))), .second, .val (.long (own_attempts q1 q2 q3 q4 q5 q6 (q1 ^^^ q6) (q2 - q3))), .second, .val (.long (own_attempts q1 q2 q3 q4 q5 q6 (q1 ^^^ q6) (q2 - q3))), .second]) rfl k) ?_
  show Gl _ _ _ _ _ _ _ (T15.setTop (mkF m 111 #[.val (.long q1), .second, .val (.long q2), .second, .val (.long q3), .second, .val (.long q4), .second, .val (.long q5), .second, .val (.long q6), .second, .val (.long (q1 ^^^ q6)), .second, .val (.long (q2 - q3)), .second, .val (.ref b1), .val (.ref b10), .val (.long (((((((q1 + q2) + q3) + q4) + q5) + q6) + (q1 ^^^ q6)) + (q2 - q3))), .second, .val (.long (own_attempts q1 q2 q3 q4 q5 q6 (q1 ^^^ q6) (q2 - q3))), .second, .val (.long (own_attempts q1 q2 q3 q4 q5 q6 (q1 ^^^ q6) (q2 - q3))), .second] []))
  refine Gl.st (fun t k => XS.lload X15.here hx rfl (hb hby at_111) rfl  k) ?_
  show Gl _ _ _ _ _ _ _ (T15.setTop (mkF m 113 #[.val (.long q1), .second, .val (.long q2), .second, .val (.long q3), .second, .val (.long q4), .second, .val (.long q5), .second, .val (.long q6), .second, .val (.long (q1 ^^^ q6)), .second, .val (.long (q2 - q3)), .second, .val (.ref b1), .val (.ref b10), .val (.long (((((((q1 + q2) + q3) + q4) + q5) + q6) + (q1 ^^^ q6)) + (q2 - q3))), .second, .val (.long (own_attempts q1 q2 q3 q4 q5 q6 (q1 ^^^ q6) (q2 - q3))), .second, .val (.long (own_attempts q1 q2 q3 q4 q5 q6 (q1 ^^^ q6) (q2 - q3))), .second] [(.long (own_attempts q1 q2 q3 q4 q5 q6 (q1 ^^^ q6) (q2 - q3)))]))
  refine Gl.st (fun t k => XS.lload X15.here hx rfl (hb hby at_113) rfl  k) ?_
  show Gl _ _ _ _ _ _ _ (T15.setTop (mkF m 115 #[.val (.long q1), .second, .val (.long q2), .second, .val (.long q3), .second, .val (.long q4), .second, .val (.long q5), .second, .val (.long q6), .second, .val (.long (q1 ^^^ q6)), .second, .val (.long (q2 - q3)), .second, .val (.ref b1), .val (.ref b10), .val (.long (((((((q1 + q2) + q3) + q4) + q5) + q6) + (q1 ^^^ q6)) + (q2 - q3))), .second, .val (.long (own_attempts q1 q2 q3 q4 q5 q6 (q1 ^^^ q6) (q2 - q3))), .second, .val (.long (own_attempts q1 q2 q3 q4 q5 q6 (q1 ^^^ q6) (q2 - q3))), .second] [(.long (((((((q1 + q2) + q3) + q4) + q5) + q6) + (q1 ^^^ q6)) + (q2 - q3))), (.long (own_attempts q1 q2 q3 q4 q5 q6 (q1 ^^^ q6) (q2 - q3)))]))
  refine Gl.st (fun t k => XS.lcmp X15.here hx rfl (hb hby at_115) rfl k) ?_
  show Gl _ _ _ _ _ _ _ (T15.setTop (mkF m 116 #[.val (.long q1), .second, .val (.long q2), .second, .val (.long q3), .second, .val (.long q4), .second, .val (.long q5), .second, .val (.long q6), .second, .val (.long (q1 ^^^ q6)), .second, .val (.long (q2 - q3)), .second, .val (.ref b1), .val (.ref b10), .val (.long (((((((q1 + q2) + q3) + q4) + q5) + q6) + (q1 ^^^ q6)) + (q2 - q3))), .second, .val (.long (own_attempts q1 q2 q3 q4 q5 q6 (q1 ^^^ q6) (q2 - q3))), .second, .val (.long (own_attempts q1 q2 q3 q4 q5 q6 (q1 ^^^ q6) (q2 - q3))), .second] [(.int (lcmpW (own_attempts q1 q2 q3 q4 q5 q6 (q1 ^^^ q6) (q2 - q3)) (((((((q1 + q2) + q3) + q4) + q5) + q6) + (q1 ^^^ q6)) + (q2 - q3))))]))
  have hc116_16 : (own_attempts q1 q2 q3 q4 q5 q6 (q1 ^^^ q6) (q2 - q3)) = (((((((q1 + q2) + q3) + q4) + q5) + q6) + (q1 ^^^ q6)) + (q2 - q3)) := by unfold own_attempts; rw [Int64.zero_add]
  refine Gl.st (fun t k => XS.ifNo X15.here hx rfl (hb hby at_116) rfl (le_t hc116_16).2 k) ?_
  show Gl _ _ _ _ _ _ _ (T15.setTop (mkF m 119 #[.val (.long q1), .second, .val (.long q2), .second, .val (.long q3), .second, .val (.long q4), .second, .val (.long q5), .second, .val (.long q6), .second, .val (.long (q1 ^^^ q6)), .second, .val (.long (q2 - q3)), .second, .val (.ref b1), .val (.ref b10), .val (.long (((((((q1 + q2) + q3) + q4) + q5) + q6) + (q1 ^^^ q6)) + (q2 - q3))), .second, .val (.long (own_attempts q1 q2 q3 q4 q5 q6 (q1 ^^^ q6) (q2 - q3))), .second, .val (.long (own_attempts q1 q2 q3 q4 q5 q6 (q1 ^^^ q6) (q2 - q3))), .second] []))
  refine Gl.st (fun t k => XS.lload X15.here hx rfl (hb hby at_119) rfl  k) ?_
  show Gl _ _ _ _ _ _ _ (T15.setTop (mkF m 121 #[.val (.long q1), .second, .val (.long q2), .second, .val (.long q3), .second, .val (.long q4), .second, .val (.long q5), .second, .val (.long q6), .second, .val (.long (q1 ^^^ q6)), .second, .val (.long (q2 - q3)), .second, .val (.ref b1), .val (.ref b10), .val (.long (((((((q1 + q2) + q3) + q4) + q5) + q6) + (q1 ^^^ q6)) + (q2 - q3))), .second, .val (.long (own_attempts q1 q2 q3 q4 q5 q6 (q1 ^^^ q6) (q2 - q3))), .second, .val (.long (own_attempts q1 q2 q3 q4 q5 q6 (q1 ^^^ q6) (q2 - q3))), .second] [(.long (own_attempts q1 q2 q3 q4 q5 q6 (q1 ^^^ q6) (q2 - q3)))]))
  refine Gl.st (fun t k => XS.lload X15.here hx rfl (hb hby at_121) rfl  k) ?_
  show Gl _ _ _ _ _ _ _ (T15.setTop (mkF m 123 #[.val (.long q1), .second, .val (.long q2), .second, .val (.long q3), .second, .val (.long q4), .second, .val (.long q5), .second, .val (.long q6), .second, .val (.long (q1 ^^^ q6)), .second, .val (.long (q2 - q3)), .second, .val (.ref b1), .val (.ref b10), .val (.long (((((((q1 + q2) + q3) + q4) + q5) + q6) + (q1 ^^^ q6)) + (q2 - q3))), .second, .val (.long (own_attempts q1 q2 q3 q4 q5 q6 (q1 ^^^ q6) (q2 - q3))), .second, .val (.long (own_attempts q1 q2 q3 q4 q5 q6 (q1 ^^^ q6) (q2 - q3))), .second] [(.long (((((((q1 + q2) + q3) + q4) + q5) + q6) + (q1 ^^^ q6)) + (q2 - q3))), (.long (own_attempts q1 q2 q3 q4 q5 q6 (q1 ^^^ q6) (q2 - q3)))]))
  refine Gl.st (fun t k => XS.lcmp X15.here hx rfl (hb hby at_123) rfl k) ?_
  show Gl _ _ _ _ _ _ _ (T15.setTop (mkF m 124 #[.val (.long q1), .second, .val (.long q2), .second, .val (.long q3), .second, .val (.long q4), .second, .val (.long q5), .second, .val (.long q6), .second, .val (.long (q1 ^^^ q6)), .second, .val (.long (q2 - q3)), .second, .val (.ref b1), .val (.ref b10), .val (.long (((((((q1 + q2) + q3) + q4) + q5) + q6) + (q1 ^^^ q6)) + (q2 - q3))), .second, .val (.long (own_attempts q1 q2 q3 q4 q5 q6 (q1 ^^^ q6) (q2 - q3))), .second, .val (.long (own_attempts q1 q2 q3 q4 q5 q6 (q1 ^^^ q6) (q2 - q3))), .second] [(.int (lcmpW (own_attempts q1 q2 q3 q4 q5 q6 (q1 ^^^ q6) (q2 - q3)) (((((((q1 + q2) + q3) + q4) + q5) + q6) + (q1 ^^^ q6)) + (q2 - q3))))]))
  have hc124_17 : (own_attempts q1 q2 q3 q4 q5 q6 (q1 ^^^ q6) (q2 - q3)) = (((((((q1 + q2) + q3) + q4) + q5) + q6) + (q1 ^^^ q6)) + (q2 - q3)) := by unfold own_attempts; rw [Int64.zero_add]
  refine Gl.st (fun t k => XS.ifNo X15.here hx rfl (hb hby at_124) rfl (le_t hc124_17).2 k) ?_
  show Gl _ _ _ _ _ _ _ (T15.setTop (mkF m 127 #[.val (.long q1), .second, .val (.long q2), .second, .val (.long q3), .second, .val (.long q4), .second, .val (.long q5), .second, .val (.long q6), .second, .val (.long (q1 ^^^ q6)), .second, .val (.long (q2 - q3)), .second, .val (.ref b1), .val (.ref b10), .val (.long (((((((q1 + q2) + q3) + q4) + q5) + q6) + (q1 ^^^ q6)) + (q2 - q3))), .second, .val (.long (own_attempts q1 q2 q3 q4 q5 q6 (q1 ^^^ q6) (q2 - q3))), .second, .val (.long (own_attempts q1 q2 q3 q4 q5 q6 (q1 ^^^ q6) (q2 - q3))), .second] []))
  refine Gl.st (fun t k => XS.iconst X15.here hx rfl (hb hby at_127) k) ?_
  show Gl _ _ _ _ _ _ _ (T15.setTop (mkF m 128 #[.val (.long q1), .second, .val (.long q2), .second, .val (.long q3), .second, .val (.long q4), .second, .val (.long q5), .second, .val (.long q6), .second, .val (.long (q1 ^^^ q6)), .second, .val (.long (q2 - q3)), .second, .val (.ref b1), .val (.ref b10), .val (.long (((((((q1 + q2) + q3) + q4) + q5) + q6) + (q1 ^^^ q6)) + (q2 - q3))), .second, .val (.long (own_attempts q1 q2 q3 q4 q5 q6 (q1 ^^^ q6) (q2 - q3))), .second, .val (.long (own_attempts q1 q2 q3 q4 q5 q6 (q1 ^^^ q6) (q2 - q3))), .second] [(.int (1 : Int32))]))
  refine Gl.st (fun t k => XS.goto X15.here hx rfl (pc0 := 128) (pc' := 132) rfl (hb hby at_128) (by decide) (by decide) k) ?_
  show Gl _ _ _ _ _ _ _ (T15.setTop (mkF m 132 #[.val (.long q1), .second, .val (.long q2), .second, .val (.long q3), .second, .val (.long q4), .second, .val (.long q5), .second, .val (.long q6), .second, .val (.long (q1 ^^^ q6)), .second, .val (.long (q2 - q3)), .second, .val (.ref b1), .val (.ref b10), .val (.long (((((((q1 + q2) + q3) + q4) + q5) + q6) + (q1 ^^^ q6)) + (q2 - q3))), .second, .val (.long (own_attempts q1 q2 q3 q4 q5 q6 (q1 ^^^ q6) (q2 - q3))), .second, .val (.long (own_attempts q1 q2 q3 q4 q5 q6 (q1 ^^^ q6) (q2 - q3))), .second] [(.int (1 : Int32))]))
  exact Gl.retN X15 hx hlk Bd.returns (by simp) (hb hby at_132) (⟨rfl, N15⟩) (by decide) (by decide)
set_option maxRecDepth 65536 in
set_option maxHeartbeats 40000000 in
theorem comes_1 {Post : Tables → Env → Array Value → State → Outcome → State → Prop} (hpost : ∀ tb e args s v u, (limb_1_1.after args s (.returned v) u = true ∧ limb_1_2.after args s (.returned v) u = true ∧ True) → FrameEnd s (.returned v) u (Jvm.fieldLocs frame_1_writes args s ++ Jvm.arrayLocs frame_1_arrays args s ++ Jvm.staticLocs frame_1_statics s) 16 128 → Post tb e args s (.returned v) u) :
    ArmFor flags0 classFile x code maxLocals ret World_1 tables_1 room_1 Calls_1 rest_1 Pre_1 Post := by
  intro l hfl _ _ p e ha hc hk s m args below hf hA hF happ hP
  obtain ⟨hcalls, hrest, hpre⟩ := hP
  obtain ⟨-, -, -, hnamed, -, -, -, hat⟩ := (Spec.applies_iff hf).mp happ
  obtain ⟨hg, hn⟩ := and_e (Cond.before_iff.mp (show (Jvm.Cond.and given_1 narrow_1).before args s = true from hpre))
  obtain ⟨hcnt, hr0⟩ := and_e hg
  obtain ⟨ha0, hr1⟩ := and_e hr0
  obtain ⟨ha1, hr2⟩ := and_e hr1
  obtain ⟨ha2, hr3⟩ := and_e hr2
  obtain ⟨ha3, hr4⟩ := and_e hr3
  obtain ⟨ha4, hr5⟩ := and_e hr4
  have ha5 := hr5
  obtain ⟨w0, w1, w2, w3, w4, w5, rfl⟩ : ∃ w0 w1 w2 w3 w4 w5 : Value, args = #[w0, w1, w2, w3, w4, w5] := by
    have hs : args.size = 6 := by simpa [Cond.value, given_1] using hcnt
    obtain ⟨L⟩ := args
    match L, hs with
    | [w0, w1, w2, w3, w4, w5], _ => exact ⟨w0, w1, w2, w3, w4, w5, rfl⟩
  have hw := fun d (hd : d ∈ tables_1) => atoms_spec (ws := Jvm.Cond.code x code maxLocals ret :: tables_1) hat d (List.mem_cons_of_mem _ hd)
  obtain ⟨i0, ei0⟩ := isL_v ha0
  obtain rfl : w0 = (.long i0) := Option.some.inj ei0
  obtain ⟨i1, ei1⟩ := isL_v ha1
  obtain rfl : w1 = (.long i1) := Option.some.inj ei1
  obtain ⟨i2, ei2⟩ := isL_v ha2
  obtain rfl : w2 = (.long i2) := Option.some.inj ei2
  obtain ⟨i3, ei3⟩ := isL_v ha3
  obtain rfl : w3 = (.long i3) := Option.some.inj ei3
  obtain ⟨i4, ei4⟩ := isL_v ha4
  obtain rfl : w4 = (.long i4) := Option.some.inj ei4
  obtain ⟨i5, ei5⟩ := isL_v ha5
  obtain rfl : w5 = (.long i5) := Option.some.inj ei5
  obtain ⟨n, o, h1, h2, h3, _, L, rfl, ⟨rfl, N⟩, hq⟩ := rm0 l s _ hw tables_1 i0 i1 i2 i3 i4 i5 s.heap s.heap.size (Nat.le_refl _) p e ha hc hk s m _ below hf ((Spec.applies_iff_loose hf).mp happ).1 ⟨rfl, State.Warmed39.refl s, rfl⟩ trivial
  refine ⟨n, _, h1, h2, h3, hpost _ _ _ _ _ _ ⟨Cond.after_iff.mpr rfl, Cond.after_iff.mpr (eq_i res_at (Term.int_eval (1)) rfl), trivial⟩ ⟨hq.1, hq.2.1, (hq.2.2.sift fun y hy => Or.inr (N y hy)).mono (by decide) (by decide)⟩⟩
theorem main_1_1 : Claimed_1_1 := comes_1 fun _ _ _ _ _ _ h hF => ⟨h.1, hF⟩
theorem main_1_2 : Claimed_1_2 := comes_1 fun _ _ _ _ _ _ h hF => ⟨h.2.1, hF⟩
end Jvm.Pilot.@@N@@
namespace Jvm.Pilot.@@N@@
open Jvm Jvm.ClassFile Sem Op Lib Jvm.Free Jvm.Stand Jvm.Pilot.@@N@@.Jvm.D
/-! MADE BY PROGRAM (witnessworld.py) out of the Statement's table words and the real class files: 11 classes; the members and pool entries that the words name. The judged class is class 1, her method 1. -/
namespace start1
open Jvm.ClassFile
def u (s : String) : CpInfo := .utf8 (stringToUtf16 s)
/-- a pool by its gaps: so many unusable entries, then the entry; so many at the end -/
def gap : Nat → List CpInfo → List CpInfo
  | 0, r => r
  | n + 1, r => .unusable :: gap n r
def poolList (es : List (Nat × CpInfo)) (last : Nat) : List CpInfo := es.foldr (fun e r => gap e.1 (e.2 :: r)) (gap last [])
def pool (es : List (Nat × CpInfo)) (last : Nat) : Array CpInfo := ⟨poolList es last⟩
def fileOf (pool : Array CpInfo) (this : Nat) (attrs : Array Attribute := #[]) (ms : Array MethodInfo := #[]) (fl : Nat := 33) (sup : Nat := 0) (ifs : Array Nat := #[]) (fds : Array FieldInfo := #[]) : ClassFile where
  minorVersion := 0
  majorVersion := 65
  constantPool := pool
  accessFlags := fl
  thisClass := this
  superClass := sup
  interfaces := ifs
  fields := fds
  methods := ms
  attributes := attrs
def plain (name : String) (sup : Option ClassId) : Class where
  name := name
  kind := .ordinary
  loader := none
  accessFlags := 33
  super := sup
  interfaces := #[]
  cf := none
  fields := #[]
  methods := #[]
  instanceTypes := #[]
  staticTypes := #[]
  resolved := #[]
  callSites := []
  init := .initialized
  statics := none
  mirror := none

def pool0 : Array CpInfo := pool [(5, u "<init>"), (0, u "()V"), (1, .class_ 10), (1, u "java/lang/Object")] 113

def k0c0 : Code := { maxStack := 0, maxLocals := 1, code := object_method_1_code, exceptionTable := #[], attributes := #[] }
def k0m0 : Method := { name := "<init>", desc := "()V", sig := { parameters := [], returnType := none }, accessFlags := 1, code := some k0c0 }
/-- java/lang/Object -/
def k0 : Class := { plain "java/lang/Object" none with
  accessFlags := 33
  interfaces := #[]
  cf := some (fileOf pool0 8 #[] #[{ accessFlags := 1, nameIndex := 5, descriptorIndex := 6, attributes := #[] }] 33 0 #[] #[])
  fields := #[]
  methods := #[k0m0]
  instanceTypes := #[]
  staticTypes := #[]
  resolved := Array.replicate 124 none
  statics := none }

def pool1 : Array CpInfo := pool [(2, .class_ 4), (1, u "java/lang/Object"), (0, u "<init>"), (0, u "()V"), (0, .class_ 8), (0, u "com/example/wary_retry/waryretry/client/RetryFigures"), (0, .methodref 7 10), (0, .nameAndType 5 11), (0, u "(J[J)V"), (0, .methodref 7 13), (0, .nameAndType 14 15), (0, u "retryAttempts"), (0, u "()J"), (0, .class_ 17), (0, u "com/example/wary_retry/waryretry/client/RetryFiguresRetryAttemptsPinLaw"), (2, u "law"), (0, u "(JJJJJJ)Z")] 5

def k1m0 : Method := { name := "<init>", desc := "()V", sig := { parameters := [], returnType := none }, accessFlags := 1, code := none }
def k1c1 : Code := { maxStack := 6, maxLocals := 24, code := code, exceptionTable := #[], attributes := #[] }
def k1m1 : Method := { name := "law", desc := "(JJJJJJ)Z", sig := { parameters := [.long, .long, .long, .long, .long, .long], returnType := some .boolean }, accessFlags := 9, code := some k1c1 }
/-- com/example/wary_retry/waryretry/client/RetryFiguresRetryAttemptsPinLaw -/
def k1 : Class := { plain "com/example/wary_retry/waryretry/client/RetryFiguresRetryAttemptsPinLaw" (some 0) with
  accessFlags := 49
  interfaces := #[]
  cf := some (fileOf pool1 16 #[] #[{ accessFlags := 1, nameIndex := 5, descriptorIndex := 6, attributes := #[] }, { accessFlags := 9, nameIndex := 20, descriptorIndex := 21, attributes := #[] }] 49 2 #[] #[])
  fields := #[]
  methods := #[k1m0, k1m1]
  instanceTypes := #[]
  staticTypes := #[]
  resolved := Array.replicate 27 none
  statics := none }

def pool2 : Array CpInfo := pool [(1, .methodref 2 3), (0, .class_ 4), (0, .nameAndType 5 6), (0, u "java/lang/Object"), (0, u "<init>"), (0, u "()V"), (0, .fieldref 8 9), (0, .class_ 10), (0, .nameAndType 11 12), (0, u "com/example/wary_retry/waryretry/client/RetryFigures"), (0, u "failed"), (0, u "J"), (0, .fieldref 8 14), (0, .nameAndType 15 16), (0, u "histogram"), (0, u "[J"), (2, u "HISTOGRAM_BOUNDS"), (0, u "Ljava/util/List;"), (39, u "retryAttempts"), (0, u "()J"), (33, u "(J[J)V")] 14

def k2c0 : Code := { maxStack := 3, maxLocals := 4, code := prog_7_method_1_code, exceptionTable := #[], attributes := #[] }
def k2m0 : Method := { name := "<init>", desc := "(J[J)V", sig := { parameters := [.long, (.array .long)], returnType := none }, accessFlags := 0, code := some k2c0 }
def k2c1 : Code := { maxStack := 4, maxLocals := 8, code := prog_7_method_3_code, exceptionTable := #[], attributes := #[] }
def k2m1 : Method := { name := "retryAttempts", desc := "()J", sig := { parameters := [], returnType := some .long }, accessFlags := 1, code := some k2c1 }
/-- com/example/wary_retry/waryretry/client/RetryFigures -/
def k2 : Class := { plain "com/example/wary_retry/waryretry/client/RetryFigures" (some 0) with
  accessFlags := 33
  interfaces := #[]
  cf := some (fileOf pool2 8 #[] #[{ accessFlags := 0, nameIndex := 5, descriptorIndex := 95, attributes := #[] }, { accessFlags := 1, nameIndex := 60, descriptorIndex := 61, attributes := #[] }] 33 2 #[] #[{ accessFlags := 25, nameIndex := 19, descriptorIndex := 20, attributes := #[] }, { accessFlags := 18, nameIndex := 11, descriptorIndex := 12, attributes := #[] }, { accessFlags := 18, nameIndex := 15, descriptorIndex := 16, attributes := #[] }])
  fields := #[{ name := "HISTOGRAM_BOUNDS", type := (.object "java/util/List"), accessFlags := 25, slot := 0, constantValue := 0 }, { name := "failed", type := .long, accessFlags := 18, slot := 0, constantValue := 0 }, { name := "histogram", type := (.array .long), accessFlags := 18, slot := 1, constantValue := 0 }]
  methods := #[k2m0, k2m1]
  instanceTypes := #[.long, (.array .long)]
  staticTypes := #[(.object "java/util/List")]
  resolved := Array.replicate 110 none
  statics := none }

def pool3 : Array CpInfo := pool [(1, u "java/lang/Cloneable"), (0, .class_ 1), (0, u "java/lang/Object"), (0, .class_ 3)] 3

/-- java/lang/Cloneable -/
def k3 : Class := { plain "java/lang/Cloneable" (some 0) with
  accessFlags := 1537
  interfaces := #[]
  cf := some (fileOf pool3 2 #[] #[] 1537 4 #[] #[])
  fields := #[]
  methods := #[]
  instanceTypes := #[]
  staticTypes := #[]
  resolved := Array.replicate 8 none
  statics := none }

def pool4 : Array CpInfo := pool [(1, u "java/io/Serializable"), (0, .class_ 1), (0, u "java/lang/Object"), (0, .class_ 3)] 3

/-- java/io/Serializable -/
def k4 : Class := { plain "java/io/Serializable" (some 0) with
  accessFlags := 1537
  interfaces := #[]
  cf := some (fileOf pool4 2 #[] #[] 1537 4 #[] #[])
  fields := #[]
  methods := #[]
  instanceTypes := #[]
  staticTypes := #[]
  resolved := Array.replicate 8 none
  statics := none }

/-- the primitive byte -/
def k5 : Class := { plain "byte" none with kind := .primitive 'B', accessFlags := 0x411 }
/-- [B -/
def k6 : Class := { plain "[B" (some 0) with kind := .array 5 .byte, interfaces := #[3, 4], accessFlags := 1041 }

/-- the primitive int -/
def k7 : Class := { plain "int" none with kind := .primitive 'I', accessFlags := 0x411 }
/-- [I -/
def k8 : Class := { plain "[I" (some 0) with kind := .array 7 .int, interfaces := #[3, 4], accessFlags := 1041 }

/-- the primitive long -/
def k9 : Class := { plain "long" none with kind := .primitive 'J', accessFlags := 0x411 }
/-- [J -/
def k10 : Class := { plain "[J" (some 0) with kind := .array 9 .long, interfaces := #[3, 4], accessFlags := 1041 }

def heap : Heap := #[]
def classes : Array Class := #[k0, k1, k2, k3, k4, k5, k6, k7, k8, k9, k10]
def interned : List (Array UInt16 × Addr) := []
def slotsUsed : Nat := 0
def theMethod : MethodId := ⟨1, 1⟩
def args0 : Array Value := #[.long 5, .long 3, .long 0, .long (-7), .long 11, .long 13]
def aboutOver (below : List Frame) : State where
  vm := { classes := classes, interned := interned.toArray }
  heap := heap
  slotsUsed := slotsUsed
  threads := #[{ frames := .invoking theMethod args0 :: below }]
def below0 : List Frame := [.native { method := ⟨0, 0⟩, args := #[] }]
def about1 : State := aboutOver below0
def p0 : Program := .bare "" "" ""
def e0 : Env := launch0.env 0 0 0
theorem w_frames : about1.frames = Frame.invoking theMethod args0 :: below0 := rfl
set_option maxRecDepth 65536 in
theorem w_args : argsFit about1.vm theMethod args0 = true := by decide +kernel
set_option maxRecDepth 65536 in
theorem w_heap : heapFits about1 = true := by decide +kernel
set_option maxRecDepth 65536 in
theorem w_runnable : about1.curStatus? = some .runnable := by decide +kernel
set_option maxRecDepth 65536 in
theorem w_alone : about1.alone = true := by decide +kernel
set_option maxRecDepth 65536 in
theorem w_named : about1.methodNamed? x = some theMethod := by decide +kernel
set_option maxRecDepth 65536 in
theorem w_hears : about1.hears theMethod below0 = true := by decide +kernel
set_option maxRecDepth 65536 in
theorem w_ripe : about1.ripe theMethod args0 below0 = true := by decide +kernel
theorem w_running : about1.status = .running := rfl
set_option maxRecDepth 65536 in
theorem w_room : about1.hasRoom e0.platform room_1 = true :=
  launch0.hasRoom_least _ room_1 (by decide +kernel) (by decide +kernel) (by decide +kernel) (by decide +kernel) (by decide +kernel) (by decide +kernel)
theorem allAtoms_all (ts : List Jvm.Cond) (a : Array Jvm.Value) (st : Jvm.State) : (allAtoms ts).before a st = ts.all (fun c => c.before a st) := by
  induction ts with
  | nil => rfl
  | cons c t ih =>
    show (Jvm.Cond.and c (allAtoms t)).before a st = _
    rw [Jvm.Cond.before_and, ih, List.all_cons]
def words1 : List Jvm.Cond := Jvm.Cond.code x code maxLocals ret :: tables_1
/-- a 'code' word, met by the world's own term for the bytes: nothing is compared byte by byte -/
theorem code_word {y : MethodName} {bytes : ByteArray} {mx : Nat} {rt : Option FieldType} {a : Array Value} {s : State} {m : MethodId} {meth : Method} {c : Code} (h1 : s.methodNamed? y = some m) (h2 : s.vm.method? m = some meth) (h3 : meth.code = some c) (h4 : c.code = bytes)
    (h5 : (c.maxLocals == mx && c.exceptionTable.isEmpty && decide (c.maxStack ≤ mostOperands) && decide (meth.sig.returnType = rt) && !meth.locks && decide (parseMethodDescriptor y.desc = some meth.sig)) = true) : (Jvm.Cond.code y bytes mx rt).before a s = true := by
  simp only [Bool.and_eq_true, beq_iff_eq, Bool.not_eq_true', decide_eq_true_eq] at h5
  obtain ⟨⟨⟨⟨⟨g1, g2⟩, g3⟩, g4⟩, g5⟩, g6⟩ := h5
  simp [Cond.before, Cond.holds, Cond.value, h1, h2, h3, h4, g1, g2, g3, g4, g5, g6]
def isCode : Jvm.Cond → Bool
  | .code _ _ _ _ => true
  | _ => false
theorem all_split {L : List Jvm.Cond} {P : Jvm.Cond → Bool} (h1 : L.all (fun c => isCode c || P c) = true) (h2 : ∀ c ∈ L.filter isCode, P c = true) : L.all P = true := by
  refine List.all_eq_true.mpr fun c hc => ?_
  have h := List.all_eq_true.mp h1 c hc
  rcases Bool.eq_false_or_eq_true (isCode c) with hi | hi
  · exact h2 c (List.mem_filter.mpr ⟨hc, hi⟩)
  · simpa [hi] using h
set_option maxRecDepth 65536 in
theorem w_c0 : (Jvm.Cond.code x code maxLocals ret).before args0 about1 = true := code_word (m := ⟨1, 1⟩) (meth := k1m1) (c := k1c1) (by decide +kernel) rfl rfl rfl (by decide +kernel)
set_option maxRecDepth 65536 in
theorem w_c1 : (Jvm.Cond.code ({ cls := "com/example/wary_retry/waryretry/client/RetryFigures", name := "<init>", desc := "(J[J)V" } : Jvm.MethodName) prog_7_method_1_code (4 : Nat) (Option.none : Option Jvm.ClassFile.FieldType)).before args0 about1 = true := code_word (m := ⟨2, 0⟩) (meth := k2m0) (c := k2c0) (by decide +kernel) rfl rfl rfl (by decide +kernel)
set_option maxRecDepth 65536 in
theorem w_c2 : (Jvm.Cond.code ({ cls := "java/lang/Object", name := "<init>", desc := "()V" } : Jvm.MethodName) object_method_1_code (1 : Nat) (Option.none : Option Jvm.ClassFile.FieldType)).before args0 about1 = true := code_word (m := ⟨0, 0⟩) (meth := k0m0) (c := k0c0) (by decide +kernel) rfl rfl rfl (by decide +kernel)
set_option maxRecDepth 65536 in
theorem w_c3 : (Jvm.Cond.code ({ cls := "com/example/wary_retry/waryretry/client/RetryFigures", name := "retryAttempts", desc := "()J" } : Jvm.MethodName) prog_7_method_3_code (8 : Nat) (Option.some Jvm.ClassFile.FieldType.long)).before args0 about1 = true := code_word (m := ⟨2, 1⟩) (meth := k2m1) (c := k2c1) (by decide +kernel) rfl rfl rfl (by decide +kernel)
def codes1 : List Jvm.Cond := [Jvm.Cond.code x code maxLocals ret, Jvm.Cond.code ({ cls := "com/example/wary_retry/waryretry/client/RetryFigures", name := "<init>", desc := "(J[J)V" } : Jvm.MethodName) prog_7_method_1_code (4 : Nat) (Option.none : Option Jvm.ClassFile.FieldType), Jvm.Cond.code ({ cls := "java/lang/Object", name := "<init>", desc := "()V" } : Jvm.MethodName) object_method_1_code (1 : Nat) (Option.none : Option Jvm.ClassFile.FieldType), Jvm.Cond.code ({ cls := "com/example/wary_retry/waryretry/client/RetryFigures", name := "retryAttempts", desc := "()J" } : Jvm.MethodName) prog_7_method_3_code (8 : Nat) (Option.some Jvm.ClassFile.FieldType.long)]
set_option maxRecDepth 65536 in
theorem codes_eq : words1.filter isCode = codes1 := rfl
theorem w_codes : ∀ c ∈ words1.filter isCode, c.before args0 about1 = true := by
  rw [codes_eq]
  intro c hc
  simp only [codes1, List.mem_cons, List.not_mem_nil, or_false] at hc
  rcases hc with rfl | rfl | rfl | rfl
  · exact w_c0
  · exact w_c1
  · exact w_c2
  · exact w_c3
set_option maxRecDepth 65536 in
theorem w_t1 : words1.all (fun c => isCode c || c.before args0 about1) = true := by decide +kernel
theorem w_tables : (allAtoms (Jvm.Cond.code x code maxLocals ret :: tables_1)).before args0 about1 = true := by
  rw [allAtoms_all]
  show words1.all (fun c => c.before args0 about1) = true
  refine all_split ?_ w_codes
  rw [w_t1]
set_option maxRecDepth 65536 in
theorem w_case : (Jvm.Cond.and given_1 narrow_1).before args0 about1 = true := by decide +kernel
theorem w_applies : (headSpec (Jvm.Cond.code x code maxLocals ret :: tables_1) room_1).applies x e0.platform about1 = true :=
  (Spec.applies_iff w_frames).mpr ⟨w_running, w_runnable, w_alone, w_named, w_hears, w_ripe, w_room, w_tables⟩
theorem atStart : AtStart classFile x code maxLocals ret World_1 tables_1 room_1 Calls_1 rest_1 Pre_1 launch0 p0 e0 about1 theMethod args0 below0 :=
  ⟨lists_1, trivial, launch0.admits_env _ _ _, launch0.least_env, fairChoices_fair.cas, fairChoices_fair.clock, w_frames, w_args, w_heap, w_applies, trivial, trivial, w_case⟩
end start1
theorem witness_1 : WitnessClaimed_1 := ⟨start1.p0, start1.e0, start1.about1, start1.theMethod, start1.args0, start1.below0, start1.atStart⟩
end Jvm.Pilot.@@N@@
