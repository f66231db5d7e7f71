import JvmDerived
import JvmDerived.Pilot.@@N@@Statement
import JvmDerived.Pilot.@@N@@Code
set_option linter.unusedVariables false
set_option linter.unusedSimpArgs false
namespace Jvm.RoadKit
open Sem ClassFile Op Lib Jvm.Stand Jvm.Free Jvm.LawKit
section New
variable {p : Program} {l : Launch} {e : Env} {R : Room} {s : State} {m : MethodId} {args : Array Value} {below : List Frame} {meth : Method} {c : Code} {T T' : State} {locs : List Loc} {cells slots cs sl : Nat} {Q : Option Value → Heap → List Loc → Prop}
/-- from T the run ends, and Q holds at the end -/
def Gl (p : Program) (e : Env) (below : List Frame) (s : State) (Q : Option Value → Heap → List Loc → Prop) (cs sl : Nat) (T : State) : Prop :=
  ∃ s₂ o, Steps p.tables e below T s₂ ∧ s₂.status = .running ∧ Ended s₂ below o ∧ ∃ v L, o = .returned v ∧ Q v s₂.heap L ∧ FrameEnd s o s₂ L cs sl
theorem Gl.st (k : ∀ t, Steps p.tables e below T' t → Steps p.tables e below T t) (h : Gl p e below s Q cs sl T') : Gl p e below s Q cs sl T := by
  obtain ⟨a, o, h1, r⟩ := h
  exact ⟨a, o, k _ h1, r⟩
theorem Gl.to (k : Steps p.tables e below T T') (h : Gl p e below s Q cs sl T') : Gl p e below s Q cs sl T := Gl.st (fun _ q => k.trans q) h
theorem Gl.fin (X : Stand p l e R s m args below meth c T locs cells slots) {v : Option Value} (hv : meth.sig.returnType = none → v = none) (hlk : meth.locks = false) (hQ : Q v T.heap locs) (hc : cells ≤ cs) (hs : slots ≤ sl) {S0 : State}
    (k : ∀ fs, (∀ (f : JFrame) (acts : List Action), f.method = m → f.locked = none → f.entered = [] → (doReturn e (T.setTop f) acts v).1 = T.setFrames fs) → Steps p.tables e below S0 (T.setFrames fs)) : Gl p e below s Q cs sl S0 := by
  obtain ⟨fs, hr, hrun, hended, hW, hsame⟩ := X.leave hv hlk
  exact ⟨_, _, k fs hr, hrun, hended, v, locs, rfl, hQ, ⟨_, rfl⟩, hW, hsame.mono hc hs⟩
theorem Gl.retN (X : Stand p l e R s m args below meth c T locs cells slots) (hx : p.tables.exec = Jvm.exec) (hlk : meth.locks = false) {pc : Nat} {Ls : Array Slot} {z : Int32} {t : FieldType} {rest : List Value} (hret : meth.sig.returnType = some t) (ht : t = .boolean ∨ t = .byte ∨ t = .char ∨ t = .short)
    (hd : decode c.code pc = .ok (.ireturn, 1)) (hQ : Q (some (.int (nar t z))) T.heap locs) (hc : cells ≤ cs) (hs : slots ≤ sl) : Gl p e below s Q cs sl (T.setTop (mkF m pc Ls (.int z :: rest))) :=
  Gl.fin X (fun h => by rw [hret] at h; cases h) hlk hQ hc hs fun _ hr => Jvm.RoadKit.retN X hx hret ht hd hr
theorem Gl.retI (X : Stand p l e R s m args below meth c T locs cells slots) (hx : p.tables.exec = Jvm.exec) (hlk : meth.locks = false) {pc : Nat} {Ls : Array Slot} {z : Int32} {rest : List Value} (hret : meth.sig.returnType = some .int)
    (hd : decode c.code pc = .ok (.ireturn, 1)) (hQ : Q (some (.int z)) T.heap locs) (hc : cells ≤ cs) (hs : slots ≤ sl) : Gl p e below s Q cs sl (T.setTop (mkF m pc Ls (.int z :: rest))) :=
  Gl.fin X (fun h => by rw [hret] at h; cases h) hlk hQ hc hs fun _ hr => retOut X hx hret rfl (Or.inl ⟨rfl, Or.inl rfl, z, rfl⟩) hd hr
theorem Gl.retJ (X : Stand p l e R s m args below meth c T locs cells slots) (hx : p.tables.exec = Jvm.exec) (hlk : meth.locks = false) {pc : Nat} {Ls : Array Slot} {z : Int64} {rest : List Value} (hret : meth.sig.returnType = some .long)
    (hd : decode c.code pc = .ok (.lreturn, 1)) (hQ : Q (some (.long z)) T.heap locs) (hc : cells ≤ cs) (hs : slots ≤ sl) : Gl p e below s Q cs sl (T.setTop (mkF m pc Ls (.long z :: rest))) :=
  Gl.fin X (fun h => by rw [hret] at h; cases h) hlk hQ hc hs fun _ hr => retOut X hx hret rfl (Or.inr (Or.inl ⟨rfl, rfl, z, rfl⟩)) hd hr
theorem Gl.retV (X : Stand p l e R s m args below meth c T locs cells slots) (hx : p.tables.exec = Jvm.exec) (hlk : meth.locks = false) {pc : Nat} {Ls : Array Slot} (hret : meth.sig.returnType = none)
    (hd : decode c.code pc = .ok (.return_, 1)) (hQ : Q none T.heap locs) (hc : cells ≤ cs) (hs : slots ≤ sl) : Gl p e below s Q cs sl (T.setTop (mkF m pc Ls [])) :=
  Gl.fin X (fun _ => rfl) hlk hQ hc hs fun _ hr => X.returnOut hx hret hd hr
/-- .. where String constants may have been interned -/
def GlW (p : Program) (e : Env) (below : List Frame) (s : State) (Q : Option Value → Heap → List Loc → Prop) (cs sl : Nat) (T : State) : Prop :=
  ∃ s₂ o, Steps p.tables e below T s₂ ∧ s₂.status = .running ∧ Ended s₂ below o ∧ ∃ v L, o = .returned v ∧ Q v s₂.heap L ∧ ReturnedEndW s o s₂ L cs sl
theorem GlW.st (k : ∀ t, Steps p.tables e below T' t → Steps p.tables e below T t) (h : GlW p e below s Q cs sl T') : GlW p e below s Q cs sl T := by
  obtain ⟨a, o, h1, r⟩ := h
  exact ⟨a, o, k _ h1, r⟩
theorem GlW.to (k : Steps p.tables e below T T') (h : GlW p e below s Q cs sl T') : GlW p e below s Q cs sl T := GlW.st (fun _ q => k.trans q) h
theorem GlW.retN {vm₁ : Vm} (X : Stand p l e R (s.setVm vm₁) m args below meth c T locs cells slots) (hx : p.tables.exec = Jvm.exec) {n : Nat} (hS : s.Since vm₁ n) (hn : n ≤ T.heap.size) (hlk : meth.locks = false) {pc : Nat} {Ls : Array Slot} {z : Int32} {t : FieldType} {rest : List Value} (hret : meth.sig.returnType = some t) (ht : t = .boolean ∨ t = .byte ∨ t = .char ∨ t = .short)
    (hd : decode c.code pc = .ok (.ireturn, 1)) (hQ : Q (some (.int (nar t z))) T.heap locs) (hc : cells ≤ cs) (hs : slots ≤ sl) : GlW p e below s Q cs sl (T.setTop (mkF m pc Ls (.int z :: rest))) := by
  obtain ⟨fs, hr, hrun, hended, h1, h2, h3, h4⟩ := X.leaveW hS hn (v := some (.int (nar t z))) (fun h => by rw [hret] at h; cases h) hlk
  exact ⟨_, _, Jvm.RoadKit.retN X hx hret ht hd hr, hrun, hended, _, locs, rfl, hQ, h1, h2, h3, h4.mono hc hs⟩
theorem lc_t {x y : Int64} (h : x < y) : ifCond.holds .lt (lcmpW x y) = true ∧ ifCond.holds .ge (lcmpW x y) = false ∧ ifCond.holds .gt (lcmpW y x) = true ∧ ifCond.holds .le (lcmpW y x) = false :=
  have a := tlt ((lw_lt x y).mpr h)
  have b := tlt ((lw_gt y x).mpr h)
  ⟨(if0 _ _).trans a.1, (if0 _ _).trans a.2.1, (if0 _ _).trans b.2.2.1, (if0 _ _).trans b.2.2.2⟩
theorem lc_f {x y : Int64} (h : ¬ x < y) : ifCond.holds .lt (lcmpW x y) = false ∧ ifCond.holds .ge (lcmpW x y) = true ∧ ifCond.holds .gt (lcmpW y x) = false ∧ ifCond.holds .le (lcmpW y x) = true :=
  have a := flt (fun q => h ((lw_lt x y).mp q))
  have b := flt (fun q => h ((lw_gt y x).mp q))
  ⟨(if0 _ _).trans a.1, (if0 _ _).trans a.2.1, (if0 _ _).trans b.2.2.1, (if0 _ _).trans b.2.2.2⟩
theorem le_t {x y : Int64} (h : x = y) : ifCond.holds .eq (lcmpW x y) = true ∧ ifCond.holds .ne (lcmpW x y) = false :=
  have a := teq ((lw_eq x y).mpr h)
  ⟨(if0 _ _).trans a.1, (if0 _ _).trans a.2⟩
theorem le_f {x y : Int64} (h : ¬ x = y) : ifCond.holds .eq (lcmpW x y) = false ∧ ifCond.holds .ne (lcmpW x y) = true :=
  have a := feq (fun q => h ((lw_eq x y).mp q))
  ⟨(if0 _ _).trans a.1, (if0 _ _).trans a.2⟩
end New
end Jvm.RoadKit
namespace Jvm.Pilot.@@N@@
open Jvm Jvm.ClassFile Sem Op Lib Jvm.Free Jvm.Stand Jvm.LawKit Jvm.RoadKit Bundle Jvm.Pilot.@@N@@.Jvm.D
theorem d1_0 : decode prog_42_method_1_code 0 = .ok (.aload_n 0, 1) := by decide +kernel
theorem d1_1 : decode prog_42_method_1_code 1 = .ok (.invokespecial 1, 3) := by decide +kernel
theorem d1_4 : decode prog_42_method_1_code 4 = .ok (.aload_n 0, 1) := by decide +kernel
theorem d1_5 : decode prog_42_method_1_code 5 = .ok (.iconst 4, 1) := by decide +kernel
theorem d1_6 : decode prog_42_method_1_code 6 = .ok (.newarray .long, 2) := by decide +kernel
theorem d1_8 : decode prog_42_method_1_code 8 = .ok (.dup, 1) := by decide +kernel
theorem d1_9 : decode prog_42_method_1_code 9 = .ok (.iconst 0, 1) := by decide +kernel
theorem d1_10 : decode prog_42_method_1_code 10 = .ok (.lload_n 1, 1) := by decide +kernel
theorem d1_11 : decode prog_42_method_1_code 11 = .ok (.lastore, 1) := by decide +kernel
theorem d1_12 : decode prog_42_method_1_code 12 = .ok (.dup, 1) := by decide +kernel
theorem d1_13 : decode prog_42_method_1_code 13 = .ok (.iconst 1, 1) := by decide +kernel
theorem d1_14 : decode prog_42_method_1_code 14 = .ok (.lload_n 3, 1) := by decide +kernel
theorem d1_15 : decode prog_42_method_1_code 15 = .ok (.lastore, 1) := by decide +kernel
theorem d1_16 : decode prog_42_method_1_code 16 = .ok (.dup, 1) := by decide +kernel
theorem d1_17 : decode prog_42_method_1_code 17 = .ok (.iconst 2, 1) := by decide +kernel
theorem d1_18 : decode prog_42_method_1_code 18 = .ok (.lload 5, 2) := by decide +kernel
theorem d1_20 : decode prog_42_method_1_code 20 = .ok (.lastore, 1) := by decide +kernel
theorem d1_21 : decode prog_42_method_1_code 21 = .ok (.dup, 1) := by decide +kernel
theorem d1_22 : decode prog_42_method_1_code 22 = .ok (.iconst 3, 1) := by decide +kernel
theorem d1_23 : decode prog_42_method_1_code 23 = .ok (.lload 7, 2) := by decide +kernel
theorem d1_25 : decode prog_42_method_1_code 25 = .ok (.lastore, 1) := by decide +kernel
theorem d1_26 : decode prog_42_method_1_code 26 = .ok (.putfield 7, 3) := by decide +kernel
theorem d1_29 : decode prog_42_method_1_code 29 = .ok (.return_, 1) := by decide +kernel
theorem pf_0 : plainFor (⟨"com/example/wary_retry/waryretry/jdbc/Room$Change", "<init>", "(JJJJ)V"⟩ : MethodName) = true := by decide +kernel
def Q1 (Z : State) (a1 : Addr) (q2 : Int64) (q3 : Int64) (q4 : Int64) (q5 : Int64) (u_columns : Value) (h0 : Heap) (n0 : Nat) (v : Option Value) (h : Heap) (L : List Loc) : Prop := v = none ∧ Fr n0 L ∧ Keep h0 h [a1] ∧ ∃ (b2 : Addr) (k2 : ClassId), h0.size ≤ b2 ∧ Exa Z h a1 "com/example/wary_retry/waryretry/jdbc/Room$Change" ∧ Fld Z h a1 "com/example/wary_retry/waryretry/jdbc/Room$Change" "columns" "[J" (.ref b2) ∧ Arv Z h b2 k2 .long (4 : Int32) [(.long q2), (.long q3), (.long q4), (.long q5)] (.long (0 : Int64))
theorem ef_1 (m : MethodId) (a1 : Addr) (q2 : Int64) (q3 : Int64) (q4 : Int64) (q5 : Int64) : entryFrame m #[(.ref a1), (.long q2), (.long q3), (.long q4), (.long q5)] 9 = mkF m 0 #[.val (.ref a1), .val (.long q2), .second, .val (.long q3), .second, .val (.long q4), .second, .val (.long q5), .second] [] := by first | (simp [entryFrame, mkF, argsToLocals, Value.category]; done) | rfl
set_option maxRecDepth 65536 in
set_option maxHeartbeats 40000000 in
theorem rm1 (l : Launch) (Z : State) (a0 : Array Value) (hw : ∀ d ∈ tables_1, d.before a0 Z = true) (ws : List Jvm.Cond) (a1 : Addr) (q2 : Int64) (q3 : Int64) (q4 : Int64) (q5 : Int64) (u_columns : Value) (h0 : Heap) (n0 : Nat) (Z0 : n0 ≤ h0.size) (E_a1 : Exa Z h0 a1 "com/example/wary_retry/waryretry/jdbc/Room$Change") (F_columns : Fld Z h0 a1 "com/example/wary_retry/waryretry/jdbc/Room$Change" "columns" "[J" u_columns) (g_a1 : n0 ≤ a1) :
    MetFree l (⟨"com/example/wary_retry/waryretry/jdbc/Room$Change", "<init>", "(JJJJ)V"⟩ : MethodName) (head1 (Jvm.Cond.code (⟨"com/example/wary_retry/waryretry/jdbc/Room$Change", "<init>", "(JJJJ)V"⟩ : MethodName) prog_42_method_1_code 9 none :: ws) ({ frames := 1, cells := 1, slots := 4, locals := 12 } : Room)) (fun a U => a = #[(.ref a1), (.long q2), (.long q3), (.long q4), (.long q5)] ∧ Z.Warmed39 U.vm ∧ U.heap = h0) (fun _ _ _ _ _ => True) (fun _ U o U' => ∃ v L, o = .returned v ∧ Q1 Z a1 q2 q3 q4 q5 u_columns h0 n0 v U'.heap L ∧ FrameEnd U o U' L ({ frames := 1, cells := 1, slots := 4, locals := 12 } : Room).cells ({ frames := 1, cells := 1, slots := 4, locals := 12 } : Room).slots) := by
  refine MetFree.of_bodySF pf_0 hisR ?_
  intro p e s m args below meth c s₁ Bd hml0 hP hK
  obtain ⟨rfl, hZ, hh⟩ := hP
  have hx := Bd.exec
  have hby := Bd.bytes
  have hlk : meth.locks = false := BodyLoose.notSynchronized Bd
  have hml : c.maxLocals = 9 := hml0
  have hown : s.vm.findClass "com/example/wary_retry/waryretry/jdbc/Room$Change" = some m.cls := findClass_of_methodNamed Bd.named
  have hnm := (name_of_methodNamed Bd.named Bd.method).1
  have X0 : Stand p l e ({ frames := 1, cells := 1, slots := 4, locals := 12 } : Room) s m #[(.ref a1), (.long q2), (.long q3), (.long q4), (.long q5)] below meth c s₁ [] 0 0 := Stand.of_body Bd
  have e0 : s₁.heap = h0 := by rw [← hh, Bd.state]; rfl
  have N0 := Fr.nil n0
  have K0 : Keep h0 h0 [a1] := Keep.refl h0 _
  show Gl p e below s (Q1 Z a1 q2 q3 q4 q5 u_columns h0 n0) ({ frames := 1, cells := 1, slots := 4, locals := 12 } : Room).cells ({ frames := 1, cells := 1, slots := 4, locals := 12 } : Room).slots (s₁.setTop (entryFrame m #[(.ref a1), (.long q2), (.long q3), (.long q4), (.long q5)] 9))
  rw [ef_1]
  show Gl _ _ _ _ _ _ _ (s₁.setTop (mkF m 0 #[.val (.ref a1), .val (.long q2), .second, .val (.long q3), .second, .val (.long q4), .second, .val (.long q5), .second] []))
  refine Gl.st (fun t k => XS.aloadN X0.here hx rfl (hb hby d1_0) rfl rfl k) ?_
  show Gl _ _ _ _ _ _ _ (s₁.setTop (mkF m 1 #[.val (.ref a1), .val (.long q2), .second, .val (.long q3), .second, .val (.long q4), .second, .val (.long q5), .second] [(.ref a1)]))
  obtain ⟨T1, X1, e1, st1⟩ := initO X0 hx hZ hown (hw _ (List.mem_of_getElem? (i := 6) rfl)) (hw _ (List.mem_of_getElem? (i := 7) rfl)) (hw _ (List.mem_of_getElem? (i := 8) rfl)) e0 (g := (mkF m 1 #[.val (.ref a1), .val (.long q2), .second, .val (.long q3), .second, .val (.long q4), .second, .val (.long q5), .second] [(.ref a1)])) rfl (by rw [hml]; rfl) rfl (hb hby d1_1) (by decide) (W := 0) (by show 2 * 0 + _ ≤ _; exact Nat.le_of_eq rfl) (by decide)
  refine Gl.st st1 ?_
  show Gl _ _ _ _ _ _ _ (T1.setTop (mkF m 4 #[.val (.ref a1), .val (.long q2), .second, .val (.long q3), .second, .val (.long q4), .second, .val (.long q5), .second] []))
  refine Gl.st (fun t k => XS.aloadN X1.here hx rfl (hb hby d1_4) rfl rfl k) ?_
  show Gl _ _ _ _ _ _ _ (T1.setTop (mkF m 5 #[.val (.ref a1), .val (.long q2), .second, .val (.long q3), .second, .val (.long q4), .second, .val (.long q5), .second] [(.ref a1)]))
  refine Gl.st (fun t k => XS.iconst X1.here hx rfl (hb hby d1_5) k) ?_
  show Gl _ _ _ _ _ _ _ (T1.setTop (mkF m 6 #[.val (.ref a1), .val (.long q2), .second, .val (.long q3), .second, .val (.long q4), .second, .val (.long q5), .second] [(.int (4 : Int32)), (.ref a1)]))
  obtain ⟨T2, h2, k2, X2, e2, E2, A2, st2⟩ := newP X1 hx hZ (hw _ (List.mem_of_getElem? (i := 9) rfl)) e1 (g := (mkF m 6 #[.val (.ref a1), .val (.long q2), .second, .val (.long q3), .second, .val (.long q4), .second, .val (.long q5), .second] [(.int (4 : Int32)), (.ref a1)])) rfl (hb hby d1_6) rfl (by decide) (cap := 4) (by decide) (by decide) (by decide) (by decide)
  obtain ⟨b2, g2⟩ : ∃ z, z = h0.size := ⟨_, rfl⟩
  rw [← g2] at A2 st2
  refine Gl.st st2 ?_
  have ne_a1_b2 : a1 ≠ b2 := Nat.ne_of_lt (Nat.lt_of_lt_of_le E_a1.lt (Nat.le_of_eq g2.symm))
  have gzb2 : n0 ≤ b2 := Nat.le_trans Z0 (Nat.le_of_eq g2.symm)
  have szb2 : h0.size ≤ b2 := Nat.le_trans K0.1 (Nat.le_of_eq g2.symm)
  have Z2 : n0 ≤ h2.size := Nat.le_trans Z0 E2.1
  have E_a1'3 : Exa Z h2 a1 "com/example/wary_retry/waryretry/jdbc/Room$Change" := E_a1.ext E2
  have F_columns'4 : Fld Z h2 a1 "com/example/wary_retry/waryretry/jdbc/Room$Change" "columns" "[J" u_columns := F_columns.ext E2
  have K2 : Keep h0 h2 [a1] := K0.ext E2
  have V2 : Arv Z h2 b2 k2 .long (4 : Int32) [(.long (0 : Int64)), (.long (0 : Int64)), (.long (0 : Int64)), (.long (0 : Int64))] (.long (0 : Int64)) := (Arv.new A2 (by decide)).pad (pad_rep [] (.long (0 : Int64)) 4)
  show Gl _ _ _ _ _ _ _ (T2.setTop (mkF m 8 #[.val (.ref a1), .val (.long q2), .second, .val (.long q3), .second, .val (.long q4), .second, .val (.long q5), .second] [(.ref b2), (.ref a1)]))
  refine Gl.st (fun t k => XS.dup X2.here hx rfl (hb hby d1_8) rfl rfl k) ?_
  show Gl _ _ _ _ _ _ _ (T2.setTop (mkF m 9 #[.val (.ref a1), .val (.long q2), .second, .val (.long q3), .second, .val (.long q4), .second, .val (.long q5), .second] [(.ref b2), (.ref b2), (.ref a1)]))
  refine Gl.st (fun t k => XS.iconst X2.here hx rfl (hb hby d1_9) k) ?_
  show Gl _ _ _ _ _ _ _ (T2.setTop (mkF m 10 #[.val (.ref a1), .val (.long q2), .second, .val (.long q3), .second, .val (.long q4), .second, .val (.long q5), .second] [(.int (0 : Int32)), (.ref b2), (.ref b2), (.ref a1)]))
  refine Gl.st (fun t k => XS.lloadN X2.here hx rfl (hb hby d1_10) rfl  k) ?_
  show Gl _ _ _ _ _ _ _ (T2.setTop (mkF m 11 #[.val (.ref a1), .val (.long q2), .second, .val (.long q3), .second, .val (.long q4), .second, .val (.long q5), .second] [(.long q2), (.int (0 : Int32)), (.ref b2), (.ref b2), (.ref a1)]))
  have Vx5 := V2
  obtain ⟨cl5, Ar5, qk5, S5, M5, H5, G5⟩ := Vx5
  have hin5 : ¬ ((0 : Int32) < 0 ∨ cl5.slots.size ≤ ((0 : Int32)).toNatClampNeg) := inb_of S5 ⟨by decide, by decide⟩
  obtain ⟨T5, h5, X5, e5, W5, st5⟩ := stJ X2 hx hZ e2 Ar5 (j := (0 : Int32)) hin5 (g := (mkF m 11 #[.val (.ref a1), .val (.long q2), .second, .val (.long q3), .second, .val (.long q4), .second, .val (.long q5), .second] [(.long q2), (.int (0 : Int32)), (.ref b2), (.ref b2), (.ref a1)])) rfl rfl (hb hby d1_11)
  refine Gl.st st5 ?_
  have Z5 : n0 ≤ h5.size := Nat.le_trans Z2 (Keep.of_wr W5).1
  have N5 := Fr.snoc X5 N0 gzb2
  have K5 : Keep h0 h5 [a1] := K2.wr W5 (Or.inr szb2)
  have E_a1'6 : Exa Z h5 a1 "com/example/wary_retry/waryretry/jdbc/Room$Change" := E_a1'3.wr W5
  have F_columns'7 : Fld Z h5 a1 "com/example/wary_retry/waryretry/jdbc/Room$Change" "columns" "[J" u_columns := F_columns'4.other W5 (Or.inl ne_a1_b2)
  have V5 : Arv Z h5 b2 k2 .long (4 : Int32) [(.long q2), (.long (0 : Int64)), (.long (0 : Int64)), (.long (0 : Int64))] (.long (0 : Int64)) := Arv.set Ar5 qk5 S5 M5 H5 G5 rfl W5 0 rfl (Nat.le_of_ble_eq_true rfl)
  show Gl _ _ _ _ _ _ _ (T5.setTop (mkF m 12 #[.val (.ref a1), .val (.long q2), .second, .val (.long q3), .second, .val (.long q4), .second, .val (.long q5), .second] [(.ref b2), (.ref a1)]))
  refine Gl.st (fun t k => XS.dup X5.here hx rfl (hb hby d1_12) rfl rfl k) ?_
  show Gl _ _ _ _ _ _ _ (T5.setTop (mkF m 13 #[.val (.ref a1), .val (.long q2), .second, .val (.long q3), .second, .val (.long q4), .second, .val (.long q5), .second] [(.ref b2), (.ref b2), (.ref a1)]))
  refine Gl.st (fun t k => XS.iconst X5.here hx rfl (hb hby d1_13) k) ?_
  show Gl _ _ _ _ _ _ _ (T5.setTop (mkF m 14 #[.val (.ref a1), .val (.long q2), .second, .val (.long q3), .second, .val (.long q4), .second, .val (.long q5), .second] [(.int (1 : Int32)), (.ref b2), (.ref b2), (.ref a1)]))
  refine Gl.st (fun t k => XS.lloadN X5.here hx rfl (hb hby d1_14) rfl  k) ?_
  show Gl _ _ _ _ _ _ _ (T5.setTop (mkF m 15 #[.val (.ref a1), .val (.long q2), .second, .val (.long q3), .second, .val (.long q4), .second, .val (.long q5), .second] [(.long q3), (.int (1 : Int32)), (.ref b2), (.ref b2), (.ref a1)]))
  have Vx8 := V5
  obtain ⟨cl8, Ar8, qk8, S8, M8, H8, G8⟩ := Vx8
  have hin8 : ¬ ((1 : Int32) < 0 ∨ cl8.slots.size ≤ ((1 : Int32)).toNatClampNeg) := inb_of S8 ⟨by decide, by decide⟩
  obtain ⟨T8, h8, X8, e8, W8, st8⟩ := stJ X5 hx hZ e5 Ar8 (j := (1 : Int32)) hin8 (g := (mkF m 15 #[.val (.ref a1), .val (.long q2), .second, .val (.long q3), .second, .val (.long q4), .second, .val (.long q5), .second] [(.long q3), (.int (1 : Int32)), (.ref b2), (.ref b2), (.ref a1)])) rfl rfl (hb hby d1_15)
  refine Gl.st st8 ?_
  have Z8 : n0 ≤ h8.size := Nat.le_trans Z5 (Keep.of_wr W8).1
  have N8 := Fr.snoc X8 N5 gzb2
  have K8 : Keep h0 h8 [a1] := K5.wr W8 (Or.inr szb2)
  have E_a1'9 : Exa Z h8 a1 "com/example/wary_retry/waryretry/jdbc/Room$Change" := E_a1'6.wr W8
  have F_columns'10 : Fld Z h8 a1 "com/example/wary_retry/waryretry/jdbc/Room$Change" "columns" "[J" u_columns := F_columns'7.other W8 (Or.inl ne_a1_b2)
  have V8 : Arv Z h8 b2 k2 .long (4 : Int32) [(.long q2), (.long q3), (.long (0 : Int64)), (.long (0 : Int64))] (.long (0 : Int64)) := Arv.set Ar8 qk8 S8 M8 H8 G8 rfl W8 1 rfl (Nat.le_of_ble_eq_true rfl)
  show Gl _ _ _ _ _ _ _ (T8.setTop (mkF m 16 #[.val (.ref a1), .val (.long q2), .second, .val (.long q3), .second, .val (.long q4), .second, .val (.long q5), .second] [(.ref b2), (.ref a1)]))
  refine Gl.st (fun t k => XS.dup X8.here hx rfl (hb hby d1_16) rfl rfl k) ?_
  show Gl _ _ _ _ _ _ _ (T8.setTop (mkF m 17 #[.val (.ref a1), .val (.long q2), .second, .val (.long q3), .second, .val (.long q4), .second, .val (.long q5), .second] [(.ref b2), (.ref b2), (.ref a1)]))
  refine Gl.st (fun t k => XS.iconst X8.here hx rfl (hb hby d1_17) k) ?_
  show Gl _ _ _ _ _ _ _ (T8.setTop (mkF m 18 #[.val (.ref a1), .val (.long q2), .second, .val (.long q3), .second, .val (.long q4), .second, .val (.long q5), .second] [(.int (2 : Int32)), (.ref b2), (.ref b2), (.ref a1)]))
  refine Gl.st (fun t k => XS.lload X8.here hx rfl (hb hby d1_18) rfl  k) ?_
  show Gl _ _ _ _ _ _ _ (T8.setTop (mkF m 20 #[.val (.ref a1), .val (.long q2), .second, .val (.long q3), .second, .val (.long q4), .second, .val (.long q5), .second] [(.long q4), (.int (2 : Int32)), (.ref b2), (.ref b2), (.ref a1)]))
  have Vx11 := V8
  obtain ⟨cl11, Ar11, qk11, S11, M11, H11, G11⟩ := Vx11
  have hin11 : ¬ ((2 : Int32) < 0 ∨ cl11.slots.size ≤ ((2 : Int32)).toNatClampNeg) := inb_of S11 ⟨by decide, by decide⟩
  obtain ⟨T11, h11, X11, e11, W11, st11⟩ := stJ X8 hx hZ e8 Ar11 (j := (2 : Int32)) hin11 (g := (mkF m 20 #[.val (.ref a1), .val (.long q2), .second, .val (.long q3), .second, .val (.long q4), .second, .val (.long q5), .second] [(.long q4), (.int (2 : Int32)), (.ref b2), (.ref b2), (.ref a1)])) rfl rfl (hb hby d1_20)
  refine Gl.st st11 ?_
  have Z11 : n0 ≤ h11.size := Nat.le_trans Z8 (Keep.of_wr W11).1
  have N11 := Fr.snoc X11 N8 gzb2
  have K11 : Keep h0 h11 [a1] := K8.wr W11 (Or.inr szb2)
  have E_a1'12 : Exa Z h11 a1 "com/example/wary_retry/waryretry/jdbc/Room$Change" := E_a1'9.wr W11
  have F_columns'13 : Fld Z h11 a1 "com/example/wary_retry/waryretry/jdbc/Room$Change" "columns" "[J" u_columns := F_columns'10.other W11 (Or.inl ne_a1_b2)
  have V11 : Arv Z h11 b2 k2 .long (4 : Int32) [(.long q2), (.long q3), (.long q4), (.long (0 : Int64))] (.long (0 : Int64)) := Arv.set Ar11 qk11 S11 M11 H11 G11 rfl W11 2 rfl (Nat.le_of_ble_eq_true rfl)
  show Gl _ _ _ _ _ _ _ (T11.setTop (mkF m 21 #[.val (.ref a1), .val (.long q2), .second, .val (.long q3), .second, .val (.long q4), .second, .val (.long q5), .second] [(.ref b2), (.ref a1)]))
  refine Gl.st (fun t k => XS.dup X11.here hx rfl (hb hby d1_21) rfl rfl k) ?_
  show Gl _ _ _ _ _ _ _ (T11.setTop (mkF m 22 #[.val (.ref a1), .val (.long q2), .second, .val (.long q3), .second, .val (.long q4), .second, .val (.long q5), .second] [(.ref b2), (.ref b2), (.ref a1)]))
  refine Gl.st (fun t k => XS.iconst X11.here hx rfl (hb hby d1_22) k) ?_
  show Gl _ _ _ _ _ _ _ (T11.setTop (mkF m 23 #[.val (.ref a1), .val (.long q2), .second, .val (.long q3), .second, .val (.long q4), .second, .val (.long q5), .second] [(.int (3 : Int32)), (.ref b2), (.ref b2), (.ref a1)]))
  refine Gl.st (fun t k => XS.lload X11.here hx rfl (hb hby d1_23) rfl  k) ?_
  show Gl _ _ _ _ _ _ _ (T11.setTop (mkF m 25 #[.val (.ref a1), .val (.long q2), .second, .val (.long q3), .second, .val (.long q4), .second, .val (.long q5), .second] [(.long q5), (.int (3 : Int32)), (.ref b2), (.ref b2), (.ref a1)]))
  have Vx14 := V11
  obtain ⟨cl14, Ar14, qk14, S14, M14, H14, G14⟩ := Vx14
  have hin14 : ¬ ((3 : Int32) < 0 ∨ cl14.slots.size ≤ ((3 : Int32)).toNatClampNeg) := inb_of S14 ⟨by decide, by decide⟩
  obtain ⟨T14, h14, X14, e14, W14, st14⟩ := stJ X11 hx hZ e11 Ar14 (j := (3 : Int32)) hin14 (g := (mkF m 25 #[.val (.ref a1), .val (.long q2), .second, .val (.long q3), .second, .val (.long q4), .second, .val (.long q5), .second] [(.long q5), (.int (3 : Int32)), (.ref b2), (.ref b2), (.ref a1)])) rfl rfl (hb hby d1_25)
  refine Gl.st st14 ?_
  have Z14 : n0 ≤ h14.size := Nat.le_trans Z11 (Keep.of_wr W14).1
  have N14 := Fr.snoc X14 N11 gzb2
  have K14 : Keep h0 h14 [a1] := K11.wr W14 (Or.inr szb2)
  have E_a1'15 : Exa Z h14 a1 "com/example/wary_retry/waryretry/jdbc/Room$Change" := E_a1'12.wr W14
  have F_columns'16 : Fld Z h14 a1 "com/example/wary_retry/waryretry/jdbc/Room$Change" "columns" "[J" u_columns := F_columns'13.other W14 (Or.inl ne_a1_b2)
  have V14 : Arv Z h14 b2 k2 .long (4 : Int32) [(.long q2), (.long q3), (.long q4), (.long q5)] (.long (0 : Int64)) := Arv.set Ar14 qk14 S14 M14 H14 G14 rfl W14 3 rfl (Nat.le_of_ble_eq_true rfl)
  show Gl _ _ _ _ _ _ _ (T14.setTop (mkF m 26 #[.val (.ref a1), .val (.long q2), .second, .val (.long q3), .second, .val (.long q4), .second, .val (.long q5), .second] [(.ref b2), (.ref a1)]))
  obtain ⟨T17, h17, X17, e17, W17, st17⟩ := putF X14 hx hZ hown (host := "") (Or.inl (hw _ (List.mem_of_getElem? (i := 10) rfl))) Via.refl e14 F_columns'16 E_a1'15 (Or.inr ⟨(hw _ (List.mem_of_getElem? (i := 11) rfl)), rfl, hnm⟩) (hw _ (List.mem_of_getElem? (i := 1) rfl)) (ty := (.array .long)) (by decide) rfl rfl (g := (mkF m 26 #[.val (.ref a1), .val (.long q2), .second, .val (.long q3), .second, .val (.long q4), .second, .val (.long q5), .second] [(.ref b2), (.ref a1)])) rfl rfl (hb hby d1_26)
  refine Gl.st st17 ?_
  have Z17 : n0 ≤ h17.size := Nat.le_trans Z14 (Keep.of_wr W17).1
  have N17 := Fr.snoc X17 N14 g_a1
  have K17 : Keep h0 h17 [a1] := K14.wr W17 (Or.inl (List.mem_of_getElem? (i := 0) rfl))
  have E_a1'18 : Exa Z h17 a1 "com/example/wary_retry/waryretry/jdbc/Room$Change" := E_a1'15.wr W17
  have V14'19 : Arv Z h17 b2 k2 .long (4 : Int32) [(.long q2), (.long q3), (.long q4), (.long q5)] (.long (0 : Int64)) := V14.other W17 (Ne.symm ne_a1_b2)
  have Fw17 : Fld Z h17 a1 "com/example/wary_retry/waryretry/jdbc/Room$Change" "columns" "[J" (.ref b2) := F_columns'16.same W17
  show Gl _ _ _ _ _ _ _ (T17.setTop (mkF m 29 #[.val (.ref a1), .val (.long q2), .second, .val (.long q3), .second, .val (.long q4), .second, .val (.long q5), .second] []))
  exact Gl.retV X17 hx hlk Bd.returns (hb hby d1_29) (by
        rw [e17]
        exact ⟨rfl, N17, K17, b2, k2, szb2, E_a1'18, Fw17, V14'19⟩) (by decide) (by decide)
def own_takes (w0 : Int64) (w1 : Int64) (w2 : Int64) (w3 : Int64) : Int32 := (if (0 : Int64) < w0 then (nar .boolean (1 : Int32)) else (if (0 : Int64) < w1 then (nar .boolean (1 : Int32)) else (if (0 : Int64) < w2 then (nar .boolean (1 : Int32)) else (if (0 : Int64) < w3 then (nar .boolean (1 : Int32)) else (nar .boolean (0 : Int32))))))
theorem d3_0 : decode prog_42_method_7_code 0 = .ok (.aload_n 0, 1) := by decide +kernel
theorem d3_1 : decode prog_42_method_7_code 1 = .ok (.getfield 7, 3) := by decide +kernel
theorem d3_4 : decode prog_42_method_7_code 4 = .ok (.astore_n 1, 1) := by decide +kernel
theorem d3_5 : decode prog_42_method_7_code 5 = .ok (.aload_n 1, 1) := by decide +kernel
theorem d3_6 : decode prog_42_method_7_code 6 = .ok (.arraylength, 1) := by decide +kernel
theorem d3_7 : decode prog_42_method_7_code 7 = .ok (.istore_n 2, 1) := by decide +kernel
theorem d3_8 : decode prog_42_method_7_code 8 = .ok (.iconst 0, 1) := by decide +kernel
theorem d3_9 : decode prog_42_method_7_code 9 = .ok (.istore_n 3, 1) := by decide +kernel
theorem d3_10 : decode prog_42_method_7_code 10 = .ok (.iload_n 3, 1) := by decide +kernel
theorem d3_11 : decode prog_42_method_7_code 11 = .ok (.iload_n 2, 1) := by decide +kernel
theorem d3_12 : decode prog_42_method_7_code 12 = .ok (.if_icmp .ge 23, 3) := by decide +kernel
theorem d3_15 : decode prog_42_method_7_code 15 = .ok (.aload_n 1, 1) := by decide +kernel
theorem d3_16 : decode prog_42_method_7_code 16 = .ok (.iload_n 3, 1) := by decide +kernel
theorem d3_17 : decode prog_42_method_7_code 17 = .ok (.laload, 1) := by decide +kernel
theorem d3_18 : decode prog_42_method_7_code 18 = .ok (.lstore 4, 2) := by decide +kernel
theorem d3_20 : decode prog_42_method_7_code 20 = .ok (.lload 4, 2) := by decide +kernel
theorem d3_22 : decode prog_42_method_7_code 22 = .ok (.lconst 0, 1) := by decide +kernel
theorem d3_23 : decode prog_42_method_7_code 23 = .ok (.lcmp, 1) := by decide +kernel
theorem d3_24 : decode prog_42_method_7_code 24 = .ok (.ifCond .le 5, 3) := by decide +kernel
theorem d3_27 : decode prog_42_method_7_code 27 = .ok (.iconst 1, 1) := by decide +kernel
theorem d3_28 : decode prog_42_method_7_code 28 = .ok (.ireturn, 1) := by decide +kernel
theorem d3_29 : decode prog_42_method_7_code 29 = .ok (.iinc 3 1, 3) := by decide +kernel
theorem d3_32 : decode prog_42_method_7_code 32 = .ok (.goto (-22), 3) := by decide +kernel
theorem d3_35 : decode prog_42_method_7_code 35 = .ok (.iconst 0, 1) := by decide +kernel
theorem d3_36 : decode prog_42_method_7_code 36 = .ok (.ireturn, 1) := by decide +kernel
theorem pf_1 : plainFor (⟨"com/example/wary_retry/waryretry/jdbc/Room$Change", "takes", "()Z"⟩ : MethodName) = true := by decide +kernel
def Q3 (Z : State) (a1 : Addr) (ca : Addr) (ck : ClassId) (w0 : Int64) (w1 : Int64) (w2 : Int64) (w3 : Int64) (h0 : Heap) (n0 : Nat) (v : Option Value) (h : Heap) (L : List Loc) : Prop := v = some (.int (own_takes w0 w1 w2 w3)) ∧ Fr n0 L ∧ h = h0
theorem ef_3 (m : MethodId) (a1 : Addr) : entryFrame m #[(.ref a1)] 6 = mkF m 0 #[.val (.ref a1), .unset, .unset, .unset, .unset, .unset] [] := by first | (simp [entryFrame, mkF, argsToLocals, Value.category]; done) | rfl
set_option maxRecDepth 65536 in
set_option maxHeartbeats 40000000 in
theorem rm3 (l : Launch) (Z : State) (a0 : Array Value) (hw : ∀ d ∈ tables_1, d.before a0 Z = true) (ws : List Jvm.Cond) (a1 : Addr) (ca : Addr) (ck : ClassId) (w0 : Int64) (w1 : Int64) (w2 : Int64) (w3 : Int64) (h0 : Heap) (n0 : Nat) (Fc : Fld Z h0 a1 "com/example/wary_retry/waryretry/jdbc/Room$Change" "columns" "[J" (.ref ca)) (Vc : Arv Z h0 ca ck .long (4 : Int32) [(.long w0), (.long w1), (.long w2), (.long w3)] (.long (0 : Int64))) :
    MetFree l (⟨"com/example/wary_retry/waryretry/jdbc/Room$Change", "takes", "()Z"⟩ : MethodName) (head1 (Jvm.Cond.code (⟨"com/example/wary_retry/waryretry/jdbc/Room$Change", "takes", "()Z"⟩ : MethodName) prog_42_method_7_code 6 (some .boolean) :: ws) ({ frames := 0, cells := 0, slots := 0, locals := 0 } : Room)) (fun a U => a = #[(.ref a1)] ∧ Z.Warmed39 U.vm ∧ U.heap = h0) (fun _ _ _ _ _ => True) (fun _ U o U' => ∃ v L, o = .returned v ∧ Q3 Z a1 ca ck w0 w1 w2 w3 h0 n0 v U'.heap L ∧ FrameEnd U o U' L ({ frames := 0, cells := 0, slots := 0, locals := 0 } : Room).cells ({ frames := 0, cells := 0, slots := 0, locals := 0 } : Room).slots) := by
  refine MetFree.of_bodySF pf_1 hisR ?_
  intro p e s m args below meth c s₁ Bd hml0 hP hK
  obtain ⟨rfl, hZ, hh⟩ := hP
  have hx := Bd.exec
  have hby := Bd.bytes
  have hlk : meth.locks = false := BodyLoose.notSynchronized Bd
  have hml : c.maxLocals = 6 := hml0
  have hown : s.vm.findClass "com/example/wary_retry/waryretry/jdbc/Room$Change" = some m.cls := findClass_of_methodNamed Bd.named
  have hnm := (name_of_methodNamed Bd.named Bd.method).1
  have X0 : Stand p l e ({ frames := 0, cells := 0, slots := 0, locals := 0 } : Room) s m #[(.ref a1)] below meth c s₁ [] 0 0 := Stand.of_body Bd
  have e0 : s₁.heap = h0 := by rw [← hh, Bd.state]; rfl
  have N0 := Fr.nil n0
  show Gl p e below s (Q3 Z a1 ca ck w0 w1 w2 w3 h0 n0) ({ frames := 0, cells := 0, slots := 0, locals := 0 } : Room).cells ({ frames := 0, cells := 0, slots := 0, locals := 0 } : Room).slots (s₁.setTop (entryFrame m #[(.ref a1)] 6))
  rw [ef_3]
  show Gl _ _ _ _ _ _ _ (s₁.setTop (mkF m 0 #[.val (.ref a1), .unset, .unset, .unset, .unset, .unset] []))
  refine Gl.st (fun t k => XS.aloadN X0.here hx rfl (hb hby d3_0) rfl rfl k) ?_
  show Gl _ _ _ _ _ _ _ (s₁.setTop (mkF m 1 #[.val (.ref a1), .unset, .unset, .unset, .unset, .unset] [(.ref a1)]))
  obtain ⟨T1, X1, e1, st1⟩ := getF X0 hx hZ hown (host := "") (Or.inl (hw _ (List.mem_of_getElem? (i := 10) rfl))) Via.refl e0 Fc (g := (mkF m 1 #[.val (.ref a1), .unset, .unset, .unset, .unset, .unset] [(.ref a1)])) rfl rfl (hb hby d3_1)
  refine Gl.st st1 ?_
  show Gl _ _ _ _ _ _ _ (T1.setTop (mkF m 4 #[.val (.ref a1), .unset, .unset, .unset, .unset, .unset] [(.ref ca)]))
  refine Gl.st (fun t k => XS.astoreN X1.here hx rfl (hb hby d3_4) rfl rfl (l' := #[.val (.ref a1), .val (.ref ca), .unset, .unset, .unset, .unset]) rfl k) ?_
  show Gl _ _ _ _ _ _ _ (T1.setTop (mkF m 5 #[.val (.ref a1), .val (.ref ca), .unset, .unset, .unset, .unset] []))
  refine Gl.st (fun t k => XS.aloadN X1.here hx rfl (hb hby d3_5) rfl rfl k) ?_
  show Gl _ _ _ _ _ _ _ (T1.setTop (mkF m 6 #[.val (.ref a1), .val (.ref ca), .unset, .unset, .unset, .unset] [(.ref ca)]))
  have Vx2 := Vc
  obtain ⟨cl2, Ar2, qk2, S2, M2, H2, G2⟩ := Vx2
  refine Gl.st (X1.arraylength hx (by rw [e1]; exact Ar2.1) (State.isArrayOf_alike hZ.alike Ar2.2.1) (g := (mkF m 6 #[.val (.ref a1), .val (.ref ca), .unset, .unset, .unset, .unset] [(.ref ca)])) rfl rfl (hb hby d3_6)) ?_
  rw [len_of S2 M2]
  show Gl _ _ _ _ _ _ _ (T1.setTop (mkF m 7 #[.val (.ref a1), .val (.ref ca), .unset, .unset, .unset, .unset] [(.int (4 : Int32))]))
  refine Gl.st (fun t k => XS.istoreN X1.here hx rfl (hb hby d3_7) rfl (l' := #[.val (.ref a1), .val (.ref ca), .val (.int (4 : Int32)), .unset, .unset, .unset]) rfl k) ?_
  show Gl _ _ _ _ _ _ _ (T1.setTop (mkF m 8 #[.val (.ref a1), .val (.ref ca), .val (.int (4 : Int32)), .unset, .unset, .unset] []))
  refine Gl.st (fun t k => XS.iconst X1.here hx rfl (hb hby d3_8) k) ?_
  show Gl _ _ _ _ _ _ _ (T1.setTop (mkF m 9 #[.val (.ref a1), .val (.ref ca), .val (.int (4 : Int32)), .unset, .unset, .unset] [(.int (0 : Int32))]))
  refine Gl.st (fun t k => XS.istoreN X1.here hx rfl (hb hby d3_9) rfl (l' := #[.val (.ref a1), .val (.ref ca), .val (.int (4 : Int32)), .val (.int (0 : Int32)), .unset, .unset]) rfl k) ?_
  show Gl _ _ _ _ _ _ _ (T1.setTop (mkF m 10 #[.val (.ref a1), .val (.ref ca), .val (.int (4 : Int32)), .val (.int (0 : Int32)), .unset, .unset] []))
  refine Gl.st (fun t k => XS.iloadN X1.here hx rfl (hb hby d3_10) rfl  k) ?_
  show Gl _ _ _ _ _ _ _ (T1.setTop (mkF m 11 #[.val (.ref a1), .val (.ref ca), .val (.int (4 : Int32)), .val (.int (0 : Int32)), .unset, .unset] [(.int (0 : Int32))]))
  refine Gl.st (fun t k => XS.iloadN X1.here hx rfl (hb hby d3_11) rfl  k) ?_
  show Gl _ _ _ _ _ _ _ (T1.setTop (mkF m 12 #[.val (.ref a1), .val (.ref ca), .val (.int (4 : Int32)), .val (.int (0 : Int32)), .unset, .unset] [(.int (4 : Int32)), (.int (0 : Int32))]))
  refine Gl.st (fun t k => XS.icmpNo X1.here hx rfl (hb hby d3_12) rfl (tlt (by decide : (0 : Int32) < (4 : Int32))).2.1 k) ?_
  show Gl _ _ _ _ _ _ _ (T1.setTop (mkF m 15 #[.val (.ref a1), .val (.ref ca), .val (.int (4 : Int32)), .val (.int (0 : Int32)), .unset, .unset] []))
  refine Gl.st (fun t k => XS.aloadN X1.here hx rfl (hb hby d3_15) rfl rfl k) ?_
  show Gl _ _ _ _ _ _ _ (T1.setTop (mkF m 16 #[.val (.ref a1), .val (.ref ca), .val (.int (4 : Int32)), .val (.int (0 : Int32)), .unset, .unset] [(.ref ca)]))
  refine Gl.st (fun t k => XS.iloadN X1.here hx rfl (hb hby d3_16) rfl  k) ?_
  show Gl _ _ _ _ _ _ _ (T1.setTop (mkF m 17 #[.val (.ref a1), .val (.ref ca), .val (.int (4 : Int32)), .val (.int (0 : Int32)), .unset, .unset] [(.int (0 : Int32)), (.ref ca)]))
  have Vx3 := Vc
  obtain ⟨cl3, Ar3, qk3, S3, M3, H3, G3⟩ := Vx3
  have hin3 : ¬ ((0 : Int32) < 0 ∨ cl3.slots.size ≤ ((0 : Int32)).toNatClampNeg) := inb_of S3 ⟨by decide, by decide⟩
  have hat3 : cl3.slots[((0 : Int32)).toNatClampNeg]? = some (.long w0) := H3.at hin3 rfl
  refine Gl.st (X1.laload hx (j := (0 : Int32)) (v := (.long w0)) (by rw [e1]; exact Ar3.1) (State.isArrayOf_alike hZ.alike Ar3.2.1) Ar3.2.2 hin3 hat3 (g := (mkF m 17 #[.val (.ref a1), .val (.ref ca), .val (.int (4 : Int32)), .val (.int (0 : Int32)), .unset, .unset] [(.int (0 : Int32)), (.ref ca)])) rfl rfl (hb hby d3_17)) ?_
  show Gl _ _ _ _ _ _ _ (T1.setTop (mkF m 18 #[.val (.ref a1), .val (.ref ca), .val (.int (4 : Int32)), .val (.int (0 : Int32)), .unset, .unset] [(.long w0)]))
  refine Gl.st (fun t k => XS.lstore X1.here hx rfl (hb hby d3_18) rfl (l' := #[.val (.ref a1), .val (.ref ca), .val (.int (4 : Int32)), .val (.int (0 : Int32)), .val (.long w0), .second]) rfl k) ?_
  show Gl _ _ _ _ _ _ _ (T1.setTop (mkF m 20 #[.val (.ref a1), .val (.ref ca), .val (.int (4 : Int32)), .val (.int (0 : Int32)), .val (.long w0), .second] []))
  refine Gl.st (fun t k => XS.lload X1.here hx rfl (hb hby d3_20) rfl  k) ?_
  show Gl _ _ _ _ _ _ _ (T1.setTop (mkF m 22 #[.val (.ref a1), .val (.ref ca), .val (.int (4 : Int32)), .val (.int (0 : Int32)), .val (.long w0), .second] [(.long w0)]))
  refine Gl.st (fun t k => XS.lconst X1.here hx rfl (hb hby d3_22) k) ?_
  show Gl _ _ _ _ _ _ _ (T1.setTop (mkF m 23 #[.val (.ref a1), .val (.ref ca), .val (.int (4 : Int32)), .val (.int (0 : Int32)), .val (.long w0), .second] [(.long (0 : Int64)), (.long w0)]))
  refine Gl.st (fun t k => XS.lcmp X1.here hx rfl (hb hby d3_23) rfl k) ?_
  show Gl _ _ _ _ _ _ _ (T1.setTop (mkF m 24 #[.val (.ref a1), .val (.ref ca), .val (.int (4 : Int32)), .val (.int (0 : Int32)), .val (.long w0), .second] [(.int (lcmpW w0 (0 : Int64)))]))
  by_cases hc24 : (0 : Int64) < w0
  · refine Gl.st (fun t k => XS.ifNo X1.here hx rfl (hb hby d3_24) rfl (lc_t hc24).2.2.2 k) ?_
    show Gl _ _ _ _ _ _ _ (T1.setTop (mkF m 27 #[.val (.ref a1), .val (.ref ca), .val (.int (4 : Int32)), .val (.int (0 : Int32)), .val (.long w0), .second] []))
    refine Gl.st (fun t k => XS.iconst X1.here hx rfl (hb hby d3_27) k) ?_
    show Gl _ _ _ _ _ _ _ (T1.setTop (mkF m 28 #[.val (.ref a1), .val (.ref ca), .val (.int (4 : Int32)), .val (.int (0 : Int32)), .val (.long w0), .second] [(.int (1 : Int32))]))
    exact Gl.retN X1 hx hlk Bd.returns (by simp) (hb hby d3_28) (⟨congrArg (fun z => some (Value.int z)) (show (nar .boolean (1 : Int32)) = (own_takes w0 w1 w2 w3) from by simp only [own_takes, if_pos hc24]), N0, e1⟩) (by decide) (by decide)
  · refine Gl.st (fun t k => XS.ifYes X1.here hx rfl (pc0 := 24) (pc' := 29) rfl (hb hby d3_24) rfl (lc_f hc24).2.2.2 (by decide) (by decide) k) ?_
    show Gl _ _ _ _ _ _ _ (T1.setTop (mkF m 29 #[.val (.ref a1), .val (.ref ca), .val (.int (4 : Int32)), .val (.int (0 : Int32)), .val (.long w0), .second] []))
    refine Gl.st (fun t k => XS.iinc X1.here hx rfl (hb hby d3_29) rfl (l' := #[.val (.ref a1), .val (.ref ca), .val (.int (4 : Int32)), .val (.int (1 : Int32)), .val (.long w0), .second]) rfl k) ?_
    show Gl _ _ _ _ _ _ _ (T1.setTop (mkF m 32 #[.val (.ref a1), .val (.ref ca), .val (.int (4 : Int32)), .val (.int (1 : Int32)), .val (.long w0), .second] []))
    refine Gl.st (fun t k => XS.goto X1.here hx rfl (pc0 := 32) (pc' := 10) rfl (hb hby d3_32) (by decide) (by decide) k) ?_
    show Gl _ _ _ _ _ _ _ (T1.setTop (mkF m 10 #[.val (.ref a1), .val (.ref ca), .val (.int (4 : Int32)), .val (.int (1 : Int32)), .val (.long w0), .second] []))
    refine Gl.st (fun t k => XS.iloadN X1.here hx rfl (hb hby d3_10) rfl  k) ?_
    show Gl _ _ _ _ _ _ _ (T1.setTop (mkF m 11 #[.val (.ref a1), .val (.ref ca), .val (.int (4 : Int32)), .val (.int (1 : Int32)), .val (.long w0), .second] [(.int (1 : Int32))]))
    refine Gl.st (fun t k => XS.iloadN X1.here hx rfl (hb hby d3_11) rfl  k) ?_
    show Gl _ _ _ _ _ _ _ (T1.setTop (mkF m 12 #[.val (.ref a1), .val (.ref ca), .val (.int (4 : Int32)), .val (.int (1 : Int32)), .val (.long w0), .second] [(.int (4 : Int32)), (.int (1 : Int32))]))
    refine Gl.st (fun t k => XS.icmpNo X1.here hx rfl (hb hby d3_12) rfl (tlt (by decide : (1 : Int32) < (4 : Int32))).2.1 k) ?_
    show Gl _ _ _ _ _ _ _ (T1.setTop (mkF m 15 #[.val (.ref a1), .val (.ref ca), .val (.int (4 : Int32)), .val (.int (1 : Int32)), .val (.long w0), .second] []))
    refine Gl.st (fun t k => XS.aloadN X1.here hx rfl (hb hby d3_15) rfl rfl k) ?_
    show Gl _ _ _ _ _ _ _ (T1.setTop (mkF m 16 #[.val (.ref a1), .val (.ref ca), .val (.int (4 : Int32)), .val (.int (1 : Int32)), .val (.long w0), .second] [(.ref ca)]))
    refine Gl.st (fun t k => XS.iloadN X1.here hx rfl (hb hby d3_16) rfl  k) ?_
    show Gl _ _ _ _ _ _ _ (T1.setTop (mkF m 17 #[.val (.ref a1), .val (.ref ca), .val (.int (4 : Int32)), .val (.int (1 : Int32)), .val (.long w0), .second] [(.int (1 : Int32)), (.ref ca)]))
    have Vx4 := Vc
    obtain ⟨cl4, Ar4, qk4, S4, M4, H4, G4⟩ := Vx4
    have hin4 : ¬ ((1 : Int32) < 0 ∨ cl4.slots.size ≤ ((1 : Int32)).toNatClampNeg) := inb_of S4 ⟨by decide, by decide⟩
    have hat4 : cl4.slots[((1 : Int32)).toNatClampNeg]? = some (.long w1) := H4.at hin4 rfl
    refine Gl.st (X1.laload hx (j := (1 : Int32)) (v := (.long w1)) (by rw [e1]; exact Ar4.1) (State.isArrayOf_alike hZ.alike Ar4.2.1) Ar4.2.2 hin4 hat4 (g := (mkF m 17 #[.val (.ref a1), .val (.ref ca), .val (.int (4 : Int32)), .val (.int (1 : Int32)), .val (.long w0), .second] [(.int (1 : Int32)), (.ref ca)])) rfl rfl (hb hby d3_17)) ?_
    show Gl _ _ _ _ _ _ _ (T1.setTop (mkF m 18 #[.val (.ref a1), .val (.ref ca), .val (.int (4 : Int32)), .val (.int (1 : Int32)), .val (.long w0), .second] [(.long w1)]))
    refine Gl.st (fun t k => XS.lstore X1.here hx rfl (hb hby d3_18) rfl (l' := #[.val (.ref a1), .val (.ref ca), .val (.int (4 : Int32)), .val (.int (1 : Int32)), .val (.long w1), .second]) rfl k) ?_
    show Gl _ _ _ _ _ _ _ (T1.setTop (mkF m 20 #[.val (.ref a1), .val (.ref ca), .val (.int (4 : Int32)), .val (.int (1 : Int32)), .val (.long w1), .second] []))
    refine Gl.st (fun t k => XS.lload X1.here hx rfl (hb hby d3_20) rfl  k) ?_
    show Gl _ _ _ _ _ _ _ (T1.setTop (mkF m 22 #[.val (.ref a1), .val (.ref ca), .val (.int (4 : Int32)), .val (.int (1 : Int32)), .val (.long w1), .second] [(.long w1)]))
    refine Gl.st (fun t k => XS.lconst X1.here hx rfl (hb hby d3_22) k) ?_
    show Gl _ _ _ _ _ _ _ (T1.setTop (mkF m 23 #[.val (.ref a1), .val (.ref ca), .val (.int (4 : Int32)), .val (.int (1 : Int32)), .val (.long w1), .second] [(.long (0 : Int64)), (.long w1)]))
    refine Gl.st (fun t k => XS.lcmp X1.here hx rfl (hb hby d3_23) rfl k) ?_
    show Gl _ _ _ _ _ _ _ (T1.setTop (mkF m 24 #[.val (.ref a1), .val (.ref ca), .val (.int (4 : Int32)), .val (.int (1 : Int32)), .val (.long w1), .second] [(.int (lcmpW w1 (0 : Int64)))]))
    by_cases hc24_2 : (0 : Int64) < w1
    · refine Gl.st (fun t k => XS.ifNo X1.here hx rfl (hb hby d3_24) rfl (lc_t hc24_2).2.2.2 k) ?_
      show Gl _ _ _ _ _ _ _ (T1.setTop (mkF m 27 #[.val (.ref a1), .val (.ref ca), .val (.int (4 : Int32)), .val (.int (1 : Int32)), .val (.long w1), .second] []))
      refine Gl.st (fun t k => XS.iconst X1.here hx rfl (hb hby d3_27) k) ?_
      show Gl _ _ _ _ _ _ _ (T1.setTop (mkF m 28 #[.val (.ref a1), .val (.ref ca), .val (.int (4 : Int32)), .val (.int (1 : Int32)), .val (.long w1), .second] [(.int (1 : Int32))]))
      exact Gl.retN X1 hx hlk Bd.returns (by simp) (hb hby d3_28) (⟨congrArg (fun z => some (Value.int z)) (show (nar .boolean (1 : Int32)) = (own_takes w0 w1 w2 w3) from by simp only [own_takes, if_neg hc24, if_pos hc24_2]), N0, e1⟩) (by decide) (by decide)
    · refine Gl.st (fun t k => XS.ifYes X1.here hx rfl (pc0 := 24) (pc' := 29) rfl (hb hby d3_24) rfl (lc_f hc24_2).2.2.2 (by decide) (by decide) k) ?_
      show Gl _ _ _ _ _ _ _ (T1.setTop (mkF m 29 #[.val (.ref a1), .val (.ref ca), .val (.int (4 : Int32)), .val (.int (1 : Int32)), .val (.long w1), .second] []))
      refine Gl.st (fun t k => XS.iinc X1.here hx rfl (hb hby d3_29) rfl (l' := #[.val (.ref a1), .val (.ref ca), .val (.int (4 : Int32)), .val (.int (2 : Int32)), .val (.long w1), .second]) rfl k) ?_
      show Gl _ _ _ _ _ _ _ (T1.setTop (mkF m 32 #[.val (.ref a1), .val (.ref ca), .val (.int (4 : Int32)), .val (.int (2 : Int32)), .val (.long w1), .second] []))
      refine Gl.st (fun t k => XS.goto X1.here hx rfl (pc0 := 32) (pc' := 10) rfl (hb hby d3_32) (by decide) (by decide) k) ?_
      show Gl _ _ _ _ _ _ _ (T1.setTop (mkF m 10 #[.val (.ref a1), .val (.ref ca), .val (.int (4 : Int32)), .val (.int (2 : Int32)), .val (.long w1), .second] []))
      refine Gl.st (fun t k => XS.iloadN X1.here hx rfl (hb hby d3_10) rfl  k) ?_
      show Gl _ _ _ _ _ _ _ (T1.setTop (mkF m 11 #[.val (.ref a1), .val (.ref ca), .val (.int (4 : Int32)), .val (.int (2 : Int32)), .val (.long w1), .second] [(.int (2 : Int32))]))
      refine Gl.st (fun t k => XS.iloadN X1.here hx rfl (hb hby d3_11) rfl  k) ?_
      show Gl _ _ _ _ _ _ _ (T1.setTop (mkF m 12 #[.val (.ref a1), .val (.ref ca), .val (.int (4 : Int32)), .val (.int (2 : Int32)), .val (.long w1), .second] [(.int (4 : Int32)), (.int (2 : Int32))]))
      refine Gl.st (fun t k => XS.icmpNo X1.here hx rfl (hb hby d3_12) rfl (tlt (by decide : (2 : Int32) < (4 : Int32))).2.1 k) ?_
      show Gl _ _ _ _ _ _ _ (T1.setTop (mkF m 15 #[.val (.ref a1), .val (.ref ca), .val (.int (4 : Int32)), .val (.int (2 : Int32)), .val (.long w1), .second] []))
      refine Gl.st (fun t k => XS.aloadN X1.here hx rfl (hb hby d3_15) rfl rfl k) ?_
      show Gl _ _ _ _ _ _ _ (T1.setTop (mkF m 16 #[.val (.ref a1), .val (.ref ca), .val (.int (4 : Int32)), .val (.int (2 : Int32)), .val (.long w1), .second] [(.ref ca)]))
      refine Gl.st (fun t k => XS.iloadN X1.here hx rfl (hb hby d3_16) rfl  k) ?_
      show Gl _ _ _ _ _ _ _ (T1.setTop (mkF m 17 #[.val (.ref a1), .val (.ref ca), .val (.int (4 : Int32)), .val (.int (2 : Int32)), .val (.long w1), .second] [(.int (2 : Int32)), (.ref ca)]))
      have Vx5 := Vc
      obtain ⟨cl5, Ar5, qk5, S5, M5, H5, G5⟩ := Vx5
      have hin5 : ¬ ((2 : Int32) < 0 ∨ cl5.slots.size ≤ ((2 : Int32)).toNatClampNeg) := inb_of S5 ⟨by decide, by decide⟩
      have hat5 : cl5.slots[((2 : Int32)).toNatClampNeg]? = some (.long w2) := H5.at hin5 rfl
      refine Gl.st (X1.laload hx (j := (2 : Int32)) (v := (.long w2)) (by rw [e1]; exact Ar5.1) (State.isArrayOf_alike hZ.alike Ar5.2.1) Ar5.2.2 hin5 hat5 (g := (mkF m 17 #[.val (.ref a1), .val (.ref ca), .val (.int (4 : Int32)), .val (.int (2 : Int32)), .val (.long w1), .second] [(.int (2 : Int32)), (.ref ca)])) rfl rfl (hb hby d3_17)) ?_
      show Gl _ _ _ _ _ _ _ (T1.setTop (mkF m 18 #[.val (.ref a1), .val (.ref ca), .val (.int (4 : Int32)), .val (.int (2 : Int32)), .val (.long w1), .second] [(.long w2)]))
      refine Gl.st (fun t k => XS.lstore X1.here hx rfl (hb hby d3_18) rfl (l' := #[.val (.ref a1), .val (.ref ca), .val (.int (4 : Int32)), .val (.int (2 : Int32)), .val (.long w2), .second]) rfl k) ?_
      show Gl _ _ _ _ _ _ _ (T1.setTop (mkF m 20 #[.val (.ref a1), .val (.ref ca), .val (.int (4 : Int32)), .val (.int (2 : Int32)), .val (.long w2), .second] []))
      refine Gl.st (fun t k => XS.lload X1.here hx rfl (hb hby d3_20) rfl  k) ?_
      show Gl _ _ _ _ _ _ _ (T1.setTop (mkF m 22 #[.val (.ref a1), .val (.ref ca), .val (.int (4 : Int32)), .val (.int (2 : Int32)), .val (.long w2), .second] [(.long w2)]))
      refine Gl.st (fun t k => XS.lconst X1.here hx rfl (hb hby d3_22) k) ?_
      show Gl _ _ _ _ _ _ _ (T1.setTop (mkF m 23 #[.val (.ref a1), .val (.ref ca), .val (.int (4 : Int32)), .val (.int (2 : Int32)), .val (.long w2), .second] [(.long (0 : Int64)), (.long w2)]))
      refine Gl.st (fun t k => XS.lcmp X1.here hx rfl (hb hby d3_23) rfl k) ?_
      show Gl _ _ _ _ _ _ _ (T1.setTop (mkF m 24 #[.val (.ref a1), .val (.ref ca), .val (.int (4 : Int32)), .val (.int (2 : Int32)), .val (.long w2), .second] [(.int (lcmpW w2 (0 : Int64)))]))
      by_cases hc24_3 : (0 : Int64) < w2
      · refine Gl.st (fun t k => XS.ifNo X1.here hx rfl (hb hby d3_24) rfl (lc_t hc24_3).2.2.2 k) ?_
        show Gl _ _ _ _ _ _ _ (T1.setTop (mkF m 27 #[.val (.ref a1), .val (.ref ca), .val (.int (4 : Int32)), .val (.int (2 : Int32)), .val (.long w2), .second] []))
        refine Gl.st (fun t k => XS.iconst X1.here hx rfl (hb hby d3_27) k) ?_
        show Gl _ _ _ _ _ _ _ (T1.setTop (mkF m 28 #[.val (.ref a1), .val (.ref ca), .val (.int (4 : Int32)), .val (.int (2 : Int32)), .val (.long w2), .second] [(.int (1 : Int32))]))
        exact Gl.retN X1 hx hlk Bd.returns (by simp) (hb hby d3_28) (⟨congrArg (fun z => some (Value.int z)) (show (nar .boolean (1 : Int32)) = (own_takes w0 w1 w2 w3) from by simp only [own_takes, if_neg hc24, if_neg hc24_2, if_pos hc24_3]), N0, e1⟩) (by decide) (by decide)
      · refine Gl.st (fun t k => XS.ifYes X1.here hx rfl (pc0 := 24) (pc' := 29) rfl (hb hby d3_24) rfl (lc_f hc24_3).2.2.2 (by decide) (by decide) k) ?_
        show Gl _ _ _ _ _ _ _ (T1.setTop (mkF m 29 #[.val (.ref a1), .val (.ref ca), .val (.int (4 : Int32)), .val (.int (2 : Int32)), .val (.long w2), .second] []))
        refine Gl.st (fun t k => XS.iinc X1.here hx rfl (hb hby d3_29) rfl (l' := #[.val (.ref a1), .val (.ref ca), .val (.int (4 : Int32)), .val (.int (3 : Int32)), .val (.long w2), .second]) rfl k) ?_
        show Gl _ _ _ _ _ _ _ (T1.setTop (mkF m 32 #[.val (.ref a1), .val (.ref ca), .val (.int (4 : Int32)), .val (.int (3 : Int32)), .val (.long w2), .second] []))
        refine Gl.st (fun t k => XS.goto X1.here hx rfl (pc0 := 32) (pc' := 10) rfl (hb hby d3_32) (by decide) (by decide) k) ?_
        show Gl _ _ _ _ _ _ _ (T1.setTop (mkF m 10 #[.val (.ref a1), .val (.ref ca), .val (.int (4 : Int32)), .val (.int (3 : Int32)), .val (.long w2), .second] []))
        refine Gl.st (fun t k => XS.iloadN X1.here hx rfl (hb hby d3_10) rfl  k) ?_
        show Gl _ _ _ _ _ _ _ (T1.setTop (mkF m 11 #[.val (.ref a1), .val (.ref ca), .val (.int (4 : Int32)), .val (.int (3 : Int32)), .val (.long w2), .second] [(.int (3 : Int32))]))
        refine Gl.st (fun t k => XS.iloadN X1.here hx rfl (hb hby d3_11) rfl  k) ?_
        show Gl _ _ _ _ _ _ _ (T1.setTop (mkF m 12 #[.val (.ref a1), .val (.ref ca), .val (.int (4 : Int32)), .val (.int (3 : Int32)), .val (.long w2), .second] [(.int (4 : Int32)), (.int (3 : Int32))]))
        refine Gl.st (fun t k => XS.icmpNo X1.here hx rfl (hb hby d3_12) rfl (tlt (by decide : (3 : Int32) < (4 : Int32))).2.1 k) ?_
        show Gl _ _ _ _ _ _ _ (T1.setTop (mkF m 15 #[.val (.ref a1), .val (.ref ca), .val (.int (4 : Int32)), .val (.int (3 : Int32)), .val (.long w2), .second] []))
        refine Gl.st (fun t k => XS.aloadN X1.here hx rfl (hb hby d3_15) rfl rfl k) ?_
        show Gl _ _ _ _ _ _ _ (T1.setTop (mkF m 16 #[.val (.ref a1), .val (.ref ca), .val (.int (4 : Int32)), .val (.int (3 : Int32)), .val (.long w2), .second] [(.ref ca)]))
        refine Gl.st (fun t k => XS.iloadN X1.here hx rfl (hb hby d3_16) rfl  k) ?_
        show Gl _ _ _ _ _ _ _ (T1.setTop (mkF m 17 #[.val (.ref a1), .val (.ref ca), .val (.int (4 : Int32)), .val (.int (3 : Int32)), .val (.long w2), .second] [(.int (3 : Int32)), (.ref ca)]))
        have Vx6 := Vc
        obtain ⟨cl6, Ar6, qk6, S6, M6, H6, G6⟩ := Vx6
        have hin6 : ¬ ((3 : Int32) < 0 ∨ cl6.slots.size ≤ ((3 : Int32)).toNatClampNeg) := inb_of S6 ⟨by decide, by decide⟩
        have hat6 : cl6.slots[((3 : Int32)).toNatClampNeg]? = some (.long w3) := H6.at hin6 rfl
        refine Gl.st (X1.laload hx (j := (3 : Int32)) (v := (.long w3)) (by rw [e1]; exact Ar6.1) (State.isArrayOf_alike hZ.alike Ar6.2.1) Ar6.2.2 hin6 hat6 (g := (mkF m 17 #[.val (.ref a1), .val (.ref ca), .val (.int (4 : Int32)), .val (.int (3 : Int32)), .val (.long w2), .second] [(.int (3 : Int32)), (.ref ca)])) rfl rfl (hb hby d3_17)) ?_
        show Gl _ _ _ _ _ _ _ (T1.setTop (mkF m 18 #[.val (.ref a1), .val (.ref ca), .val (.int (4 : Int32)), .val (.int (3 : Int32)), .val (.long w2), .second] [(.long w3)]))
        refine Gl.st (fun t k => XS.lstore X1.here hx rfl (hb hby d3_18) rfl (l' := #[.val (.ref a1), .val (.ref ca), .val (.int (4 : Int32)), .val (.int (3 : Int32)), .val (.long w3), .second]) rfl k) ?_
        show Gl _ _ _ _ _ _ _ (T1.setTop (mkF m 20 #[.val (.ref a1), .val (.ref ca), .val (.int (4 : Int32)), .val (.int (3 : Int32)), .val (.long w3), .second] []))
        refine Gl.st (fun t k => XS.lload X1.here hx rfl (hb hby d3_20) rfl  k) ?_
        show Gl _ _ _ _ _ _ _ (T1.setTop (mkF m 22 #[.val (.ref a1), .val (.ref ca), .val (.int (4 : Int32)), .val (.int (3 : Int32)), .val (.long w3), .second] [(.long w3)]))
        refine Gl.st (fun t k => XS.lconst X1.here hx rfl (hb hby d3_22) k) ?_
        show Gl _ _ _ _ _ _ _ (T1.setTop (mkF m 23 #[.val (.ref a1), .val (.ref ca), .val (.int (4 : Int32)), .val (.int (3 : Int32)), .val (.long w3), .second] [(.long (0 : Int64)), (.long w3)]))
        refine Gl.st (fun t k => XS.lcmp X1.here hx rfl (hb hby d3_23) rfl k) ?_
        show Gl _ _ _ _ _ _ _ (T1.setTop (mkF m 24 #[.val (.ref a1), .val (.ref ca), .val (.int (4 : Int32)), .val (.int (3 : Int32)), .val (.long w3), .second] [(.int (lcmpW w3 (0 : Int64)))]))
        by_cases hc24_4 : (0 : Int64) < w3
        · refine Gl.st (fun t k => XS.ifNo X1.here hx rfl (hb hby d3_24) rfl (lc_t hc24_4).2.2.2 k) ?_
          show Gl _ _ _ _ _ _ _ (T1.setTop (mkF m 27 #[.val (.ref a1), .val (.ref ca), .val (.int (4 : Int32)), .val (.int (3 : Int32)), .val (.long w3), .second] []))
          refine Gl.st (fun t k => XS.iconst X1.here hx rfl (hb hby d3_27) k) ?_
          show Gl _ _ _ _ _ _ _ (T1.setTop (mkF m 28 #[.val (.ref a1), .val (.ref ca), .val (.int (4 : Int32)), .val (.int (3 : Int32)), .val (.long w3), .second] [(.int (1 : Int32))]))
          exact Gl.retN X1 hx hlk Bd.returns (by simp) (hb hby d3_28) (⟨congrArg (fun z => some (Value.int z)) (show (nar .boolean (1 : Int32)) = (own_takes w0 w1 w2 w3) from by simp only [own_takes, if_neg hc24, if_neg hc24_2, if_neg hc24_3, if_pos hc24_4]), N0, e1⟩) (by decide) (by decide)
        · refine Gl.st (fun t k => XS.ifYes X1.here hx rfl (pc0 := 24) (pc' := 29) rfl (hb hby d3_24) rfl (lc_f hc24_4).2.2.2 (by decide) (by decide) k) ?_
          show Gl _ _ _ _ _ _ _ (T1.setTop (mkF m 29 #[.val (.ref a1), .val (.ref ca), .val (.int (4 : Int32)), .val (.int (3 : Int32)), .val (.long w3), .second] []))
          refine Gl.st (fun t k => XS.iinc X1.here hx rfl (hb hby d3_29) rfl (l' := #[.val (.ref a1), .val (.ref ca), .val (.int (4 : Int32)), .val (.int (4 : Int32)), .val (.long w3), .second]) rfl k) ?_
          show Gl _ _ _ _ _ _ _ (T1.setTop (mkF m 32 #[.val (.ref a1), .val (.ref ca), .val (.int (4 : Int32)), .val (.int (4 : Int32)), .val (.long w3), .second] []))
          refine Gl.st (fun t k => XS.goto X1.here hx rfl (pc0 := 32) (pc' := 10) rfl (hb hby d3_32) (by decide) (by decide) k) ?_
          show Gl _ _ _ _ _ _ _ (T1.setTop (mkF m 10 #[.val (.ref a1), .val (.ref ca), .val (.int (4 : Int32)), .val (.int (4 : Int32)), .val (.long w3), .second] []))
          refine Gl.st (fun t k => XS.iloadN X1.here hx rfl (hb hby d3_10) rfl  k) ?_
          show Gl _ _ _ _ _ _ _ (T1.setTop (mkF m 11 #[.val (.ref a1), .val (.ref ca), .val (.int (4 : Int32)), .val (.int (4 : Int32)), .val (.long w3), .second] [(.int (4 : Int32))]))
          refine Gl.st (fun t k => XS.iloadN X1.here hx rfl (hb hby d3_11) rfl  k) ?_
          show Gl _ _ _ _ _ _ _ (T1.setTop (mkF m 12 #[.val (.ref a1), .val (.ref ca), .val (.int (4 : Int32)), .val (.int (4 : Int32)), .val (.long w3), .second] [(.int (4 : Int32)), (.int (4 : Int32))]))
          refine Gl.st (fun t k => XS.icmpYes X1.here hx rfl (pc0 := 12) (pc' := 35) rfl (hb hby d3_12) rfl (flt (by decide : ¬ ((4 : Int32) < (4 : Int32)))).2.1 (by decide) (by decide) k) ?_
          show Gl _ _ _ _ _ _ _ (T1.setTop (mkF m 35 #[.val (.ref a1), .val (.ref ca), .val (.int (4 : Int32)), .val (.int (4 : Int32)), .val (.long w3), .second] []))
          refine Gl.st (fun t k => XS.iconst X1.here hx rfl (hb hby d3_35) k) ?_
          show Gl _ _ _ _ _ _ _ (T1.setTop (mkF m 36 #[.val (.ref a1), .val (.ref ca), .val (.int (4 : Int32)), .val (.int (4 : Int32)), .val (.long w3), .second] [(.int (0 : Int32))]))
          exact Gl.retN X1 hx hlk Bd.returns (by simp) (hb hby d3_36) (⟨congrArg (fun z => some (Value.int z)) (show (nar .boolean (0 : Int32)) = (own_takes w0 w1 w2 w3) from by simp only [own_takes, if_neg hc24, if_neg hc24_2, if_neg hc24_3, if_neg hc24_4]), N0, e1⟩) (by decide) (by decide)
theorem pf_2 : plainFor (⟨"com/example/wary_retry/waryretry/jdbc/ChangeTakesPinLaw", "law", "(JJJJ)Z"⟩ : MethodName) = true := by decide +kernel
def Q0 (Z : State) (q1 : Int64) (q2 : Int64) (q3 : Int64) (q4 : Int64) (h0 : Heap) (n0 : Nat) (v : Option Value) (h : Heap) (L : List Loc) : Prop := v = some (.int 1) ∧ Fr n0 L
theorem ef_0 (m : MethodId) (q1 : Int64) (q2 : Int64) (q3 : Int64) (q4 : Int64) : entryFrame m #[(.long q1), (.long q2), (.long q3), (.long q4)] maxLocals = mkF m 0 #[.val (.long q1), .second, .val (.long q2), .second, .val (.long q3), .second, .val (.long q4), .second, .unset, .unset] [] := by first | (simp [entryFrame, mkF, argsToLocals, Value.category, maxLocals]; done) | rfl
theorem pd_0 : parseMethodDescriptor "(JJJJ)V" = some ⟨[.long, .long, .long, .long], none⟩ := by decide +kernel
theorem pd_1 : parseMethodDescriptor "()Z" = some ⟨[], some .boolean⟩ := by decide +kernel
set_option maxRecDepth 65536 in
set_option maxHeartbeats 40000000 in
theorem rm0 (l : Launch) (Z : State) (a0 : Array Value) (hw : ∀ d ∈ tables_1, d.before a0 Z = true) (ws : List Jvm.Cond) (q1 : Int64) (q2 : Int64) (q3 : Int64) (q4 : Int64) (h0 : Heap) (n0 : Nat) (Z0 : n0 ≤ h0.size) :
    MetFree l x (head1 (Jvm.Cond.code x code maxLocals ret :: ws) room_1) (fun a U => a = #[(.long q1), (.long q2), (.long q3), (.long q4)] ∧ Z.Warmed39 U.vm ∧ U.heap = h0) (fun _ _ _ _ _ => True) (fun _ U o U' => ∃ v L, o = .returned v ∧ Q0 Z q1 q2 q3 q4 h0 n0 v U'.heap L ∧ FrameEnd U o U' L room_1.cells room_1.slots) := by
  refine MetFree.of_bodySF pf_2 hisR ?_
  intro p e s m args below meth c s₁ Bd hml0 hP hK
  obtain ⟨rfl, hZ, hh⟩ := hP
  have hx := Bd.exec
  have hby := Bd.bytes
  have hlk : meth.locks = false := BodyLoose.notSynchronized Bd
  have hml : c.maxLocals = 10 := hml0
  have hown : s.vm.findClass "com/example/wary_retry/waryretry/jdbc/ChangeTakesPinLaw" = some m.cls := findClass_of_methodNamed Bd.named
  have hnm := (name_of_methodNamed Bd.named Bd.method).1
  have X0 : Stand p l e room_1 s m #[(.long q1), (.long q2), (.long q3), (.long q4)] below meth c s₁ [] 0 0 := Stand.of_body Bd
  have e0 : s₁.heap = h0 := by rw [← hh, Bd.state]; rfl
  have N0 := Fr.nil n0
  show Gl p e below s (Q0 Z q1 q2 q3 q4 h0 n0) room_1.cells room_1.slots (s₁.setTop (entryFrame m #[(.long q1), (.long q2), (.long q3), (.long q4)] maxLocals))
  rw [ef_0]
  show Gl _ _ _ _ _ _ _ (s₁.setTop (mkF m 0 #[.val (.long q1), .second, .val (.long q2), .second, .val (.long q3), .second, .val (.long q4), .second, .unset, .unset] []))
  obtain ⟨T1, h1, X1, e1, E1, A1, D1, -, st1⟩ := newO X0 hx hZ hown (hw _ (List.mem_of_getElem? (i := 0) rfl)) (hw _ (List.mem_of_getElem? (i := 1) rfl)) (hw _ (List.mem_of_getElem? (i := 2) rfl)) e0 (g := (mkF m 0 #[.val (.long q1), .second, .val (.long q2), .second, .val (.long q3), .second, .val (.long q4), .second, .unset, .unset] [])) rfl (hb hby at_0) (by decide) (by decide)
  obtain ⟨b1, g1⟩ : ∃ z, z = h0.size := ⟨_, rfl⟩
  rw [← g1] at A1 D1 st1
  refine Gl.st st1 ?_
  have gzb1 : n0 ≤ b1 := Nat.le_trans Z0 (Nat.le_of_eq g1.symm)
  have Z1 : n0 ≤ h1.size := Nat.le_trans Z0 E1.1
  have F1_columns : Fld Z h1 b1 "com/example/wary_retry/waryretry/jdbc/Room$Change" "columns" "[J" .null := D1 (Or.inr (hw _ (List.mem_of_getElem? (i := 11) rfl))) (ty := (.array .long)) (by decide)
  show Gl _ _ _ _ _ _ _ (T1.setTop (mkF m 3 #[.val (.long q1), .second, .val (.long q2), .second, .val (.long q3), .second, .val (.long q4), .second, .unset, .unset] [(.ref b1)]))
  refine Gl.st (fun t k => XS.dup X1.here hx rfl (hb hby at_3) rfl rfl k) ?_
  show Gl _ _ _ _ _ _ _ (T1.setTop (mkF m 4 #[.val (.long q1), .second, .val (.long q2), .second, .val (.long q3), .second, .val (.long q4), .second, .unset, .unset] [(.ref b1), (.ref b1)]))
  refine Gl.st (fun t k => XS.lloadN X1.here hx rfl (hb hby at_4) rfl  k) ?_
  show Gl _ _ _ _ _ _ _ (T1.setTop (mkF m 5 #[.val (.long q1), .second, .val (.long q2), .second, .val (.long q3), .second, .val (.long q4), .second, .unset, .unset] [(.long q1), (.ref b1), (.ref b1)]))
  refine Gl.st (fun t k => XS.lloadN X1.here hx rfl (hb hby at_5) rfl  k) ?_
  show Gl _ _ _ _ _ _ _ (T1.setTop (mkF m 6 #[.val (.long q1), .second, .val (.long q2), .second, .val (.long q3), .second, .val (.long q4), .second, .unset, .unset] [(.long q2), (.long q1), (.ref b1), (.ref b1)]))
  refine Gl.st (fun t k => XS.lload X1.here hx rfl (hb hby at_6) rfl  k) ?_
  show Gl _ _ _ _ _ _ _ (T1.setTop (mkF m 8 #[.val (.long q1), .second, .val (.long q2), .second, .val (.long q3), .second, .val (.long q4), .second, .unset, .unset] [(.long q3), (.long q2), (.long q1), (.ref b1), (.ref b1)]))
  refine Gl.st (fun t k => XS.lload X1.here hx rfl (hb hby at_8) rfl  k) ?_
  show Gl _ _ _ _ _ _ _ (T1.setTop (mkF m 10 #[.val (.long q1), .second, .val (.long q2), .second, .val (.long q3), .second, .val (.long q4), .second, .unset, .unset] [(.long q4), (.long q3), (.long q2), (.long q1), (.ref b1), (.ref b1)]))
  obtain ⟨_, _, ⟨T2, L2, k2, n2⟩, -, X2, ⟨Lc2, hQ2, l2, y2, z2⟩, st2⟩ := X1.specialBack hx (y := (⟨"com/example/wary_retry/waryretry/jdbc/Room$Change", "<init>", "(JJJJ)V"⟩ : MethodName)) rfl hown (mvT hZ (hw _ (List.mem_of_getElem? (i := 3) rfl))) (mvT hZ (hw _ (List.mem_of_getElem? (i := 4) rfl))) (mvT hZ (hw _ (List.mem_of_getElem? (i := 5) rfl))) (by decide) (backOf (W := 1) (rm1 l Z a0 hw [] b1 q1 q2 q3 q4 (.null) h1 n0 Z1 A1 F1_columns gzb1) hZ (hw _ (List.mem_of_getElem? (i := 5) rfl)) (hw _ (List.mem_of_getElem? (i := 2) rfl)) (by decide) (by decide)) (g := (mkF m 10 #[.val (.long q1), .second, .val (.long q2), .second, .val (.long q3), .second, .val (.long q4), .second, .unset, .unset] [(.long q4), (.long q3), (.long q2), (.long q1), (.ref b1), (.ref b1)])) rfl (by rw [hml]; rfl) (Steps.refl _) (a := b1) (argsL := [(.long q1), (.long q2), (.long q3), (.long q4)]) (rest := [(.ref b1)]) (lenOf pd_0 rfl) rfl (by show 2 * 0 + _ ≤ _; exact Nat.le_of_eq rfl) (hb hby at_10) (fun _ _ => ⟨rfl, e1, (by decide : 1 + 1 ≤ _), (by decide : 1 + 4 ≤ _)⟩)
  dsimp only [Pt.U, Pt.locs, Pt.cells, Pt.slots] at X2 l2 y2 z2 st2 hQ2
  subst l2 y2 z2
  obtain ⟨rfl, N2q, Kq2, b2_b2, k2_2, hb_b2_b2, Fq2_0, Fq2_1, Fq2_2⟩ := hQ2
  have N2 := Fr.app N0 N2q
  have Z2 : n0 ≤ T2.heap.size := Nat.le_trans Z1 Kq2.1
  have ne_b1_b2_b2 : b1 ≠ b2_b2 := Nat.ne_of_lt (Nat.lt_of_lt_of_le A1.lt hb_b2_b2)
  have gzb2_b2 : n0 ≤ b2_b2 := Nat.le_trans Z1 hb_b2_b2
  refine Gl.to st2 ?_
  show Gl _ _ _ _ _ _ _ (T2.setTop (mkF m 13 #[.val (.long q1), .second, .val (.long q2), .second, .val (.long q3), .second, .val (.long q4), .second, .unset, .unset] [(.ref b1)]))
  refine Gl.st (fun t k => XS.astore X2.here hx rfl (hb hby at_13) rfl rfl (l' := #[.val (.long q1), .second, .val (.long q2), .second, .val (.long q3), .second, .val (.long q4), .second, .val (.ref b1), .unset]) rfl k) ?_
  show Gl _ _ _ _ _ _ _ (T2.setTop (mkF m 15 #[.val (.long q1), .second, .val (.long q2), .second, .val (.long q3), .second, .val (.long q4), .second, .val (.ref b1), .unset] []))
  refine Gl.st (fun t k => XS.lloadN X2.here hx rfl (hb hby at_15) rfl  k) ?_
  show Gl _ _ _ _ _ _ _ (T2.setTop (mkF m 16 #[.val (.long q1), .second, .val (.long q2), .second, .val (.long q3), .second, .val (.long q4), .second, .val (.ref b1), .unset] [(.long q1)]))
  refine Gl.st (fun t k => XS.lconst X2.here hx rfl (hb hby at_16) k) ?_
  show Gl _ _ _ _ _ _ _ (T2.setTop (mkF m 17 #[.val (.long q1), .second, .val (.long q2), .second, .val (.long q3), .second, .val (.long q4), .second, .val (.ref b1), .unset] [(.long (0 : Int64)), (.long q1)]))
  refine Gl.st (fun t k => XS.lcmp X2.here hx rfl (hb hby at_17) rfl k) ?_
  show Gl _ _ _ _ _ _ _ (T2.setTop (mkF m 18 #[.val (.long q1), .second, .val (.long q2), .second, .val (.long q3), .second, .val (.long q4), .second, .val (.ref b1), .unset] [(.int (lcmpW q1 (0 : Int64)))]))
  have J3 : ∀ (Tj3 : State) (Lj3 : List Loc) (Xj3 : Stand p l e room_1 s m #[(.long q1), (.long q2), (.long q3), (.long q4)] below meth c Tj3 Lj3 2 5) (ej3 : Tj3.heap = T2.heap) (Nj3 : Fr n0 Lj3) (z46s0 : Int32) (hz46s0 : z46s0 = (if (0 : Int64) < q1 then (1 : Int32) else (if (0 : Int64) < q2 then (1 : Int32) else (if (0 : Int64) < q3 then (1 : Int32) else (if (0 : Int64) < q4 then (1 : Int32) else (0 : Int32)))))), Gl p e below s (Q0 Z q1 q2 q3 q4 h0 n0) room_1.cells room_1.slots (Tj3.setTop (mkF m 46 #[.val (.long q1), .second, .val (.long q2), .second, .val (.long q3), .second, .val (.long q4), .second, .val (.ref b1), .unset] [(.int z46s0)])) := by
    intro Tj3 Lj3 Xj3 ej3 Nj3 z46s0 hz46s0
    show Gl _ _ _ _ _ _ _ (Tj3.setTop (mkF m 46 #[.val (.long q1), .second, .val (.long q2), .second, .val (.long q3), .second, .val (.long q4), .second, .val (.ref b1), .unset] [(.int z46s0)]))
    refine Gl.st (fun t k => XS.istore Xj3.here hx rfl (hb hby at_46) rfl (l' := #[.val (.long q1), .second, .val (.long q2), .second, .val (.long q3), .second, .val (.long q4), .second, .val (.ref b1), .val (.int z46s0)]) rfl k) ?_
    show Gl _ _ _ _ _ _ _ (Tj3.setTop (mkF m 48 #[.val (.long q1), .second, .val (.long q2), .second, .val (.long q3), .second, .val (.long q4), .second, .val (.ref b1), .val (.int z46s0)] []))
    refine Gl.st (fun t k => XS.aload Xj3.here hx rfl (hb hby at_48) rfl rfl k) ?_
    show Gl _ _ _ _ _ _ _ (Tj3.setTop (mkF m 50 #[.val (.long q1), .second, .val (.long q2), .second, .val (.long q3), .second, .val (.long q4), .second, .val (.ref b1), .val (.int z46s0)] [(.ref b1)]))
    obtain ⟨cq4, kq4, qa4, qb4, qc4⟩ := isOf hZ ej3 Fq2_0
    obtain ⟨_, _, ⟨T4, L4, k4, n4⟩, -, X4, ⟨Lc4, hQ4, l4, y4, z4⟩, st4⟩ := Xj3.virtualBack hx (y := (⟨"com/example/wary_retry/waryretry/jdbc/Room$Change", "takes", "()Z"⟩ : MethodName)) (z := (⟨"com/example/wary_retry/waryretry/jdbc/Room$Change", "takes", "()Z"⟩ : MethodName)) hown (mvT hZ (hw _ (List.mem_of_getElem? (i := 12) rfl))) (mvT hZ (hw _ (List.mem_of_getElem? (i := 13) rfl))) (notFace_of_selects (args := #[]) (mvT hZ (hw _ (List.mem_of_getElem? (i := 15) rfl)))) (mvT hZ (hw _ (List.mem_of_getElem? (i := 15) rfl))) (mvT hZ (hw _ (List.mem_of_getElem? (i := 14) rfl))) (by decide) (backOf (W := 0) (rm3 l Z a0 hw [] b1 (b2_b2) (k2_2) (q1) (q2) (q3) (q4) T2.heap n0  Fq2_1 Fq2_2) hZ (hw _ (List.mem_of_getElem? (i := 16) rfl)) (hw _ (List.mem_of_getElem? (i := 2) rfl)) (by decide) (by decide)) qa4 qc4 (g := (mkF m 50 #[.val (.long q1), .second, .val (.long q2), .second, .val (.long q3), .second, .val (.long q4), .second, .val (.ref b1), .val (.int z46s0)] [(.ref b1)])) rfl (by rw [hml]; rfl) (Steps.refl _) (argsL := []) (rest := []) (lenOf pd_1 rfl) rfl (by show 2 * 0 + _ ≤ _; exact Nat.le_of_eq rfl) (hb hby at_50) (fun _ _ => ⟨rfl, ej3, (by decide : 2 + 0 ≤ _), (by decide : 5 + 0 ≤ _)⟩)
    dsimp only [Pt.U, Pt.locs, Pt.cells, Pt.slots] at X4 l4 y4 z4 st4 hQ4
    subst l4 y4 z4
    obtain ⟨rfl, N4q, e4⟩ := hQ4
    have N4 := Fr.app Nj3 N4q
    refine Gl.to st4 ?_
    show Gl _ _ _ _ _ _ _ (T4.setTop (mkF m 53 #[.val (.long q1), .second, .val (.long q2), .second, .val (.long q3), .second, .val (.long q4), .second, .val (.ref b1), .val (.int z46s0)] [(.int (own_takes q1 q2 q3 q4))]))
    refine Gl.st (fun t k => XS.iload X4.here hx rfl (hb hby at_53) rfl  k) ?_
    show Gl _ _ _ _ _ _ _ (T4.setTop (mkF m 55 #[.val (.long q1), .second, .val (.long q2), .second, .val (.long q3), .second, .val (.long q4), .second, .val (.ref b1), .val (.int z46s0)] [(.int z46s0), (.int (own_takes q1 q2 q3 q4))]))
    have hc55_5 : (own_takes q1 q2 q3 q4) = z46s0 := by rw [hz46s0]; rfl
    refine Gl.st (fun t k => XS.icmpNo X4.here hx rfl (hb hby at_55) rfl (teq hc55_5).2 k) ?_
    show Gl _ _ _ _ _ _ _ (T4.setTop (mkF m 58 #[.val (.long q1), .second, .val (.long q2), .second, .val (.long q3), .second, .val (.long q4), .second, .val (.ref b1), .val (.int z46s0)] []))
    refine Gl.st (fun t k => XS.iconst X4.here hx rfl (hb hby at_58) k) ?_
    show Gl _ _ _ _ _ _ _ (T4.setTop (mkF m 59 #[.val (.long q1), .second, .val (.long q2), .second, .val (.long q3), .second, .val (.long q4), .second, .val (.ref b1), .val (.int z46s0)] [(.int (1 : Int32))]))
    refine Gl.st (fun t k => XS.goto X4.here hx rfl (pc0 := 59) (pc' := 63) rfl (hb hby at_59) (by decide) (by decide) k) ?_
    show Gl _ _ _ _ _ _ _ (T4.setTop (mkF m 63 #[.val (.long q1), .second, .val (.long q2), .second, .val (.long q3), .second, .val (.long q4), .second, .val (.ref b1), .val (.int z46s0)] [(.int (1 : Int32))]))
    exact Gl.retN X4 hx hlk Bd.returns (by simp) (hb hby at_63) (⟨rfl, N4⟩) (by decide) (by decide)
  by_cases hc18 : (0 : Int64) < q1
  · refine Gl.st (fun t k => XS.ifYes X2.here hx rfl (pc0 := 18) (pc' := 41) rfl (hb hby at_18) rfl (lc_t hc18).2.2.1 (by decide) (by decide) k) ?_
    show Gl _ _ _ _ _ _ _ (T2.setTop (mkF m 41 #[.val (.long q1), .second, .val (.long q2), .second, .val (.long q3), .second, .val (.long q4), .second, .val (.ref b1), .unset] []))
    refine Gl.st (fun t k => XS.iconst X2.here hx rfl (hb hby at_41) k) ?_
    show Gl _ _ _ _ _ _ _ (T2.setTop (mkF m 42 #[.val (.long q1), .second, .val (.long q2), .second, .val (.long q3), .second, .val (.long q4), .second, .val (.ref b1), .unset] [(.int (1 : Int32))]))
    refine Gl.st (fun t k => XS.goto X2.here hx rfl (pc0 := 42) (pc' := 46) rfl (hb hby at_42) (by decide) (by decide) k) ?_
    show Gl _ _ _ _ _ _ _ (T2.setTop (mkF m 46 #[.val (.long q1), .second, .val (.long q2), .second, .val (.long q3), .second, .val (.long q4), .second, .val (.ref b1), .unset] [(.int (1 : Int32))]))
    exact J3 _ _ X2 rfl N2 _ (by simp only [if_pos hc18])
  · refine Gl.st (fun t k => XS.ifNo X2.here hx rfl (hb hby at_18) rfl (lc_f hc18).2.2.1 k) ?_
    show Gl _ _ _ _ _ _ _ (T2.setTop (mkF m 21 #[.val (.long q1), .second, .val (.long q2), .second, .val (.long q3), .second, .val (.long q4), .second, .val (.ref b1), .unset] []))
    refine Gl.st (fun t k => XS.lloadN X2.here hx rfl (hb hby at_21) rfl  k) ?_
    show Gl _ _ _ _ _ _ _ (T2.setTop (mkF m 22 #[.val (.long q1), .second, .val (.long q2), .second, .val (.long q3), .second, .val (.long q4), .second, .val (.ref b1), .unset] [(.long q2)]))
    refine Gl.st (fun t k => XS.lconst X2.here hx rfl (hb hby at_22) k) ?_
    show Gl _ _ _ _ _ _ _ (T2.setTop (mkF m 23 #[.val (.long q1), .second, .val (.long q2), .second, .val (.long q3), .second, .val (.long q4), .second, .val (.ref b1), .unset] [(.long (0 : Int64)), (.long q2)]))
    refine Gl.st (fun t k => XS.lcmp X2.here hx rfl (hb hby at_23) rfl k) ?_
    show Gl _ _ _ _ _ _ _ (T2.setTop (mkF m 24 #[.val (.long q1), .second, .val (.long q2), .second, .val (.long q3), .second, .val (.long q4), .second, .val (.ref b1), .unset] [(.int (lcmpW q2 (0 : Int64)))]))
    by_cases hc24 : (0 : Int64) < q2
    · refine Gl.st (fun t k => XS.ifYes X2.here hx rfl (pc0 := 24) (pc' := 41) rfl (hb hby at_24) rfl (lc_t hc24).2.2.1 (by decide) (by decide) k) ?_
      show Gl _ _ _ _ _ _ _ (T2.setTop (mkF m 41 #[.val (.long q1), .second, .val (.long q2), .second, .val (.long q3), .second, .val (.long q4), .second, .val (.ref b1), .unset] []))
      refine Gl.st (fun t k => XS.iconst X2.here hx rfl (hb hby at_41) k) ?_
      show Gl _ _ _ _ _ _ _ (T2.setTop (mkF m 42 #[.val (.long q1), .second, .val (.long q2), .second, .val (.long q3), .second, .val (.long q4), .second, .val (.ref b1), .unset] [(.int (1 : Int32))]))
      refine Gl.st (fun t k => XS.goto X2.here hx rfl (pc0 := 42) (pc' := 46) rfl (hb hby at_42) (by decide) (by decide) k) ?_
      show Gl _ _ _ _ _ _ _ (T2.setTop (mkF m 46 #[.val (.long q1), .second, .val (.long q2), .second, .val (.long q3), .second, .val (.long q4), .second, .val (.ref b1), .unset] [(.int (1 : Int32))]))
      exact J3 _ _ X2 rfl N2 _ (by simp only [if_neg hc18, if_pos hc24])
    · refine Gl.st (fun t k => XS.ifNo X2.here hx rfl (hb hby at_24) rfl (lc_f hc24).2.2.1 k) ?_
      show Gl _ _ _ _ _ _ _ (T2.setTop (mkF m 27 #[.val (.long q1), .second, .val (.long q2), .second, .val (.long q3), .second, .val (.long q4), .second, .val (.ref b1), .unset] []))
      refine Gl.st (fun t k => XS.lload X2.here hx rfl (hb hby at_27) rfl  k) ?_
      show Gl _ _ _ _ _ _ _ (T2.setTop (mkF m 29 #[.val (.long q1), .second, .val (.long q2), .second, .val (.long q3), .second, .val (.long q4), .second, .val (.ref b1), .unset] [(.long q3)]))
      refine Gl.st (fun t k => XS.lconst X2.here hx rfl (hb hby at_29) k) ?_
      show Gl _ _ _ _ _ _ _ (T2.setTop (mkF m 30 #[.val (.long q1), .second, .val (.long q2), .second, .val (.long q3), .second, .val (.long q4), .second, .val (.ref b1), .unset] [(.long (0 : Int64)), (.long q3)]))
      refine Gl.st (fun t k => XS.lcmp X2.here hx rfl (hb hby at_30) rfl k) ?_
      show Gl _ _ _ _ _ _ _ (T2.setTop (mkF m 31 #[.val (.long q1), .second, .val (.long q2), .second, .val (.long q3), .second, .val (.long q4), .second, .val (.ref b1), .unset] [(.int (lcmpW q3 (0 : Int64)))]))
      by_cases hc31 : (0 : Int64) < q3
      · refine Gl.st (fun t k => XS.ifYes X2.here hx rfl (pc0 := 31) (pc' := 41) rfl (hb hby at_31) rfl (lc_t hc31).2.2.1 (by decide) (by decide) k) ?_
        show Gl _ _ _ _ _ _ _ (T2.setTop (mkF m 41 #[.val (.long q1), .second, .val (.long q2), .second, .val (.long q3), .second, .val (.long q4), .second, .val (.ref b1), .unset] []))
        refine Gl.st (fun t k => XS.iconst X2.here hx rfl (hb hby at_41) k) ?_
        show Gl _ _ _ _ _ _ _ (T2.setTop (mkF m 42 #[.val (.long q1), .second, .val (.long q2), .second, .val (.long q3), .second, .val (.long q4), .second, .val (.ref b1), .unset] [(.int (1 : Int32))]))
        refine Gl.st (fun t k => XS.goto X2.here hx rfl (pc0 := 42) (pc' := 46) rfl (hb hby at_42) (by decide) (by decide) k) ?_
        show Gl _ _ _ _ _ _ _ (T2.setTop (mkF m 46 #[.val (.long q1), .second, .val (.long q2), .second, .val (.long q3), .second, .val (.long q4), .second, .val (.ref b1), .unset] [(.int (1 : Int32))]))
        exact J3 _ _ X2 rfl N2 _ (by simp only [if_neg hc18, if_neg hc24, if_pos hc31])
      · refine Gl.st (fun t k => XS.ifNo X2.here hx rfl (hb hby at_31) rfl (lc_f hc31).2.2.1 k) ?_
        show Gl _ _ _ _ _ _ _ (T2.setTop (mkF m 34 #[.val (.long q1), .second, .val (.long q2), .second, .val (.long q3), .second, .val (.long q4), .second, .val (.ref b1), .unset] []))
        refine Gl.st (fun t k => XS.lload X2.here hx rfl (hb hby at_34) rfl  k) ?_
        show Gl _ _ _ _ _ _ _ (T2.setTop (mkF m 36 #[.val (.long q1), .second, .val (.long q2), .second, .val (.long q3), .second, .val (.long q4), .second, .val (.ref b1), .unset] [(.long q4)]))
        refine Gl.st (fun t k => XS.lconst X2.here hx rfl (hb hby at_36) k) ?_
        show Gl _ _ _ _ _ _ _ (T2.setTop (mkF m 37 #[.val (.long q1), .second, .val (.long q2), .second, .val (.long q3), .second, .val (.long q4), .second, .val (.ref b1), .unset] [(.long (0 : Int64)), (.long q4)]))
        refine Gl.st (fun t k => XS.lcmp X2.here hx rfl (hb hby at_37) rfl k) ?_
        show Gl _ _ _ _ _ _ _ (T2.setTop (mkF m 38 #[.val (.long q1), .second, .val (.long q2), .second, .val (.long q3), .second, .val (.long q4), .second, .val (.ref b1), .unset] [(.int (lcmpW q4 (0 : Int64)))]))
        by_cases hc38 : (0 : Int64) < q4
        · refine Gl.st (fun t k => XS.ifNo X2.here hx rfl (hb hby at_38) rfl (lc_t hc38).2.2.2 k) ?_
          show Gl _ _ _ _ _ _ _ (T2.setTop (mkF m 41 #[.val (.long q1), .second, .val (.long q2), .second, .val (.long q3), .second, .val (.long q4), .second, .val (.ref b1), .unset] []))
          refine Gl.st (fun t k => XS.iconst X2.here hx rfl (hb hby at_41) k) ?_
          show Gl _ _ _ _ _ _ _ (T2.setTop (mkF m 42 #[.val (.long q1), .second, .val (.long q2), .second, .val (.long q3), .second, .val (.long q4), .second, .val (.ref b1), .unset] [(.int (1 : Int32))]))
          refine Gl.st (fun t k => XS.goto X2.here hx rfl (pc0 := 42) (pc' := 46) rfl (hb hby at_42) (by decide) (by decide) k) ?_
          show Gl _ _ _ _ _ _ _ (T2.setTop (mkF m 46 #[.val (.long q1), .second, .val (.long q2), .second, .val (.long q3), .second, .val (.long q4), .second, .val (.ref b1), .unset] [(.int (1 : Int32))]))
          exact J3 _ _ X2 rfl N2 _ (by simp only [if_neg hc18, if_neg hc24, if_neg hc31, if_pos hc38])
        · refine Gl.st (fun t k => XS.ifYes X2.here hx rfl (pc0 := 38) (pc' := 45) rfl (hb hby at_38) rfl (lc_f hc38).2.2.2 (by decide) (by decide) k) ?_
          show Gl _ _ _ _ _ _ _ (T2.setTop (mkF m 45 #[.val (.long q1), .second, .val (.long q2), .second, .val (.long q3), .second, .val (.long q4), .second, .val (.ref b1), .unset] []))
          refine Gl.st (fun t k => XS.iconst X2.here hx rfl (hb hby at_45) k) ?_
          show Gl _ _ _ _ _ _ _ (T2.setTop (mkF m 46 #[.val (.long q1), .second, .val (.long q2), .second, .val (.long q3), .second, .val (.long q4), .second, .val (.ref b1), .unset] [(.int (0 : Int32))]))
          exact J3 _ _ X2 rfl N2 _ (by simp only [if_neg hc18, if_neg hc24, if_neg hc31, if_neg hc38])
set_option maxRecDepth 65536 in
set_option maxHeartbeats 40000000 in
theorem comes_1 {Post : Tables → Env → Array Value → State → Outcome → State → Prop} (hpost : ∀ tb e args s v u, (limb_1_1.after args s (.returned v) u = true ∧ limb_1_2.after args s (.returned v) u = true ∧ True) → FrameEnd s (.returned v) u (Jvm.fieldLocs frame_1_writes args s ++ Jvm.arrayLocs frame_1_arrays args s ++ Jvm.staticLocs frame_1_statics s) 16 128 → Post tb e args s (.returned v) u) :
    ArmFor flags0 classFile x code maxLocals ret World_1 tables_1 room_1 Calls_1 rest_1 Pre_1 Post := by
  intro l hfl _ _ p e ha hc hk s m args below hf hA hF happ hP
  obtain ⟨hcalls, hrest, hpre⟩ := hP
  obtain ⟨-, -, -, hnamed, -, -, -, hat⟩ := (Spec.applies_iff hf).mp happ
  obtain ⟨hg, hn⟩ := and_e (Cond.before_iff.mp (show (Jvm.Cond.and given_1 narrow_1).before args s = true from hpre))
  obtain ⟨hcnt, hr0⟩ := and_e hg
  obtain ⟨ha0, hr1⟩ := and_e hr0
  obtain ⟨ha1, hr2⟩ := and_e hr1
  obtain ⟨ha2, hr3⟩ := and_e hr2
  have ha3 := hr3
  obtain ⟨w0, w1, w2, w3, rfl⟩ : ∃ w0 w1 w2 w3 : Value, args = #[w0, w1, w2, w3] := by
    have hs : args.size = 4 := by simpa [Cond.value, given_1] using hcnt
    obtain ⟨L⟩ := args
    match L, hs with
    | [w0, w1, w2, w3], _ => exact ⟨w0, w1, w2, w3, rfl⟩
  have hw := fun d (hd : d ∈ tables_1) => atoms_spec (ws := Jvm.Cond.code x code maxLocals ret :: tables_1) hat d (List.mem_cons_of_mem _ hd)
  obtain ⟨i0, ei0⟩ := isL_v ha0
  obtain rfl : w0 = (.long i0) := Option.some.inj ei0
  obtain ⟨i1, ei1⟩ := isL_v ha1
  obtain rfl : w1 = (.long i1) := Option.some.inj ei1
  obtain ⟨i2, ei2⟩ := isL_v ha2
  obtain rfl : w2 = (.long i2) := Option.some.inj ei2
  obtain ⟨i3, ei3⟩ := isL_v ha3
  obtain rfl : w3 = (.long i3) := Option.some.inj ei3
  obtain ⟨n, o, h1, h2, h3, _, L, rfl, ⟨rfl, N⟩, hq⟩ := rm0 l s _ hw tables_1 i0 i1 i2 i3 s.heap s.heap.size (Nat.le_refl _) p e ha hc hk s m _ below hf ((Spec.applies_iff_loose hf).mp happ).1 ⟨rfl, State.Warmed39.refl s, rfl⟩ trivial
  refine ⟨n, _, h1, h2, h3, hpost _ _ _ _ _ _ ⟨Cond.after_iff.mpr rfl, Cond.after_iff.mpr (eq_i res_at (Term.int_eval (1)) rfl), trivial⟩ ⟨hq.1, hq.2.1, (hq.2.2.sift fun y hy => Or.inr (N y hy)).mono (by decide) (by decide)⟩⟩
theorem main_1_1 : Claimed_1_1 := comes_1 fun _ _ _ _ _ _ h hF => ⟨h.1, hF⟩
theorem main_1_2 : Claimed_1_2 := comes_1 fun _ _ _ _ _ _ h hF => ⟨h.2.1, hF⟩
end Jvm.Pilot.@@N@@
namespace Jvm.Pilot.@@N@@
open Jvm Jvm.ClassFile Sem Op Lib Jvm.Free Jvm.Stand Jvm.Pilot.@@N@@.Jvm.D
/-! MADE BY PROGRAM (witnessworld.py) out of the Statement's table words and the real class files: 11 classes; the members and pool entries that the words name. The judged class is class 1, her method 1. -/
namespace start1
open Jvm.ClassFile
def u (s : String) : CpInfo := .utf8 (stringToUtf16 s)
/-- a pool by its gaps: so many unusable entries, then the entry; so many at the end -/
def gap : Nat → List CpInfo → List CpInfo
  | 0, r => r
  | n + 1, r => .unusable :: gap n r
def poolList (es : List (Nat × CpInfo)) (last : Nat) : List CpInfo := es.foldr (fun e r => gap e.1 (e.2 :: r)) (gap last [])
def pool (es : List (Nat × CpInfo)) (last : Nat) : Array CpInfo := ⟨poolList es last⟩
def fileOf (pool : Array CpInfo) (this : Nat) (attrs : Array Attribute := #[]) (ms : Array MethodInfo := #[]) (fl : Nat := 33) (sup : Nat := 0) (ifs : Array Nat := #[]) (fds : Array FieldInfo := #[]) : ClassFile where
  minorVersion := 0
  majorVersion := 65
  constantPool := pool
  accessFlags := fl
  thisClass := this
  superClass := sup
  interfaces := ifs
  fields := fds
  methods := ms
  attributes := attrs
def plain (name : String) (sup : Option ClassId) : Class where
  name := name
  kind := .ordinary
  loader := none
  accessFlags := 33
  super := sup
  interfaces := #[]
  cf := none
  fields := #[]
  methods := #[]
  instanceTypes := #[]
  staticTypes := #[]
  resolved := #[]
  callSites := []
  init := .initialized
  statics := none
  mirror := none

def pool0 : Array CpInfo := pool [(5, u "<init>"), (0, u "()V"), (1, .class_ 10), (1, u "java/lang/Object")] 113

def k0c0 : Code := { maxStack := 0, maxLocals := 1, code := object_method_1_code, exceptionTable := #[], attributes := #[] }
def k0m0 : Method := { name := "<init>", desc := "()V", sig := { parameters := [], returnType := none }, accessFlags := 1, code := some k0c0 }
/-- java/lang/Object -/
def k0 : Class := { plain "java/lang/Object" none with
  accessFlags := 33
  interfaces := #[]
  cf := some (fileOf pool0 8 #[] #[{ accessFlags := 1, nameIndex := 5, descriptorIndex := 6, attributes := #[] }] 33 0 #[] #[])
  fields := #[]
  methods := #[k0m0]
  instanceTypes := #[]
  staticTypes := #[]
  resolved := Array.replicate 124 none
  statics := none }

def pool1 : Array CpInfo := pool [(2, .class_ 4), (1, u "java/lang/Object"), (0, u "<init>"), (0, u "()V"), (0, .class_ 8), (0, u "com/example/wary_retry/waryretry/jdbc/Room$Change"), (0, .methodref 7 10), (0, .nameAndType 5 11), (0, u "(JJJJ)V"), (0, .methodref 7 13), (0, .nameAndType 14 15), (0, u "takes"), (0, u "()Z"), (0, .class_ 17), (0, u "com/example/wary_retry/waryretry/jdbc/ChangeTakesPinLaw"), (2, u "law"), (0, u "(JJJJ)Z")] 7

def k1m0 : Method := { name := "<init>", desc := "()V", sig := { parameters := [], returnType := none }, accessFlags := 1, code := none }
def k1c1 : Code := { maxStack := 10, maxLocals := 10, code := code, exceptionTable := #[], attributes := #[] }
def k1m1 : Method := { name := "law", desc := "(JJJJ)Z", sig := { parameters := [.long, .long, .long, .long], returnType := some .boolean }, accessFlags := 9, code := some k1c1 }
/-- com/example/wary_retry/waryretry/jdbc/ChangeTakesPinLaw -/
def k1 : Class := { plain "com/example/wary_retry/waryretry/jdbc/ChangeTakesPinLaw" (some 0) with
  accessFlags := 49
  interfaces := #[]
  cf := some (fileOf pool1 16 #[] #[{ accessFlags := 1, nameIndex := 5, descriptorIndex := 6, attributes := #[] }, { accessFlags := 9, nameIndex := 20, descriptorIndex := 21, attributes := #[] }] 49 2 #[] #[])
  fields := #[]
  methods := #[k1m0, k1m1]
  instanceTypes := #[]
  staticTypes := #[]
  resolved := Array.replicate 29 none
  statics := none }

def pool2 : Array CpInfo := pool [(1, .methodref 2 3), (0, .class_ 4), (0, .nameAndType 5 6), (0, u "java/lang/Object"), (0, u "<init>"), (0, u "()V"), (0, .fieldref 8 9), (0, .class_ 10), (0, .nameAndType 11 12), (0, u "com/example/wary_retry/waryretry/jdbc/Room$Change"), (0, u "columns"), (0, u "[J"), (2, u "(JJJJ)V"), (8, u "NONE"), (0, u "Lcom/example/wary_retry/waryretry/jdbc/Room$Change;"), (15, u "()Z"), (1, u "takes"), (7, .class_ 52), (0, u "com/example/wary_retry/waryretry/jdbc/Room")] 2

def k2c0 : Code := { maxStack := 6, maxLocals := 9, code := prog_42_method_1_code, exceptionTable := #[], attributes := #[] }
def k2m0 : Method := { name := "<init>", desc := "(JJJJ)V", sig := { parameters := [.long, .long, .long, .long], returnType := none }, accessFlags := 0, code := some k2c0 }
def k2c1 : Code := { maxStack := 4, maxLocals := 6, code := prog_42_method_7_code, exceptionTable := #[], attributes := #[] }
def k2m1 : Method := { name := "takes", desc := "()Z", sig := { parameters := [], returnType := some .boolean }, accessFlags := 0, code := some k2c1 }
/-- com/example/wary_retry/waryretry/jdbc/Room$Change -/
def k2 : Class := { plain "com/example/wary_retry/waryretry/jdbc/Room$Change" (some 0) with
  accessFlags := 32
  interfaces := #[]
  cf := some (fileOf pool2 8 #[.nestHost 51] #[{ accessFlags := 0, nameIndex := 5, descriptorIndex := 15, attributes := #[] }, { accessFlags := 0, nameIndex := 43, descriptorIndex := 41, attributes := #[] }] 32 2 #[] #[{ accessFlags := 24, nameIndex := 24, descriptorIndex := 25, attributes := #[] }, { accessFlags := 18, nameIndex := 11, descriptorIndex := 12, attributes := #[] }])
  fields := #[{ name := "NONE", type := (.object "com/example/wary_retry/waryretry/jdbc/Room$Change"), accessFlags := 24, slot := 0, constantValue := 0 }, { name := "columns", type := (.array .long), accessFlags := 18, slot := 0, constantValue := 0 }]
  methods := #[k2m0, k2m1]
  instanceTypes := #[(.array .long)]
  staticTypes := #[(.object "com/example/wary_retry/waryretry/jdbc/Room$Change")]
  resolved := Array.replicate 55 none
  statics := none }

def pool3 : Array CpInfo := pool [(1, u "java/lang/Cloneable"), (0, .class_ 1), (0, u "java/lang/Object"), (0, .class_ 3)] 3

/-- java/lang/Cloneable -/
def k3 : Class := { plain "java/lang/Cloneable" (some 0) with
  accessFlags := 1537
  interfaces := #[]
  cf := some (fileOf pool3 2 #[] #[] 1537 4 #[] #[])
  fields := #[]
  methods := #[]
  instanceTypes := #[]
  staticTypes := #[]
  resolved := Array.replicate 8 none
  statics := none }

def pool4 : Array CpInfo := pool [(1, u "java/io/Serializable"), (0, .class_ 1), (0, u "java/lang/Object"), (0, .class_ 3)] 3

/-- java/io/Serializable -/
def k4 : Class := { plain "java/io/Serializable" (some 0) with
  accessFlags := 1537
  interfaces := #[]
  cf := some (fileOf pool4 2 #[] #[] 1537 4 #[] #[])
  fields := #[]
  methods := #[]
  instanceTypes := #[]
  staticTypes := #[]
  resolved := Array.replicate 8 none
  statics := none }

/-- the primitive byte -/
def k5 : Class := { plain "byte" none with kind := .primitive 'B', accessFlags := 0x411 }
/-- [B -/
def k6 : Class := { plain "[B" (some 0) with kind := .array 5 .byte, interfaces := #[3, 4], accessFlags := 1041 }

/-- the primitive int -/
def k7 : Class := { plain "int" none with kind := .primitive 'I', accessFlags := 0x411 }
/-- [I -/
def k8 : Class := { plain "[I" (some 0) with kind := .array 7 .int, interfaces := #[3, 4], accessFlags := 1041 }

/-- the primitive long -/
def k9 : Class := { plain "long" none with kind := .primitive 'J', accessFlags := 0x411 }
/-- [J -/
def k10 : Class := { plain "[J" (some 0) with kind := .array 9 .long, interfaces := #[3, 4], accessFlags := 1041 }

def heap : Heap := #[]
def classes : Array Class := #[k0, k1, k2, k3, k4, k5, k6, k7, k8, k9, k10]
def interned : List (Array UInt16 × Addr) := []
def slotsUsed : Nat := 0
def theMethod : MethodId := ⟨1, 1⟩
def args0 : Array Value := #[.long 5, .long 3, .long 0, .long (-7)]
def aboutOver (below : List Frame) : State where
  vm := { classes := classes, interned := interned.toArray }
  heap := heap
  slotsUsed := slotsUsed
  threads := #[{ frames := .invoking theMethod args0 :: below }]
def below0 : List Frame := [.native { method := ⟨0, 0⟩, args := #[] }]
def about1 : State := aboutOver below0
def p0 : Program := .bare "" "" ""
def e0 : Env := launch0.env 0 0 0
theorem w_frames : about1.frames = Frame.invoking theMethod args0 :: below0 := rfl
set_option maxRecDepth 65536 in
theorem w_args : argsFit about1.vm theMethod args0 = true := by decide +kernel
set_option maxRecDepth 65536 in
theorem w_heap : heapFits about1 = true := by decide +kernel
set_option maxRecDepth 65536 in
theorem w_runnable : about1.curStatus? = some .runnable := by decide +kernel
set_option maxRecDepth 65536 in
theorem w_alone : about1.alone = true := by decide +kernel
set_option maxRecDepth 65536 in
theorem w_named : about1.methodNamed? x = some theMethod := by decide +kernel
set_option maxRecDepth 65536 in
theorem w_hears : about1.hears theMethod below0 = true := by decide +kernel
set_option maxRecDepth 65536 in
theorem w_ripe : about1.ripe theMethod args0 below0 = true := by decide +kernel
theorem w_running : about1.status = .running := rfl
set_option maxRecDepth 65536 in
theorem w_room : about1.hasRoom e0.platform room_1 = true :=
  launch0.hasRoom_least _ room_1 (by decide +kernel) (by decide +kernel) (by decide +kernel) (by decide +kernel) (by decide +kernel) (by decide +kernel)
theorem allAtoms_all (ts : List Jvm.Cond) (a : Array Jvm.Value) (st : Jvm.State) : (allAtoms ts).before a st = ts.all (fun c => c.before a st) := by
  induction ts with
  | nil => rfl
  | cons c t ih =>
    show (Jvm.Cond.and c (allAtoms t)).before a st = _
    rw [Jvm.Cond.before_and, ih, List.all_cons]
def words1 : List Jvm.Cond := Jvm.Cond.code x code maxLocals ret :: tables_1
/-- a 'code' word, met by the world's own term for the bytes: nothing is compared byte by byte -/
theorem code_word {y : MethodName} {bytes : ByteArray} {mx : Nat} {rt : Option FieldType} {a : Array Value} {s : State} {m : MethodId} {meth : Method} {c : Code} (h1 : s.methodNamed? y = some m) (h2 : s.vm.method? m = some meth) (h3 : meth.code = some c) (h4 : c.code = bytes)
    (h5 : (c.maxLocals == mx && c.exceptionTable.isEmpty && decide (c.maxStack ≤ mostOperands) && decide (meth.sig.returnType = rt) && !meth.locks && decide (parseMethodDescriptor y.desc = some meth.sig)) = true) : (Jvm.Cond.code y bytes mx rt).before a s = true := by
  simp only [Bool.and_eq_true, beq_iff_eq, Bool.not_eq_true', decide_eq_true_eq] at h5
  obtain ⟨⟨⟨⟨⟨g1, g2⟩, g3⟩, g4⟩, g5⟩, g6⟩ := h5
  simp [Cond.before, Cond.holds, Cond.value, h1, h2, h3, h4, g1, g2, g3, g4, g5, g6]
def isCode : Jvm.Cond → Bool
  | .code _ _ _ _ => true
  | _ => false
theorem all_split {L : List Jvm.Cond} {P : Jvm.Cond → Bool} (h1 : L.all (fun c => isCode c || P c) = true) (h2 : ∀ c ∈ L.filter isCode, P c = true) : L.all P = true := by
  refine List.all_eq_true.mpr fun c hc => ?_
  have h := List.all_eq_true.mp h1 c hc
  rcases Bool.eq_false_or_eq_true (isCode c) with hi | hi
  · exact h2 c (List.mem_filter.mpr ⟨hc, hi⟩)
  · simpa [hi] using h
set_option maxRecDepth 65536 in
theorem w_c0 : (Jvm.Cond.code x code maxLocals ret).before args0 about1 = true := code_word (m := ⟨1, 1⟩) (meth := k1m1) (c := k1c1) (by decide +kernel) rfl rfl rfl (by decide +kernel)
set_option maxRecDepth 65536 in
theorem w_c1 : (Jvm.Cond.code ({ cls := "com/example/wary_retry/waryretry/jdbc/Room$Change", name := "<init>", desc := "(JJJJ)V" } : Jvm.MethodName) prog_42_method_1_code (9 : Nat) (Option.none : Option Jvm.ClassFile.FieldType)).before args0 about1 = true := code_word (m := ⟨2, 0⟩) (meth := k2m0) (c := k2c0) (by decide +kernel) rfl rfl rfl (by decide +kernel)
set_option maxRecDepth 65536 in
theorem w_c2 : (Jvm.Cond.code ({ cls := "java/lang/Object", name := "<init>", desc := "()V" } : Jvm.MethodName) object_method_1_code (1 : Nat) (Option.none : Option Jvm.ClassFile.FieldType)).before args0 about1 = true := code_word (m := ⟨0, 0⟩) (meth := k0m0) (c := k0c0) (by decide +kernel) rfl rfl rfl (by decide +kernel)
set_option maxRecDepth 65536 in
theorem w_c3 : (Jvm.Cond.code ({ cls := "com/example/wary_retry/waryretry/jdbc/Room$Change", name := "takes", desc := "()Z" } : Jvm.MethodName) prog_42_method_7_code (6 : Nat) (Option.some Jvm.ClassFile.FieldType.boolean)).before args0 about1 = true := code_word (m := ⟨2, 1⟩) (meth := k2m1) (c := k2c1) (by decide +kernel) rfl rfl rfl (by decide +kernel)
def codes1 : List Jvm.Cond := [Jvm.Cond.code x code maxLocals ret, Jvm.Cond.code ({ cls := "com/example/wary_retry/waryretry/jdbc/Room$Change", name := "<init>", desc := "(JJJJ)V" } : Jvm.MethodName) prog_42_method_1_code (9 : Nat) (Option.none : Option Jvm.ClassFile.FieldType), Jvm.Cond.code ({ cls := "java/lang/Object", name := "<init>", desc := "()V" } : Jvm.MethodName) object_method_1_code (1 : Nat) (Option.none : Option Jvm.ClassFile.FieldType), Jvm.Cond.code ({ cls := "com/example/wary_retry/waryretry/jdbc/Room$Change", name := "takes", desc := "()Z" } : Jvm.MethodName) prog_42_method_7_code (6 : Nat) (Option.some Jvm.ClassFile.FieldType.boolean)]
set_option maxRecDepth 65536 in
theorem codes_eq : words1.filter isCode = codes1 := rfl
theorem w_codes : ∀ c ∈ words1.filter isCode, c.before args0 about1 = true := by
  rw [codes_eq]
  intro c hc
  simp only [codes1, List.mem_cons, List.not_mem_nil, or_false] at hc
  rcases hc with rfl | rfl | rfl | rfl
  · exact w_c0
  · exact w_c1
  · exact w_c2
  · exact w_c3
set_option maxRecDepth 65536 in
theorem w_t1 : words1.all (fun c => isCode c || c.before args0 about1) = true := by decide +kernel
theorem w_tables : (allAtoms (Jvm.Cond.code x code maxLocals ret :: tables_1)).before args0 about1 = true := by
  rw [allAtoms_all]
  show words1.all (fun c => c.before args0 about1) = true
  refine all_split ?_ w_codes
  rw [w_t1]
set_option maxRecDepth 65536 in
theorem w_case : (Jvm.Cond.and given_1 narrow_1).before args0 about1 = true := by decide +kernel
theorem w_applies : (headSpec (Jvm.Cond.code x code maxLocals ret :: tables_1) room_1).applies x e0.platform about1 = true :=
  (Spec.applies_iff w_frames).mpr ⟨w_running, w_runnable, w_alone, w_named, w_hears, w_ripe, w_room, w_tables⟩
theorem atStart : AtStart classFile x code maxLocals ret World_1 tables_1 room_1 Calls_1 rest_1 Pre_1 launch0 p0 e0 about1 theMethod args0 below0 :=
  ⟨lists_1, trivial, launch0.admits_env _ _ _, launch0.least_env, fairChoices_fair.cas, fairChoices_fair.clock, w_frames, w_args, w_heap, w_applies, trivial, trivial, w_case⟩
end start1
theorem witness_1 : WitnessClaimed_1 := ⟨start1.p0, start1.e0, start1.about1, start1.theMethod, start1.args0, start1.below0, start1.atStart⟩
end Jvm.Pilot.@@N@@
