import JvmDerived
import JvmDerived.Pilot.@@N@@Statement
import JvmDerived.Pilot.@@N@@Code
set_option linter.unusedVariables false
set_option linter.unusedSimpArgs false
namespace Jvm.RoadKit
open Sem ClassFile Op Lib Jvm.Stand Jvm.Free Jvm.LawKit
section Ref
variable {p : Program} {l : Launch} {e : Env} {R : Room} {s : State} {m : MethodId} {args : Array Value} {below : List Frame} {meth : Method} {c : Code} {T : State} {locs : List Loc} {cells slots : Nat} {Z : State} {a0 : Array Value}
/-- a resolved entry of a constructor, over any tables that are warmer -/
theorem refReady {own : String} {index cur : Nat} {y : MethodName} {r : MethodId} {vm : Vm} (hZ : Z.Warmed39 vm) (hcur : vm.findClass own = some cur) (w : (Cond.methodRef own index y).before a0 Z = true) (hn : Z.methodNamed? y = some r)
    (hy : y.cls ≠ "java/lang/invoke/MethodHandle" ∧ y.cls ≠ "java/lang/invoke/VarHandle") : namesResolved vm cur index r.cls ∧ vm.methodReady cur index r := by
  have w' := Cond.methodRef_warmed39 hZ hn hy w
  have hn' : (Z.setVm vm).methodNamed? y = some r := by rw [State.methodNamed?_setVm hZ.alike]; exact hn
  have hf := State.methodFound?_of_named hn' hy
  have hcur' : (Z.setVm vm).vm.findClass own = some cur := hcur
  have hc := findClass_of_methodNamed hn'
  simp only [Cond.before, Cond.holds, Cond.value, hcur', hf, beq_iff_eq, Option.some.injEq, Bool.and_eq_true, decide_eq_true_eq] at w'
  obtain ⟨⟨hnames, hcls⟩, hres⟩ := w'
  obtain ⟨cp, hcp, hnn⟩ := State.names_spec hnames
  obtain ⟨ci, nt, hentry, hnt, -⟩ := namesOf?_method hnn
  obtain ⟨k, cf, hk, hcf, rfl⟩ := State.poolOf?_spec hcur' hcp
  rw [hc] at hcls
  have hready : (Z.setVm vm).resolvedAt? own ci = some (.cls r.cls) := by
    simp only [State.refClass?, hcp, Option.bind_eq_bind, Option.bind_some] at hcls
    rcases hentry with he | he <;> simp only [he, Option.bind_eq_some_iff] at hcls <;>
      (obtain ⟨q, hr1, hr2⟩ := hcls; cases q <;> simp at hr2; subst hr2; exact hr1)
  refine ⟨⟨k, cf, ci, nt, hk, hcf, hentry, State.resolvedAt?_spec hcur' hready⟩, ?_⟩
  split at hres
  · rename_i m' hr
    have hmm : m' = r := by simpa using hres
    subst hmm
    exact State.resolvedAt?_spec hcur' hr
  · cases hres
/-- a constructor by its contract where the entry is one that has been resolved -/
theorem specialRef (X : Stand p l e R s m args below meth c T locs cells slots) (hx : p.tables.exec = Jvm.exec) (hZ : Z.Warmed39 s.vm) {own : String} {index : Nat} {y : MethodName} (hy1 : y.name = "<init>") (hown : s.vm.findClass own = some m.cls)
    (w : (Cond.methodRef own index y).before a0 Z = true) (wi : (Cond.instanceMethod y).before a0 Z = true) {bytes : ByteArray} {maxL : Nat} (wc : (Cond.code y bytes maxL none).before a0 Z = true) (hy : y.cls ≠ "java/lang/invoke/MethodHandle" ∧ y.cls ≠ "java/lang/invoke/VarHandle")
    {W : Nat} {Pre : Pt → Array Value → Prop} {Post : Pt → Array Value → Option Value → Pt → Prop} (hK : Back l R p e below s args y 3 W Pre Post)
    {g : JFrame} (hg : g.method = m) (hsize : g.locals.size = c.maxLocals) {s₀ : State} (hcome : Steps p.tables e below s₀ (T.setTop g)) {a : Addr} {argsL rest : List Value}
    (hlen : ∀ sig, parseMethodDescriptor y.desc = some sig → argsL.length = sig.parameters.length) (hstack : g.stack = argsL.reverse ++ .ref a :: rest) (hW : 2 * g.monitorRoom + (rest.map fun v => v.category).sum ≤ W)
    (hdg : decode c.code g.pc = .ok (.invokespecial index, 3)) (hpre : ∀ vm₁, s.WarmedH vm₁ → Pre ⟨T.setVm vm₁, locs, cells, slots⟩ (.ref a :: argsL).toArray) :
    ∃ (v : Option Value) (vm₁ : Vm) (B : Pt), s.WarmedH vm₁ ∧ Stand p l e R s m args below meth c B.U B.locs B.cells B.slots ∧ Post ⟨T.setVm vm₁, locs, cells, slots⟩ (.ref a :: argsL).toArray v B ∧
      Steps p.tables e below s₀ (B.U.setTop { g with pc := g.pc + 3, stack := v.toList ++ rest }) := by
  obtain ⟨rZ, hnZ⟩ := Cond.code_named wc
  have hnS : s.methodNamed? y = some rZ := by
    have q : (Z.setVm s.vm).methodNamed? y = some rZ := by rw [State.methodNamed?_setVm hZ.alike]; exact hnZ
    exact q
  have C0 : SCall p l e R s m args below meth c index y := SCall.of_ready hx hy1 (mvT hZ wi) (mvT hZ wc) fun U r hU hr => by
    cases hnS.symm.trans hr
    exact refReady (wtrans hZ hU) (by rw [hU.alike.findClass]; exact hown) w hnZ hy
  exact C0 X hK hg hsize hcome hlen hstack hW hdg hpre
end Ref
end Jvm.RoadKit
namespace Jvm.RoadKit
open Sem ClassFile Op Lib Jvm.Stand Jvm.Free Jvm.LawKit
section New
variable {p : Program} {l : Launch} {e : Env} {R : Room} {s : State} {m : MethodId} {args : Array Value} {below : List Frame} {meth : Method} {c : Code} {T T' : State} {locs : List Loc} {cells slots cs sl : Nat} {Q : Option Value → Heap → List Loc → Prop}
/-- from T the run ends, and Q holds at the end -/
def Gl (p : Program) (e : Env) (below : List Frame) (s : State) (Q : Option Value → Heap → List Loc → Prop) (cs sl : Nat) (T : State) : Prop :=
  ∃ s₂ o, Steps p.tables e below T s₂ ∧ s₂.status = .running ∧ Ended s₂ below o ∧ ∃ v L, o = .returned v ∧ Q v s₂.heap L ∧ FrameEnd s o s₂ L cs sl
theorem Gl.st (k : ∀ t, Steps p.tables e below T' t → Steps p.tables e below T t) (h : Gl p e below s Q cs sl T') : Gl p e below s Q cs sl T := by
  obtain ⟨a, o, h1, r⟩ := h
  exact ⟨a, o, k _ h1, r⟩
theorem Gl.to (k : Steps p.tables e below T T') (h : Gl p e below s Q cs sl T') : Gl p e below s Q cs sl T := Gl.st (fun _ q => k.trans q) h
theorem Gl.fin (X : Stand p l e R s m args below meth c T locs cells slots) {v : Option Value} (hv : meth.sig.returnType = none → v = none) (hlk : meth.locks = false) (hQ : Q v T.heap locs) (hc : cells ≤ cs) (hs : slots ≤ sl) {S0 : State}
    (k : ∀ fs, (∀ (f : JFrame) (acts : List Action), f.method = m → f.locked = none → f.entered = [] → (doReturn e (T.setTop f) acts v).1 = T.setFrames fs) → Steps p.tables e below S0 (T.setFrames fs)) : Gl p e below s Q cs sl S0 := by
  obtain ⟨fs, hr, hrun, hended, hW, hsame⟩ := X.leave hv hlk
  exact ⟨_, _, k fs hr, hrun, hended, v, locs, rfl, hQ, ⟨_, rfl⟩, hW, hsame.mono hc hs⟩
theorem Gl.retN (X : Stand p l e R s m args below meth c T locs cells slots) (hx : p.tables.exec = Jvm.exec) (hlk : meth.locks = false) {pc : Nat} {Ls : Array Slot} {z : Int32} {t : FieldType} {rest : List Value} (hret : meth.sig.returnType = some t) (ht : t = .boolean ∨ t = .byte ∨ t = .char ∨ t = .short)
    (hd : decode c.code pc = .ok (.ireturn, 1)) (hQ : Q (some (.int (nar t z))) T.heap locs) (hc : cells ≤ cs) (hs : slots ≤ sl) : Gl p e below s Q cs sl (T.setTop (mkF m pc Ls (.int z :: rest))) :=
  Gl.fin X (fun h => by rw [hret] at h; cases h) hlk hQ hc hs fun _ hr => Jvm.RoadKit.retN X hx hret ht hd hr
theorem Gl.retI (X : Stand p l e R s m args below meth c T locs cells slots) (hx : p.tables.exec = Jvm.exec) (hlk : meth.locks = false) {pc : Nat} {Ls : Array Slot} {z : Int32} {rest : List Value} (hret : meth.sig.returnType = some .int)
    (hd : decode c.code pc = .ok (.ireturn, 1)) (hQ : Q (some (.int z)) T.heap locs) (hc : cells ≤ cs) (hs : slots ≤ sl) : Gl p e below s Q cs sl (T.setTop (mkF m pc Ls (.int z :: rest))) :=
  Gl.fin X (fun h => by rw [hret] at h; cases h) hlk hQ hc hs fun _ hr => retOut X hx hret rfl (Or.inl ⟨rfl, Or.inl rfl, z, rfl⟩) hd hr
theorem Gl.retJ (X : Stand p l e R s m args below meth c T locs cells slots) (hx : p.tables.exec = Jvm.exec) (hlk : meth.locks = false) {pc : Nat} {Ls : Array Slot} {z : Int64} {rest : List Value} (hret : meth.sig.returnType = some .long)
    (hd : decode c.code pc = .ok (.lreturn, 1)) (hQ : Q (some (.long z)) T.heap locs) (hc : cells ≤ cs) (hs : slots ≤ sl) : Gl p e below s Q cs sl (T.setTop (mkF m pc Ls (.long z :: rest))) :=
  Gl.fin X (fun h => by rw [hret] at h; cases h) hlk hQ hc hs fun _ hr => retOut X hx hret rfl (Or.inr (Or.inl ⟨rfl, rfl, z, rfl⟩)) hd hr
theorem Gl.retV (X : Stand p l e R s m args below meth c T locs cells slots) (hx : p.tables.exec = Jvm.exec) (hlk : meth.locks = false) {pc : Nat} {Ls : Array Slot} (hret : meth.sig.returnType = none)
    (hd : decode c.code pc = .ok (.return_, 1)) (hQ : Q none T.heap locs) (hc : cells ≤ cs) (hs : slots ≤ sl) : Gl p e below s Q cs sl (T.setTop (mkF m pc Ls [])) :=
  Gl.fin X (fun _ => rfl) hlk hQ hc hs fun _ hr => X.returnOut hx hret hd hr
/-- .. where String constants may have been interned -/
def GlW (p : Program) (e : Env) (below : List Frame) (s : State) (Q : Option Value → Heap → List Loc → Prop) (cs sl : Nat) (T : State) : Prop :=
  ∃ s₂ o, Steps p.tables e below T s₂ ∧ s₂.status = .running ∧ Ended s₂ below o ∧ ∃ v L, o = .returned v ∧ Q v s₂.heap L ∧ ReturnedEndW s o s₂ L cs sl
theorem GlW.st (k : ∀ t, Steps p.tables e below T' t → Steps p.tables e below T t) (h : GlW p e below s Q cs sl T') : GlW p e below s Q cs sl T := by
  obtain ⟨a, o, h1, r⟩ := h
  exact ⟨a, o, k _ h1, r⟩
theorem GlW.to (k : Steps p.tables e below T T') (h : GlW p e below s Q cs sl T') : GlW p e below s Q cs sl T := GlW.st (fun _ q => k.trans q) h
theorem GlW.retN {vm₁ : Vm} (X : Stand p l e R (s.setVm vm₁) m args below meth c T locs cells slots) (hx : p.tables.exec = Jvm.exec) {n : Nat} (hS : s.Since vm₁ n) (hn : n ≤ T.heap.size) (hlk : meth.locks = false) {pc : Nat} {Ls : Array Slot} {z : Int32} {t : FieldType} {rest : List Value} (hret : meth.sig.returnType = some t) (ht : t = .boolean ∨ t = .byte ∨ t = .char ∨ t = .short)
    (hd : decode c.code pc = .ok (.ireturn, 1)) (hQ : Q (some (.int (nar t z))) T.heap locs) (hc : cells ≤ cs) (hs : slots ≤ sl) : GlW p e below s Q cs sl (T.setTop (mkF m pc Ls (.int z :: rest))) := by
  obtain ⟨fs, hr, hrun, hended, h1, h2, h3, h4⟩ := X.leaveW hS hn (v := some (.int (nar t z))) (fun h => by rw [hret] at h; cases h) hlk
  exact ⟨_, _, Jvm.RoadKit.retN X hx hret ht hd hr, hrun, hended, _, locs, rfl, hQ, h1, h2, h3, h4.mono hc hs⟩
theorem lc_t {x y : Int64} (h : x < y) : ifCond.holds .lt (lcmpW x y) = true ∧ ifCond.holds .ge (lcmpW x y) = false ∧ ifCond.holds .gt (lcmpW y x) = true ∧ ifCond.holds .le (lcmpW y x) = false :=
  have a := tlt ((lw_lt x y).mpr h)
  have b := tlt ((lw_gt y x).mpr h)
  ⟨(if0 _ _).trans a.1, (if0 _ _).trans a.2.1, (if0 _ _).trans b.2.2.1, (if0 _ _).trans b.2.2.2⟩
theorem lc_f {x y : Int64} (h : ¬ x < y) : ifCond.holds .lt (lcmpW x y) = false ∧ ifCond.holds .ge (lcmpW x y) = true ∧ ifCond.holds .gt (lcmpW y x) = false ∧ ifCond.holds .le (lcmpW y x) = true :=
  have a := flt (fun q => h ((lw_lt x y).mp q))
  have b := flt (fun q => h ((lw_gt y x).mp q))
  ⟨(if0 _ _).trans a.1, (if0 _ _).trans a.2.1, (if0 _ _).trans b.2.2.1, (if0 _ _).trans b.2.2.2⟩
theorem le_t {x y : Int64} (h : x = y) : ifCond.holds .eq (lcmpW x y) = true ∧ ifCond.holds .ne (lcmpW x y) = false :=
  have a := teq ((lw_eq x y).mpr h)
  ⟨(if0 _ _).trans a.1, (if0 _ _).trans a.2⟩
theorem le_f {x y : Int64} (h : ¬ x = y) : ifCond.holds .eq (lcmpW x y) = false ∧ ifCond.holds .ne (lcmpW x y) = true :=
  have a := feq (fun q => h ((lw_eq x y).mp q))
  ⟨(if0 _ _).trans a.1, (if0 _ _).trans a.2⟩
end New
end Jvm.RoadKit
namespace Jvm.Pilot.@@N@@
open Jvm Jvm.ClassFile Sem Op Lib Jvm.Free Jvm.Stand Jvm.LawKit Jvm.RoadKit Bundle Jvm.Pilot.@@N@@.Jvm.D
theorem d5_0 : decode jdk_22_method_1_code 0 = .ok (.aload_n 0, 1) := by decide +kernel
theorem d5_1 : decode jdk_22_method_1_code 1 = .ok (.invokespecial 1, 3) := by decide +kernel
theorem d5_4 : decode jdk_22_method_1_code 4 = .ok (.return_, 1) := by decide +kernel
theorem pf_0 : plainFor (⟨"java/util/AbstractCollection", "<init>", "()V"⟩ : MethodName) = true := by decide +kernel
def Q5 (Z : State) (a1 : Addr) (h0 : Heap) (n0 : Nat) (v : Option Value) (h : Heap) (L : List Loc) : Prop := v = none ∧ Fr n0 L ∧ h = h0
theorem ef_5 (m : MethodId) (a1 : Addr) : entryFrame m #[(.ref a1)] 1 = mkF m 0 #[.val (.ref a1)] [] := by first | (simp [entryFrame, mkF, argsToLocals, Value.category]; done) | rfl
set_option maxRecDepth 65536 in
set_option maxHeartbeats 40000000 in
theorem rm5 (l : Launch) (Z : State) (a0 : Array Value) (hw : ∀ d ∈ tables_1, d.before a0 Z = true) (ws : List Jvm.Cond) (a1 : Addr) (h0 : Heap) (n0 : Nat) :
    MetFree l (⟨"java/util/AbstractCollection", "<init>", "()V"⟩ : MethodName) (head1 (Jvm.Cond.code (⟨"java/util/AbstractCollection", "<init>", "()V"⟩ : MethodName) jdk_22_method_1_code 1 none :: ws) ({ frames := 1, cells := 0, slots := 0, locals := 12 } : Room)) (fun a U => a = #[(.ref a1)] ∧ Z.Warmed39 U.vm ∧ U.heap = h0) (fun _ _ _ _ _ => True) (fun _ U o U' => ∃ v L, o = .returned v ∧ Q5 Z a1 h0 n0 v U'.heap L ∧ FrameEnd U o U' L ({ frames := 1, cells := 0, slots := 0, locals := 12 } : Room).cells ({ frames := 1, cells := 0, slots := 0, locals := 12 } : Room).slots) := by
  refine MetFree.of_bodySF pf_0 hisR ?_
  intro p e s m args below meth c s₁ Bd hml0 hP hK
  obtain ⟨rfl, hZ, hh⟩ := hP
  have hx := Bd.exec
  have hby := Bd.bytes
  have hlk : meth.locks = false := BodyLoose.notSynchronized Bd
  have hml : c.maxLocals = 1 := hml0
  have hown : s.vm.findClass "java/util/AbstractCollection" = some m.cls := findClass_of_methodNamed Bd.named
  have hnm := (name_of_methodNamed Bd.named Bd.method).1
  have X0 : Stand p l e ({ frames := 1, cells := 0, slots := 0, locals := 12 } : Room) s m #[(.ref a1)] below meth c s₁ [] 0 0 := Stand.of_body Bd
  have e0 : s₁.heap = h0 := by rw [← hh, Bd.state]; rfl
  have N0 := Fr.nil n0
  show Gl p e below s (Q5 Z a1 h0 n0) ({ frames := 1, cells := 0, slots := 0, locals := 12 } : Room).cells ({ frames := 1, cells := 0, slots := 0, locals := 12 } : Room).slots (s₁.setTop (entryFrame m #[(.ref a1)] 1))
  rw [ef_5]
  show Gl _ _ _ _ _ _ _ (s₁.setTop (mkF m 0 #[.val (.ref a1)] []))
  refine Gl.st (fun t k => XS.aloadN X0.here hx rfl (hb hby d5_0) rfl rfl k) ?_
  show Gl _ _ _ _ _ _ _ (s₁.setTop (mkF m 1 #[.val (.ref a1)] [(.ref a1)]))
  obtain ⟨T1, X1, e1, st1⟩ := initO X0 hx hZ hown (hw _ (List.mem_of_getElem? (i := 38) rfl)) (hw _ (List.mem_of_getElem? (i := 15) rfl)) (hw _ (List.mem_of_getElem? (i := 16) rfl)) e0 (g := (mkF m 1 #[.val (.ref a1)] [(.ref a1)])) rfl (by rw [hml]; rfl) rfl (hb hby d5_1) (by decide) (W := 0) (by show 2 * 0 + _ ≤ _; exact Nat.le_of_eq rfl) (by decide)
  refine Gl.st st1 ?_
  show Gl _ _ _ _ _ _ _ (T1.setTop (mkF m 4 #[.val (.ref a1)] []))
  exact Gl.retV X1 hx hlk Bd.returns (hb hby d5_4) (⟨rfl, N0, e1⟩) (by decide) (by decide)
theorem d7_0 : decode jdk_71_method_1_code 0 = .ok (.aload_n 0, 1) := by decide +kernel
theorem d7_1 : decode jdk_71_method_1_code 1 = .ok (.invokespecial 1, 3) := by decide +kernel
theorem d7_4 : decode jdk_71_method_1_code 4 = .ok (.return_, 1) := by decide +kernel
theorem pf_1 : plainFor (⟨"java/util/AbstractMap", "<init>", "()V"⟩ : MethodName) = true := by decide +kernel
def Q7 (Z : State) (a1 : Addr) (h0 : Heap) (n0 : Nat) (v : Option Value) (h : Heap) (L : List Loc) : Prop := v = none ∧ Fr n0 L ∧ h = h0
theorem ef_7 (m : MethodId) (a1 : Addr) : entryFrame m #[(.ref a1)] 1 = mkF m 0 #[.val (.ref a1)] [] := by first | (simp [entryFrame, mkF, argsToLocals, Value.category]; done) | rfl
set_option maxRecDepth 65536 in
set_option maxHeartbeats 40000000 in
theorem rm7 (l : Launch) (Z : State) (a0 : Array Value) (hw : ∀ d ∈ tables_1, d.before a0 Z = true) (ws : List Jvm.Cond) (a1 : Addr) (h0 : Heap) (n0 : Nat) :
    MetFree l (⟨"java/util/AbstractMap", "<init>", "()V"⟩ : MethodName) (head1 (Jvm.Cond.code (⟨"java/util/AbstractMap", "<init>", "()V"⟩ : MethodName) jdk_71_method_1_code 1 none :: ws) ({ frames := 1, cells := 0, slots := 0, locals := 12 } : Room)) (fun a U => a = #[(.ref a1)] ∧ Z.Warmed39 U.vm ∧ U.heap = h0) (fun _ _ _ _ _ => True) (fun _ U o U' => ∃ v L, o = .returned v ∧ Q7 Z a1 h0 n0 v U'.heap L ∧ FrameEnd U o U' L ({ frames := 1, cells := 0, slots := 0, locals := 12 } : Room).cells ({ frames := 1, cells := 0, slots := 0, locals := 12 } : Room).slots) := by
  refine MetFree.of_bodySF pf_1 hisR ?_
  intro p e s m args below meth c s₁ Bd hml0 hP hK
  obtain ⟨rfl, hZ, hh⟩ := hP
  have hx := Bd.exec
  have hby := Bd.bytes
  have hlk : meth.locks = false := BodyLoose.notSynchronized Bd
  have hml : c.maxLocals = 1 := hml0
  have hown : s.vm.findClass "java/util/AbstractMap" = some m.cls := findClass_of_methodNamed Bd.named
  have hnm := (name_of_methodNamed Bd.named Bd.method).1
  have X0 : Stand p l e ({ frames := 1, cells := 0, slots := 0, locals := 12 } : Room) s m #[(.ref a1)] below meth c s₁ [] 0 0 := Stand.of_body Bd
  have e0 : s₁.heap = h0 := by rw [← hh, Bd.state]; rfl
  have N0 := Fr.nil n0
  show Gl p e below s (Q7 Z a1 h0 n0) ({ frames := 1, cells := 0, slots := 0, locals := 12 } : Room).cells ({ frames := 1, cells := 0, slots := 0, locals := 12 } : Room).slots (s₁.setTop (entryFrame m #[(.ref a1)] 1))
  rw [ef_7]
  show Gl _ _ _ _ _ _ _ (s₁.setTop (mkF m 0 #[.val (.ref a1)] []))
  refine Gl.st (fun t k => XS.aloadN X0.here hx rfl (hb hby d7_0) rfl rfl k) ?_
  show Gl _ _ _ _ _ _ _ (s₁.setTop (mkF m 1 #[.val (.ref a1)] [(.ref a1)]))
  obtain ⟨T1, X1, e1, st1⟩ := initO X0 hx hZ hown (hw _ (List.mem_of_getElem? (i := 59) rfl)) (hw _ (List.mem_of_getElem? (i := 15) rfl)) (hw _ (List.mem_of_getElem? (i := 16) rfl)) e0 (g := (mkF m 1 #[.val (.ref a1)] [(.ref a1)])) rfl (by rw [hml]; rfl) rfl (hb hby d7_1) (by decide) (W := 0) (by show 2 * 0 + _ ≤ _; exact Nat.le_of_eq rfl) (by decide)
  refine Gl.st st1 ?_
  show Gl _ _ _ _ _ _ _ (T1.setTop (mkF m 4 #[.val (.ref a1)] []))
  exact Gl.retV X1 hx hlk Bd.returns (hb hby d7_4) (⟨rfl, N0, e1⟩) (by decide) (by decide)
theorem pd_0 : parseMethodDescriptor "()V" = some ⟨[], none⟩ := by decide +kernel
theorem d4_0 : decode jdk_21_method_3_code 0 = .ok (.aload_n 0, 1) := by decide +kernel
theorem d4_1 : decode jdk_21_method_3_code 1 = .ok (.invokespecial 42, 3) := by decide +kernel
theorem d4_4 : decode jdk_21_method_3_code 4 = .ok (.aload_n 0, 1) := by decide +kernel
theorem d4_5 : decode jdk_21_method_3_code 5 = .ok (.bipush 17, 2) := by decide +kernel
theorem d4_7 : decode jdk_21_method_3_code 7 = .ok (.anewarray 47, 3) := by decide +kernel
theorem d4_10 : decode jdk_21_method_3_code 10 = .ok (.putfield 3, 3) := by decide +kernel
theorem d4_13 : decode jdk_21_method_3_code 13 = .ok (.return_, 1) := by decide +kernel
theorem pf_2 : plainFor (⟨"java/util/ArrayDeque", "<init>", "()V"⟩ : MethodName) = true := by decide +kernel
def Q4 (Z : State) (a1 : Addr) (u_elements : Value) (h0 : Heap) (n0 : Nat) (v : Option Value) (h : Heap) (L : List Loc) : Prop := v = none ∧ Fr n0 L ∧ Keep h0 h [a1] ∧ Exa Z h a1 "java/util/ArrayDeque"
theorem ef_4 (m : MethodId) (a1 : Addr) : entryFrame m #[(.ref a1)] 1 = mkF m 0 #[.val (.ref a1)] [] := by first | (simp [entryFrame, mkF, argsToLocals, Value.category]; done) | rfl
set_option maxRecDepth 65536 in
set_option maxHeartbeats 40000000 in
theorem rm4 (l : Launch) (Z : State) (a0 : Array Value) (hw : ∀ d ∈ tables_1, d.before a0 Z = true) (ws : List Jvm.Cond) (a1 : Addr) (u_elements : Value) (h0 : Heap) (n0 : Nat) (Z0 : n0 ≤ h0.size) (E_a1 : Exa Z h0 a1 "java/util/ArrayDeque") (F_elements : Fld Z h0 a1 "java/util/ArrayDeque" "elements" "[Ljava/lang/Object;" u_elements) (g_a1 : n0 ≤ a1) :
    MetFree l (⟨"java/util/ArrayDeque", "<init>", "()V"⟩ : MethodName) (head1 (Jvm.Cond.code (⟨"java/util/ArrayDeque", "<init>", "()V"⟩ : MethodName) jdk_21_method_3_code 1 none :: ws) ({ frames := 2, cells := 1, slots := 17, locals := 24 } : Room)) (fun a U => a = #[(.ref a1)] ∧ Z.Warmed39 U.vm ∧ U.heap = h0) (fun _ _ _ _ _ => True) (fun _ U o U' => ∃ v L, o = .returned v ∧ Q4 Z a1 u_elements h0 n0 v U'.heap L ∧ FrameEnd U o U' L ({ frames := 2, cells := 1, slots := 17, locals := 24 } : Room).cells ({ frames := 2, cells := 1, slots := 17, locals := 24 } : Room).slots) := by
  refine MetFree.of_bodySF pf_2 hisR ?_
  intro p e s m args below meth c s₁ Bd hml0 hP hK
  obtain ⟨rfl, hZ, hh⟩ := hP
  have hx := Bd.exec
  have hby := Bd.bytes
  have hlk : meth.locks = false := BodyLoose.notSynchronized Bd
  have hml : c.maxLocals = 1 := hml0
  have hown : s.vm.findClass "java/util/ArrayDeque" = some m.cls := findClass_of_methodNamed Bd.named
  have hnm := (name_of_methodNamed Bd.named Bd.method).1
  have X0 : Stand p l e ({ frames := 2, cells := 1, slots := 17, locals := 24 } : Room) s m #[(.ref a1)] below meth c s₁ [] 0 0 := Stand.of_body Bd
  have e0 : s₁.heap = h0 := by rw [← hh, Bd.state]; rfl
  have N0 := Fr.nil n0
  have K0 : Keep h0 h0 [a1] := Keep.refl h0 _
  show Gl p e below s (Q4 Z a1 u_elements h0 n0) ({ frames := 2, cells := 1, slots := 17, locals := 24 } : Room).cells ({ frames := 2, cells := 1, slots := 17, locals := 24 } : Room).slots (s₁.setTop (entryFrame m #[(.ref a1)] 1))
  rw [ef_4]
  show Gl _ _ _ _ _ _ _ (s₁.setTop (mkF m 0 #[.val (.ref a1)] []))
  refine Gl.st (fun t k => XS.aloadN X0.here hx rfl (hb hby d4_0) rfl rfl k) ?_
  show Gl _ _ _ _ _ _ _ (s₁.setTop (mkF m 1 #[.val (.ref a1)] [(.ref a1)]))
  obtain ⟨_, _, ⟨T1, L1, k1, n1⟩, -, X1, ⟨Lc1, hQ1, l1, y1, z1⟩, st1⟩ := X0.specialBack hx (y := (⟨"java/util/AbstractCollection", "<init>", "()V"⟩ : MethodName)) rfl hown (mvT hZ (hw _ (List.mem_of_getElem? (i := 32) rfl))) (mvT hZ (hw _ (List.mem_of_getElem? (i := 33) rfl))) (mvT hZ (hw _ (List.mem_of_getElem? (i := 37) rfl))) (by decide) (backOf (W := 0) (rm5 l Z a0 hw [] a1 h0 n0  ) hZ (hw _ (List.mem_of_getElem? (i := 37) rfl)) (hw _ (List.mem_of_getElem? (i := 36) rfl)) (by decide) (by decide)) (g := (mkF m 1 #[.val (.ref a1)] [(.ref a1)])) rfl (by rw [hml]; rfl) (Steps.refl _) (a := a1) (argsL := []) (rest := []) (lenOf pd_0 rfl) rfl (by show 2 * 0 + _ ≤ _; exact Nat.le_of_eq rfl) (hb hby d4_1) (fun _ _ => ⟨rfl, e0, (by decide : 0 + 0 ≤ _), (by decide : 0 + 0 ≤ _)⟩)
  dsimp only [Pt.U, Pt.locs, Pt.cells, Pt.slots] at X1 l1 y1 z1 st1 hQ1
  rw [y1, z1] at X1
  obtain ⟨rfl, N1q, e1⟩ := hQ1
  have N1 : Fr n0 L1 := by rw [l1]; exact Fr.app N0 N1q
  refine Gl.to st1 ?_
  show Gl _ _ _ _ _ _ _ (T1.setTop (mkF m 4 #[.val (.ref a1)] []))
  refine Gl.st (fun t k => XS.aloadN X1.here hx rfl (hb hby d4_4) rfl rfl k) ?_
  show Gl _ _ _ _ _ _ _ (T1.setTop (mkF m 5 #[.val (.ref a1)] [(.ref a1)]))
  refine Gl.st (fun t k => XS.bipush X1.here hx rfl (hb hby d4_5) k) ?_
  show Gl _ _ _ _ _ _ _ (T1.setTop (mkF m 7 #[.val (.ref a1)] [(.int (17 : Int32)), (.ref a1)]))
  obtain ⟨T2, h2, k2, X2, e2, E2, A2, O2, st2⟩ := newR X1 hx hZ hown (hw _ (List.mem_of_getElem? (i := 39) rfl)) (hw _ (List.mem_of_getElem? (i := 40) rfl)) e1 (g := (mkF m 7 #[.val (.ref a1)] [(.int (17 : Int32)), (.ref a1)])) rfl (hb hby d4_7) rfl (by decide) (cap := 17) (by decide) (by decide) (by decide) (by decide)
  obtain ⟨b2, g2⟩ : ∃ z, z = h0.size := ⟨_, rfl⟩
  rw [← g2] at A2 st2
  refine Gl.st st2 ?_
  have ne_a1_b2 : a1 ≠ b2 := Nat.ne_of_lt (Nat.lt_of_lt_of_le E_a1.lt (Nat.le_of_eq g2.symm))
  have gzb2 : n0 ≤ b2 := Nat.le_trans Z0 (Nat.le_of_eq g2.symm)
  have szb2 : h0.size ≤ b2 := Nat.le_trans K0.1 (Nat.le_of_eq g2.symm)
  have Z2 : n0 ≤ h2.size := Nat.le_trans Z0 E2.1
  have E_a1'3 : Exa Z h2 a1 "java/util/ArrayDeque" := E_a1.ext E2
  have F_elements'4 : Fld Z h2 a1 "java/util/ArrayDeque" "elements" "[Ljava/lang/Object;" u_elements := F_elements.ext E2
  have K2 : Keep h0 h2 [a1] := K0.ext E2
  show Gl _ _ _ _ _ _ _ (T2.setTop (mkF m 10 #[.val (.ref a1)] [(.ref b2), (.ref a1)]))
  obtain ⟨T5, h5, X5, e5, W5, st5⟩ := putF X2 hx hZ hown (host := "") (Or.inl (hw _ (List.mem_of_getElem? (i := 41) rfl))) Via.refl e2 F_elements'4 E_a1'3 (Or.inl (hw _ (List.mem_of_getElem? (i := 42) rfl))) (hw _ (List.mem_of_getElem? (i := 27) rfl)) (ty := (.array (.object "java/lang/Object"))) (by decide) rfl rfl (g := (mkF m 10 #[.val (.ref a1)] [(.ref b2), (.ref a1)])) rfl rfl (hb hby d4_10)
  refine Gl.st st5 ?_
  have Z5 : n0 ≤ h5.size := Nat.le_trans Z2 (Keep.of_wr W5).1
  have N5 := Fr.snoc X5 N1 g_a1
  have K5 : Keep h0 h5 [a1] := K2.wr W5 (Or.inl (List.mem_of_getElem? (i := 0) rfl))
  have E_a1'6 : Exa Z h5 a1 "java/util/ArrayDeque" := E_a1'3.wr W5
  have Fw5 : Fld Z h5 a1 "java/util/ArrayDeque" "elements" "[Ljava/lang/Object;" (.ref b2) := F_elements'4.same W5
  show Gl _ _ _ _ _ _ _ (T5.setTop (mkF m 13 #[.val (.ref a1)] []))
  exact Gl.retV X5 hx hlk Bd.returns (hb hby d4_13) (by
        rw [e5]
        exact ⟨rfl, N5, K5, E_a1'6⟩) (by decide) (by decide)
theorem d6_0 : decode jdk_2729_method_1_code 0 = .ok (.aload_n 0, 1) := by decide +kernel
theorem d6_1 : decode jdk_2729_method_1_code 1 = .ok (.invokespecial 1, 3) := by decide +kernel
theorem d6_4 : decode jdk_2729_method_1_code 4 = .ok (.aload_n 0, 1) := by decide +kernel
theorem d6_5 : decode jdk_2729_method_1_code 5 = .ok (.iconst 0, 1) := by decide +kernel
theorem d6_6 : decode jdk_2729_method_1_code 6 = .ok (.putfield 7, 3) := by decide +kernel
theorem d6_9 : decode jdk_2729_method_1_code 9 = .ok (.aload_n 0, 1) := by decide +kernel
theorem d6_10 : decode jdk_2729_method_1_code 10 = .ok (.iconst 0, 1) := by decide +kernel
theorem d6_11 : decode jdk_2729_method_1_code 11 = .ok (.putfield 13, 3) := by decide +kernel
theorem d6_14 : decode jdk_2729_method_1_code 14 = .ok (.aload_n 0, 1) := by decide +kernel
theorem d6_15 : decode jdk_2729_method_1_code 15 = .ok (.aconst_null, 1) := by decide +kernel
theorem d6_16 : decode jdk_2729_method_1_code 16 = .ok (.putfield 16, 3) := by decide +kernel
theorem d6_19 : decode jdk_2729_method_1_code 19 = .ok (.return_, 1) := by decide +kernel
theorem pf_3 : plainFor (⟨"java/util/TreeMap", "<init>", "()V"⟩ : MethodName) = true := by decide +kernel
def Q6 (Z : State) (a1 : Addr) (u_size : Value) (u_modCount : Value) (u_comparator : Value) (h0 : Heap) (n0 : Nat) (v : Option Value) (h : Heap) (L : List Loc) : Prop := v = none ∧ Fr n0 L ∧ Keep h0 h [a1] ∧ Exa Z h a1 "java/util/TreeMap"
theorem ef_6 (m : MethodId) (a1 : Addr) : entryFrame m #[(.ref a1)] 1 = mkF m 0 #[.val (.ref a1)] [] := by first | (simp [entryFrame, mkF, argsToLocals, Value.category]; done) | rfl
set_option maxRecDepth 65536 in
set_option maxHeartbeats 40000000 in
theorem rm6 (l : Launch) (Z : State) (a0 : Array Value) (hw : ∀ d ∈ tables_1, d.before a0 Z = true) (ws : List Jvm.Cond) (a1 : Addr) (u_size : Value) (u_modCount : Value) (u_comparator : Value) (h0 : Heap) (n0 : Nat) (Z0 : n0 ≤ h0.size) (E_a1 : Exa Z h0 a1 "java/util/TreeMap") (F_size : Fld Z h0 a1 "java/util/TreeMap" "size" "I" u_size) (F_modCount : Fld Z h0 a1 "java/util/TreeMap" "modCount" "I" u_modCount) (F_comparator : Fld Z h0 a1 "java/util/TreeMap" "comparator" "Ljava/util/Comparator;" u_comparator) (g_a1 : n0 ≤ a1) :
    MetFree l (⟨"java/util/TreeMap", "<init>", "()V"⟩ : MethodName) (head1 (Jvm.Cond.code (⟨"java/util/TreeMap", "<init>", "()V"⟩ : MethodName) jdk_2729_method_1_code 1 none :: ws) ({ frames := 2, cells := 0, slots := 0, locals := 24 } : Room)) (fun a U => a = #[(.ref a1)] ∧ Z.Warmed39 U.vm ∧ U.heap = h0) (fun _ _ _ _ _ => True) (fun _ U o U' => ∃ v L, o = .returned v ∧ Q6 Z a1 u_size u_modCount u_comparator h0 n0 v U'.heap L ∧ FrameEnd U o U' L ({ frames := 2, cells := 0, slots := 0, locals := 24 } : Room).cells ({ frames := 2, cells := 0, slots := 0, locals := 24 } : Room).slots) := by
  refine MetFree.of_bodySF pf_3 hisR ?_
  intro p e s m args below meth c s₁ Bd hml0 hP hK
  obtain ⟨rfl, hZ, hh⟩ := hP
  have hx := Bd.exec
  have hby := Bd.bytes
  have hlk : meth.locks = false := BodyLoose.notSynchronized Bd
  have hml : c.maxLocals = 1 := hml0
  have hown : s.vm.findClass "java/util/TreeMap" = some m.cls := findClass_of_methodNamed Bd.named
  have hnm := (name_of_methodNamed Bd.named Bd.method).1
  have X0 : Stand p l e ({ frames := 2, cells := 0, slots := 0, locals := 24 } : Room) s m #[(.ref a1)] below meth c s₁ [] 0 0 := Stand.of_body Bd
  have e0 : s₁.heap = h0 := by rw [← hh, Bd.state]; rfl
  have N0 := Fr.nil n0
  have K0 : Keep h0 h0 [a1] := Keep.refl h0 _
  show Gl p e below s (Q6 Z a1 u_size u_modCount u_comparator h0 n0) ({ frames := 2, cells := 0, slots := 0, locals := 24 } : Room).cells ({ frames := 2, cells := 0, slots := 0, locals := 24 } : Room).slots (s₁.setTop (entryFrame m #[(.ref a1)] 1))
  rw [ef_6]
  show Gl _ _ _ _ _ _ _ (s₁.setTop (mkF m 0 #[.val (.ref a1)] []))
  refine Gl.st (fun t k => XS.aloadN X0.here hx rfl (hb hby d6_0) rfl rfl k) ?_
  show Gl _ _ _ _ _ _ _ (s₁.setTop (mkF m 1 #[.val (.ref a1)] [(.ref a1)]))
  obtain ⟨_, _, ⟨T1, L1, k1, n1⟩, -, X1, ⟨Lc1, hQ1, l1, y1, z1⟩, st1⟩ := X0.specialBack hx (y := (⟨"java/util/AbstractMap", "<init>", "()V"⟩ : MethodName)) rfl hown (mvT hZ (hw _ (List.mem_of_getElem? (i := 53) rfl))) (mvT hZ (hw _ (List.mem_of_getElem? (i := 54) rfl))) (mvT hZ (hw _ (List.mem_of_getElem? (i := 58) rfl))) (by decide) (backOf (W := 0) (rm7 l Z a0 hw [] a1 h0 n0  ) hZ (hw _ (List.mem_of_getElem? (i := 58) rfl)) (hw _ (List.mem_of_getElem? (i := 57) rfl)) (by decide) (by decide)) (g := (mkF m 1 #[.val (.ref a1)] [(.ref a1)])) rfl (by rw [hml]; rfl) (Steps.refl _) (a := a1) (argsL := []) (rest := []) (lenOf pd_0 rfl) rfl (by show 2 * 0 + _ ≤ _; exact Nat.le_of_eq rfl) (hb hby d6_1) (fun _ _ => ⟨rfl, e0, (by decide : 0 + 0 ≤ _), (by decide : 0 + 0 ≤ _)⟩)
  dsimp only [Pt.U, Pt.locs, Pt.cells, Pt.slots] at X1 l1 y1 z1 st1 hQ1
  rw [y1, z1] at X1
  obtain ⟨rfl, N1q, e1⟩ := hQ1
  have N1 : Fr n0 L1 := by rw [l1]; exact Fr.app N0 N1q
  refine Gl.to st1 ?_
  show Gl _ _ _ _ _ _ _ (T1.setTop (mkF m 4 #[.val (.ref a1)] []))
  refine Gl.st (fun t k => XS.aloadN X1.here hx rfl (hb hby d6_4) rfl rfl k) ?_
  show Gl _ _ _ _ _ _ _ (T1.setTop (mkF m 5 #[.val (.ref a1)] [(.ref a1)]))
  refine Gl.st (fun t k => XS.iconst X1.here hx rfl (hb hby d6_5) k) ?_
  show Gl _ _ _ _ _ _ _ (T1.setTop (mkF m 6 #[.val (.ref a1)] [(.int (0 : Int32)), (.ref a1)]))
  obtain ⟨T2, h2, X2, e2, W2, st2⟩ := putF X1 hx hZ hown (host := "") (Or.inl (hw _ (List.mem_of_getElem? (i := 60) rfl))) Via.refl e1 F_size E_a1 (Or.inl (hw _ (List.mem_of_getElem? (i := 61) rfl))) (hw _ (List.mem_of_getElem? (i := 48) rfl)) (ty := .int) (by decide) rfl rfl (g := (mkF m 6 #[.val (.ref a1)] [(.int (0 : Int32)), (.ref a1)])) rfl rfl (hb hby d6_6)
  refine Gl.st st2 ?_
  have Z2 : n0 ≤ h2.size := Nat.le_trans Z0 (Keep.of_wr W2).1
  have N2 := Fr.snoc X2 N1 g_a1
  have K2 : Keep h0 h2 [a1] := K0.wr W2 (Or.inl (List.mem_of_getElem? (i := 0) rfl))
  have E_a1'3 : Exa Z h2 a1 "java/util/TreeMap" := E_a1.wr W2
  have F_modCount'4 : Fld Z h2 a1 "java/util/TreeMap" "modCount" "I" u_modCount := F_modCount.other W2 (Or.inr (slot_ne (Or.inl (hw _ (List.mem_of_getElem? (i := 63) rfl))) (Or.inl (hw _ (List.mem_of_getElem? (i := 61) rfl))) (by decide) (t := .int) (t' := .int) (by decide) (by decide)))
  have F_comparator'5 : Fld Z h2 a1 "java/util/TreeMap" "comparator" "Ljava/util/Comparator;" u_comparator := F_comparator.other W2 (Or.inr (slot_ne (Or.inr (hw _ (List.mem_of_getElem? (i := 65) rfl))) (Or.inl (hw _ (List.mem_of_getElem? (i := 61) rfl))) (by decide) (t := (.object "java/util/Comparator")) (t' := .int) (by decide) (by decide)))
  have Fw2 : Fld Z h2 a1 "java/util/TreeMap" "size" "I" (.int (0 : Int32)) := F_size.same W2
  show Gl _ _ _ _ _ _ _ (T2.setTop (mkF m 9 #[.val (.ref a1)] []))
  refine Gl.st (fun t k => XS.aloadN X2.here hx rfl (hb hby d6_9) rfl rfl k) ?_
  show Gl _ _ _ _ _ _ _ (T2.setTop (mkF m 10 #[.val (.ref a1)] [(.ref a1)]))
  refine Gl.st (fun t k => XS.iconst X2.here hx rfl (hb hby d6_10) k) ?_
  show Gl _ _ _ _ _ _ _ (T2.setTop (mkF m 11 #[.val (.ref a1)] [(.int (0 : Int32)), (.ref a1)]))
  obtain ⟨T6, h6, X6, e6, W6, st6⟩ := putF X2 hx hZ hown (host := "") (Or.inl (hw _ (List.mem_of_getElem? (i := 62) rfl))) Via.refl e2 F_modCount'4 E_a1'3 (Or.inl (hw _ (List.mem_of_getElem? (i := 63) rfl))) (hw _ (List.mem_of_getElem? (i := 48) rfl)) (ty := .int) (by decide) rfl rfl (g := (mkF m 11 #[.val (.ref a1)] [(.int (0 : Int32)), (.ref a1)])) rfl rfl (hb hby d6_11)
  refine Gl.st st6 ?_
  have Z6 : n0 ≤ h6.size := Nat.le_trans Z2 (Keep.of_wr W6).1
  have N6 := Fr.snoc X6 N2 g_a1
  have K6 : Keep h0 h6 [a1] := K2.wr W6 (Or.inl (List.mem_of_getElem? (i := 0) rfl))
  have E_a1'7 : Exa Z h6 a1 "java/util/TreeMap" := E_a1'3.wr W6
  have Fw2'8 : Fld Z h6 a1 "java/util/TreeMap" "size" "I" (.int (0 : Int32)) := Fw2.other W6 (Or.inr (slot_ne (Or.inl (hw _ (List.mem_of_getElem? (i := 61) rfl))) (Or.inl (hw _ (List.mem_of_getElem? (i := 63) rfl))) (by decide) (t := .int) (t' := .int) (by decide) (by decide)))
  have F_comparator'9 : Fld Z h6 a1 "java/util/TreeMap" "comparator" "Ljava/util/Comparator;" u_comparator := F_comparator'5.other W6 (Or.inr (slot_ne (Or.inr (hw _ (List.mem_of_getElem? (i := 65) rfl))) (Or.inl (hw _ (List.mem_of_getElem? (i := 63) rfl))) (by decide) (t := (.object "java/util/Comparator")) (t' := .int) (by decide) (by decide)))
  have Fw6 : Fld Z h6 a1 "java/util/TreeMap" "modCount" "I" (.int (0 : Int32)) := F_modCount'4.same W6
  show Gl _ _ _ _ _ _ _ (T6.setTop (mkF m 14 #[.val (.ref a1)] []))
  refine Gl.st (fun t k => XS.aloadN X6.here hx rfl (hb hby d6_14) rfl rfl k) ?_
  show Gl _ _ _ _ _ _ _ (T6.setTop (mkF m 15 #[.val (.ref a1)] [(.ref a1)]))
  refine Gl.st (fun t k => XS.aconstNull X6.here hx rfl (hb hby d6_15) k) ?_
  show Gl _ _ _ _ _ _ _ (T6.setTop (mkF m 16 #[.val (.ref a1)] [.null, (.ref a1)]))
  obtain ⟨T10, h10, X10, e10, W10, st10⟩ := putF X6 hx hZ hown (host := "") (Or.inl (hw _ (List.mem_of_getElem? (i := 64) rfl))) Via.refl e6 F_comparator'9 E_a1'7 (Or.inr ⟨(hw _ (List.mem_of_getElem? (i := 65) rfl)), rfl, hnm⟩) (hw _ (List.mem_of_getElem? (i := 48) rfl)) (ty := (.object "java/util/Comparator")) (by decide) rfl rfl (g := (mkF m 16 #[.val (.ref a1)] [.null, (.ref a1)])) rfl rfl (hb hby d6_16)
  refine Gl.st st10 ?_
  have Z10 : n0 ≤ h10.size := Nat.le_trans Z6 (Keep.of_wr W10).1
  have N10 := Fr.snoc X10 N6 g_a1
  have K10 : Keep h0 h10 [a1] := K6.wr W10 (Or.inl (List.mem_of_getElem? (i := 0) rfl))
  have E_a1'11 : Exa Z h10 a1 "java/util/TreeMap" := E_a1'7.wr W10
  have Fw2'12 : Fld Z h10 a1 "java/util/TreeMap" "size" "I" (.int (0 : Int32)) := Fw2'8.other W10 (Or.inr (slot_ne (Or.inl (hw _ (List.mem_of_getElem? (i := 61) rfl))) (Or.inr (hw _ (List.mem_of_getElem? (i := 65) rfl))) (by decide) (t := .int) (t' := (.object "java/util/Comparator")) (by decide) (by decide)))
  have Fw6'13 : Fld Z h10 a1 "java/util/TreeMap" "modCount" "I" (.int (0 : Int32)) := Fw6.other W10 (Or.inr (slot_ne (Or.inl (hw _ (List.mem_of_getElem? (i := 63) rfl))) (Or.inr (hw _ (List.mem_of_getElem? (i := 65) rfl))) (by decide) (t := .int) (t' := (.object "java/util/Comparator")) (by decide) (by decide)))
  have Fw10 : Fld Z h10 a1 "java/util/TreeMap" "comparator" "Ljava/util/Comparator;" .null := F_comparator'9.same W10
  show Gl _ _ _ _ _ _ _ (T10.setTop (mkF m 19 #[.val (.ref a1)] []))
  exact Gl.retV X10 hx hlk Bd.returns (hb hby d6_19) (by
        rw [e10]
        exact ⟨rfl, N10, K10, E_a1'11⟩) (by decide) (by decide)
theorem d3_0 : decode prog_10_method_1_code 0 = .ok (.aload_n 0, 1) := by decide +kernel
theorem d3_1 : decode prog_10_method_1_code 1 = .ok (.aload_n 1, 1) := by decide +kernel
theorem d3_2 : decode prog_10_method_1_code 2 = .ok (.putfield 3, 3) := by decide +kernel
theorem d3_5 : decode prog_10_method_1_code 5 = .ok (.aload_n 0, 1) := by decide +kernel
theorem d3_6 : decode prog_10_method_1_code 6 = .ok (.invokespecial 9, 3) := by decide +kernel
theorem d3_9 : decode prog_10_method_1_code 9 = .ok (.aload_n 0, 1) := by decide +kernel
theorem d3_10 : decode prog_10_method_1_code 10 = .ok (.new 15, 3) := by decide +kernel
theorem d3_13 : decode prog_10_method_1_code 13 = .ok (.dup, 1) := by decide +kernel
theorem d3_14 : decode prog_10_method_1_code 14 = .ok (.invokespecial 17, 3) := by decide +kernel
theorem d3_17 : decode prog_10_method_1_code 17 = .ok (.putfield 18, 3) := by decide +kernel
theorem d3_20 : decode prog_10_method_1_code 20 = .ok (.return_, 1) := by decide +kernel
theorem pf_4 : plainFor (⟨"com/example/meisai/meisai/DiameterStream$Unread", "<init>", "(Lcom/example/meisai/meisai/DiameterStream;)V"⟩ : MethodName) = true := by decide +kernel
def Q3 (Z : State) (a1 : Addr) (a2 : Addr) (u_this_0 : Value) (u_pieces : Value) (h0 : Heap) (n0 : Nat) (v : Option Value) (h : Heap) (L : List Loc) : Prop := v = none ∧ Fr n0 L ∧ Keep h0 h [a1] ∧ Exa Z h a1 "com/example/meisai/meisai/DiameterStream$Unread"
theorem ef_3 (m : MethodId) (a1 : Addr) (a2 : Addr) : entryFrame m #[(.ref a1), (.ref a2)] 2 = mkF m 0 #[.val (.ref a1), .val (.ref a2)] [] := by first | (simp [entryFrame, mkF, argsToLocals, Value.category]; done) | rfl
set_option maxRecDepth 65536 in
set_option maxHeartbeats 40000000 in
theorem rm3 (l : Launch) (Z : State) (a0 : Array Value) (hw : ∀ d ∈ tables_1, d.before a0 Z = true) (ws : List Jvm.Cond) (a1 : Addr) (a2 : Addr) (u_this_0 : Value) (u_pieces : Value) (h0 : Heap) (n0 : Nat) (Z0 : n0 ≤ h0.size) (E_a1 : Exa Z h0 a1 "com/example/meisai/meisai/DiameterStream$Unread") (F_this_0 : Fld Z h0 a1 "com/example/meisai/meisai/DiameterStream$Unread" "this$0" "Lcom/example/meisai/meisai/DiameterStream;" u_this_0) (F_pieces : Fld Z h0 a1 "com/example/meisai/meisai/DiameterStream$Unread" "pieces" "Ljava/util/ArrayDeque;" u_pieces) (g_a1 : n0 ≤ a1) :
    MetFree l (⟨"com/example/meisai/meisai/DiameterStream$Unread", "<init>", "(Lcom/example/meisai/meisai/DiameterStream;)V"⟩ : MethodName) (head1 (Jvm.Cond.code (⟨"com/example/meisai/meisai/DiameterStream$Unread", "<init>", "(Lcom/example/meisai/meisai/DiameterStream;)V"⟩ : MethodName) prog_10_method_1_code 2 none :: ws) ({ frames := 3, cells := 2, slots := 20, locals := 38 } : Room)) (fun a U => a = #[(.ref a1), (.ref a2)] ∧ Z.Warmed39 U.vm ∧ U.heap = h0) (fun _ _ _ _ _ => True) (fun _ U o U' => ∃ v L, o = .returned v ∧ Q3 Z a1 a2 u_this_0 u_pieces h0 n0 v U'.heap L ∧ FrameEnd U o U' L ({ frames := 3, cells := 2, slots := 20, locals := 38 } : Room).cells ({ frames := 3, cells := 2, slots := 20, locals := 38 } : Room).slots) := by
  refine MetFree.of_bodySF pf_4 hisR ?_
  intro p e s m args below meth c s₁ Bd hml0 hP hK
  obtain ⟨rfl, hZ, hh⟩ := hP
  have hx := Bd.exec
  have hby := Bd.bytes
  have hlk : meth.locks = false := BodyLoose.notSynchronized Bd
  have hml : c.maxLocals = 2 := hml0
  have hown : s.vm.findClass "com/example/meisai/meisai/DiameterStream$Unread" = some m.cls := findClass_of_methodNamed Bd.named
  have hnm := (name_of_methodNamed Bd.named Bd.method).1
  have X0 : Stand p l e ({ frames := 3, cells := 2, slots := 20, locals := 38 } : Room) s m #[(.ref a1), (.ref a2)] below meth c s₁ [] 0 0 := Stand.of_body Bd
  have e0 : s₁.heap = h0 := by rw [← hh, Bd.state]; rfl
  have N0 := Fr.nil n0
  have K0 : Keep h0 h0 [a1] := Keep.refl h0 _
  show Gl p e below s (Q3 Z a1 a2 u_this_0 u_pieces h0 n0) ({ frames := 3, cells := 2, slots := 20, locals := 38 } : Room).cells ({ frames := 3, cells := 2, slots := 20, locals := 38 } : Room).slots (s₁.setTop (entryFrame m #[(.ref a1), (.ref a2)] 2))
  rw [ef_3]
  show Gl _ _ _ _ _ _ _ (s₁.setTop (mkF m 0 #[.val (.ref a1), .val (.ref a2)] []))
  refine Gl.st (fun t k => XS.aloadN X0.here hx rfl (hb hby d3_0) rfl rfl k) ?_
  show Gl _ _ _ _ _ _ _ (s₁.setTop (mkF m 1 #[.val (.ref a1), .val (.ref a2)] [(.ref a1)]))
  refine Gl.st (fun t k => XS.aloadN X0.here hx rfl (hb hby d3_1) rfl rfl k) ?_
  show Gl _ _ _ _ _ _ _ (s₁.setTop (mkF m 2 #[.val (.ref a1), .val (.ref a2)] [(.ref a2), (.ref a1)]))
  obtain ⟨T1, h1, X1, e1, W1, st1⟩ := putF X0 hx hZ hown (host := "") (Or.inl (hw _ (List.mem_of_getElem? (i := 23) rfl))) Via.refl e0 F_this_0 E_a1 (Or.inr ⟨(hw _ (List.mem_of_getElem? (i := 24) rfl)), rfl, hnm⟩) (hw _ (List.mem_of_getElem? (i := 18) rfl)) (ty := (.object "com/example/meisai/meisai/DiameterStream")) (by decide) rfl rfl (g := (mkF m 2 #[.val (.ref a1), .val (.ref a2)] [(.ref a2), (.ref a1)])) rfl rfl (hb hby d3_2)
  refine Gl.st st1 ?_
  have Z1 : n0 ≤ h1.size := Nat.le_trans Z0 (Keep.of_wr W1).1
  have N1 := Fr.snoc X1 N0 g_a1
  have K1 : Keep h0 h1 [a1] := K0.wr W1 (Or.inl (List.mem_of_getElem? (i := 0) rfl))
  have E_a1'2 : Exa Z h1 a1 "com/example/meisai/meisai/DiameterStream$Unread" := E_a1.wr W1
  have F_pieces'3 : Fld Z h1 a1 "com/example/meisai/meisai/DiameterStream$Unread" "pieces" "Ljava/util/ArrayDeque;" u_pieces := F_pieces.other W1 (Or.inr (slot_ne (Or.inr (hw _ (List.mem_of_getElem? (i := 44) rfl))) (Or.inr (hw _ (List.mem_of_getElem? (i := 24) rfl))) (by decide) (t := (.object "java/util/ArrayDeque")) (t' := (.object "com/example/meisai/meisai/DiameterStream")) (by decide) (by decide)))
  have Fw1 : Fld Z h1 a1 "com/example/meisai/meisai/DiameterStream$Unread" "this$0" "Lcom/example/meisai/meisai/DiameterStream;" (.ref a2) := F_this_0.same W1
  show Gl _ _ _ _ _ _ _ (T1.setTop (mkF m 5 #[.val (.ref a1), .val (.ref a2)] []))
  refine Gl.st (fun t k => XS.aloadN X1.here hx rfl (hb hby d3_5) rfl rfl k) ?_
  show Gl _ _ _ _ _ _ _ (T1.setTop (mkF m 6 #[.val (.ref a1), .val (.ref a2)] [(.ref a1)]))
  obtain ⟨T4, X4, e4, st4⟩ := initO X1 hx hZ hown (hw _ (List.mem_of_getElem? (i := 25) rfl)) (hw _ (List.mem_of_getElem? (i := 15) rfl)) (hw _ (List.mem_of_getElem? (i := 16) rfl)) e1 (g := (mkF m 6 #[.val (.ref a1), .val (.ref a2)] [(.ref a1)])) rfl (by rw [hml]; rfl) rfl (hb hby d3_6) (by decide) (W := 0) (by show 2 * 0 + _ ≤ _; exact Nat.le_of_eq rfl) (by decide)
  refine Gl.st st4 ?_
  show Gl _ _ _ _ _ _ _ (T4.setTop (mkF m 9 #[.val (.ref a1), .val (.ref a2)] []))
  refine Gl.st (fun t k => XS.aloadN X4.here hx rfl (hb hby d3_9) rfl rfl k) ?_
  show Gl _ _ _ _ _ _ _ (T4.setTop (mkF m 10 #[.val (.ref a1), .val (.ref a2)] [(.ref a1)]))
  obtain ⟨T5, h5, X5, e5, E5, A5, D5, -, st5⟩ := newO X4 hx hZ hown (hw _ (List.mem_of_getElem? (i := 26) rfl)) (hw _ (List.mem_of_getElem? (i := 27) rfl)) (hw _ (List.mem_of_getElem? (i := 28) rfl)) e4 (g := (mkF m 10 #[.val (.ref a1), .val (.ref a2)] [(.ref a1)])) rfl (hb hby d3_10) (by decide) (by decide)
  obtain ⟨b5, g5⟩ : ∃ z, z = h1.size := ⟨_, rfl⟩
  rw [← g5] at A5 D5 st5
  refine Gl.st st5 ?_
  have ne_a1_b5 : a1 ≠ b5 := Nat.ne_of_lt (Nat.lt_of_lt_of_le E_a1'2.lt (Nat.le_of_eq g5.symm))
  have gzb5 : n0 ≤ b5 := Nat.le_trans Z1 (Nat.le_of_eq g5.symm)
  have szb5 : h0.size ≤ b5 := Nat.le_trans K1.1 (Nat.le_of_eq g5.symm)
  have Z5 : n0 ≤ h5.size := Nat.le_trans Z1 E5.1
  have E_a1'6 : Exa Z h5 a1 "com/example/meisai/meisai/DiameterStream$Unread" := E_a1'2.ext E5
  have Fw1'7 : Fld Z h5 a1 "com/example/meisai/meisai/DiameterStream$Unread" "this$0" "Lcom/example/meisai/meisai/DiameterStream;" (.ref a2) := Fw1.ext E5
  have F_pieces'8 : Fld Z h5 a1 "com/example/meisai/meisai/DiameterStream$Unread" "pieces" "Ljava/util/ArrayDeque;" u_pieces := F_pieces'3.ext E5
  have K5 : Keep h0 h5 [a1] := K1.ext E5
  have F5_elements : Fld Z h5 b5 "java/util/ArrayDeque" "elements" "[Ljava/lang/Object;" .null := D5 (Or.inl (hw _ (List.mem_of_getElem? (i := 42) rfl))) (ty := (.array (.object "java/lang/Object"))) (by decide)
  show Gl _ _ _ _ _ _ _ (T5.setTop (mkF m 13 #[.val (.ref a1), .val (.ref a2)] [(.ref b5), (.ref a1)]))
  refine Gl.st (fun t k => XS.dup X5.here hx rfl (hb hby d3_13) rfl rfl k) ?_
  show Gl _ _ _ _ _ _ _ (T5.setTop (mkF m 14 #[.val (.ref a1), .val (.ref a2)] [(.ref b5), (.ref b5), (.ref a1)]))
  obtain ⟨_, _, ⟨T9, L9, k9, n9⟩, -, X9, ⟨Lc9, hQ9, l9, y9, z9⟩, st9⟩ := X5.specialBack hx (y := (⟨"java/util/ArrayDeque", "<init>", "()V"⟩ : MethodName)) rfl hown (mvT hZ (hw _ (List.mem_of_getElem? (i := 29) rfl))) (mvT hZ (hw _ (List.mem_of_getElem? (i := 30) rfl))) (mvT hZ (hw _ (List.mem_of_getElem? (i := 31) rfl))) (by decide) (backOf (W := 2) (rm4 l Z a0 hw [] b5 (.null) h5 n0 Z5 A5 F5_elements gzb5) hZ (hw _ (List.mem_of_getElem? (i := 31) rfl)) (hw _ (List.mem_of_getElem? (i := 28) rfl)) (by decide) (by decide)) (g := (mkF m 14 #[.val (.ref a1), .val (.ref a2)] [(.ref b5), (.ref b5), (.ref a1)])) rfl (by rw [hml]; rfl) (Steps.refl _) (a := b5) (argsL := []) (rest := [(.ref b5), (.ref a1)]) (lenOf pd_0 rfl) rfl (by show 2 * 0 + _ ≤ _; exact Nat.le_of_eq rfl) (hb hby d3_14) (fun _ _ => ⟨rfl, e5, (by decide : 1 + 1 ≤ _), (by decide : 3 + 17 ≤ _)⟩)
  dsimp only [Pt.U, Pt.locs, Pt.cells, Pt.slots] at X9 l9 y9 z9 st9 hQ9
  rw [y9, z9] at X9
  obtain ⟨rfl, N9q, Kq9, Fq9_0⟩ := hQ9
  have N9 : Fr n0 L9 := by rw [l9]; exact Fr.app N1 N9q
  have Z9 : n0 ≤ T9.heap.size := Nat.le_trans Z5 Kq9.1
  have E_a1'10 : Exa Z T9.heap a1 "com/example/meisai/meisai/DiameterStream$Unread" := E_a1'6.keep Kq9
  have Fw1'11 : Fld Z T9.heap a1 "com/example/meisai/meisai/DiameterStream$Unread" "this$0" "Lcom/example/meisai/meisai/DiameterStream;" (.ref a2) := Fw1'7.keep Kq9 (ninS ne_a1_b5 nin0)
  have F_pieces'12 : Fld Z T9.heap a1 "com/example/meisai/meisai/DiameterStream$Unread" "pieces" "Ljava/util/ArrayDeque;" u_pieces := F_pieces'8.keep Kq9 (ninS ne_a1_b5 nin0)
  have K9 : Keep h0 T9.heap [a1] := K5.trans Kq9 (allS (Or.inr szb5) all0)
  refine Gl.to st9 ?_
  show Gl _ _ _ _ _ _ _ (T9.setTop (mkF m 17 #[.val (.ref a1), .val (.ref a2)] [(.ref b5), (.ref a1)]))
  obtain ⟨T13, h13, X13, e13, W13, st13⟩ := putF X9 hx hZ hown (host := "") (Or.inl (hw _ (List.mem_of_getElem? (i := 43) rfl))) Via.refl rfl F_pieces'12 E_a1'10 (Or.inr ⟨(hw _ (List.mem_of_getElem? (i := 44) rfl)), rfl, hnm⟩) (hw _ (List.mem_of_getElem? (i := 18) rfl)) (ty := (.object "java/util/ArrayDeque")) (by decide) rfl rfl (g := (mkF m 17 #[.val (.ref a1), .val (.ref a2)] [(.ref b5), (.ref a1)])) rfl rfl (hb hby d3_17)
  refine Gl.st st13 ?_
  have Z13 : n0 ≤ h13.size := Nat.le_trans Z9 (Keep.of_wr W13).1
  have N13 := Fr.snoc X13 N9 g_a1
  have K13 : Keep h0 h13 [a1] := K9.wr W13 (Or.inl (List.mem_of_getElem? (i := 0) rfl))
  have E_a1'14 : Exa Z h13 a1 "com/example/meisai/meisai/DiameterStream$Unread" := E_a1'10.wr W13
  have Fw1'15 : Fld Z h13 a1 "com/example/meisai/meisai/DiameterStream$Unread" "this$0" "Lcom/example/meisai/meisai/DiameterStream;" (.ref a2) := Fw1'11.other W13 (Or.inr (slot_ne (Or.inr (hw _ (List.mem_of_getElem? (i := 24) rfl))) (Or.inr (hw _ (List.mem_of_getElem? (i := 44) rfl))) (by decide) (t := (.object "com/example/meisai/meisai/DiameterStream")) (t' := (.object "java/util/ArrayDeque")) (by decide) (by decide)))
  have Fq9_0'16 : Exa Z h13 b5 "java/util/ArrayDeque" := Fq9_0.wr W13
  have Fw13 : Fld Z h13 a1 "com/example/meisai/meisai/DiameterStream$Unread" "pieces" "Ljava/util/ArrayDeque;" (.ref b5) := F_pieces'12.same W13
  show Gl _ _ _ _ _ _ _ (T13.setTop (mkF m 20 #[.val (.ref a1), .val (.ref a2)] []))
  exact Gl.retV X13 hx hlk Bd.returns (hb hby d3_20) (by
        rw [e13]
        exact ⟨rfl, N13, K13, E_a1'14⟩) (by decide) (by decide)
theorem pd_1 : parseMethodDescriptor "(Lcom/example/meisai/meisai/DiameterStream;)V" = some ⟨[(.object "com/example/meisai/meisai/DiameterStream")], none⟩ := by decide +kernel
theorem d1_0 : decode prog_7_method_1_code 0 = .ok (.aload_n 0, 1) := by decide +kernel
theorem d1_1 : decode prog_7_method_1_code 1 = .ok (.invokespecial 1, 3) := by decide +kernel
theorem d1_4 : decode prog_7_method_1_code 4 = .ok (.aload_n 0, 1) := by decide +kernel
theorem d1_5 : decode prog_7_method_1_code 5 = .ok (.new 7, 3) := by decide +kernel
theorem d1_8 : decode prog_7_method_1_code 8 = .ok (.dup, 1) := by decide +kernel
theorem d1_9 : decode prog_7_method_1_code 9 = .ok (.aload_n 0, 1) := by decide +kernel
theorem d1_10 : decode prog_7_method_1_code 10 = .ok (.invokespecial 9, 3) := by decide +kernel
theorem d1_13 : decode prog_7_method_1_code 13 = .ok (.putfield 12, 3) := by decide +kernel
theorem d1_16 : decode prog_7_method_1_code 16 = .ok (.aload_n 0, 1) := by decide +kernel
theorem d1_17 : decode prog_7_method_1_code 17 = .ok (.new 18, 3) := by decide +kernel
theorem d1_20 : decode prog_7_method_1_code 20 = .ok (.dup, 1) := by decide +kernel
theorem d1_21 : decode prog_7_method_1_code 21 = .ok (.invokespecial 20, 3) := by decide +kernel
theorem d1_24 : decode prog_7_method_1_code 24 = .ok (.putfield 21, 3) := by decide +kernel
theorem d1_27 : decode prog_7_method_1_code 27 = .ok (.aload_n 0, 1) := by decide +kernel
theorem d1_28 : decode prog_7_method_1_code 28 = .ok (.new 18, 3) := by decide +kernel
theorem d1_31 : decode prog_7_method_1_code 31 = .ok (.dup, 1) := by decide +kernel
theorem d1_32 : decode prog_7_method_1_code 32 = .ok (.invokespecial 20, 3) := by decide +kernel
theorem d1_35 : decode prog_7_method_1_code 35 = .ok (.putfield 25, 3) := by decide +kernel
theorem d1_38 : decode prog_7_method_1_code 38 = .ok (.aload_n 0, 1) := by decide +kernel
theorem d1_39 : decode prog_7_method_1_code 39 = .ok (.aload_n 1, 1) := by decide +kernel
theorem d1_40 : decode prog_7_method_1_code 40 = .ok (.putfield 28, 3) := by decide +kernel
theorem d1_43 : decode prog_7_method_1_code 43 = .ok (.aload_n 0, 1) := by decide +kernel
theorem d1_44 : decode prog_7_method_1_code 44 = .ok (.lload_n 2, 1) := by decide +kernel
theorem d1_45 : decode prog_7_method_1_code 45 = .ok (.putfield 32, 3) := by decide +kernel
theorem d1_48 : decode prog_7_method_1_code 48 = .ok (.aload_n 0, 1) := by decide +kernel
theorem d1_49 : decode prog_7_method_1_code 49 = .ok (.iload 4, 2) := by decide +kernel
theorem d1_51 : decode prog_7_method_1_code 51 = .ok (.putfield 36, 3) := by decide +kernel
theorem d1_54 : decode prog_7_method_1_code 54 = .ok (.return_, 1) := by decide +kernel
theorem pf_5 : plainFor (⟨"com/example/meisai/meisai/DiameterStream", "<init>", "(Ljava/lang/String;JZ)V"⟩ : MethodName) = true := by decide +kernel
def Q1 (Z : State) (a1 : Addr) (a2 : Addr) (q3 : Int64) (p4 : Int32) (u_unread : Value) (u_waiting : Value) (u_preceding : Value) (u_path : Value) (u_firstSequence : Value) (u_afterSyn : Value) (u_start : Value) (h0 : Heap) (n0 : Nat) (v : Option Value) (h : Heap) (L : List Loc) : Prop := v = none ∧ Fr n0 L ∧ Keep h0 h [a1] ∧ Exa Z h a1 "com/example/meisai/meisai/DiameterStream" ∧ Fld Z h a1 "com/example/meisai/meisai/DiameterStream" "firstSequence" "J" (.long q3) ∧ Fld Z h a1 "com/example/meisai/meisai/DiameterStream" "start" "J" u_start
theorem ef_1 (m : MethodId) (a1 : Addr) (a2 : Addr) (q3 : Int64) (p4 : Int32) : entryFrame m #[(.ref a1), (.ref a2), (.long q3), (.int p4)] 5 = mkF m 0 #[.val (.ref a1), .val (.ref a2), .val (.long q3), .second, .val (.int p4)] [] := by first | (simp [entryFrame, mkF, argsToLocals, Value.category]; done) | rfl
set_option maxRecDepth 65536 in
set_option maxHeartbeats 40000000 in
theorem rm1 (l : Launch) (Z : State) (a0 : Array Value) (hw : ∀ d ∈ tables_1, d.before a0 Z = true) (ws : List Jvm.Cond) (a1 : Addr) (a2 : Addr) (q3 : Int64) (p4 : Int32) (u_unread : Value) (u_waiting : Value) (u_preceding : Value) (u_path : Value) (u_firstSequence : Value) (u_afterSyn : Value) (u_start : Value) (h0 : Heap) (n0 : Nat) (Z0 : n0 ≤ h0.size) (E_a1 : Exa Z h0 a1 "com/example/meisai/meisai/DiameterStream") (F_unread : Fld Z h0 a1 "com/example/meisai/meisai/DiameterStream" "unread" "Lcom/example/meisai/meisai/DiameterStream$Unread;" u_unread) (F_waiting : Fld Z h0 a1 "com/example/meisai/meisai/DiameterStream" "waiting" "Ljava/util/TreeMap;" u_waiting) (F_preceding : Fld Z h0 a1 "com/example/meisai/meisai/DiameterStream" "preceding" "Ljava/util/TreeMap;" u_preceding) (F_path : Fld Z h0 a1 "com/example/meisai/meisai/DiameterStream" "path" "Ljava/lang/String;" u_path) (F_firstSequence : Fld Z h0 a1 "com/example/meisai/meisai/DiameterStream" "firstSequence" "J" u_firstSequence) (F_afterSyn : Fld Z h0 a1 "com/example/meisai/meisai/DiameterStream" "afterSyn" "Z" u_afterSyn) (F_start : Fld Z h0 a1 "com/example/meisai/meisai/DiameterStream" "start" "J" u_start) (g_a1 : n0 ≤ a1) :
    MetFree l (⟨"com/example/meisai/meisai/DiameterStream", "<init>", "(Ljava/lang/String;JZ)V"⟩ : MethodName) (head1 (Jvm.Cond.code (⟨"com/example/meisai/meisai/DiameterStream", "<init>", "(Ljava/lang/String;JZ)V"⟩ : MethodName) prog_7_method_1_code 5 none :: ws) ({ frames := 4, cells := 5, slots := 41, locals := 53 } : Room)) (fun a U => a = #[(.ref a1), (.ref a2), (.long q3), (.int p4)] ∧ Z.Warmed39 U.vm ∧ U.heap = h0) (fun _ _ _ _ _ => True) (fun _ U o U' => ∃ v L, o = .returned v ∧ Q1 Z a1 a2 q3 p4 u_unread u_waiting u_preceding u_path u_firstSequence u_afterSyn u_start h0 n0 v U'.heap L ∧ FrameEnd U o U' L ({ frames := 4, cells := 5, slots := 41, locals := 53 } : Room).cells ({ frames := 4, cells := 5, slots := 41, locals := 53 } : Room).slots) := by
  refine MetFree.of_bodySF pf_5 hisR ?_
  intro p e s m args below meth c s₁ Bd hml0 hP hK
  obtain ⟨rfl, hZ, hh⟩ := hP
  have hx := Bd.exec
  have hby := Bd.bytes
  have hlk : meth.locks = false := BodyLoose.notSynchronized Bd
  have hml : c.maxLocals = 5 := hml0
  have hown : s.vm.findClass "com/example/meisai/meisai/DiameterStream" = some m.cls := findClass_of_methodNamed Bd.named
  have hnm := (name_of_methodNamed Bd.named Bd.method).1
  have X0 : Stand p l e ({ frames := 4, cells := 5, slots := 41, locals := 53 } : Room) s m #[(.ref a1), (.ref a2), (.long q3), (.int p4)] below meth c s₁ [] 0 0 := Stand.of_body Bd
  have e0 : s₁.heap = h0 := by rw [← hh, Bd.state]; rfl
  have N0 := Fr.nil n0
  have K0 : Keep h0 h0 [a1] := Keep.refl h0 _
  show Gl p e below s (Q1 Z a1 a2 q3 p4 u_unread u_waiting u_preceding u_path u_firstSequence u_afterSyn u_start h0 n0) ({ frames := 4, cells := 5, slots := 41, locals := 53 } : Room).cells ({ frames := 4, cells := 5, slots := 41, locals := 53 } : Room).slots (s₁.setTop (entryFrame m #[(.ref a1), (.ref a2), (.long q3), (.int p4)] 5))
  rw [ef_1]
  show Gl _ _ _ _ _ _ _ (s₁.setTop (mkF m 0 #[.val (.ref a1), .val (.ref a2), .val (.long q3), .second, .val (.int p4)] []))
  refine Gl.st (fun t k => XS.aloadN X0.here hx rfl (hb hby d1_0) rfl rfl k) ?_
  show Gl _ _ _ _ _ _ _ (s₁.setTop (mkF m 1 #[.val (.ref a1), .val (.ref a2), .val (.long q3), .second, .val (.int p4)] [(.ref a1)]))
  obtain ⟨T1, X1, e1, st1⟩ := initO X0 hx hZ hown (hw _ (List.mem_of_getElem? (i := 14) rfl)) (hw _ (List.mem_of_getElem? (i := 15) rfl)) (hw _ (List.mem_of_getElem? (i := 16) rfl)) e0 (g := (mkF m 1 #[.val (.ref a1), .val (.ref a2), .val (.long q3), .second, .val (.int p4)] [(.ref a1)])) rfl (by rw [hml]; rfl) rfl (hb hby d1_1) (by decide) (W := 0) (by show 2 * 0 + _ ≤ _; exact Nat.le_of_eq rfl) (by decide)
  refine Gl.st st1 ?_
  show Gl _ _ _ _ _ _ _ (T1.setTop (mkF m 4 #[.val (.ref a1), .val (.ref a2), .val (.long q3), .second, .val (.int p4)] []))
  refine Gl.st (fun t k => XS.aloadN X1.here hx rfl (hb hby d1_4) rfl rfl k) ?_
  show Gl _ _ _ _ _ _ _ (T1.setTop (mkF m 5 #[.val (.ref a1), .val (.ref a2), .val (.long q3), .second, .val (.int p4)] [(.ref a1)]))
  obtain ⟨T2, h2, X2, e2, E2, A2, D2, -, st2⟩ := newO X1 hx hZ hown (hw _ (List.mem_of_getElem? (i := 17) rfl)) (hw _ (List.mem_of_getElem? (i := 18) rfl)) (hw _ (List.mem_of_getElem? (i := 19) rfl)) e1 (g := (mkF m 5 #[.val (.ref a1), .val (.ref a2), .val (.long q3), .second, .val (.int p4)] [(.ref a1)])) rfl (hb hby d1_5) (by decide) (by decide)
  obtain ⟨b2, g2⟩ : ∃ z, z = h0.size := ⟨_, rfl⟩
  rw [← g2] at A2 D2 st2
  refine Gl.st st2 ?_
  have ne_a1_b2 : a1 ≠ b2 := Nat.ne_of_lt (Nat.lt_of_lt_of_le E_a1.lt (Nat.le_of_eq g2.symm))
  have gzb2 : n0 ≤ b2 := Nat.le_trans Z0 (Nat.le_of_eq g2.symm)
  have szb2 : h0.size ≤ b2 := Nat.le_trans K0.1 (Nat.le_of_eq g2.symm)
  have Z2 : n0 ≤ h2.size := Nat.le_trans Z0 E2.1
  have E_a1'3 : Exa Z h2 a1 "com/example/meisai/meisai/DiameterStream" := E_a1.ext E2
  have F_unread'4 : Fld Z h2 a1 "com/example/meisai/meisai/DiameterStream" "unread" "Lcom/example/meisai/meisai/DiameterStream$Unread;" u_unread := F_unread.ext E2
  have F_waiting'5 : Fld Z h2 a1 "com/example/meisai/meisai/DiameterStream" "waiting" "Ljava/util/TreeMap;" u_waiting := F_waiting.ext E2
  have F_preceding'6 : Fld Z h2 a1 "com/example/meisai/meisai/DiameterStream" "preceding" "Ljava/util/TreeMap;" u_preceding := F_preceding.ext E2
  have F_path'7 : Fld Z h2 a1 "com/example/meisai/meisai/DiameterStream" "path" "Ljava/lang/String;" u_path := F_path.ext E2
  have F_firstSequence'8 : Fld Z h2 a1 "com/example/meisai/meisai/DiameterStream" "firstSequence" "J" u_firstSequence := F_firstSequence.ext E2
  have F_afterSyn'9 : Fld Z h2 a1 "com/example/meisai/meisai/DiameterStream" "afterSyn" "Z" u_afterSyn := F_afterSyn.ext E2
  have F_start'10 : Fld Z h2 a1 "com/example/meisai/meisai/DiameterStream" "start" "J" u_start := F_start.ext E2
  have K2 : Keep h0 h2 [a1] := K0.ext E2
  have F2_this_0 : Fld Z h2 b2 "com/example/meisai/meisai/DiameterStream$Unread" "this$0" "Lcom/example/meisai/meisai/DiameterStream;" .null := D2 (Or.inr (hw _ (List.mem_of_getElem? (i := 24) rfl))) (ty := (.object "com/example/meisai/meisai/DiameterStream")) (by decide)
  have F2_pieces : Fld Z h2 b2 "com/example/meisai/meisai/DiameterStream$Unread" "pieces" "Ljava/util/ArrayDeque;" .null := D2 (Or.inr (hw _ (List.mem_of_getElem? (i := 44) rfl))) (ty := (.object "java/util/ArrayDeque")) (by decide)
  show Gl _ _ _ _ _ _ _ (T2.setTop (mkF m 8 #[.val (.ref a1), .val (.ref a2), .val (.long q3), .second, .val (.int p4)] [(.ref b2), (.ref a1)]))
  refine Gl.st (fun t k => XS.dup X2.here hx rfl (hb hby d1_8) rfl rfl k) ?_
  show Gl _ _ _ _ _ _ _ (T2.setTop (mkF m 9 #[.val (.ref a1), .val (.ref a2), .val (.long q3), .second, .val (.int p4)] [(.ref b2), (.ref b2), (.ref a1)]))
  refine Gl.st (fun t k => XS.aloadN X2.here hx rfl (hb hby d1_9) rfl rfl k) ?_
  show Gl _ _ _ _ _ _ _ (T2.setTop (mkF m 10 #[.val (.ref a1), .val (.ref a2), .val (.long q3), .second, .val (.int p4)] [(.ref a1), (.ref b2), (.ref b2), (.ref a1)]))
  obtain ⟨_, _, ⟨T11, L11, k11, n11⟩, -, X11, ⟨Lc11, hQ11, l11, y11, z11⟩, st11⟩ := specialRef X2 hx hZ (y := (⟨"com/example/meisai/meisai/DiameterStream$Unread", "<init>", "(Lcom/example/meisai/meisai/DiameterStream;)V"⟩ : MethodName)) rfl hown (hw _ (List.mem_of_getElem? (i := 20) rfl)) (hw _ (List.mem_of_getElem? (i := 21) rfl)) (hw _ (List.mem_of_getElem? (i := 22) rfl)) (by decide) (backOf (W := 2) (rm3 l Z a0 hw [] b2 a1 (.null) (.null) h2 n0 Z2 A2 F2_this_0 F2_pieces gzb2) hZ (hw _ (List.mem_of_getElem? (i := 22) rfl)) (hw _ (List.mem_of_getElem? (i := 19) rfl)) (by decide) (by decide)) (g := (mkF m 10 #[.val (.ref a1), .val (.ref a2), .val (.long q3), .second, .val (.int p4)] [(.ref a1), (.ref b2), (.ref b2), (.ref a1)])) rfl (by rw [hml]; rfl) (Steps.refl _) (a := b2) (argsL := [(.ref a1)]) (rest := [(.ref b2), (.ref a1)]) (lenOf pd_1 rfl) rfl (by show 2 * 0 + _ ≤ _; exact Nat.le_of_eq rfl) (hb hby d1_10) (fun _ _ => ⟨rfl, e2, (by decide : 1 + 2 ≤ _), (by decide : 3 + 20 ≤ _)⟩)
  dsimp only [Pt.U, Pt.locs, Pt.cells, Pt.slots] at X11 l11 y11 z11 st11 hQ11
  rw [y11, z11] at X11
  obtain ⟨rfl, N11q, Kq11, Fq11_0⟩ := hQ11
  have N11 : Fr n0 L11 := by rw [l11]; exact Fr.app N0 N11q
  have Z11 : n0 ≤ T11.heap.size := Nat.le_trans Z2 Kq11.1
  have E_a1'12 : Exa Z T11.heap a1 "com/example/meisai/meisai/DiameterStream" := E_a1'3.keep Kq11
  have F_unread'13 : Fld Z T11.heap a1 "com/example/meisai/meisai/DiameterStream" "unread" "Lcom/example/meisai/meisai/DiameterStream$Unread;" u_unread := F_unread'4.keep Kq11 (ninS ne_a1_b2 nin0)
  have F_waiting'14 : Fld Z T11.heap a1 "com/example/meisai/meisai/DiameterStream" "waiting" "Ljava/util/TreeMap;" u_waiting := F_waiting'5.keep Kq11 (ninS ne_a1_b2 nin0)
  have F_preceding'15 : Fld Z T11.heap a1 "com/example/meisai/meisai/DiameterStream" "preceding" "Ljava/util/TreeMap;" u_preceding := F_preceding'6.keep Kq11 (ninS ne_a1_b2 nin0)
  have F_path'16 : Fld Z T11.heap a1 "com/example/meisai/meisai/DiameterStream" "path" "Ljava/lang/String;" u_path := F_path'7.keep Kq11 (ninS ne_a1_b2 nin0)
  have F_firstSequence'17 : Fld Z T11.heap a1 "com/example/meisai/meisai/DiameterStream" "firstSequence" "J" u_firstSequence := F_firstSequence'8.keep Kq11 (ninS ne_a1_b2 nin0)
  have F_afterSyn'18 : Fld Z T11.heap a1 "com/example/meisai/meisai/DiameterStream" "afterSyn" "Z" u_afterSyn := F_afterSyn'9.keep Kq11 (ninS ne_a1_b2 nin0)
  have F_start'19 : Fld Z T11.heap a1 "com/example/meisai/meisai/DiameterStream" "start" "J" u_start := F_start'10.keep Kq11 (ninS ne_a1_b2 nin0)
  have K11 : Keep h0 T11.heap [a1] := K2.trans Kq11 (allS (Or.inr szb2) all0)
  refine Gl.to st11 ?_
  show Gl _ _ _ _ _ _ _ (T11.setTop (mkF m 13 #[.val (.ref a1), .val (.ref a2), .val (.long q3), .second, .val (.int p4)] [(.ref b2), (.ref a1)]))
  obtain ⟨T20, h20, X20, e20, W20, st20⟩ := putF X11 hx hZ hown (host := "") (Or.inl (hw _ (List.mem_of_getElem? (i := 45) rfl))) Via.refl rfl F_unread'13 E_a1'12 (Or.inr ⟨(hw _ (List.mem_of_getElem? (i := 46) rfl)), rfl, hnm⟩) (hw _ (List.mem_of_getElem? (i := 1) rfl)) (ty := (.object "com/example/meisai/meisai/DiameterStream$Unread")) (by decide) rfl rfl (g := (mkF m 13 #[.val (.ref a1), .val (.ref a2), .val (.long q3), .second, .val (.int p4)] [(.ref b2), (.ref a1)])) rfl rfl (hb hby d1_13)
  refine Gl.st st20 ?_
  have Z20 : n0 ≤ h20.size := Nat.le_trans Z11 (Keep.of_wr W20).1
  have N20 := Fr.snoc X20 N11 g_a1
  have K20 : Keep h0 h20 [a1] := K11.wr W20 (Or.inl (List.mem_of_getElem? (i := 0) rfl))
  have E_a1'21 : Exa Z h20 a1 "com/example/meisai/meisai/DiameterStream" := E_a1'12.wr W20
  have F_waiting'22 : Fld Z h20 a1 "com/example/meisai/meisai/DiameterStream" "waiting" "Ljava/util/TreeMap;" u_waiting := F_waiting'14.other W20 (Or.inr (slot_ne (Or.inr (hw _ (List.mem_of_getElem? (i := 67) rfl))) (Or.inr (hw _ (List.mem_of_getElem? (i := 46) rfl))) (by decide) (t := (.object "java/util/TreeMap")) (t' := (.object "com/example/meisai/meisai/DiameterStream$Unread")) (by decide) (by decide)))
  have F_preceding'23 : Fld Z h20 a1 "com/example/meisai/meisai/DiameterStream" "preceding" "Ljava/util/TreeMap;" u_preceding := F_preceding'15.other W20 (Or.inr (slot_ne (Or.inr (hw _ (List.mem_of_getElem? (i := 69) rfl))) (Or.inr (hw _ (List.mem_of_getElem? (i := 46) rfl))) (by decide) (t := (.object "java/util/TreeMap")) (t' := (.object "com/example/meisai/meisai/DiameterStream$Unread")) (by decide) (by decide)))
  have F_path'24 : Fld Z h20 a1 "com/example/meisai/meisai/DiameterStream" "path" "Ljava/lang/String;" u_path := F_path'16.other W20 (Or.inr (slot_ne (Or.inr (hw _ (List.mem_of_getElem? (i := 71) rfl))) (Or.inr (hw _ (List.mem_of_getElem? (i := 46) rfl))) (by decide) (t := (.object "java/lang/String")) (t' := (.object "com/example/meisai/meisai/DiameterStream$Unread")) (by decide) (by decide)))
  have F_firstSequence'25 : Fld Z h20 a1 "com/example/meisai/meisai/DiameterStream" "firstSequence" "J" u_firstSequence := F_firstSequence'17.other W20 (Or.inr (slot_ne (Or.inr (hw _ (List.mem_of_getElem? (i := 73) rfl))) (Or.inr (hw _ (List.mem_of_getElem? (i := 46) rfl))) (by decide) (t := .long) (t' := (.object "com/example/meisai/meisai/DiameterStream$Unread")) (by decide) (by decide)))
  have F_afterSyn'26 : Fld Z h20 a1 "com/example/meisai/meisai/DiameterStream" "afterSyn" "Z" u_afterSyn := F_afterSyn'18.other W20 (Or.inr (slot_ne (Or.inr (hw _ (List.mem_of_getElem? (i := 75) rfl))) (Or.inr (hw _ (List.mem_of_getElem? (i := 46) rfl))) (by decide) (t := .boolean) (t' := (.object "com/example/meisai/meisai/DiameterStream$Unread")) (by decide) (by decide)))
  have F_start'27 : Fld Z h20 a1 "com/example/meisai/meisai/DiameterStream" "start" "J" u_start := F_start'19.other W20 (Or.inr (slot_ne (Or.inl (hw _ (List.mem_of_getElem? (i := 82) rfl))) (Or.inr (hw _ (List.mem_of_getElem? (i := 46) rfl))) (by decide) (t := .long) (t' := (.object "com/example/meisai/meisai/DiameterStream$Unread")) (by decide) (by decide)))
  have Fq11_0'28 : Exa Z h20 b2 "com/example/meisai/meisai/DiameterStream$Unread" := Fq11_0.wr W20
  have Fw20 : Fld Z h20 a1 "com/example/meisai/meisai/DiameterStream" "unread" "Lcom/example/meisai/meisai/DiameterStream$Unread;" (.ref b2) := F_unread'13.same W20
  show Gl _ _ _ _ _ _ _ (T20.setTop (mkF m 16 #[.val (.ref a1), .val (.ref a2), .val (.long q3), .second, .val (.int p4)] []))
  refine Gl.st (fun t k => XS.aloadN X20.here hx rfl (hb hby d1_16) rfl rfl k) ?_
  show Gl _ _ _ _ _ _ _ (T20.setTop (mkF m 17 #[.val (.ref a1), .val (.ref a2), .val (.long q3), .second, .val (.int p4)] [(.ref a1)]))
  obtain ⟨T29, h29, X29, e29, E29, A29, D29, -, st29⟩ := newO X20 hx hZ hown (hw _ (List.mem_of_getElem? (i := 47) rfl)) (hw _ (List.mem_of_getElem? (i := 48) rfl)) (hw _ (List.mem_of_getElem? (i := 49) rfl)) e20 (g := (mkF m 17 #[.val (.ref a1), .val (.ref a2), .val (.long q3), .second, .val (.int p4)] [(.ref a1)])) rfl (hb hby d1_17) (by decide) (by decide)
  obtain ⟨b29, g29⟩ : ∃ z, z = h20.size := ⟨_, rfl⟩
  rw [← g29] at A29 D29 st29
  refine Gl.st st29 ?_
  have ne_a1_b29 : a1 ≠ b29 := Nat.ne_of_lt (Nat.lt_of_lt_of_le E_a1'21.lt (Nat.le_of_eq g29.symm))
  have ne_b2_b29 : b2 ≠ b29 := Nat.ne_of_lt (Nat.lt_of_lt_of_le Fq11_0'28.lt (Nat.le_of_eq g29.symm))
  have gzb29 : n0 ≤ b29 := Nat.le_trans Z20 (Nat.le_of_eq g29.symm)
  have szb29 : h0.size ≤ b29 := Nat.le_trans K20.1 (Nat.le_of_eq g29.symm)
  have Z29 : n0 ≤ h29.size := Nat.le_trans Z20 E29.1
  have E_a1'30 : Exa Z h29 a1 "com/example/meisai/meisai/DiameterStream" := E_a1'21.ext E29
  have Fw20'31 : Fld Z h29 a1 "com/example/meisai/meisai/DiameterStream" "unread" "Lcom/example/meisai/meisai/DiameterStream$Unread;" (.ref b2) := Fw20.ext E29
  have F_waiting'32 : Fld Z h29 a1 "com/example/meisai/meisai/DiameterStream" "waiting" "Ljava/util/TreeMap;" u_waiting := F_waiting'22.ext E29
  have F_preceding'33 : Fld Z h29 a1 "com/example/meisai/meisai/DiameterStream" "preceding" "Ljava/util/TreeMap;" u_preceding := F_preceding'23.ext E29
  have F_path'34 : Fld Z h29 a1 "com/example/meisai/meisai/DiameterStream" "path" "Ljava/lang/String;" u_path := F_path'24.ext E29
  have F_firstSequence'35 : Fld Z h29 a1 "com/example/meisai/meisai/DiameterStream" "firstSequence" "J" u_firstSequence := F_firstSequence'25.ext E29
  have F_afterSyn'36 : Fld Z h29 a1 "com/example/meisai/meisai/DiameterStream" "afterSyn" "Z" u_afterSyn := F_afterSyn'26.ext E29
  have F_start'37 : Fld Z h29 a1 "com/example/meisai/meisai/DiameterStream" "start" "J" u_start := F_start'27.ext E29
  have Fq11_0'38 : Exa Z h29 b2 "com/example/meisai/meisai/DiameterStream$Unread" := Fq11_0'28.ext E29
  have K29 : Keep h0 h29 [a1] := K20.ext E29
  have F29_size : Fld Z h29 b29 "java/util/TreeMap" "size" "I" (.int (0 : Int32)) := D29 (Or.inl (hw _ (List.mem_of_getElem? (i := 61) rfl))) (ty := .int) (by decide)
  have F29_modCount : Fld Z h29 b29 "java/util/TreeMap" "modCount" "I" (.int (0 : Int32)) := D29 (Or.inl (hw _ (List.mem_of_getElem? (i := 63) rfl))) (ty := .int) (by decide)
  have F29_comparator : Fld Z h29 b29 "java/util/TreeMap" "comparator" "Ljava/util/Comparator;" .null := D29 (Or.inr (hw _ (List.mem_of_getElem? (i := 65) rfl))) (ty := (.object "java/util/Comparator")) (by decide)
  show Gl _ _ _ _ _ _ _ (T29.setTop (mkF m 20 #[.val (.ref a1), .val (.ref a2), .val (.long q3), .second, .val (.int p4)] [(.ref b29), (.ref a1)]))
  refine Gl.st (fun t k => XS.dup X29.here hx rfl (hb hby d1_20) rfl rfl k) ?_
  show Gl _ _ _ _ _ _ _ (T29.setTop (mkF m 21 #[.val (.ref a1), .val (.ref a2), .val (.long q3), .second, .val (.int p4)] [(.ref b29), (.ref b29), (.ref a1)]))
  obtain ⟨_, _, ⟨T39, L39, k39, n39⟩, -, X39, ⟨Lc39, hQ39, l39, y39, z39⟩, st39⟩ := X29.specialBack hx (y := (⟨"java/util/TreeMap", "<init>", "()V"⟩ : MethodName)) rfl hown (mvT hZ (hw _ (List.mem_of_getElem? (i := 50) rfl))) (mvT hZ (hw _ (List.mem_of_getElem? (i := 51) rfl))) (mvT hZ (hw _ (List.mem_of_getElem? (i := 52) rfl))) (by decide) (backOf (W := 2) (rm6 l Z a0 hw [] b29 ((.int (0 : Int32))) ((.int (0 : Int32))) (.null) h29 n0 Z29 A29 F29_size F29_modCount F29_comparator gzb29) hZ (hw _ (List.mem_of_getElem? (i := 52) rfl)) (hw _ (List.mem_of_getElem? (i := 49) rfl)) (by decide) (by decide)) (g := (mkF m 21 #[.val (.ref a1), .val (.ref a2), .val (.long q3), .second, .val (.int p4)] [(.ref b29), (.ref b29), (.ref a1)])) rfl (by rw [hml]; rfl) (Steps.refl _) (a := b29) (argsL := []) (rest := [(.ref b29), (.ref a1)]) (lenOf pd_0 rfl) rfl (by show 2 * 0 + _ ≤ _; exact Nat.le_of_eq rfl) (hb hby d1_21) (fun _ _ => ⟨rfl, e29, (by decide : 4 + 0 ≤ _), (by decide : 32 + 0 ≤ _)⟩)
  dsimp only [Pt.U, Pt.locs, Pt.cells, Pt.slots] at X39 l39 y39 z39 st39 hQ39
  rw [y39, z39] at X39
  obtain ⟨rfl, N39q, Kq39, Fq39_0⟩ := hQ39
  have N39 : Fr n0 L39 := by rw [l39]; exact Fr.app N20 N39q
  have Z39 : n0 ≤ T39.heap.size := Nat.le_trans Z29 Kq39.1
  have E_a1'40 : Exa Z T39.heap a1 "com/example/meisai/meisai/DiameterStream" := E_a1'30.keep Kq39
  have Fw20'41 : Fld Z T39.heap a1 "com/example/meisai/meisai/DiameterStream" "unread" "Lcom/example/meisai/meisai/DiameterStream$Unread;" (.ref b2) := Fw20'31.keep Kq39 (ninS ne_a1_b29 nin0)
  have F_waiting'42 : Fld Z T39.heap a1 "com/example/meisai/meisai/DiameterStream" "waiting" "Ljava/util/TreeMap;" u_waiting := F_waiting'32.keep Kq39 (ninS ne_a1_b29 nin0)
  have F_preceding'43 : Fld Z T39.heap a1 "com/example/meisai/meisai/DiameterStream" "preceding" "Ljava/util/TreeMap;" u_preceding := F_preceding'33.keep Kq39 (ninS ne_a1_b29 nin0)
  have F_path'44 : Fld Z T39.heap a1 "com/example/meisai/meisai/DiameterStream" "path" "Ljava/lang/String;" u_path := F_path'34.keep Kq39 (ninS ne_a1_b29 nin0)
  have F_firstSequence'45 : Fld Z T39.heap a1 "com/example/meisai/meisai/DiameterStream" "firstSequence" "J" u_firstSequence := F_firstSequence'35.keep Kq39 (ninS ne_a1_b29 nin0)
  have F_afterSyn'46 : Fld Z T39.heap a1 "com/example/meisai/meisai/DiameterStream" "afterSyn" "Z" u_afterSyn := F_afterSyn'36.keep Kq39 (ninS ne_a1_b29 nin0)
  have F_start'47 : Fld Z T39.heap a1 "com/example/meisai/meisai/DiameterStream" "start" "J" u_start := F_start'37.keep Kq39 (ninS ne_a1_b29 nin0)
  have Fq11_0'48 : Exa Z T39.heap b2 "com/example/meisai/meisai/DiameterStream$Unread" := Fq11_0'38.keep Kq39
  have K39 : Keep h0 T39.heap [a1] := K29.trans Kq39 (allS (Or.inr szb29) all0)
  refine Gl.to st39 ?_
  show Gl _ _ _ _ _ _ _ (T39.setTop (mkF m 24 #[.val (.ref a1), .val (.ref a2), .val (.long q3), .second, .val (.int p4)] [(.ref b29), (.ref a1)]))
  obtain ⟨T49, h49, X49, e49, W49, st49⟩ := putF X39 hx hZ hown (host := "") (Or.inl (hw _ (List.mem_of_getElem? (i := 66) rfl))) Via.refl rfl F_waiting'42 E_a1'40 (Or.inr ⟨(hw _ (List.mem_of_getElem? (i := 67) rfl)), rfl, hnm⟩) (hw _ (List.mem_of_getElem? (i := 1) rfl)) (ty := (.object "java/util/TreeMap")) (by decide) rfl rfl (g := (mkF m 24 #[.val (.ref a1), .val (.ref a2), .val (.long q3), .second, .val (.int p4)] [(.ref b29), (.ref a1)])) rfl rfl (hb hby d1_24)
  refine Gl.st st49 ?_
  have Z49 : n0 ≤ h49.size := Nat.le_trans Z39 (Keep.of_wr W49).1
  have N49 := Fr.snoc X49 N39 g_a1
  have K49 : Keep h0 h49 [a1] := K39.wr W49 (Or.inl (List.mem_of_getElem? (i := 0) rfl))
  have E_a1'50 : Exa Z h49 a1 "com/example/meisai/meisai/DiameterStream" := E_a1'40.wr W49
  have Fw20'51 : Fld Z h49 a1 "com/example/meisai/meisai/DiameterStream" "unread" "Lcom/example/meisai/meisai/DiameterStream$Unread;" (.ref b2) := Fw20'41.other W49 (Or.inr (slot_ne (Or.inr (hw _ (List.mem_of_getElem? (i := 46) rfl))) (Or.inr (hw _ (List.mem_of_getElem? (i := 67) rfl))) (by decide) (t := (.object "com/example/meisai/meisai/DiameterStream$Unread")) (t' := (.object "java/util/TreeMap")) (by decide) (by decide)))
  have F_preceding'52 : Fld Z h49 a1 "com/example/meisai/meisai/DiameterStream" "preceding" "Ljava/util/TreeMap;" u_preceding := F_preceding'43.other W49 (Or.inr (slot_ne (Or.inr (hw _ (List.mem_of_getElem? (i := 69) rfl))) (Or.inr (hw _ (List.mem_of_getElem? (i := 67) rfl))) (by decide) (t := (.object "java/util/TreeMap")) (t' := (.object "java/util/TreeMap")) (by decide) (by decide)))
  have F_path'53 : Fld Z h49 a1 "com/example/meisai/meisai/DiameterStream" "path" "Ljava/lang/String;" u_path := F_path'44.other W49 (Or.inr (slot_ne (Or.inr (hw _ (List.mem_of_getElem? (i := 71) rfl))) (Or.inr (hw _ (List.mem_of_getElem? (i := 67) rfl))) (by decide) (t := (.object "java/lang/String")) (t' := (.object "java/util/TreeMap")) (by decide) (by decide)))
  have F_firstSequence'54 : Fld Z h49 a1 "com/example/meisai/meisai/DiameterStream" "firstSequence" "J" u_firstSequence := F_firstSequence'45.other W49 (Or.inr (slot_ne (Or.inr (hw _ (List.mem_of_getElem? (i := 73) rfl))) (Or.inr (hw _ (List.mem_of_getElem? (i := 67) rfl))) (by decide) (t := .long) (t' := (.object "java/util/TreeMap")) (by decide) (by decide)))
  have F_afterSyn'55 : Fld Z h49 a1 "com/example/meisai/meisai/DiameterStream" "afterSyn" "Z" u_afterSyn := F_afterSyn'46.other W49 (Or.inr (slot_ne (Or.inr (hw _ (List.mem_of_getElem? (i := 75) rfl))) (Or.inr (hw _ (List.mem_of_getElem? (i := 67) rfl))) (by decide) (t := .boolean) (t' := (.object "java/util/TreeMap")) (by decide) (by decide)))
  have F_start'56 : Fld Z h49 a1 "com/example/meisai/meisai/DiameterStream" "start" "J" u_start := F_start'47.other W49 (Or.inr (slot_ne (Or.inl (hw _ (List.mem_of_getElem? (i := 82) rfl))) (Or.inr (hw _ (List.mem_of_getElem? (i := 67) rfl))) (by decide) (t := .long) (t' := (.object "java/util/TreeMap")) (by decide) (by decide)))
  have Fq11_0'57 : Exa Z h49 b2 "com/example/meisai/meisai/DiameterStream$Unread" := Fq11_0'48.wr W49
  have Fq39_0'58 : Exa Z h49 b29 "java/util/TreeMap" := Fq39_0.wr W49
  have Fw49 : Fld Z h49 a1 "com/example/meisai/meisai/DiameterStream" "waiting" "Ljava/util/TreeMap;" (.ref b29) := F_waiting'42.same W49
  show Gl _ _ _ _ _ _ _ (T49.setTop (mkF m 27 #[.val (.ref a1), .val (.ref a2), .val (.long q3), .second, .val (.int p4)] []))
  refine Gl.st (fun t k => XS.aloadN X49.here hx rfl (hb hby d1_27) rfl rfl k) ?_
  show Gl _ _ _ _ _ _ _ (T49.setTop (mkF m 28 #[.val (.ref a1), .val (.ref a2), .val (.long q3), .second, .val (.int p4)] [(.ref a1)]))
  obtain ⟨T59, h59, X59, e59, E59, A59, D59, -, st59⟩ := newO X49 hx hZ hown (hw _ (List.mem_of_getElem? (i := 47) rfl)) (hw _ (List.mem_of_getElem? (i := 48) rfl)) (hw _ (List.mem_of_getElem? (i := 49) rfl)) e49 (g := (mkF m 28 #[.val (.ref a1), .val (.ref a2), .val (.long q3), .second, .val (.int p4)] [(.ref a1)])) rfl (hb hby d1_28) (by decide) (by decide)
  obtain ⟨b59, g59⟩ : ∃ z, z = h49.size := ⟨_, rfl⟩
  rw [← g59] at A59 D59 st59
  refine Gl.st st59 ?_
  have ne_a1_b59 : a1 ≠ b59 := Nat.ne_of_lt (Nat.lt_of_lt_of_le E_a1'50.lt (Nat.le_of_eq g59.symm))
  have ne_b2_b59 : b2 ≠ b59 := Nat.ne_of_lt (Nat.lt_of_lt_of_le Fq11_0'57.lt (Nat.le_of_eq g59.symm))
  have ne_b29_b59 : b29 ≠ b59 := Nat.ne_of_lt (Nat.lt_of_lt_of_le Fq39_0'58.lt (Nat.le_of_eq g59.symm))
  have gzb59 : n0 ≤ b59 := Nat.le_trans Z49 (Nat.le_of_eq g59.symm)
  have szb59 : h0.size ≤ b59 := Nat.le_trans K49.1 (Nat.le_of_eq g59.symm)
  have Z59 : n0 ≤ h59.size := Nat.le_trans Z49 E59.1
  have E_a1'60 : Exa Z h59 a1 "com/example/meisai/meisai/DiameterStream" := E_a1'50.ext E59
  have Fw20'61 : Fld Z h59 a1 "com/example/meisai/meisai/DiameterStream" "unread" "Lcom/example/meisai/meisai/DiameterStream$Unread;" (.ref b2) := Fw20'51.ext E59
  have Fw49'62 : Fld Z h59 a1 "com/example/meisai/meisai/DiameterStream" "waiting" "Ljava/util/TreeMap;" (.ref b29) := Fw49.ext E59
  have F_preceding'63 : Fld Z h59 a1 "com/example/meisai/meisai/DiameterStream" "preceding" "Ljava/util/TreeMap;" u_preceding := F_preceding'52.ext E59
  have F_path'64 : Fld Z h59 a1 "com/example/meisai/meisai/DiameterStream" "path" "Ljava/lang/String;" u_path := F_path'53.ext E59
  have F_firstSequence'65 : Fld Z h59 a1 "com/example/meisai/meisai/DiameterStream" "firstSequence" "J" u_firstSequence := F_firstSequence'54.ext E59
  have F_afterSyn'66 : Fld Z h59 a1 "com/example/meisai/meisai/DiameterStream" "afterSyn" "Z" u_afterSyn := F_afterSyn'55.ext E59
  have F_start'67 : Fld Z h59 a1 "com/example/meisai/meisai/DiameterStream" "start" "J" u_start := F_start'56.ext E59
  have Fq11_0'68 : Exa Z h59 b2 "com/example/meisai/meisai/DiameterStream$Unread" := Fq11_0'57.ext E59
  have Fq39_0'69 : Exa Z h59 b29 "java/util/TreeMap" := Fq39_0'58.ext E59
  have K59 : Keep h0 h59 [a1] := K49.ext E59
  have F59_size : Fld Z h59 b59 "java/util/TreeMap" "size" "I" (.int (0 : Int32)) := D59 (Or.inl (hw _ (List.mem_of_getElem? (i := 61) rfl))) (ty := .int) (by decide)
  have F59_modCount : Fld Z h59 b59 "java/util/TreeMap" "modCount" "I" (.int (0 : Int32)) := D59 (Or.inl (hw _ (List.mem_of_getElem? (i := 63) rfl))) (ty := .int) (by decide)
  have F59_comparator : Fld Z h59 b59 "java/util/TreeMap" "comparator" "Ljava/util/Comparator;" .null := D59 (Or.inr (hw _ (List.mem_of_getElem? (i := 65) rfl))) (ty := (.object "java/util/Comparator")) (by decide)
  show Gl _ _ _ _ _ _ _ (T59.setTop (mkF m 31 #[.val (.ref a1), .val (.ref a2), .val (.long q3), .second, .val (.int p4)] [(.ref b59), (.ref a1)]))
  refine Gl.st (fun t k => XS.dup X59.here hx rfl (hb hby d1_31) rfl rfl k) ?_
  show Gl _ _ _ _ _ _ _ (T59.setTop (mkF m 32 #[.val (.ref a1), .val (.ref a2), .val (.long q3), .second, .val (.int p4)] [(.ref b59), (.ref b59), (.ref a1)]))
  obtain ⟨_, _, ⟨T70, L70, k70, n70⟩, -, X70, ⟨Lc70, hQ70, l70, y70, z70⟩, st70⟩ := X59.specialBack hx (y := (⟨"java/util/TreeMap", "<init>", "()V"⟩ : MethodName)) rfl hown (mvT hZ (hw _ (List.mem_of_getElem? (i := 50) rfl))) (mvT hZ (hw _ (List.mem_of_getElem? (i := 51) rfl))) (mvT hZ (hw _ (List.mem_of_getElem? (i := 52) rfl))) (by decide) (backOf (W := 2) (rm6 l Z a0 hw [] b59 ((.int (0 : Int32))) ((.int (0 : Int32))) (.null) h59 n0 Z59 A59 F59_size F59_modCount F59_comparator gzb59) hZ (hw _ (List.mem_of_getElem? (i := 52) rfl)) (hw _ (List.mem_of_getElem? (i := 49) rfl)) (by decide) (by decide)) (g := (mkF m 32 #[.val (.ref a1), .val (.ref a2), .val (.long q3), .second, .val (.int p4)] [(.ref b59), (.ref b59), (.ref a1)])) rfl (by rw [hml]; rfl) (Steps.refl _) (a := b59) (argsL := []) (rest := [(.ref b59), (.ref a1)]) (lenOf pd_0 rfl) rfl (by show 2 * 0 + _ ≤ _; exact Nat.le_of_eq rfl) (hb hby d1_32) (fun _ _ => ⟨rfl, e59, (by decide : 5 + 0 ≤ _), (by decide : 41 + 0 ≤ _)⟩)
  dsimp only [Pt.U, Pt.locs, Pt.cells, Pt.slots] at X70 l70 y70 z70 st70 hQ70
  rw [y70, z70] at X70
  obtain ⟨rfl, N70q, Kq70, Fq70_0⟩ := hQ70
  have N70 : Fr n0 L70 := by rw [l70]; exact Fr.app N49 N70q
  have Z70 : n0 ≤ T70.heap.size := Nat.le_trans Z59 Kq70.1
  have E_a1'71 : Exa Z T70.heap a1 "com/example/meisai/meisai/DiameterStream" := E_a1'60.keep Kq70
  have Fw20'72 : Fld Z T70.heap a1 "com/example/meisai/meisai/DiameterStream" "unread" "Lcom/example/meisai/meisai/DiameterStream$Unread;" (.ref b2) := Fw20'61.keep Kq70 (ninS ne_a1_b59 nin0)
  have Fw49'73 : Fld Z T70.heap a1 "com/example/meisai/meisai/DiameterStream" "waiting" "Ljava/util/TreeMap;" (.ref b29) := Fw49'62.keep Kq70 (ninS ne_a1_b59 nin0)
  have F_preceding'74 : Fld Z T70.heap a1 "com/example/meisai/meisai/DiameterStream" "preceding" "Ljava/util/TreeMap;" u_preceding := F_preceding'63.keep Kq70 (ninS ne_a1_b59 nin0)
  have F_path'75 : Fld Z T70.heap a1 "com/example/meisai/meisai/DiameterStream" "path" "Ljava/lang/String;" u_path := F_path'64.keep Kq70 (ninS ne_a1_b59 nin0)
  have F_firstSequence'76 : Fld Z T70.heap a1 "com/example/meisai/meisai/DiameterStream" "firstSequence" "J" u_firstSequence := F_firstSequence'65.keep Kq70 (ninS ne_a1_b59 nin0)
  have F_afterSyn'77 : Fld Z T70.heap a1 "com/example/meisai/meisai/DiameterStream" "afterSyn" "Z" u_afterSyn := F_afterSyn'66.keep Kq70 (ninS ne_a1_b59 nin0)
  have F_start'78 : Fld Z T70.heap a1 "com/example/meisai/meisai/DiameterStream" "start" "J" u_start := F_start'67.keep Kq70 (ninS ne_a1_b59 nin0)
  have Fq11_0'79 : Exa Z T70.heap b2 "com/example/meisai/meisai/DiameterStream$Unread" := Fq11_0'68.keep Kq70
  have Fq39_0'80 : Exa Z T70.heap b29 "java/util/TreeMap" := Fq39_0'69.keep Kq70
  have K70 : Keep h0 T70.heap [a1] := K59.trans Kq70 (allS (Or.inr szb59) all0)
  refine Gl.to st70 ?_
  show Gl _ _ _ _ _ _ _ (T70.setTop (mkF m 35 #[.val (.ref a1), .val (.ref a2), .val (.long q3), .second, .val (.int p4)] [(.ref b59), (.ref a1)]))
  obtain ⟨T81, h81, X81, e81, W81, st81⟩ := putF X70 hx hZ hown (host := "") (Or.inl (hw _ (List.mem_of_getElem? (i := 68) rfl))) Via.refl rfl F_preceding'74 E_a1'71 (Or.inr ⟨(hw _ (List.mem_of_getElem? (i := 69) rfl)), rfl, hnm⟩) (hw _ (List.mem_of_getElem? (i := 1) rfl)) (ty := (.object "java/util/TreeMap")) (by decide) rfl rfl (g := (mkF m 35 #[.val (.ref a1), .val (.ref a2), .val (.long q3), .second, .val (.int p4)] [(.ref b59), (.ref a1)])) rfl rfl (hb hby d1_35)
  refine Gl.st st81 ?_
  have Z81 : n0 ≤ h81.size := Nat.le_trans Z70 (Keep.of_wr W81).1
  have N81 := Fr.snoc X81 N70 g_a1
  have K81 : Keep h0 h81 [a1] := K70.wr W81 (Or.inl (List.mem_of_getElem? (i := 0) rfl))
  have E_a1'82 : Exa Z h81 a1 "com/example/meisai/meisai/DiameterStream" := E_a1'71.wr W81
  have Fw20'83 : Fld Z h81 a1 "com/example/meisai/meisai/DiameterStream" "unread" "Lcom/example/meisai/meisai/DiameterStream$Unread;" (.ref b2) := Fw20'72.other W81 (Or.inr (slot_ne (Or.inr (hw _ (List.mem_of_getElem? (i := 46) rfl))) (Or.inr (hw _ (List.mem_of_getElem? (i := 69) rfl))) (by decide) (t := (.object "com/example/meisai/meisai/DiameterStream$Unread")) (t' := (.object "java/util/TreeMap")) (by decide) (by decide)))
  have Fw49'84 : Fld Z h81 a1 "com/example/meisai/meisai/DiameterStream" "waiting" "Ljava/util/TreeMap;" (.ref b29) := Fw49'73.other W81 (Or.inr (slot_ne (Or.inr (hw _ (List.mem_of_getElem? (i := 67) rfl))) (Or.inr (hw _ (List.mem_of_getElem? (i := 69) rfl))) (by decide) (t := (.object "java/util/TreeMap")) (t' := (.object "java/util/TreeMap")) (by decide) (by decide)))
  have F_path'85 : Fld Z h81 a1 "com/example/meisai/meisai/DiameterStream" "path" "Ljava/lang/String;" u_path := F_path'75.other W81 (Or.inr (slot_ne (Or.inr (hw _ (List.mem_of_getElem? (i := 71) rfl))) (Or.inr (hw _ (List.mem_of_getElem? (i := 69) rfl))) (by decide) (t := (.object "java/lang/String")) (t' := (.object "java/util/TreeMap")) (by decide) (by decide)))
  have F_firstSequence'86 : Fld Z h81 a1 "com/example/meisai/meisai/DiameterStream" "firstSequence" "J" u_firstSequence := F_firstSequence'76.other W81 (Or.inr (slot_ne (Or.inr (hw _ (List.mem_of_getElem? (i := 73) rfl))) (Or.inr (hw _ (List.mem_of_getElem? (i := 69) rfl))) (by decide) (t := .long) (t' := (.object "java/util/TreeMap")) (by decide) (by decide)))
  have F_afterSyn'87 : Fld Z h81 a1 "com/example/meisai/meisai/DiameterStream" "afterSyn" "Z" u_afterSyn := F_afterSyn'77.other W81 (Or.inr (slot_ne (Or.inr (hw _ (List.mem_of_getElem? (i := 75) rfl))) (Or.inr (hw _ (List.mem_of_getElem? (i := 69) rfl))) (by decide) (t := .boolean) (t' := (.object "java/util/TreeMap")) (by decide) (by decide)))
  have F_start'88 : Fld Z h81 a1 "com/example/meisai/meisai/DiameterStream" "start" "J" u_start := F_start'78.other W81 (Or.inr (slot_ne (Or.inl (hw _ (List.mem_of_getElem? (i := 82) rfl))) (Or.inr (hw _ (List.mem_of_getElem? (i := 69) rfl))) (by decide) (t := .long) (t' := (.object "java/util/TreeMap")) (by decide) (by decide)))
  have Fq11_0'89 : Exa Z h81 b2 "com/example/meisai/meisai/DiameterStream$Unread" := Fq11_0'79.wr W81
  have Fq39_0'90 : Exa Z h81 b29 "java/util/TreeMap" := Fq39_0'80.wr W81
  have Fq70_0'91 : Exa Z h81 b59 "java/util/TreeMap" := Fq70_0.wr W81
  have Fw81 : Fld Z h81 a1 "com/example/meisai/meisai/DiameterStream" "preceding" "Ljava/util/TreeMap;" (.ref b59) := F_preceding'74.same W81
  show Gl _ _ _ _ _ _ _ (T81.setTop (mkF m 38 #[.val (.ref a1), .val (.ref a2), .val (.long q3), .second, .val (.int p4)] []))
  refine Gl.st (fun t k => XS.aloadN X81.here hx rfl (hb hby d1_38) rfl rfl k) ?_
  show Gl _ _ _ _ _ _ _ (T81.setTop (mkF m 39 #[.val (.ref a1), .val (.ref a2), .val (.long q3), .second, .val (.int p4)] [(.ref a1)]))
  refine Gl.st (fun t k => XS.aloadN X81.here hx rfl (hb hby d1_39) rfl rfl k) ?_
  show Gl _ _ _ _ _ _ _ (T81.setTop (mkF m 40 #[.val (.ref a1), .val (.ref a2), .val (.long q3), .second, .val (.int p4)] [(.ref a2), (.ref a1)]))
  obtain ⟨T92, h92, X92, e92, W92, st92⟩ := putF X81 hx hZ hown (host := "") (Or.inl (hw _ (List.mem_of_getElem? (i := 70) rfl))) Via.refl e81 F_path'85 E_a1'82 (Or.inr ⟨(hw _ (List.mem_of_getElem? (i := 71) rfl)), rfl, hnm⟩) (hw _ (List.mem_of_getElem? (i := 1) rfl)) (ty := (.object "java/lang/String")) (by decide) rfl rfl (g := (mkF m 40 #[.val (.ref a1), .val (.ref a2), .val (.long q3), .second, .val (.int p4)] [(.ref a2), (.ref a1)])) rfl rfl (hb hby d1_40)
  refine Gl.st st92 ?_
  have Z92 : n0 ≤ h92.size := Nat.le_trans Z81 (Keep.of_wr W92).1
  have N92 := Fr.snoc X92 N81 g_a1
  have K92 : Keep h0 h92 [a1] := K81.wr W92 (Or.inl (List.mem_of_getElem? (i := 0) rfl))
  have E_a1'93 : Exa Z h92 a1 "com/example/meisai/meisai/DiameterStream" := E_a1'82.wr W92
  have Fw20'94 : Fld Z h92 a1 "com/example/meisai/meisai/DiameterStream" "unread" "Lcom/example/meisai/meisai/DiameterStream$Unread;" (.ref b2) := Fw20'83.other W92 (Or.inr (slot_ne (Or.inr (hw _ (List.mem_of_getElem? (i := 46) rfl))) (Or.inr (hw _ (List.mem_of_getElem? (i := 71) rfl))) (by decide) (t := (.object "com/example/meisai/meisai/DiameterStream$Unread")) (t' := (.object "java/lang/String")) (by decide) (by decide)))
  have Fw49'95 : Fld Z h92 a1 "com/example/meisai/meisai/DiameterStream" "waiting" "Ljava/util/TreeMap;" (.ref b29) := Fw49'84.other W92 (Or.inr (slot_ne (Or.inr (hw _ (List.mem_of_getElem? (i := 67) rfl))) (Or.inr (hw _ (List.mem_of_getElem? (i := 71) rfl))) (by decide) (t := (.object "java/util/TreeMap")) (t' := (.object "java/lang/String")) (by decide) (by decide)))
  have Fw81'96 : Fld Z h92 a1 "com/example/meisai/meisai/DiameterStream" "preceding" "Ljava/util/TreeMap;" (.ref b59) := Fw81.other W92 (Or.inr (slot_ne (Or.inr (hw _ (List.mem_of_getElem? (i := 69) rfl))) (Or.inr (hw _ (List.mem_of_getElem? (i := 71) rfl))) (by decide) (t := (.object "java/util/TreeMap")) (t' := (.object "java/lang/String")) (by decide) (by decide)))
  have F_firstSequence'97 : Fld Z h92 a1 "com/example/meisai/meisai/DiameterStream" "firstSequence" "J" u_firstSequence := F_firstSequence'86.other W92 (Or.inr (slot_ne (Or.inr (hw _ (List.mem_of_getElem? (i := 73) rfl))) (Or.inr (hw _ (List.mem_of_getElem? (i := 71) rfl))) (by decide) (t := .long) (t' := (.object "java/lang/String")) (by decide) (by decide)))
  have F_afterSyn'98 : Fld Z h92 a1 "com/example/meisai/meisai/DiameterStream" "afterSyn" "Z" u_afterSyn := F_afterSyn'87.other W92 (Or.inr (slot_ne (Or.inr (hw _ (List.mem_of_getElem? (i := 75) rfl))) (Or.inr (hw _ (List.mem_of_getElem? (i := 71) rfl))) (by decide) (t := .boolean) (t' := (.object "java/lang/String")) (by decide) (by decide)))
  have F_start'99 : Fld Z h92 a1 "com/example/meisai/meisai/DiameterStream" "start" "J" u_start := F_start'88.other W92 (Or.inr (slot_ne (Or.inl (hw _ (List.mem_of_getElem? (i := 82) rfl))) (Or.inr (hw _ (List.mem_of_getElem? (i := 71) rfl))) (by decide) (t := .long) (t' := (.object "java/lang/String")) (by decide) (by decide)))
  have Fq11_0'100 : Exa Z h92 b2 "com/example/meisai/meisai/DiameterStream$Unread" := Fq11_0'89.wr W92
  have Fq39_0'101 : Exa Z h92 b29 "java/util/TreeMap" := Fq39_0'90.wr W92
  have Fq70_0'102 : Exa Z h92 b59 "java/util/TreeMap" := Fq70_0'91.wr W92
  have Fw92 : Fld Z h92 a1 "com/example/meisai/meisai/DiameterStream" "path" "Ljava/lang/String;" (.ref a2) := F_path'85.same W92
  show Gl _ _ _ _ _ _ _ (T92.setTop (mkF m 43 #[.val (.ref a1), .val (.ref a2), .val (.long q3), .second, .val (.int p4)] []))
  refine Gl.st (fun t k => XS.aloadN X92.here hx rfl (hb hby d1_43) rfl rfl k) ?_
  show Gl _ _ _ _ _ _ _ (T92.setTop (mkF m 44 #[.val (.ref a1), .val (.ref a2), .val (.long q3), .second, .val (.int p4)] [(.ref a1)]))
  refine Gl.st (fun t k => XS.lloadN X92.here hx rfl (hb hby d1_44) rfl  k) ?_
  show Gl _ _ _ _ _ _ _ (T92.setTop (mkF m 45 #[.val (.ref a1), .val (.ref a2), .val (.long q3), .second, .val (.int p4)] [(.long q3), (.ref a1)]))
  obtain ⟨T103, h103, X103, e103, W103, st103⟩ := putF X92 hx hZ hown (host := "") (Or.inl (hw _ (List.mem_of_getElem? (i := 72) rfl))) Via.refl e92 F_firstSequence'97 E_a1'93 (Or.inr ⟨(hw _ (List.mem_of_getElem? (i := 73) rfl)), rfl, hnm⟩) (hw _ (List.mem_of_getElem? (i := 1) rfl)) (ty := .long) (by decide) rfl rfl (g := (mkF m 45 #[.val (.ref a1), .val (.ref a2), .val (.long q3), .second, .val (.int p4)] [(.long q3), (.ref a1)])) rfl rfl (hb hby d1_45)
  refine Gl.st st103 ?_
  have Z103 : n0 ≤ h103.size := Nat.le_trans Z92 (Keep.of_wr W103).1
  have N103 := Fr.snoc X103 N92 g_a1
  have K103 : Keep h0 h103 [a1] := K92.wr W103 (Or.inl (List.mem_of_getElem? (i := 0) rfl))
  have E_a1'104 : Exa Z h103 a1 "com/example/meisai/meisai/DiameterStream" := E_a1'93.wr W103
  have Fw20'105 : Fld Z h103 a1 "com/example/meisai/meisai/DiameterStream" "unread" "Lcom/example/meisai/meisai/DiameterStream$Unread;" (.ref b2) := Fw20'94.other W103 (Or.inr (slot_ne (Or.inr (hw _ (List.mem_of_getElem? (i := 46) rfl))) (Or.inr (hw _ (List.mem_of_getElem? (i := 73) rfl))) (by decide) (t := (.object "com/example/meisai/meisai/DiameterStream$Unread")) (t' := .long) (by decide) (by decide)))
  have Fw49'106 : Fld Z h103 a1 "com/example/meisai/meisai/DiameterStream" "waiting" "Ljava/util/TreeMap;" (.ref b29) := Fw49'95.other W103 (Or.inr (slot_ne (Or.inr (hw _ (List.mem_of_getElem? (i := 67) rfl))) (Or.inr (hw _ (List.mem_of_getElem? (i := 73) rfl))) (by decide) (t := (.object "java/util/TreeMap")) (t' := .long) (by decide) (by decide)))
  have Fw81'107 : Fld Z h103 a1 "com/example/meisai/meisai/DiameterStream" "preceding" "Ljava/util/TreeMap;" (.ref b59) := Fw81'96.other W103 (Or.inr (slot_ne (Or.inr (hw _ (List.mem_of_getElem? (i := 69) rfl))) (Or.inr (hw _ (List.mem_of_getElem? (i := 73) rfl))) (by decide) (t := (.object "java/util/TreeMap")) (t' := .long) (by decide) (by decide)))
  have Fw92'108 : Fld Z h103 a1 "com/example/meisai/meisai/DiameterStream" "path" "Ljava/lang/String;" (.ref a2) := Fw92.other W103 (Or.inr (slot_ne (Or.inr (hw _ (List.mem_of_getElem? (i := 71) rfl))) (Or.inr (hw _ (List.mem_of_getElem? (i := 73) rfl))) (by decide) (t := (.object "java/lang/String")) (t' := .long) (by decide) (by decide)))
  have F_afterSyn'109 : Fld Z h103 a1 "com/example/meisai/meisai/DiameterStream" "afterSyn" "Z" u_afterSyn := F_afterSyn'98.other W103 (Or.inr (slot_ne (Or.inr (hw _ (List.mem_of_getElem? (i := 75) rfl))) (Or.inr (hw _ (List.mem_of_getElem? (i := 73) rfl))) (by decide) (t := .boolean) (t' := .long) (by decide) (by decide)))
  have F_start'110 : Fld Z h103 a1 "com/example/meisai/meisai/DiameterStream" "start" "J" u_start := F_start'99.other W103 (Or.inr (slot_ne (Or.inl (hw _ (List.mem_of_getElem? (i := 82) rfl))) (Or.inr (hw _ (List.mem_of_getElem? (i := 73) rfl))) (by decide) (t := .long) (t' := .long) (by decide) (by decide)))
  have Fq11_0'111 : Exa Z h103 b2 "com/example/meisai/meisai/DiameterStream$Unread" := Fq11_0'100.wr W103
  have Fq39_0'112 : Exa Z h103 b29 "java/util/TreeMap" := Fq39_0'101.wr W103
  have Fq70_0'113 : Exa Z h103 b59 "java/util/TreeMap" := Fq70_0'102.wr W103
  have Fw103 : Fld Z h103 a1 "com/example/meisai/meisai/DiameterStream" "firstSequence" "J" (.long q3) := F_firstSequence'97.same W103
  show Gl _ _ _ _ _ _ _ (T103.setTop (mkF m 48 #[.val (.ref a1), .val (.ref a2), .val (.long q3), .second, .val (.int p4)] []))
  refine Gl.st (fun t k => XS.aloadN X103.here hx rfl (hb hby d1_48) rfl rfl k) ?_
  show Gl _ _ _ _ _ _ _ (T103.setTop (mkF m 49 #[.val (.ref a1), .val (.ref a2), .val (.long q3), .second, .val (.int p4)] [(.ref a1)]))
  refine Gl.st (fun t k => XS.iload X103.here hx rfl (hb hby d1_49) rfl  k) ?_
  show Gl _ _ _ _ _ _ _ (T103.setTop (mkF m 51 #[.val (.ref a1), .val (.ref a2), .val (.long q3), .second, .val (.int p4)] [(.int p4), (.ref a1)]))
  obtain ⟨T114, h114, X114, e114, W114, st114⟩ := putFN X103 hx hZ hown (hw _ (List.mem_of_getElem? (i := 74) rfl)) Via.refl e103 F_afterSyn'109 E_a1'104 (Or.inr ⟨(hw _ (List.mem_of_getElem? (i := 75) rfl)), rfl, hnm⟩) (hw _ (List.mem_of_getElem? (i := 1) rfl)) (ty := .boolean) (v' := (.int (nar .boolean p4))) (by decide) rfl (fits_nar_bool _) (g := (mkF m 51 #[.val (.ref a1), .val (.ref a2), .val (.long q3), .second, .val (.int p4)] [(.int p4), (.ref a1)])) rfl rfl (hb hby d1_51)
  refine Gl.st st114 ?_
  have Z114 : n0 ≤ h114.size := Nat.le_trans Z103 (Keep.of_wr W114).1
  have N114 := Fr.snoc X114 N103 g_a1
  have K114 : Keep h0 h114 [a1] := K103.wr W114 (Or.inl (List.mem_of_getElem? (i := 0) rfl))
  have E_a1'115 : Exa Z h114 a1 "com/example/meisai/meisai/DiameterStream" := E_a1'104.wr W114
  have Fw20'116 : Fld Z h114 a1 "com/example/meisai/meisai/DiameterStream" "unread" "Lcom/example/meisai/meisai/DiameterStream$Unread;" (.ref b2) := Fw20'105.other W114 (Or.inr (slot_ne (Or.inr (hw _ (List.mem_of_getElem? (i := 46) rfl))) (Or.inr (hw _ (List.mem_of_getElem? (i := 75) rfl))) (by decide) (t := (.object "com/example/meisai/meisai/DiameterStream$Unread")) (t' := .boolean) (by decide) (by decide)))
  have Fw49'117 : Fld Z h114 a1 "com/example/meisai/meisai/DiameterStream" "waiting" "Ljava/util/TreeMap;" (.ref b29) := Fw49'106.other W114 (Or.inr (slot_ne (Or.inr (hw _ (List.mem_of_getElem? (i := 67) rfl))) (Or.inr (hw _ (List.mem_of_getElem? (i := 75) rfl))) (by decide) (t := (.object "java/util/TreeMap")) (t' := .boolean) (by decide) (by decide)))
  have Fw81'118 : Fld Z h114 a1 "com/example/meisai/meisai/DiameterStream" "preceding" "Ljava/util/TreeMap;" (.ref b59) := Fw81'107.other W114 (Or.inr (slot_ne (Or.inr (hw _ (List.mem_of_getElem? (i := 69) rfl))) (Or.inr (hw _ (List.mem_of_getElem? (i := 75) rfl))) (by decide) (t := (.object "java/util/TreeMap")) (t' := .boolean) (by decide) (by decide)))
  have Fw92'119 : Fld Z h114 a1 "com/example/meisai/meisai/DiameterStream" "path" "Ljava/lang/String;" (.ref a2) := Fw92'108.other W114 (Or.inr (slot_ne (Or.inr (hw _ (List.mem_of_getElem? (i := 71) rfl))) (Or.inr (hw _ (List.mem_of_getElem? (i := 75) rfl))) (by decide) (t := (.object "java/lang/String")) (t' := .boolean) (by decide) (by decide)))
  have Fw103'120 : Fld Z h114 a1 "com/example/meisai/meisai/DiameterStream" "firstSequence" "J" (.long q3) := Fw103.other W114 (Or.inr (slot_ne (Or.inr (hw _ (List.mem_of_getElem? (i := 73) rfl))) (Or.inr (hw _ (List.mem_of_getElem? (i := 75) rfl))) (by decide) (t := .long) (t' := .boolean) (by decide) (by decide)))
  have F_start'121 : Fld Z h114 a1 "com/example/meisai/meisai/DiameterStream" "start" "J" u_start := F_start'110.other W114 (Or.inr (slot_ne (Or.inl (hw _ (List.mem_of_getElem? (i := 82) rfl))) (Or.inr (hw _ (List.mem_of_getElem? (i := 75) rfl))) (by decide) (t := .long) (t' := .boolean) (by decide) (by decide)))
  have Fq11_0'122 : Exa Z h114 b2 "com/example/meisai/meisai/DiameterStream$Unread" := Fq11_0'111.wr W114
  have Fq39_0'123 : Exa Z h114 b29 "java/util/TreeMap" := Fq39_0'112.wr W114
  have Fq70_0'124 : Exa Z h114 b59 "java/util/TreeMap" := Fq70_0'113.wr W114
  have Fw114 : Fld Z h114 a1 "com/example/meisai/meisai/DiameterStream" "afterSyn" "Z" (.int (nar .boolean p4)) := F_afterSyn'109.same W114
  show Gl _ _ _ _ _ _ _ (T114.setTop (mkF m 54 #[.val (.ref a1), .val (.ref a2), .val (.long q3), .second, .val (.int p4)] []))
  exact Gl.retV X114 hx hlk Bd.returns (hb hby d1_54) (by
        rw [e114]
        exact ⟨rfl, N114, K114, E_a1'115, Fw103'120, F_start'121⟩) (by decide) (by decide)
def own_starts (q2 : Int64) (w0 : Int64) (w1 : Int64) : Int32 := (if q2 = ((w0 + w1) &&& (4294967295 : Int64)) then (nar .boolean (1 : Int32)) else (nar .boolean (0 : Int32)))
theorem d8_0 : decode prog_7_method_2_code 0 = .ok (.lload_n 1, 1) := by decide +kernel
theorem d8_1 : decode prog_7_method_2_code 1 = .ok (.aload_n 0, 1) := by decide +kernel
theorem d8_2 : decode prog_7_method_2_code 2 = .ok (.getfield 32, 3) := by decide +kernel
theorem d8_5 : decode prog_7_method_2_code 5 = .ok (.aload_n 0, 1) := by decide +kernel
theorem d8_6 : decode prog_7_method_2_code 6 = .ok (.getfield 40, 3) := by decide +kernel
theorem d8_9 : decode prog_7_method_2_code 9 = .ok (.ladd, 1) := by decide +kernel
theorem d8_10 : decode prog_7_method_2_code 10 = .ok (.ldc2_w 45, 3) := by decide +kernel
theorem d8_13 : decode prog_7_method_2_code 13 = .ok (.land, 1) := by decide +kernel
theorem d8_14 : decode prog_7_method_2_code 14 = .ok (.lcmp, 1) := by decide +kernel
theorem d8_15 : decode prog_7_method_2_code 15 = .ok (.ifCond .ne 7, 3) := by decide +kernel
theorem d8_18 : decode prog_7_method_2_code 18 = .ok (.iconst 1, 1) := by decide +kernel
theorem d8_19 : decode prog_7_method_2_code 19 = .ok (.goto 4, 3) := by decide +kernel
theorem d8_22 : decode prog_7_method_2_code 22 = .ok (.iconst 0, 1) := by decide +kernel
theorem d8_23 : decode prog_7_method_2_code 23 = .ok (.ireturn, 1) := by decide +kernel
theorem pf_6 : plainFor (⟨"com/example/meisai/meisai/DiameterStream", "startsAt", "(J)Z"⟩ : MethodName) = true := by decide +kernel
def Q8 (Z : State) (a1 : Addr) (q2 : Int64) (w0 : Int64) (w1 : Int64) (h0 : Heap) (n0 : Nat) (v : Option Value) (h : Heap) (L : List Loc) : Prop := v = some (.int (own_starts q2 w0 w1)) ∧ Fr n0 L ∧ h = h0
theorem ef_8 (m : MethodId) (a1 : Addr) (q2 : Int64) : entryFrame m #[(.ref a1), (.long q2)] 3 = mkF m 0 #[.val (.ref a1), .val (.long q2), .second] [] := by first | (simp [entryFrame, mkF, argsToLocals, Value.category]; done) | rfl
set_option maxRecDepth 65536 in
set_option maxHeartbeats 40000000 in
theorem rm8 (l : Launch) (Z : State) (a0 : Array Value) (hw : ∀ d ∈ tables_1, d.before a0 Z = true) (ws : List Jvm.Cond) (a1 : Addr) (q2 : Int64) (w0 : Int64) (w1 : Int64) (h0 : Heap) (n0 : Nat) (Ff : Fld Z h0 a1 "com/example/meisai/meisai/DiameterStream" "firstSequence" "J" (.long w0)) (Fs : Fld Z h0 a1 "com/example/meisai/meisai/DiameterStream" "start" "J" (.long w1)) :
    MetFree l (⟨"com/example/meisai/meisai/DiameterStream", "startsAt", "(J)Z"⟩ : MethodName) (head1 (Jvm.Cond.code (⟨"com/example/meisai/meisai/DiameterStream", "startsAt", "(J)Z"⟩ : MethodName) prog_7_method_2_code 3 (some .boolean) :: ws) ({ frames := 0, cells := 0, slots := 0, locals := 0 } : Room)) (fun a U => a = #[(.ref a1), (.long q2)] ∧ Z.Warmed39 U.vm ∧ U.heap = h0) (fun _ _ _ _ _ => True) (fun _ U o U' => ∃ v L, o = .returned v ∧ Q8 Z a1 q2 w0 w1 h0 n0 v U'.heap L ∧ FrameEnd U o U' L ({ frames := 0, cells := 0, slots := 0, locals := 0 } : Room).cells ({ frames := 0, cells := 0, slots := 0, locals := 0 } : Room).slots) := by
  refine MetFree.of_bodySF pf_6 hisR ?_
  intro p e s m args below meth c s₁ Bd hml0 hP hK
  obtain ⟨rfl, hZ, hh⟩ := hP
  have hx := Bd.exec
  have hby := Bd.bytes
  have hlk : meth.locks = false := BodyLoose.notSynchronized Bd
  have hml : c.maxLocals = 3 := hml0
  have hown : s.vm.findClass "com/example/meisai/meisai/DiameterStream" = some m.cls := findClass_of_methodNamed Bd.named
  have hnm := (name_of_methodNamed Bd.named Bd.method).1
  have X0 : Stand p l e ({ frames := 0, cells := 0, slots := 0, locals := 0 } : Room) s m #[(.ref a1), (.long q2)] below meth c s₁ [] 0 0 := Stand.of_body Bd
  have e0 : s₁.heap = h0 := by rw [← hh, Bd.state]; rfl
  have N0 := Fr.nil n0
  show Gl p e below s (Q8 Z a1 q2 w0 w1 h0 n0) ({ frames := 0, cells := 0, slots := 0, locals := 0 } : Room).cells ({ frames := 0, cells := 0, slots := 0, locals := 0 } : Room).slots (s₁.setTop (entryFrame m #[(.ref a1), (.long q2)] 3))
  rw [ef_8]
  show Gl _ _ _ _ _ _ _ (s₁.setTop (mkF m 0 #[.val (.ref a1), .val (.long q2), .second] []))
  refine Gl.st (fun t k => XS.lloadN X0.here hx rfl (hb hby d8_0) rfl  k) ?_
  show Gl _ _ _ _ _ _ _ (s₁.setTop (mkF m 1 #[.val (.ref a1), .val (.long q2), .second] [(.long q2)]))
  refine Gl.st (fun t k => XS.aloadN X0.here hx rfl (hb hby d8_1) rfl rfl k) ?_
  show Gl _ _ _ _ _ _ _ (s₁.setTop (mkF m 2 #[.val (.ref a1), .val (.long q2), .second] [(.ref a1), (.long q2)]))
  obtain ⟨T1, X1, e1, st1⟩ := getF X0 hx hZ hown (host := "") (Or.inl (hw _ (List.mem_of_getElem? (i := 72) rfl))) Via.refl e0 Ff (g := (mkF m 2 #[.val (.ref a1), .val (.long q2), .second] [(.ref a1), (.long q2)])) rfl rfl (hb hby d8_2)
  refine Gl.st st1 ?_
  show Gl _ _ _ _ _ _ _ (T1.setTop (mkF m 5 #[.val (.ref a1), .val (.long q2), .second] [(.long w0), (.long q2)]))
  refine Gl.st (fun t k => XS.aloadN X1.here hx rfl (hb hby d8_5) rfl rfl k) ?_
  show Gl _ _ _ _ _ _ _ (T1.setTop (mkF m 6 #[.val (.ref a1), .val (.long q2), .second] [(.ref a1), (.long w0), (.long q2)]))
  obtain ⟨T2, X2, e2, st2⟩ := getF X1 hx hZ hown (host := "") (Or.inl (hw _ (List.mem_of_getElem? (i := 81) rfl))) Via.refl e1 Fs (g := (mkF m 6 #[.val (.ref a1), .val (.long q2), .second] [(.ref a1), (.long w0), (.long q2)])) rfl rfl (hb hby d8_6)
  refine Gl.st st2 ?_
  show Gl _ _ _ _ _ _ _ (T2.setTop (mkF m 9 #[.val (.ref a1), .val (.long q2), .second] [(.long w1), (.long w0), (.long q2)]))
  refine Gl.st (fun t k => XS.ladd X2.here hx rfl (hb hby d8_9) rfl k) ?_
  show Gl _ _ _ _ _ _ _ (T2.setTop (mkF m 10 #[.val (.ref a1), .val (.long q2), .second] [(.long (w0 + w1)), (.long q2)]))
  refine Gl.st (X2.ldc2Long hx hown (mvT hZ (hw _ (List.mem_of_getElem? (i := 83) rfl))) (g := (mkF m 10 #[.val (.ref a1), .val (.long q2), .second] [(.long (w0 + w1)), (.long q2)])) rfl (hb hby d8_10)) ?_
  show Gl _ _ _ _ _ _ _ (T2.setTop (mkF m 13 #[.val (.ref a1), .val (.long q2), .second] [(.long (4294967295 : Int64)), (.long (w0 + w1)), (.long q2)]))
  refine Gl.st (fun t k => XS.land X2.here hx rfl (hb hby d8_13) rfl k) ?_
  show Gl _ _ _ _ _ _ _ (T2.setTop (mkF m 14 #[.val (.ref a1), .val (.long q2), .second] [(.long ((w0 + w1) &&& (4294967295 : Int64))), (.long q2)]))
  refine Gl.st (fun t k => XS.lcmp X2.here hx rfl (hb hby d8_14) rfl k) ?_
  show Gl _ _ _ _ _ _ _ (T2.setTop (mkF m 15 #[.val (.ref a1), .val (.long q2), .second] [(.int (lcmpW q2 ((w0 + w1) &&& (4294967295 : Int64))))]))
  by_cases hc15 : q2 = ((w0 + w1) &&& (4294967295 : Int64))
  · refine Gl.st (fun t k => XS.ifNo X2.here hx rfl (hb hby d8_15) rfl (le_t hc15).2 k) ?_
    show Gl _ _ _ _ _ _ _ (T2.setTop (mkF m 18 #[.val (.ref a1), .val (.long q2), .second] []))
    refine Gl.st (fun t k => XS.iconst X2.here hx rfl (hb hby d8_18) k) ?_
    show Gl _ _ _ _ _ _ _ (T2.setTop (mkF m 19 #[.val (.ref a1), .val (.long q2), .second] [(.int (1 : Int32))]))
    refine Gl.st (fun t k => XS.goto X2.here hx rfl (pc0 := 19) (pc' := 23) rfl (hb hby d8_19) (by decide) (by decide) k) ?_
    show Gl _ _ _ _ _ _ _ (T2.setTop (mkF m 23 #[.val (.ref a1), .val (.long q2), .second] [(.int (1 : Int32))]))
    exact Gl.retN X2 hx hlk Bd.returns (by simp) (hb hby d8_23) (⟨congrArg (fun z => some (Value.int z)) (show (nar .boolean (1 : Int32)) = (own_starts q2 w0 w1) from by simp only [own_starts, if_pos hc15]), N0, e2⟩) (by decide) (by decide)
  · refine Gl.st (fun t k => XS.ifYes X2.here hx rfl (pc0 := 15) (pc' := 22) rfl (hb hby d8_15) rfl (le_f hc15).2 (by decide) (by decide) k) ?_
    show Gl _ _ _ _ _ _ _ (T2.setTop (mkF m 22 #[.val (.ref a1), .val (.long q2), .second] []))
    refine Gl.st (fun t k => XS.iconst X2.here hx rfl (hb hby d8_22) k) ?_
    show Gl _ _ _ _ _ _ _ (T2.setTop (mkF m 23 #[.val (.ref a1), .val (.long q2), .second] [(.int (0 : Int32))]))
    exact Gl.retN X2 hx hlk Bd.returns (by simp) (hb hby d8_23) (⟨congrArg (fun z => some (Value.int z)) (show (nar .boolean (0 : Int32)) = (own_starts q2 w0 w1) from by simp only [own_starts, if_neg hc15]), N0, e2⟩) (by decide) (by decide)
theorem own_xor (s f : Int64) : ((s ^^^ f) &&& (4294967295 : Int64)) = 0 ↔ (s &&& (4294967295 : Int64)) = (f &&& (4294967295 : Int64)) := by
  have d : ∀ x y m : BitVec 64, (x ^^^ y) &&& m = (x &&& m) ^^^ (y &&& m) := fun x y m => by
    apply BitVec.eq_of_getLsbD_eq
    intro i hi
    simp only [BitVec.getLsbD_and, BitVec.getLsbD_xor]
    cases x.getLsbD i <;> cases y.getLsbD i <;> cases m.getLsbD i <;> rfl
  rw [← Int64.toBitVec_inj, ← Int64.toBitVec_inj]
  show (s.toBitVec ^^^ f.toBitVec) &&& (4294967295 : Int64).toBitVec = 0#64 ↔ s.toBitVec &&& (4294967295 : Int64).toBitVec = f.toBitVec &&& (4294967295 : Int64).toBitVec
  rw [d]
  generalize s.toBitVec &&& (4294967295 : Int64).toBitVec = x
  generalize f.toBitVec &&& (4294967295 : Int64).toBitVec = y
  constructor
  · intro h
    have e : x = (x ^^^ y) ^^^ y := by rw [BitVec.xor_assoc, BitVec.xor_self, BitVec.xor_zero]
    rw [e, h, BitVec.zero_xor]
  · rintro rfl
    exact BitVec.xor_self
theorem own_final (s f : Int64) : own_starts s f 0 = (if s < (0 : Int64) then (0 : Int32) else (if (4294967295 : Int64) < s then (0 : Int32) else (if ((s ^^^ f) &&& (4294967295 : Int64)) = (0 : Int64) then (1 : Int32) else (0 : Int32)))) := by
  have a := c_maskL s 4294967295 32 (by decide) (by decide)
  have b := c_maskL f 4294967295 32 (by decide) (by decide)
  have e0 : (0 : Int64).toInt = 0 := by decide
  have eM : (4294967295 : Int64).toInt = 4294967295 := by decide
  have p32 : ((2 ^ 32 : Nat) : Int) = 4294967296 := by decide
  rw [p32] at a b
  unfold own_starts
  rw [Int64.add_zero]
  by_cases h : s = (f &&& (4294967295 : Int64))
  · have r1 : ¬ s < (0 : Int64) := by rw [Int64.lt_iff_toInt_lt, e0, h]; omega
    have r2 : ¬ (4294967295 : Int64) < s := by rw [Int64.lt_iff_toInt_lt, eM, h]; omega
    have r3 : ((s ^^^ f) &&& (4294967295 : Int64)) = (0 : Int64) := (own_xor s f).mpr (by rw [← h, ← Int64.toInt_inj, a]; rw [← Int64.toInt_inj] at h; omega)
    rw [if_pos h, if_neg r1, if_neg r2, if_pos r3]; rfl
  · rw [if_neg h]
    by_cases r1 : s < (0 : Int64)
    · rw [if_pos r1]; rfl
    · by_cases r2 : (4294967295 : Int64) < s
      · rw [if_neg r1, if_pos r2]; rfl
      · have r3 : ¬ ((s ^^^ f) &&& (4294967295 : Int64)) = (0 : Int64) := fun q => h (by
          rw [← (own_xor s f).mp q, ← Int64.toInt_inj, a]
          rw [Int64.lt_iff_toInt_lt, e0] at r1
          rw [Int64.lt_iff_toInt_lt, eM] at r2
          omega)
        rw [if_neg r1, if_neg r2, if_neg r3]; rfl
theorem pf_7 : plainFor (⟨"com/example/meisai/meisai/DiameterStreamStartsAtPinLaw", "law", "(JJII)Z"⟩ : MethodName) = true := by decide +kernel
def Q0 (Z : State) (q1 : Int64) (q2 : Int64) (p3 : Int32) (p4 : Int32) (h0 : Heap) (n0 : Nat) (v : Option Value) (h : Heap) (L : List Loc) : Prop := v = some (.int 1) ∧ Fr n0 L
theorem ef_0 (m : MethodId) (q1 : Int64) (q2 : Int64) (p3 : Int32) (p4 : Int32) : entryFrame m #[(.long q1), (.long q2), (.int p3), (.int p4)] maxLocals = mkF m 0 #[.val (.long q1), .second, .val (.long q2), .second, .val (.int p3), .val (.int p4), .unset, .unset, .unset, .unset, .unset, .unset, .unset] [] := by first | (simp [entryFrame, mkF, argsToLocals, Value.category, maxLocals]; done) | rfl
theorem pd_2 : parseMethodDescriptor "(Ljava/lang/String;JZ)V" = some ⟨[(.object "java/lang/String"), .long, .boolean], none⟩ := by decide +kernel
theorem pd_3 : parseMethodDescriptor "(J)Z" = some ⟨[.long], some .boolean⟩ := by decide +kernel
set_option maxRecDepth 65536 in
set_option maxHeartbeats 40000000 in
theorem rm0 (l : Launch) (Z : State) (a0 : Array Value) (hw : ∀ d ∈ tables_1, d.before a0 Z = true) (ws : List Jvm.Cond) (q1 : Int64) (q2 : Int64) (p3 : Int32) (p4 : Int32) (h0 : Heap) (n0 : Nat) (Z0 : n0 ≤ h0.size) :
    MetFree l x (head1 (Jvm.Cond.code x code maxLocals ret :: ws) room_1) (fun a U => a = #[(.long q1), (.long q2), (.int p3), (.int p4)] ∧ Z.Warmed39 U.vm ∧ U.heap = h0) (fun _ _ _ _ _ => True) (fun _ U o U' => ∃ v L, o = .returned v ∧ Q0 Z q1 q2 p3 p4 h0 n0 v U'.heap L ∧ ReturnedEndW U o U' L room_1.cells room_1.slots) := by
  refine MetFree.of_bodySF pf_7 hisR ?_
  intro p e s m args below meth c s₁ Bd hml0 hP hK
  obtain ⟨rfl, hZ, hh⟩ := hP
  have hx := Bd.exec
  have hby := Bd.bytes
  have hlk : meth.locks = false := BodyLoose.notSynchronized Bd
  have hml : c.maxLocals = 13 := hml0
  have hown : s.vm.findClass "com/example/meisai/meisai/DiameterStreamStartsAtPinLaw" = some m.cls := findClass_of_methodNamed Bd.named
  have hnm := (name_of_methodNamed Bd.named Bd.method).1
  have X0 : Stand p l e room_1 s m #[(.long q1), (.long q2), (.int p3), (.int p4)] below meth c s₁ [] 0 0 := Stand.of_body Bd
  have e0 : s₁.heap = h0 := by rw [← hh, Bd.state]; rfl
  have N0 := Fr.nil n0
  show GlW p e below s (Q0 Z q1 q2 p3 p4 h0 n0) room_1.cells room_1.slots (s₁.setTop (entryFrame m #[(.long q1), (.long q2), (.int p3), (.int p4)] maxLocals))
  rw [ef_0]
  show GlW _ _ _ _ _ _ _ (s₁.setTop (mkF m 0 #[.val (.long q1), .second, .val (.long q2), .second, .val (.int p3), .val (.int p4), .unset, .unset, .unset, .unset, .unset, .unset, .unset] []))
  refine GlW.st (fun t k => XS.iload X0.here hx rfl (hb hby at_0) rfl  k) ?_
  show GlW _ _ _ _ _ _ _ (s₁.setTop (mkF m 2 #[.val (.long q1), .second, .val (.long q2), .second, .val (.int p3), .val (.int p4), .unset, .unset, .unset, .unset, .unset, .unset, .unset] [(.int p3)]))
  refine GlW.st (fun t k => XS.iconst X0.here hx rfl (hb hby at_2) k) ?_
  show GlW _ _ _ _ _ _ _ (s₁.setTop (mkF m 3 #[.val (.long q1), .second, .val (.long q2), .second, .val (.int p3), .val (.int p4), .unset, .unset, .unset, .unset, .unset, .unset, .unset] [(.int (1 : Int32)), (.int p3)]))
  refine GlW.st (fun t k => XS.iand X0.here hx rfl (hb hby at_3) rfl k) ?_
  show GlW _ _ _ _ _ _ _ (s₁.setTop (mkF m 4 #[.val (.long q1), .second, .val (.long q2), .second, .val (.int p3), .val (.int p4), .unset, .unset, .unset, .unset, .unset, .unset, .unset] [(.int (p3 &&& (1 : Int32)))]))
  have J1 : ∀ (Tj1 : State) (Lj1 : List Loc) (Xj1 : Stand p l e room_1 s m #[(.long q1), (.long q2), (.int p3), (.int p4)] below meth c Tj1 Lj1 0 0) (ej1 : Tj1.heap = h0) (Nj1 : Fr n0 Lj1) (z12s0 : Int32) (hz12s0 : z12s0 = (if (p3 &&& (1 : Int32)) = (0 : Int32) then (0 : Int32) else (1 : Int32))), GlW p e below s (Q0 Z q1 q2 p3 p4 h0 n0) room_1.cells room_1.slots (Tj1.setTop (mkF m 12 #[.val (.long q1), .second, .val (.long q2), .second, .val (.int p3), .val (.int p4), .unset, .unset, .unset, .unset, .unset, .unset, .unset] [(.int z12s0)])) := by
    intro Tj1 Lj1 Xj1 ej1 Nj1 z12s0 hz12s0
    show GlW _ _ _ _ _ _ _ (Tj1.setTop (mkF m 12 #[.val (.long q1), .second, .val (.long q2), .second, .val (.int p3), .val (.int p4), .unset, .unset, .unset, .unset, .unset, .unset, .unset] [(.int z12s0)]))
    refine GlW.st (fun t k => XS.istore Xj1.here hx rfl (hb hby at_12) rfl (l' := #[.val (.long q1), .second, .val (.long q2), .second, .val (.int p3), .val (.int p4), .val (.int z12s0), .unset, .unset, .unset, .unset, .unset, .unset]) rfl k) ?_
    show GlW _ _ _ _ _ _ _ (Tj1.setTop (mkF m 14 #[.val (.long q1), .second, .val (.long q2), .second, .val (.int p3), .val (.int p4), .val (.int z12s0), .unset, .unset, .unset, .unset, .unset, .unset] []))
    refine GlW.st (fun t k => XS.iload Xj1.here hx rfl (hb hby at_14) rfl  k) ?_
    show GlW _ _ _ _ _ _ _ (Tj1.setTop (mkF m 16 #[.val (.long q1), .second, .val (.long q2), .second, .val (.int p3), .val (.int p4), .val (.int z12s0), .unset, .unset, .unset, .unset, .unset, .unset] [(.int p3)]))
    refine GlW.st (fun t k => XS.iconst Xj1.here hx rfl (hb hby at_16) k) ?_
    show GlW _ _ _ _ _ _ _ (Tj1.setTop (mkF m 17 #[.val (.long q1), .second, .val (.long q2), .second, .val (.int p3), .val (.int p4), .val (.int z12s0), .unset, .unset, .unset, .unset, .unset, .unset] [(.int (1 : Int32)), (.int p3)]))
    refine GlW.st (fun t k => XS.iushr Xj1.here hx rfl (hb hby at_17) rfl k) ?_
    show GlW _ _ _ _ _ _ _ (Tj1.setTop (mkF m 18 #[.val (.long q1), .second, .val (.long q2), .second, .val (.int p3), .val (.int p4), .val (.int z12s0), .unset, .unset, .unset, .unset, .unset, .unset] [(.int ((p3.toUInt32 >>> ((1 : Int32) &&& 31).toUInt32).toInt32))]))
    refine GlW.st (fun t k => XS.iconst Xj1.here hx rfl (hb hby at_18) k) ?_
    show GlW _ _ _ _ _ _ _ (Tj1.setTop (mkF m 19 #[.val (.long q1), .second, .val (.long q2), .second, .val (.int p3), .val (.int p4), .val (.int z12s0), .unset, .unset, .unset, .unset, .unset, .unset] [(.int (3 : Int32)), (.int ((p3.toUInt32 >>> ((1 : Int32) &&& 31).toUInt32).toInt32))]))
    refine GlW.st (fun t k => XS.iand Xj1.here hx rfl (hb hby at_19) rfl k) ?_
    show GlW _ _ _ _ _ _ _ (Tj1.setTop (mkF m 20 #[.val (.long q1), .second, .val (.long q2), .second, .val (.int p3), .val (.int p4), .val (.int z12s0), .unset, .unset, .unset, .unset, .unset, .unset] [(.int (((p3.toUInt32 >>> ((1 : Int32) &&& 31).toUInt32).toInt32) &&& (3 : Int32)))]))
    refine GlW.st (fun t k => XS.istore Xj1.here hx rfl (hb hby at_20) rfl (l' := #[.val (.long q1), .second, .val (.long q2), .second, .val (.int p3), .val (.int p4), .val (.int z12s0), .val (.int (((p3.toUInt32 >>> ((1 : Int32) &&& 31).toUInt32).toInt32) &&& (3 : Int32))), .unset, .unset, .unset, .unset, .unset]) rfl k) ?_
    show GlW _ _ _ _ _ _ _ (Tj1.setTop (mkF m 22 #[.val (.long q1), .second, .val (.long q2), .second, .val (.int p3), .val (.int p4), .val (.int z12s0), .val (.int (((p3.toUInt32 >>> ((1 : Int32) &&& 31).toUInt32).toInt32) &&& (3 : Int32))), .unset, .unset, .unset, .unset, .unset] []))
    refine GlW.st (fun t k => XS.iload Xj1.here hx rfl (hb hby at_22) rfl  k) ?_
    show GlW _ _ _ _ _ _ _ (Tj1.setTop (mkF m 24 #[.val (.long q1), .second, .val (.long q2), .second, .val (.int p3), .val (.int p4), .val (.int z12s0), .val (.int (((p3.toUInt32 >>> ((1 : Int32) &&& 31).toUInt32).toInt32) &&& (3 : Int32))), .unset, .unset, .unset, .unset, .unset] [(.int (((p3.toUInt32 >>> ((1 : Int32) &&& 31).toUInt32).toInt32) &&& (3 : Int32)))]))
    have J2 : ∀ (Tj2 : State) (Lj2 : List Loc) (Xj2 : Stand p l e room_1 s m #[(.long q1), (.long q2), (.int p3), (.int p4)] below meth c Tj2 Lj2 0 0) (ej2 : Tj2.heap = h0) (Nj2 : Fr n0 Lj2) (z96l8 : Int64) (hz96l8 : z96l8 = (if (((p3.toUInt32 >>> ((1 : Int32) &&& 31).toUInt32).toInt32) &&& (3 : Int32)) = (0 : Int32) then q2 else (if (((p3.toUInt32 >>> ((1 : Int32) &&& 31).toUInt32).toInt32) &&& (3 : Int32)) = (1 : Int32) then (q1 + (((p4 % (3 : Int32)).toInt64) <<< ((32 : Int32) &&& 0x3f).toInt64)) else (if (((p3.toUInt32 >>> ((1 : Int32) &&& 31).toUInt32).toInt32) &&& (3 : Int32)) = (2 : Int32) then (if (p4 &&& (1 : Int32)) = (0 : Int32) then (((q1.toInt32).toInt64) + (0 : Int64)) else (((q1.toInt32).toInt64) + (4294967296 : Int64))) else ((q1 + ((p4 % (5 : Int32)).toInt64)) - (2 : Int64)))))), GlW p e below s (Q0 Z q1 q2 p3 p4 h0 n0) room_1.cells room_1.slots (Tj2.setTop (mkF m 96 #[.val (.long q1), .second, .val (.long q2), .second, .val (.int p3), .val (.int p4), .val (.int z12s0), .val (.int (((p3.toUInt32 >>> ((1 : Int32) &&& 31).toUInt32).toInt32) &&& (3 : Int32))), .val (.long z96l8), .second, .unset, .unset, .unset] [])) := by
      intro Tj2 Lj2 Xj2 ej2 Nj2 z96l8 hz96l8
      show GlW _ _ _ _ _ _ _ (Tj2.setTop (mkF m 96 #[.val (.long q1), .second, .val (.long q2), .second, .val (.int p3), .val (.int p4), .val (.int z12s0), .val (.int (((p3.toUInt32 >>> ((1 : Int32) &&& 31).toUInt32).toInt32) &&& (3 : Int32))), .val (.long z96l8), .second, .unset, .unset, .unset] []))
      obtain ⟨T3, h3, X3, e3, E3, A3, D3, -, st3⟩ := newO Xj2 hx hZ hown (hw _ (List.mem_of_getElem? (i := 0) rfl)) (hw _ (List.mem_of_getElem? (i := 1) rfl)) (hw _ (List.mem_of_getElem? (i := 2) rfl)) ej2 (g := (mkF m 96 #[.val (.long q1), .second, .val (.long q2), .second, .val (.int p3), .val (.int p4), .val (.int z12s0), .val (.int (((p3.toUInt32 >>> ((1 : Int32) &&& 31).toUInt32).toInt32) &&& (3 : Int32))), .val (.long z96l8), .second, .unset, .unset, .unset] [])) rfl (hb hby at_96) (by decide) (by decide)
      obtain ⟨b3, g3⟩ : ∃ z, z = h0.size := ⟨_, rfl⟩
      rw [← g3] at A3 D3 st3
      refine GlW.st st3 ?_
      have gzb3 : n0 ≤ b3 := Nat.le_trans Z0 (Nat.le_of_eq g3.symm)
      have Z3 : n0 ≤ h3.size := Nat.le_trans Z0 E3.1
      have F3_unread : Fld Z h3 b3 "com/example/meisai/meisai/DiameterStream" "unread" "Lcom/example/meisai/meisai/DiameterStream$Unread;" .null := D3 (Or.inr (hw _ (List.mem_of_getElem? (i := 46) rfl))) (ty := (.object "com/example/meisai/meisai/DiameterStream$Unread")) (by decide)
      have F3_waiting : Fld Z h3 b3 "com/example/meisai/meisai/DiameterStream" "waiting" "Ljava/util/TreeMap;" .null := D3 (Or.inr (hw _ (List.mem_of_getElem? (i := 67) rfl))) (ty := (.object "java/util/TreeMap")) (by decide)
      have F3_preceding : Fld Z h3 b3 "com/example/meisai/meisai/DiameterStream" "preceding" "Ljava/util/TreeMap;" .null := D3 (Or.inr (hw _ (List.mem_of_getElem? (i := 69) rfl))) (ty := (.object "java/util/TreeMap")) (by decide)
      have F3_path : Fld Z h3 b3 "com/example/meisai/meisai/DiameterStream" "path" "Ljava/lang/String;" .null := D3 (Or.inr (hw _ (List.mem_of_getElem? (i := 71) rfl))) (ty := (.object "java/lang/String")) (by decide)
      have F3_firstSequence : Fld Z h3 b3 "com/example/meisai/meisai/DiameterStream" "firstSequence" "J" (.long (0 : Int64)) := D3 (Or.inr (hw _ (List.mem_of_getElem? (i := 73) rfl))) (ty := .long) (by decide)
      have F3_afterSyn : Fld Z h3 b3 "com/example/meisai/meisai/DiameterStream" "afterSyn" "Z" (.int (0 : Int32)) := D3 (Or.inr (hw _ (List.mem_of_getElem? (i := 75) rfl))) (ty := .boolean) (by decide)
      have F3_start : Fld Z h3 b3 "com/example/meisai/meisai/DiameterStream" "start" "J" (.long (0 : Int64)) := D3 (Or.inl (hw _ (List.mem_of_getElem? (i := 82) rfl))) (ty := .long) (by decide)
      show GlW _ _ _ _ _ _ _ (T3.setTop (mkF m 99 #[.val (.long q1), .second, .val (.long q2), .second, .val (.int p3), .val (.int p4), .val (.int z12s0), .val (.int (((p3.toUInt32 >>> ((1 : Int32) &&& 31).toUInt32).toInt32) &&& (3 : Int32))), .val (.long z96l8), .second, .unset, .unset, .unset] [(.ref b3)]))
      refine GlW.st (fun t k => XS.dup X3.here hx rfl (hb hby at_99) rfl rfl k) ?_
      show GlW _ _ _ _ _ _ _ (T3.setTop (mkF m 100 #[.val (.long q1), .second, .val (.long q2), .second, .val (.int p3), .val (.int p4), .val (.int z12s0), .val (.int (((p3.toUInt32 >>> ((1 : Int32) &&& 31).toUInt32).toInt32) &&& (3 : Int32))), .val (.long z96l8), .second, .unset, .unset, .unset] [(.ref b3), (.ref b3)]))
      have wS4 : ∀ a ∈ Bundle.stringAtoms, a.before a0 Z = true := fun d hd => by
        simp only [Bundle.stringAtoms, List.mem_cons, List.not_mem_nil, or_false] at hd
        rcases hd with rfl | rfl | rfl | rfl | rfl | rfl | rfl
        · exact (hw _ (List.mem_of_getElem? (i := 4) rfl))
        · exact (hw _ (List.mem_of_getElem? (i := 5) rfl))
        · exact (hw _ (List.mem_of_getElem? (i := 6) rfl))
        · exact (hw _ (List.mem_of_getElem? (i := 7) rfl))
        · exact (hw _ (List.mem_of_getElem? (i := 8) rfl))
        · exact (hw _ (List.mem_of_getElem? (i := 9) rfl))
        · exact (hw _ (List.mem_of_getElem? (i := 10) rfl))
      obtain ⟨sa4, T4, h4, kk4, X4, e4, E4, hS4, hkk4, hZ, hown, st4⟩ := ldcS (s := s) (vm0 := s.vm) X3 hx hZ hown (hw _ (List.mem_of_getElem? (i := 3) rfl)) wS4 e3 ((State.WarmedH.refl s).since 0) (Nat.zero_le _) (g := (mkF m 100 #[.val (.long q1), .second, .val (.long q2), .second, .val (.int p3), .val (.int p4), .val (.int z12s0), .val (.int (((p3.toUInt32 >>> ((1 : Int32) &&& 31).toUInt32).toInt32) &&& (3 : Int32))), .val (.long z96l8), .second, .unset, .unset, .unset] [(.ref b3), (.ref b3)])) rfl (hb hby at_100) (n := 4) (by decide) (by decide) (by decide) (by decide)
      refine GlW.st st4 ?_
      have Z4 : n0 ≤ h4.size := Nat.le_trans Z3 E4.1
      have A3'5 : Exa Z h4 b3 "com/example/meisai/meisai/DiameterStream" := A3.ext E4
      have F3_unread'6 : Fld Z h4 b3 "com/example/meisai/meisai/DiameterStream" "unread" "Lcom/example/meisai/meisai/DiameterStream$Unread;" .null := F3_unread.ext E4
      have F3_waiting'7 : Fld Z h4 b3 "com/example/meisai/meisai/DiameterStream" "waiting" "Ljava/util/TreeMap;" .null := F3_waiting.ext E4
      have F3_preceding'8 : Fld Z h4 b3 "com/example/meisai/meisai/DiameterStream" "preceding" "Ljava/util/TreeMap;" .null := F3_preceding.ext E4
      have F3_path'9 : Fld Z h4 b3 "com/example/meisai/meisai/DiameterStream" "path" "Ljava/lang/String;" .null := F3_path.ext E4
      have F3_firstSequence'10 : Fld Z h4 b3 "com/example/meisai/meisai/DiameterStream" "firstSequence" "J" (.long (0 : Int64)) := F3_firstSequence.ext E4
      have F3_afterSyn'11 : Fld Z h4 b3 "com/example/meisai/meisai/DiameterStream" "afterSyn" "Z" (.int (0 : Int32)) := F3_afterSyn.ext E4
      have F3_start'12 : Fld Z h4 b3 "com/example/meisai/meisai/DiameterStream" "start" "J" (.long (0 : Int64)) := F3_start.ext E4
      show GlW _ _ _ _ _ _ _ (T4.setTop (mkF m 102 #[.val (.long q1), .second, .val (.long q2), .second, .val (.int p3), .val (.int p4), .val (.int z12s0), .val (.int (((p3.toUInt32 >>> ((1 : Int32) &&& 31).toUInt32).toInt32) &&& (3 : Int32))), .val (.long z96l8), .second, .unset, .unset, .unset] [(.ref sa4), (.ref b3), (.ref b3)]))
      refine GlW.st (fun t k => XS.lloadN X4.here hx rfl (hb hby at_102) rfl  k) ?_
      show GlW _ _ _ _ _ _ _ (T4.setTop (mkF m 103 #[.val (.long q1), .second, .val (.long q2), .second, .val (.int p3), .val (.int p4), .val (.int z12s0), .val (.int (((p3.toUInt32 >>> ((1 : Int32) &&& 31).toUInt32).toInt32) &&& (3 : Int32))), .val (.long z96l8), .second, .unset, .unset, .unset] [(.long q1), (.ref sa4), (.ref b3), (.ref b3)]))
      refine GlW.st (fun t k => XS.iload X4.here hx rfl (hb hby at_103) rfl  k) ?_
      show GlW _ _ _ _ _ _ _ (T4.setTop (mkF m 105 #[.val (.long q1), .second, .val (.long q2), .second, .val (.int p3), .val (.int p4), .val (.int z12s0), .val (.int (((p3.toUInt32 >>> ((1 : Int32) &&& 31).toUInt32).toInt32) &&& (3 : Int32))), .val (.long z96l8), .second, .unset, .unset, .unset] [(.int z12s0), (.long q1), (.ref sa4), (.ref b3), (.ref b3)]))
      obtain ⟨_, _, ⟨T13, L13, k13, n13⟩, -, X13, ⟨Lc13, hQ13, l13, y13, z13⟩, st13⟩ := X4.specialBack hx (y := (⟨"com/example/meisai/meisai/DiameterStream", "<init>", "(Ljava/lang/String;JZ)V"⟩ : MethodName)) rfl hown (mvT hZ (hw _ (List.mem_of_getElem? (i := 11) rfl))) (mvT hZ (hw _ (List.mem_of_getElem? (i := 12) rfl))) (mvT hZ (hw _ (List.mem_of_getElem? (i := 13) rfl))) (by decide) (backOf (W := 1) (rm1 l Z a0 hw [] b3 sa4 q1 z12s0 (.null) (.null) (.null) (.null) ((.long (0 : Int64))) ((.int (0 : Int32))) ((.long (0 : Int64))) h4 n0 Z4 A3'5 F3_unread'6 F3_waiting'7 F3_preceding'8 F3_path'9 F3_firstSequence'10 F3_afterSyn'11 F3_start'12 gzb3) hZ (hw _ (List.mem_of_getElem? (i := 13) rfl)) (hw _ (List.mem_of_getElem? (i := 2) rfl)) (by decide) (by decide)) (g := (mkF m 105 #[.val (.long q1), .second, .val (.long q2), .second, .val (.int p3), .val (.int p4), .val (.int z12s0), .val (.int (((p3.toUInt32 >>> ((1 : Int32) &&& 31).toUInt32).toInt32) &&& (3 : Int32))), .val (.long z96l8), .second, .unset, .unset, .unset] [(.int z12s0), (.long q1), (.ref sa4), (.ref b3), (.ref b3)])) rfl (by rw [hml]; rfl) (Steps.refl _) (a := b3) (argsL := [(.ref sa4), (.long q1), (.int z12s0)]) (rest := [(.ref b3)]) (lenOf pd_2 rfl) rfl (by show 2 * 0 + _ ≤ _; exact Nat.le_of_eq rfl) (hb hby at_105) (fun _ _ => ⟨rfl, e4, (by decide : 3 + 5 ≤ _), (by decide : 18 + 41 ≤ _)⟩)
      dsimp only [Pt.U, Pt.locs, Pt.cells, Pt.slots] at X13 l13 y13 z13 st13 hQ13
      rw [y13, z13] at X13
      obtain ⟨rfl, N13q, Kq13, Fq13_0, Fq13_1, Fq13_2⟩ := hQ13
      have N13 : Fr n0 L13 := by rw [l13]; exact Fr.app Nj2 N13q
      have Z13 : n0 ≤ T13.heap.size := Nat.le_trans Z4 Kq13.1
      have kz13 : kk4 ≤ T13.heap.size := Nat.le_trans hkk4 Kq13.1
      refine GlW.to st13 ?_
      show GlW _ _ _ _ _ _ _ (T13.setTop (mkF m 108 #[.val (.long q1), .second, .val (.long q2), .second, .val (.int p3), .val (.int p4), .val (.int z12s0), .val (.int (((p3.toUInt32 >>> ((1 : Int32) &&& 31).toUInt32).toInt32) &&& (3 : Int32))), .val (.long z96l8), .second, .unset, .unset, .unset] [(.ref b3)]))
      refine GlW.st (fun t k => XS.astore X13.here hx rfl (hb hby at_108) rfl rfl (l' := #[.val (.long q1), .second, .val (.long q2), .second, .val (.int p3), .val (.int p4), .val (.int z12s0), .val (.int (((p3.toUInt32 >>> ((1 : Int32) &&& 31).toUInt32).toInt32) &&& (3 : Int32))), .val (.long z96l8), .second, .val (.ref b3), .unset, .unset]) rfl k) ?_
      show GlW _ _ _ _ _ _ _ (T13.setTop (mkF m 110 #[.val (.long q1), .second, .val (.long q2), .second, .val (.int p3), .val (.int p4), .val (.int z12s0), .val (.int (((p3.toUInt32 >>> ((1 : Int32) &&& 31).toUInt32).toInt32) &&& (3 : Int32))), .val (.long z96l8), .second, .val (.ref b3), .unset, .unset] []))
      refine GlW.st (fun t k => XS.aload X13.here hx rfl (hb hby at_110) rfl rfl k) ?_
      show GlW _ _ _ _ _ _ _ (T13.setTop (mkF m 112 #[.val (.long q1), .second, .val (.long q2), .second, .val (.int p3), .val (.int p4), .val (.int z12s0), .val (.int (((p3.toUInt32 >>> ((1 : Int32) &&& 31).toUInt32).toInt32) &&& (3 : Int32))), .val (.long z96l8), .second, .val (.ref b3), .unset, .unset] [(.ref b3)]))
      refine GlW.st (fun t k => XS.lload X13.here hx rfl (hb hby at_112) rfl  k) ?_
      show GlW _ _ _ _ _ _ _ (T13.setTop (mkF m 114 #[.val (.long q1), .second, .val (.long q2), .second, .val (.int p3), .val (.int p4), .val (.int z12s0), .val (.int (((p3.toUInt32 >>> ((1 : Int32) &&& 31).toUInt32).toInt32) &&& (3 : Int32))), .val (.long z96l8), .second, .val (.ref b3), .unset, .unset] [(.long z96l8), (.ref b3)]))
      obtain ⟨cq14, kq14, qa14, qb14, qc14⟩ := isOf hZ rfl Fq13_0
      obtain ⟨_, _, ⟨T14, L14, k14, n14⟩, -, X14, ⟨Lc14, hQ14, l14, y14, z14⟩, st14⟩ := X13.virtualBack hx (y := (⟨"com/example/meisai/meisai/DiameterStream", "startsAt", "(J)Z"⟩ : MethodName)) (z := (⟨"com/example/meisai/meisai/DiameterStream", "startsAt", "(J)Z"⟩ : MethodName)) hown (mvT hZ (hw _ (List.mem_of_getElem? (i := 76) rfl))) (mvT hZ (hw _ (List.mem_of_getElem? (i := 77) rfl))) (notFace_of_selects (args := #[]) (mvT hZ (hw _ (List.mem_of_getElem? (i := 79) rfl)))) (mvT hZ (hw _ (List.mem_of_getElem? (i := 79) rfl))) (mvT hZ (hw _ (List.mem_of_getElem? (i := 78) rfl))) (by decide) (backOf (W := 0) (rm8 l Z a0 hw [] b3 z96l8 (q1) ((0 : Int64)) T13.heap n0  Fq13_1 Fq13_2) hZ (hw _ (List.mem_of_getElem? (i := 80) rfl)) (hw _ (List.mem_of_getElem? (i := 2) rfl)) (by decide) (by decide)) qa14 qc14 (g := (mkF m 114 #[.val (.long q1), .second, .val (.long q2), .second, .val (.int p3), .val (.int p4), .val (.int z12s0), .val (.int (((p3.toUInt32 >>> ((1 : Int32) &&& 31).toUInt32).toInt32) &&& (3 : Int32))), .val (.long z96l8), .second, .val (.ref b3), .unset, .unset] [(.long z96l8), (.ref b3)])) rfl (by rw [hml]; rfl) (Steps.refl _) (argsL := [(.long z96l8)]) (rest := []) (lenOf pd_3 rfl) rfl (by show 2 * 0 + _ ≤ _; exact Nat.le_of_eq rfl) (hb hby at_114) (fun _ _ => ⟨rfl, rfl, (by decide : 8 + 0 ≤ _), (by decide : 59 + 0 ≤ _)⟩)
      dsimp only [Pt.U, Pt.locs, Pt.cells, Pt.slots] at X14 l14 y14 z14 st14 hQ14
      rw [y14, z14] at X14
      obtain ⟨rfl, N14q, e14⟩ := hQ14
      have N14 : Fr n0 L14 := by rw [l14]; exact Fr.app N13 N14q
      refine GlW.to st14 ?_
      show GlW _ _ _ _ _ _ _ (T14.setTop (mkF m 117 #[.val (.long q1), .second, .val (.long q2), .second, .val (.int p3), .val (.int p4), .val (.int z12s0), .val (.int (((p3.toUInt32 >>> ((1 : Int32) &&& 31).toUInt32).toInt32) &&& (3 : Int32))), .val (.long z96l8), .second, .val (.ref b3), .unset, .unset] [(.int (own_starts z96l8 q1 (0 : Int64)))]))
      refine GlW.st (fun t k => XS.istore X14.here hx rfl (hb hby at_117) rfl (l' := #[.val (.long q1), .second, .val (.long q2), .second, .val (.int p3), .val (.int p4), .val (.int z12s0), .val (.int (((p3.toUInt32 >>> ((1 : Int32) &&& 31).toUInt32).toInt32) &&& (3 : Int32))), .val (.long z96l8), .second, .val (.ref b3), .val (.int (own_starts z96l8 q1 (0 : Int64))), .unset]) rfl k) ?_
      show GlW _ _ _ _ _ _ _ (T14.setTop (mkF m 119 #[.val (.long q1), .second, .val (.long q2), .second, .val (.int p3), .val (.int p4), .val (.int z12s0), .val (.int (((p3.toUInt32 >>> ((1 : Int32) &&& 31).toUInt32).toInt32) &&& (3 : Int32))), .val (.long z96l8), .second, .val (.ref b3), .val (.int (own_starts z96l8 q1 (0 : Int64))), .unset] []))
      refine GlW.st (fun t k => XS.lload X14.here hx rfl (hb hby at_119) rfl  k) ?_
      show GlW _ _ _ _ _ _ _ (T14.setTop (mkF m 121 #[.val (.long q1), .second, .val (.long q2), .second, .val (.int p3), .val (.int p4), .val (.int z12s0), .val (.int (((p3.toUInt32 >>> ((1 : Int32) &&& 31).toUInt32).toInt32) &&& (3 : Int32))), .val (.long z96l8), .second, .val (.ref b3), .val (.int (own_starts z96l8 q1 (0 : Int64))), .unset] [(.long z96l8)]))
      refine GlW.st (fun t k => XS.lconst X14.here hx rfl (hb hby at_121) k) ?_
      show GlW _ _ _ _ _ _ _ (T14.setTop (mkF m 122 #[.val (.long q1), .second, .val (.long q2), .second, .val (.int p3), .val (.int p4), .val (.int z12s0), .val (.int (((p3.toUInt32 >>> ((1 : Int32) &&& 31).toUInt32).toInt32) &&& (3 : Int32))), .val (.long z96l8), .second, .val (.ref b3), .val (.int (own_starts z96l8 q1 (0 : Int64))), .unset] [(.long (0 : Int64)), (.long z96l8)]))
      refine GlW.st (fun t k => XS.lcmp X14.here hx rfl (hb hby at_122) rfl k) ?_
      show GlW _ _ _ _ _ _ _ (T14.setTop (mkF m 123 #[.val (.long q1), .second, .val (.long q2), .second, .val (.int p3), .val (.int p4), .val (.int z12s0), .val (.int (((p3.toUInt32 >>> ((1 : Int32) &&& 31).toUInt32).toInt32) &&& (3 : Int32))), .val (.long z96l8), .second, .val (.ref b3), .val (.int (own_starts z96l8 q1 (0 : Int64))), .unset] [(.int (lcmpW z96l8 (0 : Int64)))]))
      have J15 : ∀ (Tj15 : State) (Lj15 : List Loc) (Xj15 : Stand p l e room_1 (s.setVm T4.vm) m #[(.long q1), (.long q2), (.int p3), (.int p4)] below meth c Tj15 Lj15 8 59) (ej15 : Tj15.heap = T13.heap) (Nj15 : Fr n0 Lj15) (z153s0 : Int32) (hz153s0 : z153s0 = (if z96l8 < (0 : Int64) then (0 : Int32) else (if (4294967295 : Int64) < z96l8 then (0 : Int32) else (if ((z96l8 ^^^ q1) &&& (4294967295 : Int64)) = (0 : Int64) then (1 : Int32) else (0 : Int32))))), GlW p e below s (Q0 Z q1 q2 p3 p4 h0 n0) room_1.cells room_1.slots (Tj15.setTop (mkF m 153 #[.val (.long q1), .second, .val (.long q2), .second, .val (.int p3), .val (.int p4), .val (.int z12s0), .val (.int (((p3.toUInt32 >>> ((1 : Int32) &&& 31).toUInt32).toInt32) &&& (3 : Int32))), .val (.long z96l8), .second, .val (.ref b3), .val (.int (own_starts z96l8 q1 (0 : Int64))), .unset] [(.int z153s0)])) := by
        intro Tj15 Lj15 Xj15 ej15 Nj15 z153s0 hz153s0
        show GlW _ _ _ _ _ _ _ (Tj15.setTop (mkF m 153 #[.val (.long q1), .second, .val (.long q2), .second, .val (.int p3), .val (.int p4), .val (.int z12s0), .val (.int (((p3.toUInt32 >>> ((1 : Int32) &&& 31).toUInt32).toInt32) &&& (3 : Int32))), .val (.long z96l8), .second, .val (.ref b3), .val (.int (own_starts z96l8 q1 (0 : Int64))), .unset] [(.int z153s0)]))
        refine GlW.st (fun t k => XS.istore Xj15.here hx rfl (hb hby at_153) rfl (l' := #[.val (.long q1), .second, .val (.long q2), .second, .val (.int p3), .val (.int p4), .val (.int z12s0), .val (.int (((p3.toUInt32 >>> ((1 : Int32) &&& 31).toUInt32).toInt32) &&& (3 : Int32))), .val (.long z96l8), .second, .val (.ref b3), .val (.int (own_starts z96l8 q1 (0 : Int64))), .val (.int z153s0)]) rfl k) ?_
        show GlW _ _ _ _ _ _ _ (Tj15.setTop (mkF m 155 #[.val (.long q1), .second, .val (.long q2), .second, .val (.int p3), .val (.int p4), .val (.int z12s0), .val (.int (((p3.toUInt32 >>> ((1 : Int32) &&& 31).toUInt32).toInt32) &&& (3 : Int32))), .val (.long z96l8), .second, .val (.ref b3), .val (.int (own_starts z96l8 q1 (0 : Int64))), .val (.int z153s0)] []))
        refine GlW.st (fun t k => XS.iload Xj15.here hx rfl (hb hby at_155) rfl  k) ?_
        show GlW _ _ _ _ _ _ _ (Tj15.setTop (mkF m 157 #[.val (.long q1), .second, .val (.long q2), .second, .val (.int p3), .val (.int p4), .val (.int z12s0), .val (.int (((p3.toUInt32 >>> ((1 : Int32) &&& 31).toUInt32).toInt32) &&& (3 : Int32))), .val (.long z96l8), .second, .val (.ref b3), .val (.int (own_starts z96l8 q1 (0 : Int64))), .val (.int z153s0)] [(.int (own_starts z96l8 q1 (0 : Int64)))]))
        refine GlW.st (fun t k => XS.iload Xj15.here hx rfl (hb hby at_157) rfl  k) ?_
        show GlW _ _ _ _ _ _ _ (Tj15.setTop (mkF m 159 #[.val (.long q1), .second, .val (.long q2), .second, .val (.int p3), .val (.int p4), .val (.int z12s0), .val (.int (((p3.toUInt32 >>> ((1 : Int32) &&& 31).toUInt32).toInt32) &&& (3 : Int32))), .val (.long z96l8), .second, .val (.ref b3), .val (.int (own_starts z96l8 q1 (0 : Int64))), .val (.int z153s0)] [(.int z153s0), (.int (own_starts z96l8 q1 (0 : Int64)))]))
        have hc159_16 : (own_starts z96l8 q1 (0 : Int64)) = z153s0 := by rw [hz153s0]; exact own_final _ _
        refine GlW.st (fun t k => XS.icmpNo Xj15.here hx rfl (hb hby at_159) rfl (teq hc159_16).2 k) ?_
        show GlW _ _ _ _ _ _ _ (Tj15.setTop (mkF m 162 #[.val (.long q1), .second, .val (.long q2), .second, .val (.int p3), .val (.int p4), .val (.int z12s0), .val (.int (((p3.toUInt32 >>> ((1 : Int32) &&& 31).toUInt32).toInt32) &&& (3 : Int32))), .val (.long z96l8), .second, .val (.ref b3), .val (.int (own_starts z96l8 q1 (0 : Int64))), .val (.int z153s0)] []))
        refine GlW.st (fun t k => XS.iconst Xj15.here hx rfl (hb hby at_162) k) ?_
        show GlW _ _ _ _ _ _ _ (Tj15.setTop (mkF m 163 #[.val (.long q1), .second, .val (.long q2), .second, .val (.int p3), .val (.int p4), .val (.int z12s0), .val (.int (((p3.toUInt32 >>> ((1 : Int32) &&& 31).toUInt32).toInt32) &&& (3 : Int32))), .val (.long z96l8), .second, .val (.ref b3), .val (.int (own_starts z96l8 q1 (0 : Int64))), .val (.int z153s0)] [(.int (1 : Int32))]))
        refine GlW.st (fun t k => XS.goto Xj15.here hx rfl (pc0 := 163) (pc' := 167) rfl (hb hby at_163) (by decide) (by decide) k) ?_
        show GlW _ _ _ _ _ _ _ (Tj15.setTop (mkF m 167 #[.val (.long q1), .second, .val (.long q2), .second, .val (.int p3), .val (.int p4), .val (.int z12s0), .val (.int (((p3.toUInt32 >>> ((1 : Int32) &&& 31).toUInt32).toInt32) &&& (3 : Int32))), .val (.long z96l8), .second, .val (.ref b3), .val (.int (own_starts z96l8 q1 (0 : Int64))), .val (.int z153s0)] [(.int (1 : Int32))]))
        exact GlW.retN Xj15 hx hS4 (by rw [ej15]; exact kz13) hlk Bd.returns (by simp) (hb hby at_167) (⟨rfl, Nj15⟩) (by decide) (by decide)
      by_cases hc123 : z96l8 < (0 : Int64)
      · refine GlW.st (fun t k => XS.ifYes X14.here hx rfl (pc0 := 123) (pc' := 152) rfl (hb hby at_123) rfl (lc_t hc123).1 (by decide) (by decide) k) ?_
        show GlW _ _ _ _ _ _ _ (T14.setTop (mkF m 152 #[.val (.long q1), .second, .val (.long q2), .second, .val (.int p3), .val (.int p4), .val (.int z12s0), .val (.int (((p3.toUInt32 >>> ((1 : Int32) &&& 31).toUInt32).toInt32) &&& (3 : Int32))), .val (.long z96l8), .second, .val (.ref b3), .val (.int (own_starts z96l8 q1 (0 : Int64))), .unset] []))
        refine GlW.st (fun t k => XS.iconst X14.here hx rfl (hb hby at_152) k) ?_
        show GlW _ _ _ _ _ _ _ (T14.setTop (mkF m 153 #[.val (.long q1), .second, .val (.long q2), .second, .val (.int p3), .val (.int p4), .val (.int z12s0), .val (.int (((p3.toUInt32 >>> ((1 : Int32) &&& 31).toUInt32).toInt32) &&& (3 : Int32))), .val (.long z96l8), .second, .val (.ref b3), .val (.int (own_starts z96l8 q1 (0 : Int64))), .unset] [(.int (0 : Int32))]))
        exact J15 _ _ X14 e14 N14 _ (by simp only [if_pos hc123])
      · refine GlW.st (fun t k => XS.ifNo X14.here hx rfl (hb hby at_123) rfl (lc_f hc123).1 k) ?_
        show GlW _ _ _ _ _ _ _ (T14.setTop (mkF m 126 #[.val (.long q1), .second, .val (.long q2), .second, .val (.int p3), .val (.int p4), .val (.int z12s0), .val (.int (((p3.toUInt32 >>> ((1 : Int32) &&& 31).toUInt32).toInt32) &&& (3 : Int32))), .val (.long z96l8), .second, .val (.ref b3), .val (.int (own_starts z96l8 q1 (0 : Int64))), .unset] []))
        refine GlW.st (fun t k => XS.lload X14.here hx rfl (hb hby at_126) rfl  k) ?_
        show GlW _ _ _ _ _ _ _ (T14.setTop (mkF m 128 #[.val (.long q1), .second, .val (.long q2), .second, .val (.int p3), .val (.int p4), .val (.int z12s0), .val (.int (((p3.toUInt32 >>> ((1 : Int32) &&& 31).toUInt32).toInt32) &&& (3 : Int32))), .val (.long z96l8), .second, .val (.ref b3), .val (.int (own_starts z96l8 q1 (0 : Int64))), .unset] [(.long z96l8)]))
        refine GlW.st (X14.ldc2Long hx hown (mvT hZ (hw _ (List.mem_of_getElem? (i := 84) rfl))) (g := (mkF m 128 #[.val (.long q1), .second, .val (.long q2), .second, .val (.int p3), .val (.int p4), .val (.int z12s0), .val (.int (((p3.toUInt32 >>> ((1 : Int32) &&& 31).toUInt32).toInt32) &&& (3 : Int32))), .val (.long z96l8), .second, .val (.ref b3), .val (.int (own_starts z96l8 q1 (0 : Int64))), .unset] [(.long z96l8)])) rfl (hb hby at_128)) ?_
        show GlW _ _ _ _ _ _ _ (T14.setTop (mkF m 131 #[.val (.long q1), .second, .val (.long q2), .second, .val (.int p3), .val (.int p4), .val (.int z12s0), .val (.int (((p3.toUInt32 >>> ((1 : Int32) &&& 31).toUInt32).toInt32) &&& (3 : Int32))), .val (.long z96l8), .second, .val (.ref b3), .val (.int (own_starts z96l8 q1 (0 : Int64))), .unset] [(.long (4294967295 : Int64)), (.long z96l8)]))
        refine GlW.st (fun t k => XS.lcmp X14.here hx rfl (hb hby at_131) rfl k) ?_
        show GlW _ _ _ _ _ _ _ (T14.setTop (mkF m 132 #[.val (.long q1), .second, .val (.long q2), .second, .val (.int p3), .val (.int p4), .val (.int z12s0), .val (.int (((p3.toUInt32 >>> ((1 : Int32) &&& 31).toUInt32).toInt32) &&& (3 : Int32))), .val (.long z96l8), .second, .val (.ref b3), .val (.int (own_starts z96l8 q1 (0 : Int64))), .unset] [(.int (lcmpW z96l8 (4294967295 : Int64)))]))
        by_cases hc132 : (4294967295 : Int64) < z96l8
        · refine GlW.st (fun t k => XS.ifYes X14.here hx rfl (pc0 := 132) (pc' := 152) rfl (hb hby at_132) rfl (lc_t hc132).2.2.1 (by decide) (by decide) k) ?_
          show GlW _ _ _ _ _ _ _ (T14.setTop (mkF m 152 #[.val (.long q1), .second, .val (.long q2), .second, .val (.int p3), .val (.int p4), .val (.int z12s0), .val (.int (((p3.toUInt32 >>> ((1 : Int32) &&& 31).toUInt32).toInt32) &&& (3 : Int32))), .val (.long z96l8), .second, .val (.ref b3), .val (.int (own_starts z96l8 q1 (0 : Int64))), .unset] []))
          refine GlW.st (fun t k => XS.iconst X14.here hx rfl (hb hby at_152) k) ?_
          show GlW _ _ _ _ _ _ _ (T14.setTop (mkF m 153 #[.val (.long q1), .second, .val (.long q2), .second, .val (.int p3), .val (.int p4), .val (.int z12s0), .val (.int (((p3.toUInt32 >>> ((1 : Int32) &&& 31).toUInt32).toInt32) &&& (3 : Int32))), .val (.long z96l8), .second, .val (.ref b3), .val (.int (own_starts z96l8 q1 (0 : Int64))), .unset] [(.int (0 : Int32))]))
          exact J15 _ _ X14 e14 N14 _ (by simp only [if_neg hc123, if_pos hc132])
        · refine GlW.st (fun t k => XS.ifNo X14.here hx rfl (hb hby at_132) rfl (lc_f hc132).2.2.1 k) ?_
          show GlW _ _ _ _ _ _ _ (T14.setTop (mkF m 135 #[.val (.long q1), .second, .val (.long q2), .second, .val (.int p3), .val (.int p4), .val (.int z12s0), .val (.int (((p3.toUInt32 >>> ((1 : Int32) &&& 31).toUInt32).toInt32) &&& (3 : Int32))), .val (.long z96l8), .second, .val (.ref b3), .val (.int (own_starts z96l8 q1 (0 : Int64))), .unset] []))
          refine GlW.st (fun t k => XS.lload X14.here hx rfl (hb hby at_135) rfl  k) ?_
          show GlW _ _ _ _ _ _ _ (T14.setTop (mkF m 137 #[.val (.long q1), .second, .val (.long q2), .second, .val (.int p3), .val (.int p4), .val (.int z12s0), .val (.int (((p3.toUInt32 >>> ((1 : Int32) &&& 31).toUInt32).toInt32) &&& (3 : Int32))), .val (.long z96l8), .second, .val (.ref b3), .val (.int (own_starts z96l8 q1 (0 : Int64))), .unset] [(.long z96l8)]))
          refine GlW.st (fun t k => XS.lloadN X14.here hx rfl (hb hby at_137) rfl  k) ?_
          show GlW _ _ _ _ _ _ _ (T14.setTop (mkF m 138 #[.val (.long q1), .second, .val (.long q2), .second, .val (.int p3), .val (.int p4), .val (.int z12s0), .val (.int (((p3.toUInt32 >>> ((1 : Int32) &&& 31).toUInt32).toInt32) &&& (3 : Int32))), .val (.long z96l8), .second, .val (.ref b3), .val (.int (own_starts z96l8 q1 (0 : Int64))), .unset] [(.long q1), (.long z96l8)]))
          refine GlW.st (fun t k => XS.lxor X14.here hx rfl (hb hby at_138) rfl k) ?_
          show GlW _ _ _ _ _ _ _ (T14.setTop (mkF m 139 #[.val (.long q1), .second, .val (.long q2), .second, .val (.int p3), .val (.int p4), .val (.int z12s0), .val (.int (((p3.toUInt32 >>> ((1 : Int32) &&& 31).toUInt32).toInt32) &&& (3 : Int32))), .val (.long z96l8), .second, .val (.ref b3), .val (.int (own_starts z96l8 q1 (0 : Int64))), .unset] [(.long (z96l8 ^^^ q1))]))
          refine GlW.st (X14.ldc2Long hx hown (mvT hZ (hw _ (List.mem_of_getElem? (i := 84) rfl))) (g := (mkF m 139 #[.val (.long q1), .second, .val (.long q2), .second, .val (.int p3), .val (.int p4), .val (.int z12s0), .val (.int (((p3.toUInt32 >>> ((1 : Int32) &&& 31).toUInt32).toInt32) &&& (3 : Int32))), .val (.long z96l8), .second, .val (.ref b3), .val (.int (own_starts z96l8 q1 (0 : Int64))), .unset] [(.long (z96l8 ^^^ q1))])) rfl (hb hby at_139)) ?_
          show GlW _ _ _ _ _ _ _ (T14.setTop (mkF m 142 #[.val (.long q1), .second, .val (.long q2), .second, .val (.int p3), .val (.int p4), .val (.int z12s0), .val (.int (((p3.toUInt32 >>> ((1 : Int32) &&& 31).toUInt32).toInt32) &&& (3 : Int32))), .val (.long z96l8), .second, .val (.ref b3), .val (.int (own_starts z96l8 q1 (0 : Int64))), .unset] [(.long (4294967295 : Int64)), (.long (z96l8 ^^^ q1))]))
          refine GlW.st (fun t k => XS.land X14.here hx rfl (hb hby at_142) rfl k) ?_
          show GlW _ _ _ _ _ _ _ (T14.setTop (mkF m 143 #[.val (.long q1), .second, .val (.long q2), .second, .val (.int p3), .val (.int p4), .val (.int z12s0), .val (.int (((p3.toUInt32 >>> ((1 : Int32) &&& 31).toUInt32).toInt32) &&& (3 : Int32))), .val (.long z96l8), .second, .val (.ref b3), .val (.int (own_starts z96l8 q1 (0 : Int64))), .unset] [(.long ((z96l8 ^^^ q1) &&& (4294967295 : Int64)))]))
          refine GlW.st (fun t k => XS.lconst X14.here hx rfl (hb hby at_143) k) ?_
          show GlW _ _ _ _ _ _ _ (T14.setTop (mkF m 144 #[.val (.long q1), .second, .val (.long q2), .second, .val (.int p3), .val (.int p4), .val (.int z12s0), .val (.int (((p3.toUInt32 >>> ((1 : Int32) &&& 31).toUInt32).toInt32) &&& (3 : Int32))), .val (.long z96l8), .second, .val (.ref b3), .val (.int (own_starts z96l8 q1 (0 : Int64))), .unset] [(.long (0 : Int64)), (.long ((z96l8 ^^^ q1) &&& (4294967295 : Int64)))]))
          refine GlW.st (fun t k => XS.lcmp X14.here hx rfl (hb hby at_144) rfl k) ?_
          show GlW _ _ _ _ _ _ _ (T14.setTop (mkF m 145 #[.val (.long q1), .second, .val (.long q2), .second, .val (.int p3), .val (.int p4), .val (.int z12s0), .val (.int (((p3.toUInt32 >>> ((1 : Int32) &&& 31).toUInt32).toInt32) &&& (3 : Int32))), .val (.long z96l8), .second, .val (.ref b3), .val (.int (own_starts z96l8 q1 (0 : Int64))), .unset] [(.int (lcmpW ((z96l8 ^^^ q1) &&& (4294967295 : Int64)) (0 : Int64)))]))
          by_cases hc145 : ((z96l8 ^^^ q1) &&& (4294967295 : Int64)) = (0 : Int64)
          · refine GlW.st (fun t k => XS.ifNo X14.here hx rfl (hb hby at_145) rfl (le_t hc145).2 k) ?_
            show GlW _ _ _ _ _ _ _ (T14.setTop (mkF m 148 #[.val (.long q1), .second, .val (.long q2), .second, .val (.int p3), .val (.int p4), .val (.int z12s0), .val (.int (((p3.toUInt32 >>> ((1 : Int32) &&& 31).toUInt32).toInt32) &&& (3 : Int32))), .val (.long z96l8), .second, .val (.ref b3), .val (.int (own_starts z96l8 q1 (0 : Int64))), .unset] []))
            refine GlW.st (fun t k => XS.iconst X14.here hx rfl (hb hby at_148) k) ?_
            show GlW _ _ _ _ _ _ _ (T14.setTop (mkF m 149 #[.val (.long q1), .second, .val (.long q2), .second, .val (.int p3), .val (.int p4), .val (.int z12s0), .val (.int (((p3.toUInt32 >>> ((1 : Int32) &&& 31).toUInt32).toInt32) &&& (3 : Int32))), .val (.long z96l8), .second, .val (.ref b3), .val (.int (own_starts z96l8 q1 (0 : Int64))), .unset] [(.int (1 : Int32))]))
            refine GlW.st (fun t k => XS.goto X14.here hx rfl (pc0 := 149) (pc' := 153) rfl (hb hby at_149) (by decide) (by decide) k) ?_
            show GlW _ _ _ _ _ _ _ (T14.setTop (mkF m 153 #[.val (.long q1), .second, .val (.long q2), .second, .val (.int p3), .val (.int p4), .val (.int z12s0), .val (.int (((p3.toUInt32 >>> ((1 : Int32) &&& 31).toUInt32).toInt32) &&& (3 : Int32))), .val (.long z96l8), .second, .val (.ref b3), .val (.int (own_starts z96l8 q1 (0 : Int64))), .unset] [(.int (1 : Int32))]))
            exact J15 _ _ X14 e14 N14 _ (by simp only [if_neg hc123, if_neg hc132, if_pos hc145])
          · refine GlW.st (fun t k => XS.ifYes X14.here hx rfl (pc0 := 145) (pc' := 152) rfl (hb hby at_145) rfl (le_f hc145).2 (by decide) (by decide) k) ?_
            show GlW _ _ _ _ _ _ _ (T14.setTop (mkF m 152 #[.val (.long q1), .second, .val (.long q2), .second, .val (.int p3), .val (.int p4), .val (.int z12s0), .val (.int (((p3.toUInt32 >>> ((1 : Int32) &&& 31).toUInt32).toInt32) &&& (3 : Int32))), .val (.long z96l8), .second, .val (.ref b3), .val (.int (own_starts z96l8 q1 (0 : Int64))), .unset] []))
            refine GlW.st (fun t k => XS.iconst X14.here hx rfl (hb hby at_152) k) ?_
            show GlW _ _ _ _ _ _ _ (T14.setTop (mkF m 153 #[.val (.long q1), .second, .val (.long q2), .second, .val (.int p3), .val (.int p4), .val (.int z12s0), .val (.int (((p3.toUInt32 >>> ((1 : Int32) &&& 31).toUInt32).toInt32) &&& (3 : Int32))), .val (.long z96l8), .second, .val (.ref b3), .val (.int (own_starts z96l8 q1 (0 : Int64))), .unset] [(.int (0 : Int32))]))
            exact J15 _ _ X14 e14 N14 _ (by simp only [if_neg hc123, if_neg hc132, if_neg hc145])
    by_cases hc24 : (((p3.toUInt32 >>> ((1 : Int32) &&& 31).toUInt32).toInt32) &&& (3 : Int32)) = (0 : Int32)
    · refine GlW.st (fun t k => XS.ifNo Xj1.here hx rfl (hb hby at_24) rfl ((if0 _ _).trans (teq hc24).2) k) ?_
      show GlW _ _ _ _ _ _ _ (Tj1.setTop (mkF m 27 #[.val (.long q1), .second, .val (.long q2), .second, .val (.int p3), .val (.int p4), .val (.int z12s0), .val (.int (((p3.toUInt32 >>> ((1 : Int32) &&& 31).toUInt32).toInt32) &&& (3 : Int32))), .unset, .unset, .unset, .unset, .unset] []))
      refine GlW.st (fun t k => XS.lloadN Xj1.here hx rfl (hb hby at_27) rfl  k) ?_
      show GlW _ _ _ _ _ _ _ (Tj1.setTop (mkF m 28 #[.val (.long q1), .second, .val (.long q2), .second, .val (.int p3), .val (.int p4), .val (.int z12s0), .val (.int (((p3.toUInt32 >>> ((1 : Int32) &&& 31).toUInt32).toInt32) &&& (3 : Int32))), .unset, .unset, .unset, .unset, .unset] [(.long q2)]))
      refine GlW.st (fun t k => XS.lstore Xj1.here hx rfl (hb hby at_28) rfl (l' := #[.val (.long q1), .second, .val (.long q2), .second, .val (.int p3), .val (.int p4), .val (.int z12s0), .val (.int (((p3.toUInt32 >>> ((1 : Int32) &&& 31).toUInt32).toInt32) &&& (3 : Int32))), .val (.long q2), .second, .unset, .unset, .unset]) rfl k) ?_
      show GlW _ _ _ _ _ _ _ (Tj1.setTop (mkF m 30 #[.val (.long q1), .second, .val (.long q2), .second, .val (.int p3), .val (.int p4), .val (.int z12s0), .val (.int (((p3.toUInt32 >>> ((1 : Int32) &&& 31).toUInt32).toInt32) &&& (3 : Int32))), .val (.long q2), .second, .unset, .unset, .unset] []))
      refine GlW.st (fun t k => XS.goto Xj1.here hx rfl (pc0 := 30) (pc' := 96) rfl (hb hby at_30) (by decide) (by decide) k) ?_
      show GlW _ _ _ _ _ _ _ (Tj1.setTop (mkF m 96 #[.val (.long q1), .second, .val (.long q2), .second, .val (.int p3), .val (.int p4), .val (.int z12s0), .val (.int (((p3.toUInt32 >>> ((1 : Int32) &&& 31).toUInt32).toInt32) &&& (3 : Int32))), .val (.long q2), .second, .unset, .unset, .unset] []))
      exact J2 _ _ Xj1 ej1 Nj1 _ (by simp only [if_pos hc24])
    · refine GlW.st (fun t k => XS.ifYes Xj1.here hx rfl (pc0 := 24) (pc' := 33) rfl (hb hby at_24) rfl ((if0 _ _).trans (feq hc24).2) (by decide) (by decide) k) ?_
      show GlW _ _ _ _ _ _ _ (Tj1.setTop (mkF m 33 #[.val (.long q1), .second, .val (.long q2), .second, .val (.int p3), .val (.int p4), .val (.int z12s0), .val (.int (((p3.toUInt32 >>> ((1 : Int32) &&& 31).toUInt32).toInt32) &&& (3 : Int32))), .unset, .unset, .unset, .unset, .unset] []))
      refine GlW.st (fun t k => XS.iload Xj1.here hx rfl (hb hby at_33) rfl  k) ?_
      show GlW _ _ _ _ _ _ _ (Tj1.setTop (mkF m 35 #[.val (.long q1), .second, .val (.long q2), .second, .val (.int p3), .val (.int p4), .val (.int z12s0), .val (.int (((p3.toUInt32 >>> ((1 : Int32) &&& 31).toUInt32).toInt32) &&& (3 : Int32))), .unset, .unset, .unset, .unset, .unset] [(.int (((p3.toUInt32 >>> ((1 : Int32) &&& 31).toUInt32).toInt32) &&& (3 : Int32)))]))
      refine GlW.st (fun t k => XS.iconst Xj1.here hx rfl (hb hby at_35) k) ?_
      show GlW _ _ _ _ _ _ _ (Tj1.setTop (mkF m 36 #[.val (.long q1), .second, .val (.long q2), .second, .val (.int p3), .val (.int p4), .val (.int z12s0), .val (.int (((p3.toUInt32 >>> ((1 : Int32) &&& 31).toUInt32).toInt32) &&& (3 : Int32))), .unset, .unset, .unset, .unset, .unset] [(.int (1 : Int32)), (.int (((p3.toUInt32 >>> ((1 : Int32) &&& 31).toUInt32).toInt32) &&& (3 : Int32)))]))
      by_cases hc36 : (((p3.toUInt32 >>> ((1 : Int32) &&& 31).toUInt32).toInt32) &&& (3 : Int32)) = (1 : Int32)
      · refine GlW.st (fun t k => XS.icmpNo Xj1.here hx rfl (hb hby at_36) rfl (teq hc36).2 k) ?_
        show GlW _ _ _ _ _ _ _ (Tj1.setTop (mkF m 39 #[.val (.long q1), .second, .val (.long q2), .second, .val (.int p3), .val (.int p4), .val (.int z12s0), .val (.int (((p3.toUInt32 >>> ((1 : Int32) &&& 31).toUInt32).toInt32) &&& (3 : Int32))), .unset, .unset, .unset, .unset, .unset] []))
        refine GlW.st (fun t k => XS.lloadN Xj1.here hx rfl (hb hby at_39) rfl  k) ?_
        show GlW _ _ _ _ _ _ _ (Tj1.setTop (mkF m 40 #[.val (.long q1), .second, .val (.long q2), .second, .val (.int p3), .val (.int p4), .val (.int z12s0), .val (.int (((p3.toUInt32 >>> ((1 : Int32) &&& 31).toUInt32).toInt32) &&& (3 : Int32))), .unset, .unset, .unset, .unset, .unset] [(.long q1)]))
        refine GlW.st (fun t k => XS.iload Xj1.here hx rfl (hb hby at_40) rfl  k) ?_
        show GlW _ _ _ _ _ _ _ (Tj1.setTop (mkF m 42 #[.val (.long q1), .second, .val (.long q2), .second, .val (.int p3), .val (.int p4), .val (.int z12s0), .val (.int (((p3.toUInt32 >>> ((1 : Int32) &&& 31).toUInt32).toInt32) &&& (3 : Int32))), .unset, .unset, .unset, .unset, .unset] [(.int p4), (.long q1)]))
        refine GlW.st (fun t k => XS.iconst Xj1.here hx rfl (hb hby at_42) k) ?_
        show GlW _ _ _ _ _ _ _ (Tj1.setTop (mkF m 43 #[.val (.long q1), .second, .val (.long q2), .second, .val (.int p3), .val (.int p4), .val (.int z12s0), .val (.int (((p3.toUInt32 >>> ((1 : Int32) &&& 31).toUInt32).toInt32) &&& (3 : Int32))), .unset, .unset, .unset, .unset, .unset] [(.int (3 : Int32)), (.int p4), (.long q1)]))
        refine GlW.st (fun t k => iremM Xj1 hx rfl (hb hby at_43) rfl (by decide) k) ?_
        show GlW _ _ _ _ _ _ _ (Tj1.setTop (mkF m 44 #[.val (.long q1), .second, .val (.long q2), .second, .val (.int p3), .val (.int p4), .val (.int z12s0), .val (.int (((p3.toUInt32 >>> ((1 : Int32) &&& 31).toUInt32).toInt32) &&& (3 : Int32))), .unset, .unset, .unset, .unset, .unset] [(.int (p4 % (3 : Int32))), (.long q1)]))
        refine GlW.st (fun t k => XS.i2l Xj1.here hx rfl (hb hby at_44) rfl k) ?_
        show GlW _ _ _ _ _ _ _ (Tj1.setTop (mkF m 45 #[.val (.long q1), .second, .val (.long q2), .second, .val (.int p3), .val (.int p4), .val (.int z12s0), .val (.int (((p3.toUInt32 >>> ((1 : Int32) &&& 31).toUInt32).toInt32) &&& (3 : Int32))), .unset, .unset, .unset, .unset, .unset] [(.long ((p4 % (3 : Int32)).toInt64)), (.long q1)]))
        refine GlW.st (fun t k => XS.bipush Xj1.here hx rfl (hb hby at_45) k) ?_
        show GlW _ _ _ _ _ _ _ (Tj1.setTop (mkF m 47 #[.val (.long q1), .second, .val (.long q2), .second, .val (.int p3), .val (.int p4), .val (.int z12s0), .val (.int (((p3.toUInt32 >>> ((1 : Int32) &&& 31).toUInt32).toInt32) &&& (3 : Int32))), .unset, .unset, .unset, .unset, .unset] [(.int (32 : Int32)), (.long ((p4 % (3 : Int32)).toInt64)), (.long q1)]))
        refine GlW.st (fun t k => XS.lshl Xj1.here hx rfl (hb hby at_47) rfl k) ?_
        show GlW _ _ _ _ _ _ _ (Tj1.setTop (mkF m 48 #[.val (.long q1), .second, .val (.long q2), .second, .val (.int p3), .val (.int p4), .val (.int z12s0), .val (.int (((p3.toUInt32 >>> ((1 : Int32) &&& 31).toUInt32).toInt32) &&& (3 : Int32))), .unset, .unset, .unset, .unset, .unset] [(.long (((p4 % (3 : Int32)).toInt64) <<< ((32 : Int32) &&& 0x3f).toInt64)), (.long q1)]))
        refine GlW.st (fun t k => XS.ladd Xj1.here hx rfl (hb hby at_48) rfl k) ?_
        show GlW _ _ _ _ _ _ _ (Tj1.setTop (mkF m 49 #[.val (.long q1), .second, .val (.long q2), .second, .val (.int p3), .val (.int p4), .val (.int z12s0), .val (.int (((p3.toUInt32 >>> ((1 : Int32) &&& 31).toUInt32).toInt32) &&& (3 : Int32))), .unset, .unset, .unset, .unset, .unset] [(.long (q1 + (((p4 % (3 : Int32)).toInt64) <<< ((32 : Int32) &&& 0x3f).toInt64)))]))
        refine GlW.st (fun t k => XS.lstore Xj1.here hx rfl (hb hby at_49) rfl (l' := #[.val (.long q1), .second, .val (.long q2), .second, .val (.int p3), .val (.int p4), .val (.int z12s0), .val (.int (((p3.toUInt32 >>> ((1 : Int32) &&& 31).toUInt32).toInt32) &&& (3 : Int32))), .val (.long (q1 + (((p4 % (3 : Int32)).toInt64) <<< ((32 : Int32) &&& 0x3f).toInt64))), .second, .unset, .unset, .unset]) rfl k) ?_
        show GlW _ _ _ _ _ _ _ (Tj1.setTop (mkF m 51 #[.val (.long q1), .second, .val (.long q2), .second, .val (.int p3), .val (.int p4), .val (.int z12s0), .val (.int (((p3.toUInt32 >>> ((1 : Int32) &&& 31).toUInt32).toInt32) &&& (3 : Int32))), .val (.long (q1 + (((p4 % (3 : Int32)).toInt64) <<< ((32 : Int32) &&& 0x3f).toInt64))), .second, .unset, .unset, .unset] []))
        refine GlW.st (fun t k => XS.goto Xj1.here hx rfl (pc0 := 51) (pc' := 96) rfl (hb hby at_51) (by decide) (by decide) k) ?_
        show GlW _ _ _ _ _ _ _ (Tj1.setTop (mkF m 96 #[.val (.long q1), .second, .val (.long q2), .second, .val (.int p3), .val (.int p4), .val (.int z12s0), .val (.int (((p3.toUInt32 >>> ((1 : Int32) &&& 31).toUInt32).toInt32) &&& (3 : Int32))), .val (.long (q1 + (((p4 % (3 : Int32)).toInt64) <<< ((32 : Int32) &&& 0x3f).toInt64))), .second, .unset, .unset, .unset] []))
        exact J2 _ _ Xj1 ej1 Nj1 _ (by simp only [if_neg hc24, if_pos hc36])
      · refine GlW.st (fun t k => XS.icmpYes Xj1.here hx rfl (pc0 := 36) (pc' := 54) rfl (hb hby at_36) rfl (feq hc36).2 (by decide) (by decide) k) ?_
        show GlW _ _ _ _ _ _ _ (Tj1.setTop (mkF m 54 #[.val (.long q1), .second, .val (.long q2), .second, .val (.int p3), .val (.int p4), .val (.int z12s0), .val (.int (((p3.toUInt32 >>> ((1 : Int32) &&& 31).toUInt32).toInt32) &&& (3 : Int32))), .unset, .unset, .unset, .unset, .unset] []))
        refine GlW.st (fun t k => XS.iload Xj1.here hx rfl (hb hby at_54) rfl  k) ?_
        show GlW _ _ _ _ _ _ _ (Tj1.setTop (mkF m 56 #[.val (.long q1), .second, .val (.long q2), .second, .val (.int p3), .val (.int p4), .val (.int z12s0), .val (.int (((p3.toUInt32 >>> ((1 : Int32) &&& 31).toUInt32).toInt32) &&& (3 : Int32))), .unset, .unset, .unset, .unset, .unset] [(.int (((p3.toUInt32 >>> ((1 : Int32) &&& 31).toUInt32).toInt32) &&& (3 : Int32)))]))
        refine GlW.st (fun t k => XS.iconst Xj1.here hx rfl (hb hby at_56) k) ?_
        show GlW _ _ _ _ _ _ _ (Tj1.setTop (mkF m 57 #[.val (.long q1), .second, .val (.long q2), .second, .val (.int p3), .val (.int p4), .val (.int z12s0), .val (.int (((p3.toUInt32 >>> ((1 : Int32) &&& 31).toUInt32).toInt32) &&& (3 : Int32))), .unset, .unset, .unset, .unset, .unset] [(.int (2 : Int32)), (.int (((p3.toUInt32 >>> ((1 : Int32) &&& 31).toUInt32).toInt32) &&& (3 : Int32)))]))
        by_cases hc57 : (((p3.toUInt32 >>> ((1 : Int32) &&& 31).toUInt32).toInt32) &&& (3 : Int32)) = (2 : Int32)
        · refine GlW.st (fun t k => XS.icmpNo Xj1.here hx rfl (hb hby at_57) rfl (teq hc57).2 k) ?_
          show GlW _ _ _ _ _ _ _ (Tj1.setTop (mkF m 60 #[.val (.long q1), .second, .val (.long q2), .second, .val (.int p3), .val (.int p4), .val (.int z12s0), .val (.int (((p3.toUInt32 >>> ((1 : Int32) &&& 31).toUInt32).toInt32) &&& (3 : Int32))), .unset, .unset, .unset, .unset, .unset] []))
          refine GlW.st (fun t k => XS.lloadN Xj1.here hx rfl (hb hby at_60) rfl  k) ?_
          show GlW _ _ _ _ _ _ _ (Tj1.setTop (mkF m 61 #[.val (.long q1), .second, .val (.long q2), .second, .val (.int p3), .val (.int p4), .val (.int z12s0), .val (.int (((p3.toUInt32 >>> ((1 : Int32) &&& 31).toUInt32).toInt32) &&& (3 : Int32))), .unset, .unset, .unset, .unset, .unset] [(.long q1)]))
          refine GlW.st (fun t k => XS.l2i Xj1.here hx rfl (hb hby at_61) rfl k) ?_
          show GlW _ _ _ _ _ _ _ (Tj1.setTop (mkF m 62 #[.val (.long q1), .second, .val (.long q2), .second, .val (.int p3), .val (.int p4), .val (.int z12s0), .val (.int (((p3.toUInt32 >>> ((1 : Int32) &&& 31).toUInt32).toInt32) &&& (3 : Int32))), .unset, .unset, .unset, .unset, .unset] [(.int (q1.toInt32))]))
          refine GlW.st (fun t k => XS.i2l Xj1.here hx rfl (hb hby at_62) rfl k) ?_
          show GlW _ _ _ _ _ _ _ (Tj1.setTop (mkF m 63 #[.val (.long q1), .second, .val (.long q2), .second, .val (.int p3), .val (.int p4), .val (.int z12s0), .val (.int (((p3.toUInt32 >>> ((1 : Int32) &&& 31).toUInt32).toInt32) &&& (3 : Int32))), .unset, .unset, .unset, .unset, .unset] [(.long ((q1.toInt32).toInt64))]))
          refine GlW.st (fun t k => XS.iload Xj1.here hx rfl (hb hby at_63) rfl  k) ?_
          show GlW _ _ _ _ _ _ _ (Tj1.setTop (mkF m 65 #[.val (.long q1), .second, .val (.long q2), .second, .val (.int p3), .val (.int p4), .val (.int z12s0), .val (.int (((p3.toUInt32 >>> ((1 : Int32) &&& 31).toUInt32).toInt32) &&& (3 : Int32))), .unset, .unset, .unset, .unset, .unset] [(.int p4), (.long ((q1.toInt32).toInt64))]))
          refine GlW.st (fun t k => XS.iconst Xj1.here hx rfl (hb hby at_65) k) ?_
          show GlW _ _ _ _ _ _ _ (Tj1.setTop (mkF m 66 #[.val (.long q1), .second, .val (.long q2), .second, .val (.int p3), .val (.int p4), .val (.int z12s0), .val (.int (((p3.toUInt32 >>> ((1 : Int32) &&& 31).toUInt32).toInt32) &&& (3 : Int32))), .unset, .unset, .unset, .unset, .unset] [(.int (1 : Int32)), (.int p4), (.long ((q1.toInt32).toInt64))]))
          refine GlW.st (fun t k => XS.iand Xj1.here hx rfl (hb hby at_66) rfl k) ?_
          show GlW _ _ _ _ _ _ _ (Tj1.setTop (mkF m 67 #[.val (.long q1), .second, .val (.long q2), .second, .val (.int p3), .val (.int p4), .val (.int z12s0), .val (.int (((p3.toUInt32 >>> ((1 : Int32) &&& 31).toUInt32).toInt32) &&& (3 : Int32))), .unset, .unset, .unset, .unset, .unset] [(.int (p4 &&& (1 : Int32))), (.long ((q1.toInt32).toInt64))]))
          by_cases hc67 : (p4 &&& (1 : Int32)) = (0 : Int32)
          · refine GlW.st (fun t k => XS.ifNo Xj1.here hx rfl (hb hby at_67) rfl ((if0 _ _).trans (teq hc67).2) k) ?_
            show GlW _ _ _ _ _ _ _ (Tj1.setTop (mkF m 70 #[.val (.long q1), .second, .val (.long q2), .second, .val (.int p3), .val (.int p4), .val (.int z12s0), .val (.int (((p3.toUInt32 >>> ((1 : Int32) &&& 31).toUInt32).toInt32) &&& (3 : Int32))), .unset, .unset, .unset, .unset, .unset] [(.long ((q1.toInt32).toInt64))]))
            refine GlW.st (fun t k => XS.lconst Xj1.here hx rfl (hb hby at_70) k) ?_
            show GlW _ _ _ _ _ _ _ (Tj1.setTop (mkF m 71 #[.val (.long q1), .second, .val (.long q2), .second, .val (.int p3), .val (.int p4), .val (.int z12s0), .val (.int (((p3.toUInt32 >>> ((1 : Int32) &&& 31).toUInt32).toInt32) &&& (3 : Int32))), .unset, .unset, .unset, .unset, .unset] [(.long (0 : Int64)), (.long ((q1.toInt32).toInt64))]))
            refine GlW.st (fun t k => XS.goto Xj1.here hx rfl (pc0 := 71) (pc' := 77) rfl (hb hby at_71) (by decide) (by decide) k) ?_
            show GlW _ _ _ _ _ _ _ (Tj1.setTop (mkF m 77 #[.val (.long q1), .second, .val (.long q2), .second, .val (.int p3), .val (.int p4), .val (.int z12s0), .val (.int (((p3.toUInt32 >>> ((1 : Int32) &&& 31).toUInt32).toInt32) &&& (3 : Int32))), .unset, .unset, .unset, .unset, .unset] [(.long (0 : Int64)), (.long ((q1.toInt32).toInt64))]))
            refine GlW.st (fun t k => XS.ladd Xj1.here hx rfl (hb hby at_77) rfl k) ?_
            show GlW _ _ _ _ _ _ _ (Tj1.setTop (mkF m 78 #[.val (.long q1), .second, .val (.long q2), .second, .val (.int p3), .val (.int p4), .val (.int z12s0), .val (.int (((p3.toUInt32 >>> ((1 : Int32) &&& 31).toUInt32).toInt32) &&& (3 : Int32))), .unset, .unset, .unset, .unset, .unset] [(.long (((q1.toInt32).toInt64) + (0 : Int64)))]))
            refine GlW.st (fun t k => XS.lstore Xj1.here hx rfl (hb hby at_78) rfl (l' := #[.val (.long q1), .second, .val (.long q2), .second, .val (.int p3), .val (.int p4), .val (.int z12s0), .val (.int (((p3.toUInt32 >>> ((1 : Int32) &&& 31).toUInt32).toInt32) &&& (3 : Int32))), .val (.long (((q1.toInt32).toInt64) + (0 : Int64))), .second, .unset, .unset, .unset]) rfl k) ?_
            show GlW _ _ _ _ _ _ _ (Tj1.setTop (mkF m 80 #[.val (.long q1), .second, .val (.long q2), .second, .val (.int p3), .val (.int p4), .val (.int z12s0), .val (.int (((p3.toUInt32 >>> ((1 : Int32) &&& 31).toUInt32).toInt32) &&& (3 : Int32))), .val (.long (((q1.toInt32).toInt64) + (0 : Int64))), .second, .unset, .unset, .unset] []))
            refine GlW.st (fun t k => XS.goto Xj1.here hx rfl (pc0 := 80) (pc' := 96) rfl (hb hby at_80) (by decide) (by decide) k) ?_
            show GlW _ _ _ _ _ _ _ (Tj1.setTop (mkF m 96 #[.val (.long q1), .second, .val (.long q2), .second, .val (.int p3), .val (.int p4), .val (.int z12s0), .val (.int (((p3.toUInt32 >>> ((1 : Int32) &&& 31).toUInt32).toInt32) &&& (3 : Int32))), .val (.long (((q1.toInt32).toInt64) + (0 : Int64))), .second, .unset, .unset, .unset] []))
            exact J2 _ _ Xj1 ej1 Nj1 _ (by simp only [if_neg hc24, if_neg hc36, if_pos hc57, if_pos hc67])
          · refine GlW.st (fun t k => XS.ifYes Xj1.here hx rfl (pc0 := 67) (pc' := 74) rfl (hb hby at_67) rfl ((if0 _ _).trans (feq hc67).2) (by decide) (by decide) k) ?_
            show GlW _ _ _ _ _ _ _ (Tj1.setTop (mkF m 74 #[.val (.long q1), .second, .val (.long q2), .second, .val (.int p3), .val (.int p4), .val (.int z12s0), .val (.int (((p3.toUInt32 >>> ((1 : Int32) &&& 31).toUInt32).toInt32) &&& (3 : Int32))), .unset, .unset, .unset, .unset, .unset] [(.long ((q1.toInt32).toInt64))]))
            refine GlW.st (Xj1.ldc2Long hx hown (mvT hZ (hw _ (List.mem_of_getElem? (i := 86) rfl))) (g := (mkF m 74 #[.val (.long q1), .second, .val (.long q2), .second, .val (.int p3), .val (.int p4), .val (.int z12s0), .val (.int (((p3.toUInt32 >>> ((1 : Int32) &&& 31).toUInt32).toInt32) &&& (3 : Int32))), .unset, .unset, .unset, .unset, .unset] [(.long ((q1.toInt32).toInt64))])) rfl (hb hby at_74)) ?_
            show GlW _ _ _ _ _ _ _ (Tj1.setTop (mkF m 77 #[.val (.long q1), .second, .val (.long q2), .second, .val (.int p3), .val (.int p4), .val (.int z12s0), .val (.int (((p3.toUInt32 >>> ((1 : Int32) &&& 31).toUInt32).toInt32) &&& (3 : Int32))), .unset, .unset, .unset, .unset, .unset] [(.long (4294967296 : Int64)), (.long ((q1.toInt32).toInt64))]))
            refine GlW.st (fun t k => XS.ladd Xj1.here hx rfl (hb hby at_77) rfl k) ?_
            show GlW _ _ _ _ _ _ _ (Tj1.setTop (mkF m 78 #[.val (.long q1), .second, .val (.long q2), .second, .val (.int p3), .val (.int p4), .val (.int z12s0), .val (.int (((p3.toUInt32 >>> ((1 : Int32) &&& 31).toUInt32).toInt32) &&& (3 : Int32))), .unset, .unset, .unset, .unset, .unset] [(.long (((q1.toInt32).toInt64) + (4294967296 : Int64)))]))
            refine GlW.st (fun t k => XS.lstore Xj1.here hx rfl (hb hby at_78) rfl (l' := #[.val (.long q1), .second, .val (.long q2), .second, .val (.int p3), .val (.int p4), .val (.int z12s0), .val (.int (((p3.toUInt32 >>> ((1 : Int32) &&& 31).toUInt32).toInt32) &&& (3 : Int32))), .val (.long (((q1.toInt32).toInt64) + (4294967296 : Int64))), .second, .unset, .unset, .unset]) rfl k) ?_
            show GlW _ _ _ _ _ _ _ (Tj1.setTop (mkF m 80 #[.val (.long q1), .second, .val (.long q2), .second, .val (.int p3), .val (.int p4), .val (.int z12s0), .val (.int (((p3.toUInt32 >>> ((1 : Int32) &&& 31).toUInt32).toInt32) &&& (3 : Int32))), .val (.long (((q1.toInt32).toInt64) + (4294967296 : Int64))), .second, .unset, .unset, .unset] []))
            refine GlW.st (fun t k => XS.goto Xj1.here hx rfl (pc0 := 80) (pc' := 96) rfl (hb hby at_80) (by decide) (by decide) k) ?_
            show GlW _ _ _ _ _ _ _ (Tj1.setTop (mkF m 96 #[.val (.long q1), .second, .val (.long q2), .second, .val (.int p3), .val (.int p4), .val (.int z12s0), .val (.int (((p3.toUInt32 >>> ((1 : Int32) &&& 31).toUInt32).toInt32) &&& (3 : Int32))), .val (.long (((q1.toInt32).toInt64) + (4294967296 : Int64))), .second, .unset, .unset, .unset] []))
            exact J2 _ _ Xj1 ej1 Nj1 _ (by simp only [if_neg hc24, if_neg hc36, if_pos hc57, if_neg hc67])
        · refine GlW.st (fun t k => XS.icmpYes Xj1.here hx rfl (pc0 := 57) (pc' := 83) rfl (hb hby at_57) rfl (feq hc57).2 (by decide) (by decide) k) ?_
          show GlW _ _ _ _ _ _ _ (Tj1.setTop (mkF m 83 #[.val (.long q1), .second, .val (.long q2), .second, .val (.int p3), .val (.int p4), .val (.int z12s0), .val (.int (((p3.toUInt32 >>> ((1 : Int32) &&& 31).toUInt32).toInt32) &&& (3 : Int32))), .unset, .unset, .unset, .unset, .unset] []))
          refine GlW.st (fun t k => XS.lloadN Xj1.here hx rfl (hb hby at_83) rfl  k) ?_
          show GlW _ _ _ _ _ _ _ (Tj1.setTop (mkF m 84 #[.val (.long q1), .second, .val (.long q2), .second, .val (.int p3), .val (.int p4), .val (.int z12s0), .val (.int (((p3.toUInt32 >>> ((1 : Int32) &&& 31).toUInt32).toInt32) &&& (3 : Int32))), .unset, .unset, .unset, .unset, .unset] [(.long q1)]))
          refine GlW.st (fun t k => XS.iload Xj1.here hx rfl (hb hby at_84) rfl  k) ?_
          show GlW _ _ _ _ _ _ _ (Tj1.setTop (mkF m 86 #[.val (.long q1), .second, .val (.long q2), .second, .val (.int p3), .val (.int p4), .val (.int z12s0), .val (.int (((p3.toUInt32 >>> ((1 : Int32) &&& 31).toUInt32).toInt32) &&& (3 : Int32))), .unset, .unset, .unset, .unset, .unset] [(.int p4), (.long q1)]))
          refine GlW.st (fun t k => XS.iconst Xj1.here hx rfl (hb hby at_86) k) ?_
          show GlW _ _ _ _ _ _ _ (Tj1.setTop (mkF m 87 #[.val (.long q1), .second, .val (.long q2), .second, .val (.int p3), .val (.int p4), .val (.int z12s0), .val (.int (((p3.toUInt32 >>> ((1 : Int32) &&& 31).toUInt32).toInt32) &&& (3 : Int32))), .unset, .unset, .unset, .unset, .unset] [(.int (5 : Int32)), (.int p4), (.long q1)]))
          refine GlW.st (fun t k => iremM Xj1 hx rfl (hb hby at_87) rfl (by decide) k) ?_
          show GlW _ _ _ _ _ _ _ (Tj1.setTop (mkF m 88 #[.val (.long q1), .second, .val (.long q2), .second, .val (.int p3), .val (.int p4), .val (.int z12s0), .val (.int (((p3.toUInt32 >>> ((1 : Int32) &&& 31).toUInt32).toInt32) &&& (3 : Int32))), .unset, .unset, .unset, .unset, .unset] [(.int (p4 % (5 : Int32))), (.long q1)]))
          refine GlW.st (fun t k => XS.i2l Xj1.here hx rfl (hb hby at_88) rfl k) ?_
          show GlW _ _ _ _ _ _ _ (Tj1.setTop (mkF m 89 #[.val (.long q1), .second, .val (.long q2), .second, .val (.int p3), .val (.int p4), .val (.int z12s0), .val (.int (((p3.toUInt32 >>> ((1 : Int32) &&& 31).toUInt32).toInt32) &&& (3 : Int32))), .unset, .unset, .unset, .unset, .unset] [(.long ((p4 % (5 : Int32)).toInt64)), (.long q1)]))
          refine GlW.st (fun t k => XS.ladd Xj1.here hx rfl (hb hby at_89) rfl k) ?_
          show GlW _ _ _ _ _ _ _ (Tj1.setTop (mkF m 90 #[.val (.long q1), .second, .val (.long q2), .second, .val (.int p3), .val (.int p4), .val (.int z12s0), .val (.int (((p3.toUInt32 >>> ((1 : Int32) &&& 31).toUInt32).toInt32) &&& (3 : Int32))), .unset, .unset, .unset, .unset, .unset] [(.long (q1 + ((p4 % (5 : Int32)).toInt64)))]))
          refine GlW.st (Xj1.ldc2Long hx hown (mvT hZ (hw _ (List.mem_of_getElem? (i := 85) rfl))) (g := (mkF m 90 #[.val (.long q1), .second, .val (.long q2), .second, .val (.int p3), .val (.int p4), .val (.int z12s0), .val (.int (((p3.toUInt32 >>> ((1 : Int32) &&& 31).toUInt32).toInt32) &&& (3 : Int32))), .unset, .unset, .unset, .unset, .unset] [(.long (q1 + ((p4 % (5 : Int32)).toInt64)))])) rfl (hb hby at_90)) ?_
          show GlW _ _ _ _ _ _ _ (Tj1.setTop (mkF m 93 #[.val (.long q1), .second, .val (.long q2), .second, .val (.int p3), .val (.int p4), .val (.int z12s0), .val (.int (((p3.toUInt32 >>> ((1 : Int32) &&& 31).toUInt32).toInt32) &&& (3 : Int32))), .unset, .unset, .unset, .unset, .unset] [(.long (2 : Int64)), (.long (q1 + ((p4 % (5 : Int32)).toInt64)))]))
          refine GlW.st (fun t k => XS.lsub Xj1.here hx rfl (hb hby at_93) rfl k) ?_
          show GlW _ _ _ _ _ _ _ (Tj1.setTop (mkF m 94 #[.val (.long q1), .second, .val (.long q2), .second, .val (.int p3), .val (.int p4), .val (.int z12s0), .val (.int (((p3.toUInt32 >>> ((1 : Int32) &&& 31).toUInt32).toInt32) &&& (3 : Int32))), .unset, .unset, .unset, .unset, .unset] [(.long ((q1 + ((p4 % (5 : Int32)).toInt64)) - (2 : Int64)))]))
          refine GlW.st (fun t k => XS.lstore Xj1.here hx rfl (hb hby at_94) rfl (l' := #[.val (.long q1), .second, .val (.long q2), .second, .val (.int p3), .val (.int p4), .val (.int z12s0), .val (.int (((p3.toUInt32 >>> ((1 : Int32) &&& 31).toUInt32).toInt32) &&& (3 : Int32))), .val (.long ((q1 + ((p4 % (5 : Int32)).toInt64)) - (2 : Int64))), .second, .unset, .unset, .unset]) rfl k) ?_
          show GlW _ _ _ _ _ _ _ (Tj1.setTop (mkF m 96 #[.val (.long q1), .second, .val (.long q2), .second, .val (.int p3), .val (.int p4), .val (.int z12s0), .val (.int (((p3.toUInt32 >>> ((1 : Int32) &&& 31).toUInt32).toInt32) &&& (3 : Int32))), .val (.long ((q1 + ((p4 % (5 : Int32)).toInt64)) - (2 : Int64))), .second, .unset, .unset, .unset] []))
          exact J2 _ _ Xj1 ej1 Nj1 _ (by simp only [if_neg hc24, if_neg hc36, if_neg hc57])
  by_cases hc4 : (p3 &&& (1 : Int32)) = (0 : Int32)
  · refine GlW.st (fun t k => XS.ifYes X0.here hx rfl (pc0 := 4) (pc' := 11) rfl (hb hby at_4) rfl ((if0 _ _).trans (teq hc4).1) (by decide) (by decide) k) ?_
    show GlW _ _ _ _ _ _ _ (s₁.setTop (mkF m 11 #[.val (.long q1), .second, .val (.long q2), .second, .val (.int p3), .val (.int p4), .unset, .unset, .unset, .unset, .unset, .unset, .unset] []))
    refine GlW.st (fun t k => XS.iconst X0.here hx rfl (hb hby at_11) k) ?_
    show GlW _ _ _ _ _ _ _ (s₁.setTop (mkF m 12 #[.val (.long q1), .second, .val (.long q2), .second, .val (.int p3), .val (.int p4), .unset, .unset, .unset, .unset, .unset, .unset, .unset] [(.int (0 : Int32))]))
    exact J1 _ _ X0 e0 N0 _ (by simp only [if_pos hc4])
  · refine GlW.st (fun t k => XS.ifNo X0.here hx rfl (hb hby at_4) rfl ((if0 _ _).trans (feq hc4).1) k) ?_
    show GlW _ _ _ _ _ _ _ (s₁.setTop (mkF m 7 #[.val (.long q1), .second, .val (.long q2), .second, .val (.int p3), .val (.int p4), .unset, .unset, .unset, .unset, .unset, .unset, .unset] []))
    refine GlW.st (fun t k => XS.iconst X0.here hx rfl (hb hby at_7) k) ?_
    show GlW _ _ _ _ _ _ _ (s₁.setTop (mkF m 8 #[.val (.long q1), .second, .val (.long q2), .second, .val (.int p3), .val (.int p4), .unset, .unset, .unset, .unset, .unset, .unset, .unset] [(.int (1 : Int32))]))
    refine GlW.st (fun t k => XS.goto X0.here hx rfl (pc0 := 8) (pc' := 12) rfl (hb hby at_8) (by decide) (by decide) k) ?_
    show GlW _ _ _ _ _ _ _ (s₁.setTop (mkF m 12 #[.val (.long q1), .second, .val (.long q2), .second, .val (.int p3), .val (.int p4), .unset, .unset, .unset, .unset, .unset, .unset, .unset] [(.int (1 : Int32))]))
    exact J1 _ _ X0 e0 N0 _ (by simp only [if_neg hc4])
set_option maxRecDepth 65536 in
set_option maxHeartbeats 40000000 in
theorem comes_1 {Post : Tables → Env → Array Value → State → Outcome → State → Prop} (hpost : ∀ tb e args s v u, (limb_1_1.after args s (.returned v) u = true ∧ limb_1_2.after args s (.returned v) u = true ∧ True) → ReturnedEndW s (.returned v) u (Jvm.fieldLocs frame_1_writes args s ++ Jvm.arrayLocs frame_1_arrays args s ++ Jvm.staticLocs frame_1_statics s) 24 1216 → Post tb e args s (.returned v) u) :
    ArmFor flags0 classFile x code maxLocals ret World_1 tables_1 room_1 Calls_1 rest_1 Pre_1 Post := by
  intro l hfl _ _ p e ha hc hk s m args below hf hA hF happ hP
  obtain ⟨hcalls, hrest, hpre⟩ := hP
  obtain ⟨-, -, -, hnamed, -, -, -, hat⟩ := (Spec.applies_iff hf).mp happ
  obtain ⟨hg, hn⟩ := and_e (Cond.before_iff.mp (show (Jvm.Cond.and given_1 narrow_1).before args s = true from hpre))
  obtain ⟨hcnt, hr0⟩ := and_e hg
  obtain ⟨ha0, hr1⟩ := and_e hr0
  obtain ⟨ha1, hr2⟩ := and_e hr1
  obtain ⟨ha2, hr3⟩ := and_e hr2
  have ha3 := hr3
  obtain ⟨w0, w1, w2, w3, rfl⟩ : ∃ w0 w1 w2 w3 : Value, args = #[w0, w1, w2, w3] := by
    have hs : args.size = 4 := by simpa [Cond.value, given_1] using hcnt
    obtain ⟨L⟩ := args
    match L, hs with
    | [w0, w1, w2, w3], _ => exact ⟨w0, w1, w2, w3, rfl⟩
  have hw := fun d (hd : d ∈ tables_1) => atoms_spec (ws := Jvm.Cond.code x code maxLocals ret :: tables_1) hat d (List.mem_cons_of_mem _ hd)
  obtain ⟨i0, ei0⟩ := isL_v ha0
  obtain rfl : w0 = (.long i0) := Option.some.inj ei0
  obtain ⟨i1, ei1⟩ := isL_v ha1
  obtain rfl : w1 = (.long i1) := Option.some.inj ei1
  obtain ⟨i2, ei2⟩ := is_v ha2
  obtain rfl : w2 = (.int i2) := Option.some.inj ei2
  obtain ⟨i3, ei3⟩ := is_v ha3
  obtain rfl : w3 = (.int i3) := Option.some.inj ei3
  obtain ⟨n, o, h1, h2, h3, _, L, rfl, ⟨rfl, N⟩, hq⟩ := rm0 l s _ hw tables_1 i0 i1 i2 i3 s.heap s.heap.size (Nat.le_refl _) p e ha hc hk s m _ below hf ((Spec.applies_iff_loose hf).mp happ).1 ⟨rfl, State.Warmed39.refl s, rfl⟩ trivial
  refine ⟨n, _, h1, h2, h3, hpost _ _ _ _ _ _ ⟨Cond.after_iff.mpr rfl, Cond.after_iff.mpr (eq_i res_at (Term.int_eval (1)) rfl), trivial⟩ ⟨hq.1, hq.2.1, hq.2.2.1, (hq.2.2.2.sift fun y hy => Or.inr (N y hy)).mono (by decide) (by decide)⟩⟩
theorem main_1_1 : Claimed_1_1 := comes_1 fun _ _ _ _ _ _ h hF => ⟨h.1, hF⟩
theorem main_1_2 : Claimed_1_2 := comes_1 fun _ _ _ _ _ _ h hF => ⟨h.2.1, hF⟩
end Jvm.Pilot.@@N@@
namespace Jvm.Pilot.@@N@@
open Jvm Jvm.ClassFile Sem Op Lib Jvm.Free Jvm.Stand Jvm.Pilot.@@N@@.Jvm.D
/-! MADE BY PROGRAM (witnessworld.py) out of the Statement's table words and the real class files: 29 classes; the members and pool entries that the words name. The judged class is class 1, her method 1. -/
namespace start1
open Jvm.ClassFile
def u (s : String) : CpInfo := .utf8 (stringToUtf16 s)
/-- a pool by its gaps: so many unusable entries, then the entry; so many at the end -/
def gap : Nat → List CpInfo → List CpInfo
  | 0, r => r
  | n + 1, r => .unusable :: gap n r
def poolList (es : List (Nat × CpInfo)) (last : Nat) : List CpInfo := es.foldr (fun e r => gap e.1 (e.2 :: r)) (gap last [])
def pool (es : List (Nat × CpInfo)) (last : Nat) : Array CpInfo := ⟨poolList es last⟩
def fileOf (pool : Array CpInfo) (this : Nat) (attrs : Array Attribute := #[]) (ms : Array MethodInfo := #[]) (fl : Nat := 33) (sup : Nat := 0) (ifs : Array Nat := #[]) (fds : Array FieldInfo := #[]) : ClassFile where
  minorVersion := 0
  majorVersion := 65
  constantPool := pool
  accessFlags := fl
  thisClass := this
  superClass := sup
  interfaces := ifs
  fields := fds
  methods := ms
  attributes := attrs
def plain (name : String) (sup : Option ClassId) : Class where
  name := name
  kind := .ordinary
  loader := none
  accessFlags := 33
  super := sup
  interfaces := #[]
  cf := none
  fields := #[]
  methods := #[]
  instanceTypes := #[]
  staticTypes := #[]
  resolved := #[]
  callSites := []
  init := .initialized
  statics := none
  mirror := none

def pool0 : Array CpInfo := pool [(5, u "<init>"), (0, u "()V"), (1, .class_ 10), (1, u "java/lang/Object")] 113

def k0c0 : Code := { maxStack := 0, maxLocals := 1, code := object_method_1_code, exceptionTable := #[], attributes := #[] }
def k0m0 : Method := { name := "<init>", desc := "()V", sig := { parameters := [], returnType := none }, accessFlags := 1, code := some k0c0 }
/-- java/lang/Object -/
def k0 : Class := { plain "java/lang/Object" none with
  accessFlags := 33
  interfaces := #[]
  cf := some (fileOf pool0 8 #[] #[{ accessFlags := 1, nameIndex := 5, descriptorIndex := 6, attributes := #[] }] 33 0 #[] #[])
  fields := #[]
  methods := #[k0m0]
  instanceTypes := #[]
  staticTypes := #[]
  resolved := Array.replicate 124 none
  statics := none }

def pool1 : Array CpInfo := pool [(2, .class_ 4), (1, u "java/lang/Object"), (0, u "<init>"), (0, u "()V"), (0, .long 4294967296), (1, .long 2), (1, .class_ 12), (0, u "com/example/meisai/meisai/DiameterStream"), (0, .string 14), (0, u "p"), (0, .methodref 11 16), (0, .nameAndType 5 17), (0, u "(Ljava/lang/String;JZ)V"), (0, .methodref 11 19), (0, .nameAndType 20 21), (0, u "startsAt"), (0, u "(J)Z"), (0, .class_ 23), (0, u "com/example/meisai/meisai/DiameterStreamStartsAtPinLaw"), (0, .long 4294967295), (1, u "MASK"), (0, u "J"), (3, u "law"), (0, u "(JJII)Z")] 3

def k1m0 : Method := { name := "<init>", desc := "()V", sig := { parameters := [], returnType := none }, accessFlags := 1, code := none }
def k1c1 : Code := { maxStack := 6, maxLocals := 13, code := code, exceptionTable := #[], attributes := #[] }
def k1m1 : Method := { name := "law", desc := "(JJII)Z", sig := { parameters := [.long, .long, .int, .int], returnType := some .boolean }, accessFlags := 9, code := some k1c1 }
/-- com/example/meisai/meisai/DiameterStreamStartsAtPinLaw -/
def k1 : Class := { plain "com/example/meisai/meisai/DiameterStreamStartsAtPinLaw" (some 0) with
  accessFlags := 49
  interfaces := #[]
  cf := some (fileOf pool1 22 #[] #[{ accessFlags := 1, nameIndex := 5, descriptorIndex := 6, attributes := #[] }, { accessFlags := 9, nameIndex := 31, descriptorIndex := 32, attributes := #[] }] 49 2 #[] #[{ accessFlags := 26, nameIndex := 26, descriptorIndex := 27, attributes := #[] }])
  fields := #[{ name := "MASK", type := .long, accessFlags := 26, slot := 0, constantValue := 0 }]
  methods := #[k1m0, k1m1]
  instanceTypes := #[]
  staticTypes := #[.long]
  resolved := Array.replicate 36 none
  statics := none }

def pool2 : Array CpInfo := pool [(1, .methodref 2 3), (0, .class_ 4), (0, .nameAndType 5 6), (0, u "java/lang/Object"), (0, u "<init>"), (0, u "()V"), (0, .class_ 8), (0, u "com/example/meisai/meisai/DiameterStream$Unread"), (0, .methodref 7 10), (0, .nameAndType 5 11), (0, u "(Lcom/example/meisai/meisai/DiameterStream;)V"), (0, .fieldref 13 14), (0, .class_ 15), (0, .nameAndType 16 17), (0, u "com/example/meisai/meisai/DiameterStream"), (0, u "unread"), (0, u "Lcom/example/meisai/meisai/DiameterStream$Unread;"), (0, .class_ 19), (0, u "java/util/TreeMap"), (0, .methodref 18 3), (0, .fieldref 13 22), (0, .nameAndType 23 24), (0, u "waiting"), (0, u "Ljava/util/TreeMap;"), (0, .fieldref 13 26), (0, .nameAndType 27 24), (0, u "preceding"), (0, .fieldref 13 29), (0, .nameAndType 30 31), (0, u "path"), (0, u "Ljava/lang/String;"), (0, .fieldref 13 33), (0, .nameAndType 34 35), (0, u "firstSequence"), (0, u "J"), (0, .fieldref 13 37), (0, .nameAndType 38 39), (0, u "afterSyn"), (0, u "Z"), (0, .fieldref 13 41), (0, .nameAndType 42 35), (0, u "start"), (2, .long 4294967295), (3, u "taken"), (8, .class_ 59), (0, u "com/example/meisai/meisai/DiameterStream$Piece"), (60, u "waitingBytes"), (37, u "precedingBytes"), (65, u "VERSION"), (0, u "I"), (2, u "LENGTH_FIELD_END"), (1, u "LARGEST_WAIT_BYTES"), (2, u "(Ljava/lang/String;JZ)V"), (2, u "startsAt"), (0, u "(J)Z"), (3, .class_ 242), (0, u "com/example/meisai/meisai/DiameterStream$Handler")] 28

def k2c0 : Code := { maxStack := 4, maxLocals := 5, code := prog_7_method_1_code, exceptionTable := #[], attributes := #[] }
def k2m0 : Method := { name := "<init>", desc := "(Ljava/lang/String;JZ)V", sig := { parameters := [(.object "java/lang/String"), .long, .boolean], returnType := none }, accessFlags := 0, code := some k2c0 }
def k2c1 : Code := { maxStack := 6, maxLocals := 3, code := prog_7_method_2_code, exceptionTable := #[], attributes := #[] }
def k2m1 : Method := { name := "startsAt", desc := "(J)Z", sig := { parameters := [.long], returnType := some .boolean }, accessFlags := 0, code := some k2c1 }
/-- com/example/meisai/meisai/DiameterStream -/
def k2 : Class := { plain "com/example/meisai/meisai/DiameterStream" (some 0) with
  accessFlags := 32
  interfaces := #[]
  cf := some (fileOf pool2 13 #[.nestMembers #[7, 58, 241]] #[{ accessFlags := 0, nameIndex := 5, descriptorIndex := 233, attributes := #[] }, { accessFlags := 0, nameIndex := 236, descriptorIndex := 237, attributes := #[] }] 32 2 #[] #[{ accessFlags := 26, nameIndex := 224, descriptorIndex := 225, attributes := #[] }, { accessFlags := 26, nameIndex := 228, descriptorIndex := 225, attributes := #[] }, { accessFlags := 26, nameIndex := 230, descriptorIndex := 35, attributes := #[] }, { accessFlags := 18, nameIndex := 30, descriptorIndex := 31, attributes := #[] }, { accessFlags := 18, nameIndex := 34, descriptorIndex := 35, attributes := #[] }, { accessFlags := 18, nameIndex := 38, descriptorIndex := 39, attributes := #[] }, { accessFlags := 2, nameIndex := 42, descriptorIndex := 35, attributes := #[] }, { accessFlags := 2, nameIndex := 49, descriptorIndex := 35, attributes := #[] }, { accessFlags := 18, nameIndex := 16, descriptorIndex := 17, attributes := #[] }, { accessFlags := 18, nameIndex := 23, descriptorIndex := 24, attributes := #[] }, { accessFlags := 2, nameIndex := 120, descriptorIndex := 35, attributes := #[] }, { accessFlags := 18, nameIndex := 27, descriptorIndex := 24, attributes := #[] }, { accessFlags := 2, nameIndex := 158, descriptorIndex := 35, attributes := #[] }])
  fields := #[{ name := "VERSION", type := .int, accessFlags := 26, slot := 0, constantValue := 0 }, { name := "LENGTH_FIELD_END", type := .int, accessFlags := 26, slot := 1, constantValue := 0 }, { name := "LARGEST_WAIT_BYTES", type := .long, accessFlags := 26, slot := 2, constantValue := 0 }, { name := "path", type := (.object "java/lang/String"), accessFlags := 18, slot := 0, constantValue := 0 }, { name := "firstSequence", type := .long, accessFlags := 18, slot := 1, constantValue := 0 }, { name := "afterSyn", type := .boolean, accessFlags := 18, slot := 2, constantValue := 0 }, { name := "start", type := .long, accessFlags := 2, slot := 3, constantValue := 0 }, { name := "taken", type := .long, accessFlags := 2, slot := 4, constantValue := 0 }, { name := "unread", type := (.object "com/example/meisai/meisai/DiameterStream$Unread"), accessFlags := 18, slot := 5, constantValue := 0 }, { name := "waiting", type := (.object "java/util/TreeMap"), accessFlags := 18, slot := 6, constantValue := 0 }, { name := "waitingBytes", type := .long, accessFlags := 2, slot := 7, constantValue := 0 }, { name := "preceding", type := (.object "java/util/TreeMap"), accessFlags := 18, slot := 8, constantValue := 0 }, { name := "precedingBytes", type := .long, accessFlags := 2, slot := 9, constantValue := 0 }]
  methods := #[k2m0, k2m1]
  instanceTypes := #[(.object "java/lang/String"), .long, .boolean, .long, .long, (.object "com/example/meisai/meisai/DiameterStream$Unread"), (.object "java/util/TreeMap"), .long, (.object "java/util/TreeMap"), .long]
  staticTypes := #[.int, .int, .long]
  resolved := Array.replicate 7 none ++ #[some (.cls 9), none, some (.method ⟨9, 0⟩)] ++ Array.replicate 261 none
  statics := none }

def pool3 : Array CpInfo := pool [(1, .class_ 2), (0, u "java/io/Serializable"), (0, .class_ 4), (0, u "java/lang/Object")] 2

/-- java/io/Serializable -/
def k3 : Class := { plain "java/io/Serializable" (some 0) with
  accessFlags := 1537
  interfaces := #[]
  cf := some (fileOf pool3 1 #[] #[] 1537 3 #[] #[])
  fields := #[]
  methods := #[]
  instanceTypes := #[]
  staticTypes := #[]
  resolved := Array.replicate 7 none
  statics := none }

def pool4 : Array CpInfo := pool [(1, .class_ 2), (0, u "java/lang/Comparable"), (0, .class_ 4), (0, u "java/lang/Object")] 7

/-- java/lang/Comparable -/
def k4 : Class := { plain "java/lang/Comparable" (some 0) with
  accessFlags := 1537
  interfaces := #[]
  cf := some (fileOf pool4 1 #[] #[] 1537 3 #[] #[])
  fields := #[]
  methods := #[]
  instanceTypes := #[]
  staticTypes := #[]
  resolved := Array.replicate 12 none
  statics := none }

def pool5 : Array CpInfo := pool [(2, .class_ 4), (1, u "java/lang/CharSequence"), (42, .class_ 48), (0, u "java/lang/CharSequence$1CodePointIterator"), (10, .class_ 60), (0, u "java/lang/CharSequence$1CharIterator"), (5, .class_ 67), (0, u "java/lang/Object")] 63

/-- java/lang/CharSequence -/
def k5 : Class := { plain "java/lang/CharSequence" (some 0) with
  accessFlags := 1537
  interfaces := #[]
  cf := some (fileOf pool5 2 #[.nestMembers #[47, 59]] #[] 1537 66 #[] #[])
  fields := #[]
  methods := #[]
  instanceTypes := #[]
  staticTypes := #[]
  resolved := Array.replicate 131 none
  statics := none }

def pool6 : Array CpInfo := pool [(1, .class_ 2), (0, u "java/lang/constant/Constable"), (0, .class_ 4), (0, u "java/lang/Object")] 6

/-- java/lang/constant/Constable -/
def k6 : Class := { plain "java/lang/constant/Constable" (some 0) with
  accessFlags := 1537
  interfaces := #[]
  cf := some (fileOf pool6 1 #[] #[] 1537 3 #[] #[])
  fields := #[]
  methods := #[]
  instanceTypes := #[]
  staticTypes := #[]
  resolved := Array.replicate 11 none
  statics := none }

def pool7 : Array CpInfo := pool [(1, .class_ 2), (0, u "java/lang/constant/ConstantDesc"), (0, .class_ 4), (0, u "java/lang/Object")] 32

/-- java/lang/constant/ConstantDesc -/
def k7 : Class := { plain "java/lang/constant/ConstantDesc" (some 0) with
  accessFlags := 1537
  interfaces := #[]
  cf := some (fileOf pool7 1 #[] #[] 1537 3 #[] #[])
  fields := #[]
  methods := #[]
  instanceTypes := #[]
  staticTypes := #[]
  resolved := Array.replicate 37 none
  statics := none }

def pool8 : Array CpInfo := pool [(2, .class_ 4), (1, u "java/lang/Object"), (0, u "<init>"), (0, u "()V"), (3, .class_ 12), (1, u "java/lang/String"), (0, u "value"), (0, u "[B"), (2, u "coder"), (0, u "B"), (2, u "hash"), (0, u "I"), (2, u "hashIsZero"), (0, u "Z"), (13, u "COMPACT_STRINGS"), (534, .class_ 576), (0, u "java/lang/CharSequence"), (22, u "CASE_INSENSITIVE_ORDER"), (0, u "Ljava/util/Comparator;"), (500, u "serialPersistentFields"), (0, u "[Ljava/io/ObjectStreamField;"), (0, .class_ 1104), (0, u "java/lang/String$CaseInsensitiveComparator"), (1, .class_ 1107), (0, u "java/io/Serializable"), (0, .class_ 1109), (0, u "java/lang/Comparable"), (0, .class_ 1111), (0, u "java/lang/constant/Constable"), (0, .class_ 1113), (0, u "java/lang/constant/ConstantDesc"), (2, u "serialVersionUID"), (0, u "J"), (3, u "REPL"), (0, u "C"), (2, u "LATIN1"), (1, u "UTF16")] 323

def k8m0 : Method := { name := "<init>", desc := "()V", sig := { parameters := [], returnType := none }, accessFlags := 1, code := none }
/-- java/lang/String -/
def k8 : Class := { plain "java/lang/String" (some 0) with
  accessFlags := 49
  interfaces := #[3, 4, 5, 6, 7]
  cf := some (fileOf pool8 10 #[.nestMembers #[1103]] #[{ accessFlags := 1, nameIndex := 5, descriptorIndex := 6, attributes := #[] }] 49 2 #[1106, 1108, 575, 1110, 1112] #[{ accessFlags := 18, nameIndex := 13, descriptorIndex := 14, attributes := #[] }, { accessFlags := 18, nameIndex := 17, descriptorIndex := 18, attributes := #[] }, { accessFlags := 2, nameIndex := 21, descriptorIndex := 22, attributes := #[] }, { accessFlags := 2, nameIndex := 25, descriptorIndex := 26, attributes := #[] }, { accessFlags := 26, nameIndex := 1116, descriptorIndex := 1117, attributes := #[] }, { accessFlags := 24, nameIndex := 40, descriptorIndex := 26, attributes := #[] }, { accessFlags := 26, nameIndex := 1101, descriptorIndex := 1102, attributes := #[] }, { accessFlags := 26, nameIndex := 1121, descriptorIndex := 1122, attributes := #[] }, { accessFlags := 25, nameIndex := 599, descriptorIndex := 600, attributes := #[] }, { accessFlags := 24, nameIndex := 1125, descriptorIndex := 18, attributes := #[] }, { accessFlags := 24, nameIndex := 1127, descriptorIndex := 18, attributes := #[] }])
  fields := #[{ name := "value", type := (.array .byte), accessFlags := 18, slot := 0, constantValue := 0 }, { name := "coder", type := .byte, accessFlags := 18, slot := 1, constantValue := 0 }, { name := "hash", type := .int, accessFlags := 2, slot := 2, constantValue := 0 }, { name := "hashIsZero", type := .boolean, accessFlags := 2, slot := 3, constantValue := 0 }, { name := "serialVersionUID", type := .long, accessFlags := 26, slot := 0, constantValue := 0 }, { name := "COMPACT_STRINGS", type := .boolean, accessFlags := 24, slot := 1, constantValue := 0 }, { name := "serialPersistentFields", type := (.array (.object "java/io/ObjectStreamField")), accessFlags := 26, slot := 2, constantValue := 0 }, { name := "REPL", type := .char, accessFlags := 26, slot := 3, constantValue := 0 }, { name := "CASE_INSENSITIVE_ORDER", type := (.object "java/util/Comparator"), accessFlags := 25, slot := 4, constantValue := 0 }, { name := "LATIN1", type := .byte, accessFlags := 24, slot := 5, constantValue := 0 }, { name := "UTF16", type := .byte, accessFlags := 24, slot := 6, constantValue := 0 }]
  methods := #[k8m0]
  instanceTypes := #[(.array .byte), .byte, .int, .boolean]
  staticTypes := #[.long, .boolean, (.array (.object "java/io/ObjectStreamField")), .char, (.object "java/util/Comparator"), .byte, .byte]
  resolved := Array.replicate 1451 none
  statics := none }

def pool9 : Array CpInfo := pool [(1, .class_ 2), (0, u "com/example/meisai/meisai/DiameterStream"), (0, .fieldref 4 5), (0, .class_ 6), (0, .nameAndType 7 8), (0, u "com/example/meisai/meisai/DiameterStream$Unread"), (0, u "this$0"), (0, u "Lcom/example/meisai/meisai/DiameterStream;"), (0, .methodref 10 11), (0, .class_ 12), (0, .nameAndType 13 14), (0, u "java/lang/Object"), (0, u "<init>"), (0, u "()V"), (0, .class_ 16), (0, u "java/util/ArrayDeque"), (0, .methodref 15 11), (0, .fieldref 4 19), (0, .nameAndType 20 21), (0, u "pieces"), (0, u "Ljava/util/ArrayDeque;"), (6, u "size"), (0, u "J"), (115, u "(Lcom/example/meisai/meisai/DiameterStream;)V")] 44

def k9c0 : Code := { maxStack := 3, maxLocals := 2, code := prog_10_method_1_code, exceptionTable := #[], attributes := #[] }
def k9m0 : Method := { name := "<init>", desc := "(Lcom/example/meisai/meisai/DiameterStream;)V", sig := { parameters := [(.object "com/example/meisai/meisai/DiameterStream")], returnType := none }, accessFlags := 2, code := some k9c0 }
/-- com/example/meisai/meisai/DiameterStream$Unread -/
def k9 : Class := { plain "com/example/meisai/meisai/DiameterStream$Unread" (some 0) with
  accessFlags := 32
  interfaces := #[]
  cf := some (fileOf pool9 4 #[.nestHost 1] #[{ accessFlags := 2, nameIndex := 13, descriptorIndex := 145, attributes := #[] }] 32 10 #[] #[{ accessFlags := 18, nameIndex := 20, descriptorIndex := 21, attributes := #[] }, { accessFlags := 2, nameIndex := 28, descriptorIndex := 29, attributes := #[] }, { accessFlags := 4112, nameIndex := 7, descriptorIndex := 8, attributes := #[] }])
  fields := #[{ name := "pieces", type := (.object "java/util/ArrayDeque"), accessFlags := 18, slot := 0, constantValue := 0 }, { name := "size", type := .long, accessFlags := 2, slot := 1, constantValue := 0 }, { name := "this$0", type := (.object "com/example/meisai/meisai/DiameterStream"), accessFlags := 4112, slot := 2, constantValue := 0 }]
  methods := #[k9m0]
  instanceTypes := #[(.object "java/util/ArrayDeque"), .long, (.object "com/example/meisai/meisai/DiameterStream")]
  staticTypes := #[]
  resolved := Array.replicate 190 none
  statics := none }

def pool10 : Array CpInfo := pool [(8, .class_ 10), (1, u "java/lang/Iterable"), (24, .class_ 36), (0, u "java/lang/Object")] 25

/-- java/lang/Iterable -/
def k10 : Class := { plain "java/lang/Iterable" (some 0) with
  accessFlags := 1537
  interfaces := #[]
  cf := some (fileOf pool10 8 #[] #[] 1537 35 #[] #[])
  fields := #[]
  methods := #[]
  instanceTypes := #[]
  staticTypes := #[]
  resolved := Array.replicate 62 none
  statics := none }

def pool11 : Array CpInfo := pool [(10, .class_ 12), (1, u "java/util/Collection"), (47, .class_ 61), (0, u "java/lang/Object"), (0, .class_ 63), (0, u "java/lang/Iterable")] 51

/-- java/util/Collection -/
def k11 : Class := { plain "java/util/Collection" (some 0) with
  accessFlags := 1537
  interfaces := #[10]
  cf := some (fileOf pool11 10 #[] #[] 1537 60 #[62] #[])
  fields := #[]
  methods := #[]
  instanceTypes := #[]
  staticTypes := #[]
  resolved := Array.replicate 115 none
  statics := none }

def pool12 : Array CpInfo := pool [(1, .methodref 2 3), (0, .class_ 4), (0, .nameAndType 5 6), (0, u "java/lang/Object"), (0, u "<init>"), (0, u "()V"), (1, .class_ 10), (1, u "java/util/AbstractCollection"), (66, .class_ 78), (0, u "java/util/Collection")] 81

def k12c0 : Code := { maxStack := 1, maxLocals := 1, code := jdk_22_method_1_code, exceptionTable := #[], attributes := #[] }
def k12m0 : Method := { name := "<init>", desc := "()V", sig := { parameters := [], returnType := none }, accessFlags := 4, code := some k12c0 }
/-- java/util/AbstractCollection -/
def k12 : Class := { plain "java/util/AbstractCollection" (some 0) with
  accessFlags := 1057
  interfaces := #[11]
  cf := some (fileOf pool12 8 #[] #[{ accessFlags := 4, nameIndex := 5, descriptorIndex := 6, attributes := #[] }] 1057 2 #[77] #[])
  fields := #[]
  methods := #[k12m0]
  instanceTypes := #[]
  staticTypes := #[]
  resolved := Array.replicate 160 none
  statics := none }

def pool13 : Array CpInfo := pool [(1, .class_ 2), (0, u "java/util/Queue"), (0, .class_ 4), (0, u "java/lang/Object"), (0, .class_ 6), (0, u "java/util/Collection")] 14

/-- java/util/Queue -/
def k13 : Class := { plain "java/util/Queue" (some 0) with
  accessFlags := 1537
  interfaces := #[11]
  cf := some (fileOf pool13 1 #[] #[] 1537 3 #[5] #[])
  fields := #[]
  methods := #[]
  instanceTypes := #[]
  staticTypes := #[]
  resolved := Array.replicate 21 none
  statics := none }

def pool14 : Array CpInfo := pool [(8, .class_ 10), (1, u "java/util/SequencedCollection"), (15, .class_ 27), (0, u "java/lang/Object"), (0, .class_ 29), (0, u "java/util/Collection")] 27

/-- java/util/SequencedCollection -/
def k14 : Class := { plain "java/util/SequencedCollection" (some 0) with
  accessFlags := 1537
  interfaces := #[11]
  cf := some (fileOf pool14 8 #[] #[] 1537 26 #[28] #[])
  fields := #[]
  methods := #[]
  instanceTypes := #[]
  staticTypes := #[]
  resolved := Array.replicate 57 none
  statics := none }

def pool15 : Array CpInfo := pool [(8, .class_ 10), (1, u "java/util/Deque"), (2, .class_ 14), (0, u "java/lang/Object"), (0, .class_ 16), (0, u "java/util/Queue"), (0, .class_ 18), (0, u "java/util/SequencedCollection")] 51

/-- java/util/Deque -/
def k15 : Class := { plain "java/util/Deque" (some 0) with
  accessFlags := 1537
  interfaces := #[13, 14]
  cf := some (fileOf pool15 8 #[] #[] 1537 13 #[15, 17] #[])
  fields := #[]
  methods := #[]
  instanceTypes := #[]
  staticTypes := #[]
  resolved := Array.replicate 70 none
  statics := none }

def pool16 : Array CpInfo := pool [(1, .class_ 2), (0, u "java/lang/Cloneable"), (0, .class_ 4), (0, u "java/lang/Object")] 2

/-- java/lang/Cloneable -/
def k16 : Class := { plain "java/lang/Cloneable" (some 0) with
  accessFlags := 1537
  interfaces := #[]
  cf := some (fileOf pool16 1 #[] #[] 1537 3 #[] #[])
  fields := #[]
  methods := #[]
  instanceTypes := #[]
  staticTypes := #[]
  resolved := Array.replicate 7 none
  statics := none }

def pool17 : Array CpInfo := pool [(3, .fieldref 4 5), (0, .class_ 6), (0, .nameAndType 7 8), (0, u "java/util/ArrayDeque"), (0, u "elements"), (0, u "[Ljava/lang/Object;"), (13, u "tail"), (0, u "I"), (2, u "head"), (12, u "<init>"), (2, .methodref 43 44), (0, .class_ 45), (0, .nameAndType 39 46), (0, u "java/util/AbstractCollection"), (0, u "()V"), (0, .class_ 48), (0, u "java/lang/Object"), (82, .class_ 132), (0, u "java/util/ArrayDeque$DeqIterator"), (3, .class_ 137), (0, u "java/util/ArrayDeque$DescendingIterator"), (1, .class_ 140), (0, u "java/util/ArrayDeque$DeqSpliterator"), (137, .class_ 279), (0, u "java/util/Deque"), (0, .class_ 281), (0, u "java/lang/Cloneable"), (0, .class_ 283), (0, u "java/io/Serializable"), (0, u "MAX_ARRAY_SIZE"), (1, u "serialVersionUID"), (0, u "J")] 150

def k17c0 : Code := { maxStack := 2, maxLocals := 1, code := jdk_21_method_3_code, exceptionTable := #[], attributes := #[] }
def k17m0 : Method := { name := "<init>", desc := "()V", sig := { parameters := [], returnType := none }, accessFlags := 1, code := some k17c0 }
/-- java/util/ArrayDeque -/
def k17 : Class := { plain "java/util/ArrayDeque" (some 12) with
  accessFlags := 33
  interfaces := #[15, 16, 3]
  cf := some (fileOf pool17 4 #[.nestMembers #[139, 136, 131]] #[{ accessFlags := 1, nameIndex := 39, descriptorIndex := 46, attributes := #[] }] 33 43 #[278, 280, 282] #[{ accessFlags := 128, nameIndex := 7, descriptorIndex := 8, attributes := #[] }, { accessFlags := 128, nameIndex := 26, descriptorIndex := 23, attributes := #[] }, { accessFlags := 128, nameIndex := 22, descriptorIndex := 23, attributes := #[] }, { accessFlags := 26, nameIndex := 284, descriptorIndex := 23, attributes := #[] }, { accessFlags := 26, nameIndex := 286, descriptorIndex := 287, attributes := #[] }])
  fields := #[{ name := "elements", type := (.array (.object "java/lang/Object")), accessFlags := 128, slot := 0, constantValue := 0 }, { name := "head", type := .int, accessFlags := 128, slot := 1, constantValue := 0 }, { name := "tail", type := .int, accessFlags := 128, slot := 2, constantValue := 0 }, { name := "MAX_ARRAY_SIZE", type := .int, accessFlags := 26, slot := 0, constantValue := 0 }, { name := "serialVersionUID", type := .long, accessFlags := 26, slot := 1, constantValue := 0 }]
  methods := #[k17m0]
  instanceTypes := #[(.array (.object "java/lang/Object")), .int, .int]
  staticTypes := #[.int, .long]
  resolved := Array.replicate 438 none
  statics := none }

def pool18 : Array CpInfo := pool [(2, .class_ 4), (1, u "java/util/Map"), (31, .class_ 37), (0, u "java/util/Map$Entry"), (55, .class_ 94), (0, u "java/lang/Object")] 168

/-- java/util/Map -/
def k18 : Class := { plain "java/util/Map" (some 0) with
  accessFlags := 1537
  interfaces := #[]
  cf := some (fileOf pool18 2 #[.nestMembers #[36]] #[] 1537 93 #[] #[])
  fields := #[]
  methods := #[]
  instanceTypes := #[]
  staticTypes := #[]
  resolved := Array.replicate 263 none
  statics := none }

def pool19 : Array CpInfo := pool [(1, .methodref 2 3), (0, .class_ 4), (0, .nameAndType 5 6), (0, u "java/lang/Object"), (0, u "<init>"), (0, u "()V"), (1, .class_ 10), (1, u "java/util/AbstractMap"), (42, .class_ 54), (0, u "java/util/Map"), (9, u "keySet"), (0, u "Ljava/util/Set;"), (0, .class_ 67), (0, u "java/util/AbstractMap$1"), (5, u "values"), (0, u "Ljava/util/Collection;"), (0, .class_ 76), (0, u "java/util/AbstractMap$2"), (104, .class_ 182), (0, u "java/util/AbstractMap$ViewCollection"), (0, .class_ 184), (0, u "java/util/AbstractMap$SimpleImmutableEntry"), (0, .class_ 186), (0, u "java/util/AbstractMap$SimpleEntry"), (0, .class_ 188), (0, u "java/util/AbstractMap$2$1"), (0, .class_ 190), (0, u "java/util/AbstractMap$1$1")] 5

def k19c0 : Code := { maxStack := 1, maxLocals := 1, code := jdk_71_method_1_code, exceptionTable := #[], attributes := #[] }
def k19m0 : Method := { name := "<init>", desc := "()V", sig := { parameters := [], returnType := none }, accessFlags := 4, code := some k19c0 }
/-- java/util/AbstractMap -/
def k19 : Class := { plain "java/util/AbstractMap" (some 0) with
  accessFlags := 1057
  interfaces := #[18]
  cf := some (fileOf pool19 8 #[.nestMembers #[181, 183, 185, 75, 187, 66, 189]] #[{ accessFlags := 4, nameIndex := 5, descriptorIndex := 6, attributes := #[] }] 1057 2 #[53] #[{ accessFlags := 128, nameIndex := 64, descriptorIndex := 65, attributes := #[] }, { accessFlags := 128, nameIndex := 73, descriptorIndex := 74, attributes := #[] }])
  fields := #[{ name := "keySet", type := (.object "java/util/Set"), accessFlags := 128, slot := 0, constantValue := 0 }, { name := "values", type := (.object "java/util/Collection"), accessFlags := 128, slot := 1, constantValue := 0 }]
  methods := #[k19m0]
  instanceTypes := #[(.object "java/util/Set"), (.object "java/util/Collection")]
  staticTypes := #[]
  resolved := Array.replicate 196 none
  statics := none }

def pool20 : Array CpInfo := pool [(2, .class_ 4), (1, u "java/util/SequencedMap"), (38, .class_ 44), (0, u "java/util/SequencedMap$1SeqKeySet"), (3, .class_ 49), (0, u "java/util/SequencedMap$1SeqValues"), (1, .class_ 52), (0, u "java/util/SequencedMap$1SeqEntrySet"), (1, .class_ 55), (0, u "java/lang/Object"), (0, .class_ 57), (0, u "java/util/Map")] 48

/-- java/util/SequencedMap -/
def k20 : Class := { plain "java/util/SequencedMap" (some 0) with
  accessFlags := 1537
  interfaces := #[18]
  cf := some (fileOf pool20 2 #[.nestMembers #[51, 48, 43]] #[] 1537 54 #[56] #[])
  fields := #[]
  methods := #[]
  instanceTypes := #[]
  staticTypes := #[]
  resolved := Array.replicate 106 none
  statics := none }

def pool21 : Array CpInfo := pool [(14, .class_ 16), (1, u "java/util/SortedMap"), (2, .class_ 20), (0, u "java/lang/Object"), (0, .class_ 22), (0, u "java/util/SequencedMap")] 50

/-- java/util/SortedMap -/
def k21 : Class := { plain "java/util/SortedMap" (some 0) with
  accessFlags := 1537
  interfaces := #[20]
  cf := some (fileOf pool21 14 #[] #[] 1537 19 #[21] #[])
  fields := #[]
  methods := #[]
  instanceTypes := #[]
  staticTypes := #[]
  resolved := Array.replicate 73 none
  statics := none }

def pool22 : Array CpInfo := pool [(2, .class_ 4), (1, u "java/util/NavigableMap"), (5, .class_ 11), (0, u "java/lang/Object"), (0, .class_ 13), (0, u "java/util/SortedMap")] 53

/-- java/util/NavigableMap -/
def k22 : Class := { plain "java/util/NavigableMap" (some 0) with
  accessFlags := 1537
  interfaces := #[21]
  cf := some (fileOf pool22 2 #[] #[] 1537 10 #[12] #[])
  fields := #[]
  methods := #[]
  instanceTypes := #[]
  staticTypes := #[]
  resolved := Array.replicate 67 none
  statics := none }

def pool23 : Array CpInfo := pool [(1, .methodref 2 3), (0, .class_ 4), (0, .nameAndType 5 6), (0, u "java/util/AbstractMap"), (0, u "<init>"), (0, u "()V"), (0, .fieldref 8 9), (0, .class_ 10), (0, .nameAndType 11 12), (0, u "java/util/TreeMap"), (0, u "size"), (0, u "I"), (0, .fieldref 8 14), (0, .nameAndType 15 12), (0, u "modCount"), (0, .fieldref 8 17), (0, .nameAndType 18 19), (0, u "comparator"), (0, u "Ljava/util/Comparator;"), (14, u "entrySet"), (24, .class_ 61), (1, u "java/util/TreeMap$Entry"), (1, u "Ljava/lang/Object;"), (39, u "root"), (0, u "Ljava/util/TreeMap$Entry;"), (85, u "Ljava/util/TreeMap$EntrySet;"), (2, u "navigableKeySet"), (0, u "Ljava/util/TreeMap$KeySet;"), (2, u "descendingMap"), (0, u "Ljava/util/NavigableMap;"), (23, .class_ 223), (0, u "java/util/TreeMap$KeySet"), (7, .class_ 232), (0, u "java/util/NavigableMap"), (4, .class_ 238), (0, u "java/util/TreeMap$Values"), (3, .class_ 243), (0, u "java/util/TreeMap$EntrySet"), (1, .class_ 246), (0, u "java/util/TreeMap$DescendingSubMap"), (3, .class_ 251), (0, u "java/util/TreeMap$AscendingSubMap"), (17, .class_ 270), (0, u "java/util/TreeMap$KeyIterator"), (3, .class_ 275), (0, u "java/util/TreeMap$DescendingKeyIterator"), (17, u "Z"), (94, .class_ 389), (0, u "java/util/TreeMap$NavigableSubMap"), (1, .class_ 392), (0, u "java/util/TreeMap$KeySpliterator"), (3, .class_ 397), (0, u "java/util/TreeMap$DescendingKeySpliterator"), (4, u "UNBOUNDED"), (0, .class_ 404), (0, u "java/lang/Cloneable"), (0, .class_ 406), (0, u "java/io/Serializable"), (6, u "RED"), (2, u "BLACK"), (1, u "serialVersionUID"), (0, u "J"), (214, .class_ 635), (0, u "java/util/TreeMap$EntrySpliterator"), (0, .class_ 637), (0, u "java/util/TreeMap$ValueSpliterator"), (0, .class_ 639), (0, u "java/util/TreeMap$TreeMapSpliterator"), (0, .class_ 641), (0, u "java/util/TreeMap$SubMap"), (0, .class_ 643), (0, u "java/util/TreeMap$DescendingSubMap$DescendingEntrySetView"), (0, .class_ 645), (0, u "java/util/TreeMap$AscendingSubMap$AscendingEntrySetView"), (0, .class_ 647), (0, u "java/util/TreeMap$NavigableSubMap$DescendingSubMapKeyIterator"), (0, .class_ 649), (0, u "java/util/TreeMap$NavigableSubMap$SubMapKeyIterator"), (0, .class_ 651), (0, u "java/util/TreeMap$NavigableSubMap$DescendingSubMapEntryIterator"), (0, .class_ 653), (0, u "java/util/TreeMap$NavigableSubMap$SubMapEntryIterator"), (0, .class_ 655), (0, u "java/util/TreeMap$NavigableSubMap$SubMapIterator"), (0, .class_ 657), (0, u "java/util/TreeMap$NavigableSubMap$EntrySetView"), (0, .class_ 659), (0, u "java/util/TreeMap$ValueIterator"), (0, .class_ 661), (0, u "java/util/TreeMap$EntryIterator"), (0, .class_ 663), (0, u "java/util/TreeMap$PrivateEntryIterator")] 28

def k23c0 : Code := { maxStack := 2, maxLocals := 1, code := jdk_2729_method_1_code, exceptionTable := #[], attributes := #[] }
def k23m0 : Method := { name := "<init>", desc := "()V", sig := { parameters := [], returnType := none }, accessFlags := 1, code := some k23c0 }
/-- java/util/TreeMap -/
def k23 : Class := { plain "java/util/TreeMap" (some 19) with
  accessFlags := 33
  interfaces := #[22, 16, 3]
  cf := some (fileOf pool23 8 #[.nestMembers #[634, 636, 396, 391, 638, 59, 640, 245, 642, 250, 644, 388, 646, 648, 650, 652, 654, 656, 274, 269, 658, 660, 662, 222, 242, 237]] #[{ accessFlags := 1, nameIndex := 5, descriptorIndex := 6, attributes := #[] }] 33 2 #[231, 403, 405] #[{ accessFlags := 18, nameIndex := 18, descriptorIndex := 19, attributes := #[] }, { accessFlags := 130, nameIndex := 103, descriptorIndex := 104, attributes := #[] }, { accessFlags := 130, nameIndex := 11, descriptorIndex := 12, attributes := #[] }, { accessFlags := 130, nameIndex := 15, descriptorIndex := 12, attributes := #[] }, { accessFlags := 130, nameIndex := 34, descriptorIndex := 190, attributes := #[] }, { accessFlags := 130, nameIndex := 193, descriptorIndex := 194, attributes := #[] }, { accessFlags := 130, nameIndex := 197, descriptorIndex := 198, attributes := #[] }, { accessFlags := 26, nameIndex := 402, descriptorIndex := 63, attributes := #[] }, { accessFlags := 26, nameIndex := 413, descriptorIndex := 293, attributes := #[] }, { accessFlags := 26, nameIndex := 416, descriptorIndex := 293, attributes := #[] }, { accessFlags := 26, nameIndex := 418, descriptorIndex := 419, attributes := #[] }])
  fields := #[{ name := "comparator", type := (.object "java/util/Comparator"), accessFlags := 18, slot := 2, constantValue := 0 }, { name := "root", type := (.object "java/util/TreeMap$Entry"), accessFlags := 130, slot := 3, constantValue := 0 }, { name := "size", type := .int, accessFlags := 130, slot := 4, constantValue := 0 }, { name := "modCount", type := .int, accessFlags := 130, slot := 5, constantValue := 0 }, { name := "entrySet", type := (.object "java/util/TreeMap$EntrySet"), accessFlags := 130, slot := 6, constantValue := 0 }, { name := "navigableKeySet", type := (.object "java/util/TreeMap$KeySet"), accessFlags := 130, slot := 7, constantValue := 0 }, { name := "descendingMap", type := (.object "java/util/NavigableMap"), accessFlags := 130, slot := 8, constantValue := 0 }, { name := "UNBOUNDED", type := (.object "java/lang/Object"), accessFlags := 26, slot := 0, constantValue := 0 }, { name := "RED", type := .boolean, accessFlags := 26, slot := 1, constantValue := 0 }, { name := "BLACK", type := .boolean, accessFlags := 26, slot := 2, constantValue := 0 }, { name := "serialVersionUID", type := .long, accessFlags := 26, slot := 3, constantValue := 0 }]
  methods := #[k23m0]
  instanceTypes := #[(.object "java/util/Set"), (.object "java/util/Collection"), (.object "java/util/Comparator"), (.object "java/util/TreeMap$Entry"), .int, .int, (.object "java/util/TreeMap$EntrySet"), (.object "java/util/TreeMap$KeySet"), (.object "java/util/NavigableMap")]
  staticTypes := #[(.object "java/lang/Object"), .boolean, .boolean, .long]
  resolved := Array.replicate 692 none
  statics := none }

/-- the primitive byte -/
def k24 : Class := { plain "byte" none with kind := .primitive 'B', accessFlags := 0x411 }
/-- [B -/
def k25 : Class := { plain "[B" (some 0) with kind := .array 24 .byte, interfaces := #[16, 3], accessFlags := 1041 }

/-- the primitive int -/
def k26 : Class := { plain "int" none with kind := .primitive 'I', accessFlags := 0x411 }
/-- [I -/
def k27 : Class := { plain "[I" (some 0) with kind := .array 26 .int, interfaces := #[16, 3], accessFlags := 1041 }

/-- [Ljava/lang/Object; -/
def k28 : Class := { plain "[Ljava/lang/Object;" (some 0) with kind := .array 0 (.object "java/lang/Object"), interfaces := #[16, 3], accessFlags := 1041 }

def heap : Heap := #[]
def classes : Array Class := #[k0, k1, k2, k3, k4, k5, k6, k7, k8, k9, k10, k11, k12, k13, k14, k15, k16, k17, k18, k19, k20, k21, k22, k23, k24, k25, k26, k27, k28]
def interned : List (Array UInt16 × Addr) := []
def slotsUsed : Nat := 0
def theMethod : MethodId := ⟨1, 1⟩
def args0 : Array Value := #[.long 5, .long 3, .int 2, .int 1]
def aboutOver (below : List Frame) : State where
  vm := { classes := classes, interned := interned.toArray }
  heap := heap
  slotsUsed := slotsUsed
  threads := #[{ frames := .invoking theMethod args0 :: below }]
def below0 : List Frame := [.native { method := ⟨0, 0⟩, args := #[] }]
def about1 : State := aboutOver below0
def p0 : Program := .bare "" "" ""
def e0 : Env := launch0.env 0 0 0
theorem w_frames : about1.frames = Frame.invoking theMethod args0 :: below0 := rfl
set_option maxRecDepth 65536 in
theorem w_args : argsFit about1.vm theMethod args0 = true := by decide +kernel
set_option maxRecDepth 65536 in
theorem w_heap : heapFits about1 = true := by decide +kernel
set_option maxRecDepth 65536 in
theorem w_runnable : about1.curStatus? = some .runnable := by decide +kernel
set_option maxRecDepth 65536 in
theorem w_alone : about1.alone = true := by decide +kernel
set_option maxRecDepth 65536 in
theorem w_named : about1.methodNamed? x = some theMethod := by decide +kernel
set_option maxRecDepth 65536 in
theorem w_hears : about1.hears theMethod below0 = true := by decide +kernel
set_option maxRecDepth 65536 in
theorem w_ripe : about1.ripe theMethod args0 below0 = true := by decide +kernel
theorem w_running : about1.status = .running := rfl
set_option maxRecDepth 65536 in
theorem w_room : about1.hasRoom e0.platform room_1 = true :=
  launch0.hasRoom_least _ room_1 (by decide +kernel) (by decide +kernel) (by decide +kernel) (by decide +kernel) (by decide +kernel) (by decide +kernel)
theorem allAtoms_all (ts : List Jvm.Cond) (a : Array Jvm.Value) (st : Jvm.State) : (allAtoms ts).before a st = ts.all (fun c => c.before a st) := by
  induction ts with
  | nil => rfl
  | cons c t ih =>
    show (Jvm.Cond.and c (allAtoms t)).before a st = _
    rw [Jvm.Cond.before_and, ih, List.all_cons]
def words1 : List Jvm.Cond := Jvm.Cond.code x code maxLocals ret :: tables_1
/-- a 'code' word, met by the world's own term for the bytes: nothing is compared byte by byte -/
theorem code_word {y : MethodName} {bytes : ByteArray} {mx : Nat} {rt : Option FieldType} {a : Array Value} {s : State} {m : MethodId} {meth : Method} {c : Code} (h1 : s.methodNamed? y = some m) (h2 : s.vm.method? m = some meth) (h3 : meth.code = some c) (h4 : c.code = bytes)
    (h5 : (c.maxLocals == mx && c.exceptionTable.isEmpty && decide (c.maxStack ≤ mostOperands) && decide (meth.sig.returnType = rt) && !meth.locks && decide (parseMethodDescriptor y.desc = some meth.sig)) = true) : (Jvm.Cond.code y bytes mx rt).before a s = true := by
  simp only [Bool.and_eq_true, beq_iff_eq, Bool.not_eq_true', decide_eq_true_eq] at h5
  obtain ⟨⟨⟨⟨⟨g1, g2⟩, g3⟩, g4⟩, g5⟩, g6⟩ := h5
  simp [Cond.before, Cond.holds, Cond.value, h1, h2, h3, h4, g1, g2, g3, g4, g5, g6]
def isCode : Jvm.Cond → Bool
  | .code _ _ _ _ => true
  | _ => false
theorem all_split {L : List Jvm.Cond} {P : Jvm.Cond → Bool} (h1 : L.all (fun c => isCode c || P c) = true) (h2 : ∀ c ∈ L.filter isCode, P c = true) : L.all P = true := by
  refine List.all_eq_true.mpr fun c hc => ?_
  have h := List.all_eq_true.mp h1 c hc
  rcases Bool.eq_false_or_eq_true (isCode c) with hi | hi
  · exact h2 c (List.mem_filter.mpr ⟨hc, hi⟩)
  · simpa [hi] using h
set_option maxRecDepth 65536 in
theorem w_c0 : (Jvm.Cond.code x code maxLocals ret).before args0 about1 = true := code_word (m := ⟨1, 1⟩) (meth := k1m1) (c := k1c1) (by decide +kernel) rfl rfl rfl (by decide +kernel)
set_option maxRecDepth 65536 in
theorem w_c1 : (Jvm.Cond.code ({ cls := "com/example/meisai/meisai/DiameterStream", name := "<init>", desc := "(Ljava/lang/String;JZ)V" } : Jvm.MethodName) prog_7_method_1_code (5 : Nat) (Option.none : Option Jvm.ClassFile.FieldType)).before args0 about1 = true := code_word (m := ⟨2, 0⟩) (meth := k2m0) (c := k2c0) (by decide +kernel) rfl rfl rfl (by decide +kernel)
set_option maxRecDepth 65536 in
theorem w_c2 : (Jvm.Cond.code ({ cls := "java/lang/Object", name := "<init>", desc := "()V" } : Jvm.MethodName) object_method_1_code (1 : Nat) (Option.none : Option Jvm.ClassFile.FieldType)).before args0 about1 = true := code_word (m := ⟨0, 0⟩) (meth := k0m0) (c := k0c0) (by decide +kernel) rfl rfl rfl (by decide +kernel)
set_option maxRecDepth 65536 in
theorem w_c3 : (Jvm.Cond.code ({ cls := "com/example/meisai/meisai/DiameterStream$Unread", name := "<init>", desc := "(Lcom/example/meisai/meisai/DiameterStream;)V" } : Jvm.MethodName) prog_10_method_1_code (2 : Nat) (Option.none : Option Jvm.ClassFile.FieldType)).before args0 about1 = true := code_word (m := ⟨9, 0⟩) (meth := k9m0) (c := k9c0) (by decide +kernel) rfl rfl rfl (by decide +kernel)
set_option maxRecDepth 65536 in
theorem w_c4 : (Jvm.Cond.code ({ cls := "java/util/ArrayDeque", name := "<init>", desc := "()V" } : Jvm.MethodName) jdk_21_method_3_code (1 : Nat) (Option.none : Option Jvm.ClassFile.FieldType)).before args0 about1 = true := code_word (m := ⟨17, 0⟩) (meth := k17m0) (c := k17c0) (by decide +kernel) rfl rfl rfl (by decide +kernel)
set_option maxRecDepth 65536 in
theorem w_c5 : (Jvm.Cond.code ({ cls := "java/util/AbstractCollection", name := "<init>", desc := "()V" } : Jvm.MethodName) jdk_22_method_1_code (1 : Nat) (Option.none : Option Jvm.ClassFile.FieldType)).before args0 about1 = true := code_word (m := ⟨12, 0⟩) (meth := k12m0) (c := k12c0) (by decide +kernel) rfl rfl rfl (by decide +kernel)
set_option maxRecDepth 65536 in
theorem w_c6 : (Jvm.Cond.code ({ cls := "java/util/TreeMap", name := "<init>", desc := "()V" } : Jvm.MethodName) jdk_2729_method_1_code (1 : Nat) (Option.none : Option Jvm.ClassFile.FieldType)).before args0 about1 = true := code_word (m := ⟨23, 0⟩) (meth := k23m0) (c := k23c0) (by decide +kernel) rfl rfl rfl (by decide +kernel)
set_option maxRecDepth 65536 in
theorem w_c7 : (Jvm.Cond.code ({ cls := "java/util/AbstractMap", name := "<init>", desc := "()V" } : Jvm.MethodName) jdk_71_method_1_code (1 : Nat) (Option.none : Option Jvm.ClassFile.FieldType)).before args0 about1 = true := code_word (m := ⟨19, 0⟩) (meth := k19m0) (c := k19c0) (by decide +kernel) rfl rfl rfl (by decide +kernel)
set_option maxRecDepth 65536 in
theorem w_c8 : (Jvm.Cond.code ({ cls := "com/example/meisai/meisai/DiameterStream", name := "startsAt", desc := "(J)Z" } : Jvm.MethodName) prog_7_method_2_code (3 : Nat) (Option.some Jvm.ClassFile.FieldType.boolean)).before args0 about1 = true := code_word (m := ⟨2, 1⟩) (meth := k2m1) (c := k2c1) (by decide +kernel) rfl rfl rfl (by decide +kernel)
def codes1 : List Jvm.Cond := [Jvm.Cond.code x code maxLocals ret, Jvm.Cond.code ({ cls := "com/example/meisai/meisai/DiameterStream", name := "<init>", desc := "(Ljava/lang/String;JZ)V" } : Jvm.MethodName) prog_7_method_1_code (5 : Nat) (Option.none : Option Jvm.ClassFile.FieldType), Jvm.Cond.code ({ cls := "java/lang/Object", name := "<init>", desc := "()V" } : Jvm.MethodName) object_method_1_code (1 : Nat) (Option.none : Option Jvm.ClassFile.FieldType), Jvm.Cond.code ({ cls := "com/example/meisai/meisai/DiameterStream$Unread", name := "<init>", desc := "(Lcom/example/meisai/meisai/DiameterStream;)V" } : Jvm.MethodName) prog_10_method_1_code (2 : Nat) (Option.none : Option Jvm.ClassFile.FieldType), Jvm.Cond.code ({ cls := "java/util/ArrayDeque", name := "<init>", desc := "()V" } : Jvm.MethodName) jdk_21_method_3_code (1 : Nat) (Option.none : Option Jvm.ClassFile.FieldType), Jvm.Cond.code ({ cls := "java/util/AbstractCollection", name := "<init>", desc := "()V" } : Jvm.MethodName) jdk_22_method_1_code (1 : Nat) (Option.none : Option Jvm.ClassFile.FieldType), Jvm.Cond.code ({ cls := "java/util/TreeMap", name := "<init>", desc := "()V" } : Jvm.MethodName) jdk_2729_method_1_code (1 : Nat) (Option.none : Option Jvm.ClassFile.FieldType), Jvm.Cond.code ({ cls := "java/util/AbstractMap", name := "<init>", desc := "()V" } : Jvm.MethodName) jdk_71_method_1_code (1 : Nat) (Option.none : Option Jvm.ClassFile.FieldType), Jvm.Cond.code ({ cls := "com/example/meisai/meisai/DiameterStream", name := "startsAt", desc := "(J)Z" } : Jvm.MethodName) prog_7_method_2_code (3 : Nat) (Option.some Jvm.ClassFile.FieldType.boolean)]
set_option maxRecDepth 65536 in
theorem codes_eq : words1.filter isCode = codes1 := rfl
theorem w_codes : ∀ c ∈ words1.filter isCode, c.before args0 about1 = true := by
  rw [codes_eq]
  intro c hc
  simp only [codes1, List.mem_cons, List.not_mem_nil, or_false] at hc
  rcases hc with rfl | rfl | rfl | rfl | rfl | rfl | rfl | rfl | rfl
  · exact w_c0
  · exact w_c1
  · exact w_c2
  · exact w_c3
  · exact w_c4
  · exact w_c5
  · exact w_c6
  · exact w_c7
  · exact w_c8
set_option maxRecDepth 65536 in
theorem w_t1 : (words1.take 24).all (fun c => isCode c || c.before args0 about1) = true := by decide +kernel
set_option maxRecDepth 65536 in
theorem w_t2 : ((words1.drop 24).take 24).all (fun c => isCode c || c.before args0 about1) = true := by decide +kernel
set_option maxRecDepth 65536 in
theorem w_t3 : (((words1.drop 24).drop 24).take 24).all (fun c => isCode c || c.before args0 about1) = true := by decide +kernel
set_option maxRecDepth 65536 in
theorem w_t4 : (((words1.drop 24).drop 24).drop 24).all (fun c => isCode c || c.before args0 about1) = true := by decide +kernel
theorem w_tables : (allAtoms (Jvm.Cond.code x code maxLocals ret :: tables_1)).before args0 about1 = true := by
  rw [allAtoms_all]
  show words1.all (fun c => c.before args0 about1) = true
  refine all_split ?_ w_codes
  rw [← List.take_append_drop 24 words1, List.all_append, w_t1, ← List.take_append_drop 24 (words1.drop 24), List.all_append, w_t2, ← List.take_append_drop 24 ((words1.drop 24).drop 24), List.all_append, w_t3, w_t4]
  rfl
set_option maxRecDepth 65536 in
theorem w_case : (Jvm.Cond.and given_1 narrow_1).before args0 about1 = true := by decide +kernel
theorem w_applies : (headSpec (Jvm.Cond.code x code maxLocals ret :: tables_1) room_1).applies x e0.platform about1 = true :=
  (Spec.applies_iff w_frames).mpr ⟨w_running, w_runnable, w_alone, w_named, w_hears, w_ripe, w_room, w_tables⟩
theorem atStart : AtStart classFile x code maxLocals ret World_1 tables_1 room_1 Calls_1 rest_1 Pre_1 launch0 p0 e0 about1 theMethod args0 below0 :=
  ⟨lists_1, trivial, launch0.admits_env _ _ _, launch0.least_env, fairChoices_fair.cas, fairChoices_fair.clock, w_frames, w_args, w_heap, w_applies, trivial, trivial, w_case⟩
end start1
theorem witness_1 : WitnessClaimed_1 := ⟨start1.p0, start1.e0, start1.about1, start1.theMethod, start1.args0, start1.below0, start1.atStart⟩
end Jvm.Pilot.@@N@@
