import JvmDerived
import JvmDerived.Pilot.@@N@@Statement
import JvmDerived.Pilot.@@N@@Code
set_option linter.unusedVariables false
set_option linter.unusedSimpArgs false
namespace Jvm.RoadKit
open Sem ClassFile Op Lib Jvm.Stand Jvm.Free Jvm.LawKit
section New
variable {p : Program} {l : Launch} {e : Env} {R : Room} {s : State} {m : MethodId} {args : Array Value} {below : List Frame} {meth : Method} {c : Code} {T T' : State} {locs : List Loc} {cells slots cs sl : Nat} {Q : Option Value → Heap → List Loc → Prop}
/-- from T the run ends, and Q holds at the end -/
def Gl (p : Program) (e : Env) (below : List Frame) (s : State) (Q : Option Value → Heap → List Loc → Prop) (cs sl : Nat) (T : State) : Prop :=
  ∃ s₂ o, Steps p.tables e below T s₂ ∧ s₂.status = .running ∧ Ended s₂ below o ∧ ∃ v L, o = .returned v ∧ Q v s₂.heap L ∧ FrameEnd s o s₂ L cs sl
theorem Gl.st (k : ∀ t, Steps p.tables e below T' t → Steps p.tables e below T t) (h : Gl p e below s Q cs sl T') : Gl p e below s Q cs sl T := by
  obtain ⟨a, o, h1, r⟩ := h
  exact ⟨a, o, k _ h1, r⟩
theorem Gl.to (k : Steps p.tables e below T T') (h : Gl p e below s Q cs sl T') : Gl p e below s Q cs sl T := Gl.st (fun _ q => k.trans q) h
theorem Gl.fin (X : Stand p l e R s m args below meth c T locs cells slots) {v : Option Value} (hv : meth.sig.returnType = none → v = none) (hlk : meth.locks = false) (hQ : Q v T.heap locs) (hc : cells ≤ cs) (hs : slots ≤ sl) {S0 : State}
    (k : ∀ fs, (∀ (f : JFrame) (acts : List Action), f.method = m → f.locked = none → f.entered = [] → (doReturn e (T.setTop f) acts v).1 = T.setFrames fs) → Steps p.tables e below S0 (T.setFrames fs)) : Gl p e below s Q cs sl S0 := by
  obtain ⟨fs, hr, hrun, hended, hW, hsame⟩ := X.leave hv hlk
  exact ⟨_, _, k fs hr, hrun, hended, v, locs, rfl, hQ, ⟨_, rfl⟩, hW, hsame.mono hc hs⟩
theorem Gl.retN (X : Stand p l e R s m args below meth c T locs cells slots) (hx : p.tables.exec = Jvm.exec) (hlk : meth.locks = false) {pc : Nat} {Ls : Array Slot} {z : Int32} {t : FieldType} {rest : List Value} (hret : meth.sig.returnType = some t) (ht : t = .boolean ∨ t = .byte ∨ t = .char ∨ t = .short)
    (hd : decode c.code pc = .ok (.ireturn, 1)) (hQ : Q (some (.int (nar t z))) T.heap locs) (hc : cells ≤ cs) (hs : slots ≤ sl) : Gl p e below s Q cs sl (T.setTop (mkF m pc Ls (.int z :: rest))) :=
  Gl.fin X (fun h => by rw [hret] at h; cases h) hlk hQ hc hs fun _ hr => Jvm.RoadKit.retN X hx hret ht hd hr
theorem Gl.retI (X : Stand p l e R s m args below meth c T locs cells slots) (hx : p.tables.exec = Jvm.exec) (hlk : meth.locks = false) {pc : Nat} {Ls : Array Slot} {z : Int32} {rest : List Value} (hret : meth.sig.returnType = some .int)
    (hd : decode c.code pc = .ok (.ireturn, 1)) (hQ : Q (some (.int z)) T.heap locs) (hc : cells ≤ cs) (hs : slots ≤ sl) : Gl p e below s Q cs sl (T.setTop (mkF m pc Ls (.int z :: rest))) :=
  Gl.fin X (fun h => by rw [hret] at h; cases h) hlk hQ hc hs fun _ hr => retOut X hx hret rfl (Or.inl ⟨rfl, Or.inl rfl, z, rfl⟩) hd hr
theorem Gl.retJ (X : Stand p l e R s m args below meth c T locs cells slots) (hx : p.tables.exec = Jvm.exec) (hlk : meth.locks = false) {pc : Nat} {Ls : Array Slot} {z : Int64} {rest : List Value} (hret : meth.sig.returnType = some .long)
    (hd : decode c.code pc = .ok (.lreturn, 1)) (hQ : Q (some (.long z)) T.heap locs) (hc : cells ≤ cs) (hs : slots ≤ sl) : Gl p e below s Q cs sl (T.setTop (mkF m pc Ls (.long z :: rest))) :=
  Gl.fin X (fun h => by rw [hret] at h; cases h) hlk hQ hc hs fun _ hr => retOut X hx hret rfl (Or.inr (Or.inl ⟨rfl, rfl, z, rfl⟩)) hd hr
theorem Gl.retV (X : Stand p l e R s m args below meth c T locs cells slots) (hx : p.tables.exec = Jvm.exec) (hlk : meth.locks = false) {pc : Nat} {Ls : Array Slot} (hret : meth.sig.returnType = none)
    (hd : decode c.code pc = .ok (.return_, 1)) (hQ : Q none T.heap locs) (hc : cells ≤ cs) (hs : slots ≤ sl) : Gl p e below s Q cs sl (T.setTop (mkF m pc Ls [])) :=
  Gl.fin X (fun _ => rfl) hlk hQ hc hs fun _ hr => X.returnOut hx hret hd hr
/-- .. where String constants may have been interned -/
def GlW (p : Program) (e : Env) (below : List Frame) (s : State) (Q : Option Value → Heap → List Loc → Prop) (cs sl : Nat) (T : State) : Prop :=
  ∃ s₂ o, Steps p.tables e below T s₂ ∧ s₂.status = .running ∧ Ended s₂ below o ∧ ∃ v L, o = .returned v ∧ Q v s₂.heap L ∧ ReturnedEndW s o s₂ L cs sl
theorem GlW.st (k : ∀ t, Steps p.tables e below T' t → Steps p.tables e below T t) (h : GlW p e below s Q cs sl T') : GlW p e below s Q cs sl T := by
  obtain ⟨a, o, h1, r⟩ := h
  exact ⟨a, o, k _ h1, r⟩
theorem GlW.to (k : Steps p.tables e below T T') (h : GlW p e below s Q cs sl T') : GlW p e below s Q cs sl T := GlW.st (fun _ q => k.trans q) h
theorem GlW.retN {vm₁ : Vm} (X : Stand p l e R (s.setVm vm₁) m args below meth c T locs cells slots) (hx : p.tables.exec = Jvm.exec) {n : Nat} (hS : s.Since vm₁ n) (hn : n ≤ T.heap.size) (hlk : meth.locks = false) {pc : Nat} {Ls : Array Slot} {z : Int32} {t : FieldType} {rest : List Value} (hret : meth.sig.returnType = some t) (ht : t = .boolean ∨ t = .byte ∨ t = .char ∨ t = .short)
    (hd : decode c.code pc = .ok (.ireturn, 1)) (hQ : Q (some (.int (nar t z))) T.heap locs) (hc : cells ≤ cs) (hs : slots ≤ sl) : GlW p e below s Q cs sl (T.setTop (mkF m pc Ls (.int z :: rest))) := by
  obtain ⟨fs, hr, hrun, hended, h1, h2, h3, h4⟩ := X.leaveW hS hn (v := some (.int (nar t z))) (fun h => by rw [hret] at h; cases h) hlk
  exact ⟨_, _, Jvm.RoadKit.retN X hx hret ht hd hr, hrun, hended, _, locs, rfl, hQ, h1, h2, h3, h4.mono hc hs⟩
theorem lc_t {x y : Int64} (h : x < y) : ifCond.holds .lt (lcmpW x y) = true ∧ ifCond.holds .ge (lcmpW x y) = false ∧ ifCond.holds .gt (lcmpW y x) = true ∧ ifCond.holds .le (lcmpW y x) = false :=
  have a := tlt ((lw_lt x y).mpr h)
  have b := tlt ((lw_gt y x).mpr h)
  ⟨(if0 _ _).trans a.1, (if0 _ _).trans a.2.1, (if0 _ _).trans b.2.2.1, (if0 _ _).trans b.2.2.2⟩
theorem lc_f {x y : Int64} (h : ¬ x < y) : ifCond.holds .lt (lcmpW x y) = false ∧ ifCond.holds .ge (lcmpW x y) = true ∧ ifCond.holds .gt (lcmpW y x) = false ∧ ifCond.holds .le (lcmpW y x) = true :=
  have a := flt (fun q => h ((lw_lt x y).mp q))
  have b := flt (fun q => h ((lw_gt y x).mp q))
  ⟨(if0 _ _).trans a.1, (if0 _ _).trans a.2.1, (if0 _ _).trans b.2.2.1, (if0 _ _).trans b.2.2.2⟩
theorem le_t {x y : Int64} (h : x = y) : ifCond.holds .eq (lcmpW x y) = true ∧ ifCond.holds .ne (lcmpW x y) = false :=
  have a := teq ((lw_eq x y).mpr h)
  ⟨(if0 _ _).trans a.1, (if0 _ _).trans a.2⟩
theorem le_f {x y : Int64} (h : ¬ x = y) : ifCond.holds .eq (lcmpW x y) = false ∧ ifCond.holds .ne (lcmpW x y) = true :=
  have a := feq (fun q => h ((lw_eq x y).mp q))
  ⟨(if0 _ _).trans a.1, (if0 _ _).trans a.2⟩
end New
end Jvm.RoadKit
namespace Jvm.Pilot.@@N@@
open Jvm Jvm.ClassFile Sem Op Lib Jvm.Free Jvm.Stand Jvm.LawKit Jvm.RoadKit Bundle Jvm.Pilot.@@N@@.Jvm.D
def own_len (q1 : Int64) : Int32 := (if q1 < (128 : Int64) then (1 : Int32) else (if q1 < (16384 : Int64) then (2 : Int32) else (if q1 < (2097152 : Int64) then (3 : Int32) else (if q1 < (268435456 : Int64) then (4 : Int32) else (if q1 < (34359738368 : Int64) then (5 : Int32) else (if q1 < (4398046511104 : Int64) then (6 : Int32) else (if q1 < (562949953421312 : Int64) then (7 : Int32) else (if q1 < (72057594037927936 : Int64) then (8 : Int32) else (9 : Int32)))))))))
theorem d2_0 : decode method_2_code 0 = .ok (.lload_n 0, 1) := by decide +kernel
theorem d2_1 : decode method_2_code 1 = .ok (.ldc2_w 7, 3) := by decide +kernel
theorem d2_4 : decode method_2_code 4 = .ok (.lcmp, 1) := by decide +kernel
theorem d2_5 : decode method_2_code 5 = .ok (.ifCond .ge 5, 3) := by decide +kernel
theorem d2_8 : decode method_2_code 8 = .ok (.iconst 1, 1) := by decide +kernel
theorem d2_9 : decode method_2_code 9 = .ok (.ireturn, 1) := by decide +kernel
theorem d2_10 : decode method_2_code 10 = .ok (.lload_n 0, 1) := by decide +kernel
theorem d2_11 : decode method_2_code 11 = .ok (.ldc2_w 9, 3) := by decide +kernel
theorem d2_14 : decode method_2_code 14 = .ok (.lcmp, 1) := by decide +kernel
theorem d2_15 : decode method_2_code 15 = .ok (.ifCond .ge 5, 3) := by decide +kernel
theorem d2_18 : decode method_2_code 18 = .ok (.iconst 2, 1) := by decide +kernel
theorem d2_19 : decode method_2_code 19 = .ok (.ireturn, 1) := by decide +kernel
theorem d2_20 : decode method_2_code 20 = .ok (.lload_n 0, 1) := by decide +kernel
theorem d2_21 : decode method_2_code 21 = .ok (.ldc2_w 11, 3) := by decide +kernel
theorem d2_24 : decode method_2_code 24 = .ok (.lcmp, 1) := by decide +kernel
theorem d2_25 : decode method_2_code 25 = .ok (.ifCond .ge 5, 3) := by decide +kernel
theorem d2_28 : decode method_2_code 28 = .ok (.iconst 3, 1) := by decide +kernel
theorem d2_29 : decode method_2_code 29 = .ok (.ireturn, 1) := by decide +kernel
theorem d2_30 : decode method_2_code 30 = .ok (.lload_n 0, 1) := by decide +kernel
theorem d2_31 : decode method_2_code 31 = .ok (.ldc2_w 13, 3) := by decide +kernel
theorem d2_34 : decode method_2_code 34 = .ok (.lcmp, 1) := by decide +kernel
theorem d2_35 : decode method_2_code 35 = .ok (.ifCond .ge 5, 3) := by decide +kernel
theorem d2_38 : decode method_2_code 38 = .ok (.iconst 4, 1) := by decide +kernel
theorem d2_39 : decode method_2_code 39 = .ok (.ireturn, 1) := by decide +kernel
theorem d2_40 : decode method_2_code 40 = .ok (.lload_n 0, 1) := by decide +kernel
theorem d2_41 : decode method_2_code 41 = .ok (.ldc2_w 15, 3) := by decide +kernel
theorem d2_44 : decode method_2_code 44 = .ok (.lcmp, 1) := by decide +kernel
theorem d2_45 : decode method_2_code 45 = .ok (.ifCond .ge 5, 3) := by decide +kernel
theorem d2_48 : decode method_2_code 48 = .ok (.iconst 5, 1) := by decide +kernel
theorem d2_49 : decode method_2_code 49 = .ok (.ireturn, 1) := by decide +kernel
theorem d2_50 : decode method_2_code 50 = .ok (.lload_n 0, 1) := by decide +kernel
theorem d2_51 : decode method_2_code 51 = .ok (.ldc2_w 17, 3) := by decide +kernel
theorem d2_54 : decode method_2_code 54 = .ok (.lcmp, 1) := by decide +kernel
theorem d2_55 : decode method_2_code 55 = .ok (.ifCond .ge 6, 3) := by decide +kernel
theorem d2_58 : decode method_2_code 58 = .ok (.bipush 6, 2) := by decide +kernel
theorem d2_60 : decode method_2_code 60 = .ok (.ireturn, 1) := by decide +kernel
theorem d2_61 : decode method_2_code 61 = .ok (.lload_n 0, 1) := by decide +kernel
theorem d2_62 : decode method_2_code 62 = .ok (.ldc2_w 19, 3) := by decide +kernel
theorem d2_65 : decode method_2_code 65 = .ok (.lcmp, 1) := by decide +kernel
theorem d2_66 : decode method_2_code 66 = .ok (.ifCond .ge 6, 3) := by decide +kernel
theorem d2_69 : decode method_2_code 69 = .ok (.bipush 7, 2) := by decide +kernel
theorem d2_71 : decode method_2_code 71 = .ok (.ireturn, 1) := by decide +kernel
theorem d2_72 : decode method_2_code 72 = .ok (.lload_n 0, 1) := by decide +kernel
theorem d2_73 : decode method_2_code 73 = .ok (.ldc2_w 21, 3) := by decide +kernel
theorem d2_76 : decode method_2_code 76 = .ok (.lcmp, 1) := by decide +kernel
theorem d2_77 : decode method_2_code 77 = .ok (.ifCond .ge 6, 3) := by decide +kernel
theorem d2_80 : decode method_2_code 80 = .ok (.bipush 8, 2) := by decide +kernel
theorem d2_82 : decode method_2_code 82 = .ok (.ireturn, 1) := by decide +kernel
theorem d2_83 : decode method_2_code 83 = .ok (.bipush 9, 2) := by decide +kernel
theorem d2_85 : decode method_2_code 85 = .ok (.ireturn, 1) := by decide +kernel
theorem pf_0 : plainFor (⟨"com/example/millrace/millrace/storage/ReaderNumberPinLaw", "length", "(J)I"⟩ : MethodName) = true := by decide +kernel
def Q2 (Z : State) (q1 : Int64) (h0 : Heap) (n0 : Nat) (v : Option Value) (h : Heap) (L : List Loc) : Prop := v = some (.int (own_len q1)) ∧ Fr n0 L ∧ h = h0
theorem ef_2 (m : MethodId) (q1 : Int64) : entryFrame m #[(.long q1)] 2 = mkF m 0 #[.val (.long q1), .second] [] := by first | (simp [entryFrame, mkF, argsToLocals, Value.category]; done) | rfl
set_option maxRecDepth 65536 in
set_option maxHeartbeats 40000000 in
theorem rm2 (l : Launch) (Z : State) (a0 : Array Value) (hw : ∀ d ∈ tables_1, d.before a0 Z = true) (ws : List Jvm.Cond) (q1 : Int64) (h0 : Heap) (n0 : Nat) :
    MetFree l (⟨"com/example/millrace/millrace/storage/ReaderNumberPinLaw", "length", "(J)I"⟩ : MethodName) (head1 (Jvm.Cond.code (⟨"com/example/millrace/millrace/storage/ReaderNumberPinLaw", "length", "(J)I"⟩ : MethodName) method_2_code 2 (some .int) :: ws) ({ frames := 0, cells := 0, slots := 0, locals := 0 } : Room)) (fun a U => a = #[(.long q1)] ∧ Z.Warmed39 U.vm ∧ U.heap = h0) (fun _ _ _ _ _ => True) (fun _ U o U' => ∃ v L, o = .returned v ∧ Q2 Z q1 h0 n0 v U'.heap L ∧ FrameEnd U o U' L ({ frames := 0, cells := 0, slots := 0, locals := 0 } : Room).cells ({ frames := 0, cells := 0, slots := 0, locals := 0 } : Room).slots) := by
  refine MetFree.of_bodySF pf_0 hisR ?_
  intro p e s m args below meth c s₁ Bd hml0 hP hK
  obtain ⟨rfl, hZ, hh⟩ := hP
  have hx := Bd.exec
  have hby := Bd.bytes
  have hlk : meth.locks = false := BodyLoose.notSynchronized Bd
  have hml : c.maxLocals = 2 := hml0
  have hown : s.vm.findClass "com/example/millrace/millrace/storage/ReaderNumberPinLaw" = some m.cls := findClass_of_methodNamed Bd.named
  have hnm := (name_of_methodNamed Bd.named Bd.method).1
  have X0 : Stand p l e ({ frames := 0, cells := 0, slots := 0, locals := 0 } : Room) s m #[(.long q1)] below meth c s₁ [] 0 0 := Stand.of_body Bd
  have e0 : s₁.heap = h0 := by rw [← hh, Bd.state]; rfl
  have N0 := Fr.nil n0
  show Gl p e below s (Q2 Z q1 h0 n0) ({ frames := 0, cells := 0, slots := 0, locals := 0 } : Room).cells ({ frames := 0, cells := 0, slots := 0, locals := 0 } : Room).slots (s₁.setTop (entryFrame m #[(.long q1)] 2))
  rw [ef_2]
  show Gl _ _ _ _ _ _ _ (s₁.setTop (mkF m 0 #[.val (.long q1), .second] []))
  refine Gl.st (fun t k => XS.lloadN X0.here hx rfl (hb hby d2_0) rfl  k) ?_
  show Gl _ _ _ _ _ _ _ (s₁.setTop (mkF m 1 #[.val (.long q1), .second] [(.long q1)]))
  refine Gl.st (X0.ldc2Long hx hown (mvT hZ (hw _ (List.mem_of_getElem? (i := 12) rfl))) (g := (mkF m 1 #[.val (.long q1), .second] [(.long q1)])) rfl (hb hby d2_1)) ?_
  show Gl _ _ _ _ _ _ _ (s₁.setTop (mkF m 4 #[.val (.long q1), .second] [(.long (128 : Int64)), (.long q1)]))
  refine Gl.st (fun t k => XS.lcmp X0.here hx rfl (hb hby d2_4) rfl k) ?_
  show Gl _ _ _ _ _ _ _ (s₁.setTop (mkF m 5 #[.val (.long q1), .second] [(.int (lcmpW q1 (128 : Int64)))]))
  by_cases hc5 : q1 < (128 : Int64)
  · refine Gl.st (fun t k => XS.ifNo X0.here hx rfl (hb hby d2_5) rfl (lc_t hc5).2.1 k) ?_
    show Gl _ _ _ _ _ _ _ (s₁.setTop (mkF m 8 #[.val (.long q1), .second] []))
    refine Gl.st (fun t k => XS.iconst X0.here hx rfl (hb hby d2_8) k) ?_
    show Gl _ _ _ _ _ _ _ (s₁.setTop (mkF m 9 #[.val (.long q1), .second] [(.int (1 : Int32))]))
    exact Gl.retI X0 hx hlk Bd.returns (hb hby d2_9) (⟨congrArg (fun z => some (Value.int z)) (show (1 : Int32) = own_len q1 from by simp only [own_len, if_pos hc5]), N0, e0⟩) (by decide) (by decide)
  · refine Gl.st (fun t k => XS.ifYes X0.here hx rfl (pc0 := 5) (pc' := 10) rfl (hb hby d2_5) rfl (lc_f hc5).2.1 (by decide) (by decide) k) ?_
    show Gl _ _ _ _ _ _ _ (s₁.setTop (mkF m 10 #[.val (.long q1), .second] []))
    refine Gl.st (fun t k => XS.lloadN X0.here hx rfl (hb hby d2_10) rfl  k) ?_
    show Gl _ _ _ _ _ _ _ (s₁.setTop (mkF m 11 #[.val (.long q1), .second] [(.long q1)]))
    refine Gl.st (X0.ldc2Long hx hown (mvT hZ (hw _ (List.mem_of_getElem? (i := 50) rfl))) (g := (mkF m 11 #[.val (.long q1), .second] [(.long q1)])) rfl (hb hby d2_11)) ?_
    show Gl _ _ _ _ _ _ _ (s₁.setTop (mkF m 14 #[.val (.long q1), .second] [(.long (16384 : Int64)), (.long q1)]))
    refine Gl.st (fun t k => XS.lcmp X0.here hx rfl (hb hby d2_14) rfl k) ?_
    show Gl _ _ _ _ _ _ _ (s₁.setTop (mkF m 15 #[.val (.long q1), .second] [(.int (lcmpW q1 (16384 : Int64)))]))
    by_cases hc15 : q1 < (16384 : Int64)
    · refine Gl.st (fun t k => XS.ifNo X0.here hx rfl (hb hby d2_15) rfl (lc_t hc15).2.1 k) ?_
      show Gl _ _ _ _ _ _ _ (s₁.setTop (mkF m 18 #[.val (.long q1), .second] []))
      refine Gl.st (fun t k => XS.iconst X0.here hx rfl (hb hby d2_18) k) ?_
      show Gl _ _ _ _ _ _ _ (s₁.setTop (mkF m 19 #[.val (.long q1), .second] [(.int (2 : Int32))]))
      exact Gl.retI X0 hx hlk Bd.returns (hb hby d2_19) (⟨congrArg (fun z => some (Value.int z)) (show (2 : Int32) = own_len q1 from by simp only [own_len, if_neg hc5, if_pos hc15]), N0, e0⟩) (by decide) (by decide)
    · refine Gl.st (fun t k => XS.ifYes X0.here hx rfl (pc0 := 15) (pc' := 20) rfl (hb hby d2_15) rfl (lc_f hc15).2.1 (by decide) (by decide) k) ?_
      show Gl _ _ _ _ _ _ _ (s₁.setTop (mkF m 20 #[.val (.long q1), .second] []))
      refine Gl.st (fun t k => XS.lloadN X0.here hx rfl (hb hby d2_20) rfl  k) ?_
      show Gl _ _ _ _ _ _ _ (s₁.setTop (mkF m 21 #[.val (.long q1), .second] [(.long q1)]))
      refine Gl.st (X0.ldc2Long hx hown (mvT hZ (hw _ (List.mem_of_getElem? (i := 51) rfl))) (g := (mkF m 21 #[.val (.long q1), .second] [(.long q1)])) rfl (hb hby d2_21)) ?_
      show Gl _ _ _ _ _ _ _ (s₁.setTop (mkF m 24 #[.val (.long q1), .second] [(.long (2097152 : Int64)), (.long q1)]))
      refine Gl.st (fun t k => XS.lcmp X0.here hx rfl (hb hby d2_24) rfl k) ?_
      show Gl _ _ _ _ _ _ _ (s₁.setTop (mkF m 25 #[.val (.long q1), .second] [(.int (lcmpW q1 (2097152 : Int64)))]))
      by_cases hc25 : q1 < (2097152 : Int64)
      · refine Gl.st (fun t k => XS.ifNo X0.here hx rfl (hb hby d2_25) rfl (lc_t hc25).2.1 k) ?_
        show Gl _ _ _ _ _ _ _ (s₁.setTop (mkF m 28 #[.val (.long q1), .second] []))
        refine Gl.st (fun t k => XS.iconst X0.here hx rfl (hb hby d2_28) k) ?_
        show Gl _ _ _ _ _ _ _ (s₁.setTop (mkF m 29 #[.val (.long q1), .second] [(.int (3 : Int32))]))
        exact Gl.retI X0 hx hlk Bd.returns (hb hby d2_29) (⟨congrArg (fun z => some (Value.int z)) (show (3 : Int32) = own_len q1 from by simp only [own_len, if_neg hc5, if_neg hc15, if_pos hc25]), N0, e0⟩) (by decide) (by decide)
      · refine Gl.st (fun t k => XS.ifYes X0.here hx rfl (pc0 := 25) (pc' := 30) rfl (hb hby d2_25) rfl (lc_f hc25).2.1 (by decide) (by decide) k) ?_
        show Gl _ _ _ _ _ _ _ (s₁.setTop (mkF m 30 #[.val (.long q1), .second] []))
        refine Gl.st (fun t k => XS.lloadN X0.here hx rfl (hb hby d2_30) rfl  k) ?_
        show Gl _ _ _ _ _ _ _ (s₁.setTop (mkF m 31 #[.val (.long q1), .second] [(.long q1)]))
        refine Gl.st (X0.ldc2Long hx hown (mvT hZ (hw _ (List.mem_of_getElem? (i := 52) rfl))) (g := (mkF m 31 #[.val (.long q1), .second] [(.long q1)])) rfl (hb hby d2_31)) ?_
        show Gl _ _ _ _ _ _ _ (s₁.setTop (mkF m 34 #[.val (.long q1), .second] [(.long (268435456 : Int64)), (.long q1)]))
        refine Gl.st (fun t k => XS.lcmp X0.here hx rfl (hb hby d2_34) rfl k) ?_
        show Gl _ _ _ _ _ _ _ (s₁.setTop (mkF m 35 #[.val (.long q1), .second] [(.int (lcmpW q1 (268435456 : Int64)))]))
        by_cases hc35 : q1 < (268435456 : Int64)
        · refine Gl.st (fun t k => XS.ifNo X0.here hx rfl (hb hby d2_35) rfl (lc_t hc35).2.1 k) ?_
          show Gl _ _ _ _ _ _ _ (s₁.setTop (mkF m 38 #[.val (.long q1), .second] []))
          refine Gl.st (fun t k => XS.iconst X0.here hx rfl (hb hby d2_38) k) ?_
          show Gl _ _ _ _ _ _ _ (s₁.setTop (mkF m 39 #[.val (.long q1), .second] [(.int (4 : Int32))]))
          exact Gl.retI X0 hx hlk Bd.returns (hb hby d2_39) (⟨congrArg (fun z => some (Value.int z)) (show (4 : Int32) = own_len q1 from by simp only [own_len, if_neg hc5, if_neg hc15, if_neg hc25, if_pos hc35]), N0, e0⟩) (by decide) (by decide)
        · refine Gl.st (fun t k => XS.ifYes X0.here hx rfl (pc0 := 35) (pc' := 40) rfl (hb hby d2_35) rfl (lc_f hc35).2.1 (by decide) (by decide) k) ?_
          show Gl _ _ _ _ _ _ _ (s₁.setTop (mkF m 40 #[.val (.long q1), .second] []))
          refine Gl.st (fun t k => XS.lloadN X0.here hx rfl (hb hby d2_40) rfl  k) ?_
          show Gl _ _ _ _ _ _ _ (s₁.setTop (mkF m 41 #[.val (.long q1), .second] [(.long q1)]))
          refine Gl.st (X0.ldc2Long hx hown (mvT hZ (hw _ (List.mem_of_getElem? (i := 53) rfl))) (g := (mkF m 41 #[.val (.long q1), .second] [(.long q1)])) rfl (hb hby d2_41)) ?_
          show Gl _ _ _ _ _ _ _ (s₁.setTop (mkF m 44 #[.val (.long q1), .second] [(.long (34359738368 : Int64)), (.long q1)]))
          refine Gl.st (fun t k => XS.lcmp X0.here hx rfl (hb hby d2_44) rfl k) ?_
          show Gl _ _ _ _ _ _ _ (s₁.setTop (mkF m 45 #[.val (.long q1), .second] [(.int (lcmpW q1 (34359738368 : Int64)))]))
          by_cases hc45 : q1 < (34359738368 : Int64)
          · refine Gl.st (fun t k => XS.ifNo X0.here hx rfl (hb hby d2_45) rfl (lc_t hc45).2.1 k) ?_
            show Gl _ _ _ _ _ _ _ (s₁.setTop (mkF m 48 #[.val (.long q1), .second] []))
            refine Gl.st (fun t k => XS.iconst X0.here hx rfl (hb hby d2_48) k) ?_
            show Gl _ _ _ _ _ _ _ (s₁.setTop (mkF m 49 #[.val (.long q1), .second] [(.int (5 : Int32))]))
            exact Gl.retI X0 hx hlk Bd.returns (hb hby d2_49) (⟨congrArg (fun z => some (Value.int z)) (show (5 : Int32) = own_len q1 from by simp only [own_len, if_neg hc5, if_neg hc15, if_neg hc25, if_neg hc35, if_pos hc45]), N0, e0⟩) (by decide) (by decide)
          · refine Gl.st (fun t k => XS.ifYes X0.here hx rfl (pc0 := 45) (pc' := 50) rfl (hb hby d2_45) rfl (lc_f hc45).2.1 (by decide) (by decide) k) ?_
            show Gl _ _ _ _ _ _ _ (s₁.setTop (mkF m 50 #[.val (.long q1), .second] []))
            refine Gl.st (fun t k => XS.lloadN X0.here hx rfl (hb hby d2_50) rfl  k) ?_
            show Gl _ _ _ _ _ _ _ (s₁.setTop (mkF m 51 #[.val (.long q1), .second] [(.long q1)]))
            refine Gl.st (X0.ldc2Long hx hown (mvT hZ (hw _ (List.mem_of_getElem? (i := 54) rfl))) (g := (mkF m 51 #[.val (.long q1), .second] [(.long q1)])) rfl (hb hby d2_51)) ?_
            show Gl _ _ _ _ _ _ _ (s₁.setTop (mkF m 54 #[.val (.long q1), .second] [(.long (4398046511104 : Int64)), (.long q1)]))
            refine Gl.st (fun t k => XS.lcmp X0.here hx rfl (hb hby d2_54) rfl k) ?_
            show Gl _ _ _ _ _ _ _ (s₁.setTop (mkF m 55 #[.val (.long q1), .second] [(.int (lcmpW q1 (4398046511104 : Int64)))]))
            by_cases hc55 : q1 < (4398046511104 : Int64)
            · refine Gl.st (fun t k => XS.ifNo X0.here hx rfl (hb hby d2_55) rfl (lc_t hc55).2.1 k) ?_
              show Gl _ _ _ _ _ _ _ (s₁.setTop (mkF m 58 #[.val (.long q1), .second] []))
              refine Gl.st (fun t k => XS.bipush X0.here hx rfl (hb hby d2_58) k) ?_
              show Gl _ _ _ _ _ _ _ (s₁.setTop (mkF m 60 #[.val (.long q1), .second] [(.int (6 : Int32))]))
              exact Gl.retI X0 hx hlk Bd.returns (hb hby d2_60) (⟨congrArg (fun z => some (Value.int z)) (show (6 : Int32) = own_len q1 from by simp only [own_len, if_neg hc5, if_neg hc15, if_neg hc25, if_neg hc35, if_neg hc45, if_pos hc55]), N0, e0⟩) (by decide) (by decide)
            · refine Gl.st (fun t k => XS.ifYes X0.here hx rfl (pc0 := 55) (pc' := 61) rfl (hb hby d2_55) rfl (lc_f hc55).2.1 (by decide) (by decide) k) ?_
              show Gl _ _ _ _ _ _ _ (s₁.setTop (mkF m 61 #[.val (.long q1), .second] []))
              refine Gl.st (fun t k => XS.lloadN X0.here hx rfl (hb hby d2_61) rfl  k) ?_
              show Gl _ _ _ _ _ _ _ (s₁.setTop (mkF m 62 #[.val (.long q1), .second] [(.long q1)]))
              refine Gl.st (X0.ldc2Long hx hown (mvT hZ (hw _ (List.mem_of_getElem? (i := 55) rfl))) (g := (mkF m 62 #[.val (.long q1), .second] [(.long q1)])) rfl (hb hby d2_62)) ?_
              show Gl _ _ _ _ _ _ _ (s₁.setTop (mkF m 65 #[.val (.long q1), .second] [(.long (562949953421312 : Int64)), (.long q1)]))
              refine Gl.st (fun t k => XS.lcmp X0.here hx rfl (hb hby d2_65) rfl k) ?_
              show Gl _ _ _ _ _ _ _ (s₁.setTop (mkF m 66 #[.val (.long q1), .second] [(.int (lcmpW q1 (562949953421312 : Int64)))]))
              by_cases hc66 : q1 < (562949953421312 : Int64)
              · refine Gl.st (fun t k => XS.ifNo X0.here hx rfl (hb hby d2_66) rfl (lc_t hc66).2.1 k) ?_
                show Gl _ _ _ _ _ _ _ (s₁.setTop (mkF m 69 #[.val (.long q1), .second] []))
                refine Gl.st (fun t k => XS.bipush X0.here hx rfl (hb hby d2_69) k) ?_
                show Gl _ _ _ _ _ _ _ (s₁.setTop (mkF m 71 #[.val (.long q1), .second] [(.int (7 : Int32))]))
                exact Gl.retI X0 hx hlk Bd.returns (hb hby d2_71) (⟨congrArg (fun z => some (Value.int z)) (show (7 : Int32) = own_len q1 from by simp only [own_len, if_neg hc5, if_neg hc15, if_neg hc25, if_neg hc35, if_neg hc45, if_neg hc55, if_pos hc66]), N0, e0⟩) (by decide) (by decide)
              · refine Gl.st (fun t k => XS.ifYes X0.here hx rfl (pc0 := 66) (pc' := 72) rfl (hb hby d2_66) rfl (lc_f hc66).2.1 (by decide) (by decide) k) ?_
                show Gl _ _ _ _ _ _ _ (s₁.setTop (mkF m 72 #[.val (.long q1), .second] []))
                refine Gl.st (fun t k => XS.lloadN X0.here hx rfl (hb hby d2_72) rfl  k) ?_
                show Gl _ _ _ _ _ _ _ (s₁.setTop (mkF m 73 #[.val (.long q1), .second] [(.long q1)]))
                refine Gl.st (X0.ldc2Long hx hown (mvT hZ (hw _ (List.mem_of_getElem? (i := 56) rfl))) (g := (mkF m 73 #[.val (.long q1), .second] [(.long q1)])) rfl (hb hby d2_73)) ?_
                show Gl _ _ _ _ _ _ _ (s₁.setTop (mkF m 76 #[.val (.long q1), .second] [(.long (72057594037927936 : Int64)), (.long q1)]))
                refine Gl.st (fun t k => XS.lcmp X0.here hx rfl (hb hby d2_76) rfl k) ?_
                show Gl _ _ _ _ _ _ _ (s₁.setTop (mkF m 77 #[.val (.long q1), .second] [(.int (lcmpW q1 (72057594037927936 : Int64)))]))
                by_cases hc77 : q1 < (72057594037927936 : Int64)
                · refine Gl.st (fun t k => XS.ifNo X0.here hx rfl (hb hby d2_77) rfl (lc_t hc77).2.1 k) ?_
                  show Gl _ _ _ _ _ _ _ (s₁.setTop (mkF m 80 #[.val (.long q1), .second] []))
                  refine Gl.st (fun t k => XS.bipush X0.here hx rfl (hb hby d2_80) k) ?_
                  show Gl _ _ _ _ _ _ _ (s₁.setTop (mkF m 82 #[.val (.long q1), .second] [(.int (8 : Int32))]))
                  exact Gl.retI X0 hx hlk Bd.returns (hb hby d2_82) (⟨congrArg (fun z => some (Value.int z)) (show (8 : Int32) = own_len q1 from by simp only [own_len, if_neg hc5, if_neg hc15, if_neg hc25, if_neg hc35, if_neg hc45, if_neg hc55, if_neg hc66, if_pos hc77]), N0, e0⟩) (by decide) (by decide)
                · refine Gl.st (fun t k => XS.ifYes X0.here hx rfl (pc0 := 77) (pc' := 83) rfl (hb hby d2_77) rfl (lc_f hc77).2.1 (by decide) (by decide) k) ?_
                  show Gl _ _ _ _ _ _ _ (s₁.setTop (mkF m 83 #[.val (.long q1), .second] []))
                  refine Gl.st (fun t k => XS.bipush X0.here hx rfl (hb hby d2_83) k) ?_
                  show Gl _ _ _ _ _ _ _ (s₁.setTop (mkF m 85 #[.val (.long q1), .second] [(.int (9 : Int32))]))
                  exact Gl.retI X0 hx hlk Bd.returns (hb hby d2_85) (⟨congrArg (fun z => some (Value.int z)) (show (9 : Int32) = own_len q1 from by simp only [own_len, if_neg hc5, if_neg hc15, if_neg hc25, if_neg hc35, if_neg hc45, if_neg hc55, if_neg hc66, if_neg hc77]), N0, e0⟩) (by decide) (by decide)
def own_min (p1 : Int32) (p2 : Int32) : Int32 := (if p2 < p1 then p2 else p1)
theorem d7_0 : decode jdk_29_method_69_code 0 = .ok (.iload_n 0, 1) := by decide +kernel
theorem d7_1 : decode jdk_29_method_69_code 1 = .ok (.iload_n 1, 1) := by decide +kernel
theorem d7_2 : decode jdk_29_method_69_code 2 = .ok (.if_icmp .gt 7, 3) := by decide +kernel
theorem d7_5 : decode jdk_29_method_69_code 5 = .ok (.iload_n 0, 1) := by decide +kernel
theorem d7_6 : decode jdk_29_method_69_code 6 = .ok (.goto 4, 3) := by decide +kernel
theorem d7_9 : decode jdk_29_method_69_code 9 = .ok (.iload_n 1, 1) := by decide +kernel
theorem d7_10 : decode jdk_29_method_69_code 10 = .ok (.ireturn, 1) := by decide +kernel
theorem pf_1 : plainFor (⟨"java/lang/Math", "min", "(II)I"⟩ : MethodName) = true := by decide +kernel
def Q7 (Z : State) (p1 : Int32) (p2 : Int32) (h0 : Heap) (n0 : Nat) (v : Option Value) (h : Heap) (L : List Loc) : Prop := v = some (.int (own_min p1 p2)) ∧ Fr n0 L ∧ h = h0
theorem ef_7 (m : MethodId) (p1 : Int32) (p2 : Int32) : entryFrame m #[(.int p1), (.int p2)] 2 = mkF m 0 #[.val (.int p1), .val (.int p2)] [] := by first | (simp [entryFrame, mkF, argsToLocals, Value.category]; done) | rfl
set_option maxRecDepth 65536 in
set_option maxHeartbeats 40000000 in
theorem rm7 (l : Launch) (Z : State) (a0 : Array Value) (hw : ∀ d ∈ tables_1, d.before a0 Z = true) (ws : List Jvm.Cond) (p1 : Int32) (p2 : Int32) (h0 : Heap) (n0 : Nat) :
    MetFree l (⟨"java/lang/Math", "min", "(II)I"⟩ : MethodName) (head1 (Jvm.Cond.code (⟨"java/lang/Math", "min", "(II)I"⟩ : MethodName) jdk_29_method_69_code 2 (some .int) :: ws) ({ frames := 0, cells := 0, slots := 0, locals := 0 } : Room)) (fun a U => a = #[(.int p1), (.int p2)] ∧ Z.Warmed39 U.vm ∧ U.heap = h0) (fun _ _ _ _ _ => True) (fun _ U o U' => ∃ v L, o = .returned v ∧ Q7 Z p1 p2 h0 n0 v U'.heap L ∧ FrameEnd U o U' L ({ frames := 0, cells := 0, slots := 0, locals := 0 } : Room).cells ({ frames := 0, cells := 0, slots := 0, locals := 0 } : Room).slots) := by
  refine MetFree.of_bodySF pf_1 hisR ?_
  intro p e s m args below meth c s₁ Bd hml0 hP hK
  obtain ⟨rfl, hZ, hh⟩ := hP
  have hx := Bd.exec
  have hby := Bd.bytes
  have hlk : meth.locks = false := BodyLoose.notSynchronized Bd
  have hml : c.maxLocals = 2 := hml0
  have hown : s.vm.findClass "java/lang/Math" = some m.cls := findClass_of_methodNamed Bd.named
  have hnm := (name_of_methodNamed Bd.named Bd.method).1
  have X0 : Stand p l e ({ frames := 0, cells := 0, slots := 0, locals := 0 } : Room) s m #[(.int p1), (.int p2)] below meth c s₁ [] 0 0 := Stand.of_body Bd
  have e0 : s₁.heap = h0 := by rw [← hh, Bd.state]; rfl
  have N0 := Fr.nil n0
  show Gl p e below s (Q7 Z p1 p2 h0 n0) ({ frames := 0, cells := 0, slots := 0, locals := 0 } : Room).cells ({ frames := 0, cells := 0, slots := 0, locals := 0 } : Room).slots (s₁.setTop (entryFrame m #[(.int p1), (.int p2)] 2))
  rw [ef_7]
  show Gl _ _ _ _ _ _ _ (s₁.setTop (mkF m 0 #[.val (.int p1), .val (.int p2)] []))
  refine Gl.st (fun t k => XS.iloadN X0.here hx rfl (hb hby d7_0) rfl  k) ?_
  show Gl _ _ _ _ _ _ _ (s₁.setTop (mkF m 1 #[.val (.int p1), .val (.int p2)] [(.int p1)]))
  refine Gl.st (fun t k => XS.iloadN X0.here hx rfl (hb hby d7_1) rfl  k) ?_
  show Gl _ _ _ _ _ _ _ (s₁.setTop (mkF m 2 #[.val (.int p1), .val (.int p2)] [(.int p2), (.int p1)]))
  by_cases hc2 : p2 < p1
  · refine Gl.st (fun t k => XS.icmpYes X0.here hx rfl (pc0 := 2) (pc' := 9) rfl (hb hby d7_2) rfl (tlt hc2).2.2.1 (by decide) (by decide) k) ?_
    show Gl _ _ _ _ _ _ _ (s₁.setTop (mkF m 9 #[.val (.int p1), .val (.int p2)] []))
    refine Gl.st (fun t k => XS.iloadN X0.here hx rfl (hb hby d7_9) rfl  k) ?_
    show Gl _ _ _ _ _ _ _ (s₁.setTop (mkF m 10 #[.val (.int p1), .val (.int p2)] [(.int p2)]))
    exact Gl.retI X0 hx hlk Bd.returns (hb hby d7_10) (⟨congrArg (fun z => some (Value.int z)) (show p2 = own_min p1 p2 from by simp only [own_min, if_pos hc2]), N0, e0⟩) (by decide) (by decide)
  · refine Gl.st (fun t k => XS.icmpNo X0.here hx rfl (hb hby d7_2) rfl (flt hc2).2.2.1 k) ?_
    show Gl _ _ _ _ _ _ _ (s₁.setTop (mkF m 5 #[.val (.int p1), .val (.int p2)] []))
    refine Gl.st (fun t k => XS.iloadN X0.here hx rfl (hb hby d7_5) rfl  k) ?_
    show Gl _ _ _ _ _ _ _ (s₁.setTop (mkF m 6 #[.val (.int p1), .val (.int p2)] [(.int p1)]))
    refine Gl.st (fun t k => XS.goto X0.here hx rfl (pc0 := 6) (pc' := 10) rfl (hb hby d7_6) (by decide) (by decide) k) ?_
    show Gl _ _ _ _ _ _ _ (s₁.setTop (mkF m 10 #[.val (.int p1), .val (.int p2)] [(.int p1)]))
    exact Gl.retI X0 hx hlk Bd.returns (hb hby d7_10) (⟨congrArg (fun z => some (Value.int z)) (show p1 = own_min p1 p2 from by simp only [own_min, if_neg hc2]), N0, e0⟩) (by decide) (by decide)
theorem own_getD (bs : List Int32) (n : Nat) : (bs.map Value.int).getD n (.int 0) = .int (bs.getD n 0) := by
  simp only [List.getD_eq_getElem?_getD, List.getElem?_map]
  cases bs[n]? <;> rfl
theorem own_succ {i : Int32} (h : i.toInt < 2147483647) : (i + 1).toInt = i.toInt + 1 := by
  have a := c_iadd i 1
  have b := rng32 i
  have d := rng32 (i + 1)
  have e : (1 : Int32).toInt = 1 := by decide
  omega
theorem own_nn {i : Int32} (h : 0 ≤ i.toInt) : ¬ i < 0 := by
  rw [Int32.lt_iff_toInt_lt, show (0 : Int32).toInt = 0 from by decide]; omega
theorem own_lit {i j : Int32} {n : Int} (hj : j.toInt = n) (h : i.toInt < n) : i < j := by
  rw [Int32.lt_iff_toInt_lt, hj]; exact h
theorem own_clamp {i : Int32} {k : Nat} (h : i.toInt = (k : Int)) : i.toNatClampNeg = k := by
  show i.toInt.toNat = k
  omega
theorem own_of {x : Int32} {k : Nat} (h : x.toInt = (k : Int)) : x = Int32.ofInt (k : Int) := by
  rw [← h]; exact (Int32.ofInt_toInt x).symm
theorem own_ofL {x : Int64} {k : Nat} (h : x.toInt = (k : Int)) : x = Int64.ofInt (k : Int) := by
  rw [← h]; exact (Int64.ofInt_toInt x).symm
theorem own_toOf {k : Nat} (h : k < 2147483648) : (Int32.ofInt (k : Int)).toInt = (k : Int) := by
  exact Int32.toInt_ofInt_of_le (by omega) (by omega)
theorem own_nat64 {a : Int64} {A : Nat} (h : a.toInt = (A : Int)) : a.toBitVec.toNat = A := by
  have e : a.toInt = a.toBitVec.toInt := rfl
  have q := BitVec.toInt_eq_toNat_cond a.toBitVec
  have l := a.toBitVec.isLt
  rw [← e, h] at q
  split at q <;> omega
theorem own_int64 {a : Int64} {A : Nat} (h : a.toBitVec.toNat = A) (hA : A < 9223372036854775808) : a.toInt = (A : Int) := by
  have e : a.toInt = a.toBitVec.toInt := rfl
  have q := BitVec.toInt_eq_toNat_cond a.toBitVec
  rw [e, q, h]
  split <;> omega
theorem own_lor {a y : Int64} {A G k : Nat} (ha : a.toInt = (A : Int)) (hA : A < 2 ^ k) (hy : y.toInt = ((G * 2 ^ k : Nat) : Int)) (hb : A + G * 2 ^ k < 9223372036854775808) : (a ||| y).toInt = ((A + G * 2 ^ k : Nat) : Int) := by
  refine own_int64 ?_ hb
  show (a.toBitVec ||| y.toBitVec).toNat = _
  rw [BitVec.toNat_or, own_nat64 ha, own_nat64 hy, Nat.or_comm, ← Nat.shiftLeft_eq, ← Nat.shiftLeft_add_eq_or_of_lt hA]
  omega
theorem own_getset (us : List Int32) (a x : Nat) (b : Int32) (h : a < us.length) : (us.set a b).getD x 0 = if x = a then b else us.getD x 0 := by
  simp only [List.getD_eq_getElem?_getD, List.getElem?_set]
  by_cases e : a = x
  · subst e; simp [h]
  · rw [if_neg e, if_neg (fun q => e q.symm)]
theorem own_mapset (us : List Int32) (a : Nat) (b : Int32) : (us.set a b).map Value.int = (us.map Value.int).set a (Value.int b) := List.map_set
theorem own_lastg {V n t : Nat} (hV : V < 128 ^ n) (h : t + 1 = n) : V / 128 ^ t < 128 := by
  subst h
  rw [Nat.pow_succ] at hV
  exact Nat.div_lt_of_lt_mul hV
theorem own_moreg {V n t k : Nat} (h2 : n = 1 ∨ 128 ^ (n - 1) ≤ V) (h : t + (k + 1) + 1 = n) : 128 ≤ V / 128 ^ t := by
  have h3 : 128 ^ (n - 1) ≤ V := h2.resolve_left (by omega)
  have h4 : 128 ^ (t + 1) ≤ 128 ^ (n - 1) := Nat.pow_le_pow_right (by decide) (by omega)
  rw [Nat.pow_succ] at h4
  rw [Nat.le_div_iff_mul_le (Nat.pow_pos (by decide))]
  rw [Nat.mul_comm] at h4
  omega
theorem own_or128 : ∀ a, a < 256 → (a ||| 128) = a % 128 + 128 := by decide +kernel
theorem own_mid {w : Int64} {A : Nat} (h : w.toInt = (A : Int)) : (nar .byte ((w ||| (128 : Int64)).toInt32.toInt8.toInt32)).toInt = ((A % 128 : Nat) : Int) - 128 := by
  have e : (w ||| (128 : Int64)).toBitVec.toNat = A ||| 128 := by
    show (w.toBitVec ||| (128 : Int64).toBitVec).toNat = _
    rw [BitVec.toNat_or, own_nat64 h]; rfl
  have m : (A ||| 128) % 256 = A % 128 + 128 := by
    have q := Nat.or_mod_two_pow (a := A) (b := 128) (n := 8)
    rw [show (2 : Nat) ^ 8 = 256 from rfl] at q
    rw [q, show 128 % 256 = 128 from rfl, own_or128 _ (Nat.mod_lt _ (by decide))]
    omega
  have e2 : (w ||| (128 : Int64)).toInt = (w ||| (128 : Int64)).toBitVec.toInt := rfl
  have q := BitVec.toInt_eq_toNat_cond (w ||| (128 : Int64)).toBitVec
  have a1 := c_l2i (w ||| (128 : Int64))
  have a2 := c_i2b ((w ||| (128 : Int64)).toInt32)
  have a3 := c_i2b ((w ||| (128 : Int64)).toInt32.toInt8.toInt32)
  show ((w ||| (128 : Int64)).toInt32.toInt8.toInt32.toInt8.toInt32).toInt = _
  rw [e] at q
  split at q <;> omega
theorem own_fin {w : Int64} {A : Nat} (h : w.toInt = (A : Int)) (hA : A < 128) : (nar .byte (w.toInt32.toInt8.toInt32)).toInt = (A : Int) := by
  have a1 := c_l2i w
  have a2 := c_i2b (w.toInt32)
  have a3 := c_i2b (w.toInt32.toInt8.toInt32)
  show (w.toInt32.toInt8.toInt32.toInt8.toInt32).toInt = _
  omega
theorem own_sh7 {w : Int64} {V t : Nat} (h : w.toInt = ((V / 128 ^ t : Nat) : Int)) : ((w.toUInt64 >>> ((7 : Int32) &&& 0x3f).toInt64.toUInt64).toInt64).toInt = ((V / 128 ^ (t + 1) : Nat) : Int) := by
  have a := c_lushr w 7 7 (by decide) (by decide)
  have b := rng64 w
  have e7 : ((2 ^ 7 : Nat) : Int) = 128 := by decide
  rw [e7] at a
  rw [a, Nat.pow_succ, ← Nat.div_div_eq_div_mul]
  generalize V / 128 ^ t = z at *
  omega
/-- the u-th of the n bytes of V: seven bits of V; below 0 where more follow -/
def Byt (V n u : Nat) (b : Int32) : Prop := b.toInt % 128 = ((V / 128 ^ u % 128 : Nat) : Int) ∧ (b.toInt < 0 ↔ u + 1 < n)
theorem own_bmid {w : Int64} {V n t k : Nat} (h : w.toInt = ((V / 128 ^ t : Nat) : Int)) (hk : t + (k + 1) + 1 = n) : Byt V n t (nar .byte ((w ||| (128 : Int64)).toInt32.toInt8.toInt32)) := by
  have a := own_mid h
  unfold Byt
  generalize V / 128 ^ t = z at *
  omega
theorem own_bfin {w : Int64} {V n t : Nat} (h : w.toInt = ((V / 128 ^ t : Nat) : Int)) (hV : V < 128 ^ n) (hk : t + 1 = n) : Byt V n t (nar .byte (w.toInt32.toInt8.toInt32)) := by
  have l := own_lastg hV hk
  have a := own_fin h l
  clear hV
  unfold Byt
  generalize V / 128 ^ t = z at *
  omega
theorem own_stepB {V n t j : Nat} {us : List Int32} {b : Int32} (hl : j + t < us.length) (hB : ∀ u, u < t → Byt V n u (us.getD (j + u) 0)) (hb : Byt V n t b) : ∀ u, u < t + 1 → Byt V n u ((us.set (j + t) b).getD (j + u) 0) := fun u hu => by
  rw [own_getset _ _ _ _ hl]
  by_cases e : u = t
  · subst e; rw [if_pos rfl]; exact hb
  · rw [if_neg (by omega)]; exact hB u (by omega)
theorem own_stepO {t j : Nat} {us vs : List Int32} {b : Int32} (hl : j + t < us.length) (hO : ∀ x, (x < j ∨ j + t ≤ x) → us.getD x 0 = vs.getD x 0) : ∀ x, (x < j ∨ j + (t + 1) ≤ x) → (us.set (j + t) b).getD x 0 = vs.getD x 0 := fun x hx => by
  rw [own_getset _ _ _ _ hl, if_neg (by omega)]
  exact hO x (by omega)
theorem own_pow9 {n : Nat} (h : n ≤ 9) : 128 ^ n ≤ 9223372036854775808 := Nat.le_trans (Nat.pow_le_pow_right (by decide) h) (by decide)
theorem own_acc {acc : Int64} {b sh : Int32} {V n t : Nat} (ha : acc.toInt = ((V % 128 ^ t : Nat) : Int)) (hb : b.toInt % 128 = ((V / 128 ^ t % 128 : Nat) : Int)) (hs : sh.toInt = ((7 * t : Nat) : Int)) (ht : t < n) (hn : n ≤ 9) :
    (acc ||| ((b &&& (127 : Int32)).toInt64 <<< (sh &&& 0x3f).toInt64)).toInt = ((V % 128 ^ (t + 1) : Nat) : Int) := by
  have m := c_mask b 127 7 (by decide) (by decide)
  have sn : sh.toBitVec.toNat % 64 = 7 * t := by
    have e : sh.toInt = sh.toBitVec.toInt := rfl
    have q := BitVec.toInt_eq_toNat_cond sh.toBitVec
    rw [← e, hs] at q
    split at q <;> omega
  have l := c_lshl (b &&& (127 : Int32)).toInt64 sh (7 * t) sn
  rw [c_i2l, m] at l
  have e7 : ((2 ^ 7 : Nat) : Int) = 128 := by decide
  rw [e7, hb] at l
  have p : (2 : Nat) ^ (7 * t) = 128 ^ t := by rw [Nat.pow_mul]
  rw [p] at l
  have g : V / 128 ^ t % 128 < 128 := Nat.mod_lt _ (by decide)
  have s8 : V / 128 ^ t % 128 * 128 ^ t + 128 ^ t ≤ 128 ^ (t + 1) := by
    rw [Nat.pow_succ, ← Nat.succ_mul, Nat.mul_comm (128 ^ t) 128]
    exact Nat.mul_le_mul_right _ g
  have p9 := own_pow9 (n := t + 1) (by omega)
  have r0 : V % 128 ^ t < 128 ^ t := Nat.mod_lt _ (Nat.pow_pos (by decide))
  have hy : ((b &&& (127 : Int32)).toInt64 <<< (sh &&& 0x3f).toInt64).toInt = ((V / 128 ^ t % 128 * 2 ^ (7 * t) : Nat) : Int) := by
    have r := rng64 ((b &&& (127 : Int32)).toInt64 <<< (sh &&& 0x3f).toInt64)
    rw [p]
    have c : (((V / 128 ^ t % 128 * 128 ^ t : Nat)) : Int) = ((V / 128 ^ t % 128 : Nat) : Int) * ((128 ^ t : Nat) : Int) := Int.natCast_mul _ _
    rw [← c] at l
    generalize V / 128 ^ t % 128 * 128 ^ t = X at *
    omega
  rw [own_lor ha (by rw [p]; exact r0) hy (by rw [p]; omega), p]
  have q := Nat.mod_pow_succ (x := V) (b := 128) (k := t)
  rw [q, Nat.mul_comm (128 ^ t)]
theorem d1_0 : decode prog_95_method_2_code 0 = .ok (.iload_n 1, 1) := by decide +kernel
theorem d1_1 : decode prog_95_method_2_code 1 = .ok (.istore 4, 2) := by decide +kernel
theorem d1_3 : decode prog_95_method_2_code 3 = .ok (.lload_n 2, 1) := by decide +kernel
theorem d1_4 : decode prog_95_method_2_code 4 = .ok (.lstore 5, 2) := by decide +kernel
theorem d1_6 : decode prog_95_method_2_code 6 = .ok (.lload 5, 2) := by decide +kernel
theorem d1_8 : decode prog_95_method_2_code 8 = .ok (.ldc2_w 7, 3) := by decide +kernel
theorem d1_11 : decode prog_95_method_2_code 11 = .ok (.lcmp, 1) := by decide +kernel
theorem d1_12 : decode prog_95_method_2_code 12 = .ok (.ifCond .lt 28, 3) := by decide +kernel
theorem d1_15 : decode prog_95_method_2_code 15 = .ok (.aload_n 0, 1) := by decide +kernel
theorem d1_16 : decode prog_95_method_2_code 16 = .ok (.iload 4, 2) := by decide +kernel
theorem d1_18 : decode prog_95_method_2_code 18 = .ok (.iinc 4 1, 3) := by decide +kernel
theorem d1_21 : decode prog_95_method_2_code 21 = .ok (.lload 5, 2) := by decide +kernel
theorem d1_23 : decode prog_95_method_2_code 23 = .ok (.ldc2_w 7, 3) := by decide +kernel
theorem d1_26 : decode prog_95_method_2_code 26 = .ok (.lor, 1) := by decide +kernel
theorem d1_27 : decode prog_95_method_2_code 27 = .ok (.l2i, 1) := by decide +kernel
theorem d1_28 : decode prog_95_method_2_code 28 = .ok (.i2b, 1) := by decide +kernel
theorem d1_29 : decode prog_95_method_2_code 29 = .ok (.bastore, 1) := by decide +kernel
theorem d1_30 : decode prog_95_method_2_code 30 = .ok (.lload 5, 2) := by decide +kernel
theorem d1_32 : decode prog_95_method_2_code 32 = .ok (.bipush 7, 2) := by decide +kernel
theorem d1_34 : decode prog_95_method_2_code 34 = .ok (.lushr, 1) := by decide +kernel
theorem d1_35 : decode prog_95_method_2_code 35 = .ok (.lstore 5, 2) := by decide +kernel
theorem d1_37 : decode prog_95_method_2_code 37 = .ok (.goto (-31), 3) := by decide +kernel
theorem d1_40 : decode prog_95_method_2_code 40 = .ok (.aload_n 0, 1) := by decide +kernel
theorem d1_41 : decode prog_95_method_2_code 41 = .ok (.iload 4, 2) := by decide +kernel
theorem d1_43 : decode prog_95_method_2_code 43 = .ok (.iinc 4 1, 3) := by decide +kernel
theorem d1_46 : decode prog_95_method_2_code 46 = .ok (.lload 5, 2) := by decide +kernel
theorem d1_48 : decode prog_95_method_2_code 48 = .ok (.l2i, 1) := by decide +kernel
theorem d1_49 : decode prog_95_method_2_code 49 = .ok (.i2b, 1) := by decide +kernel
theorem d1_50 : decode prog_95_method_2_code 50 = .ok (.bastore, 1) := by decide +kernel
theorem d1_51 : decode prog_95_method_2_code 51 = .ok (.iload 4, 2) := by decide +kernel
theorem d1_53 : decode prog_95_method_2_code 53 = .ok (.ireturn, 1) := by decide +kernel
theorem pf_2 : plainFor (⟨"com/example/millrace/millrace/storage/PackedGroups", "put", "([BIJ)I"⟩ : MethodName) = true := by decide +kernel
def Q1 (Z : State) (a1 : Addr) (p2 : Int32) (q3 : Int64) (ck : ClassId) (vs : List Int32) (j : Nat) (n : Nat) (V : Nat) (h0 : Heap) (n0 : Nat) (v : Option Value) (h : Heap) (L : List Loc) : Prop := v = some (.int (Int32.ofInt ((j + n : Nat) : Int))) ∧ Fr n0 L ∧ Keep h0 h [a1] ∧ ∃ vo : List Int32, Arv Z h a1 ck .byte (12 : Int32) (vo.map Value.int) (.int (0 : Int32)) ∧ vo.length = vs.length ∧ (∀ u, u < n → Byt V n u (vo.getD (j + u) 0)) ∧ (∀ x, (x < j ∨ j + n ≤ x) → vo.getD x 0 = vs.getD x 0)
theorem ef_1 (m : MethodId) (a1 : Addr) (p2 : Int32) (q3 : Int64) : entryFrame m #[(.ref a1), (.int p2), (.long q3)] 7 = mkF m 0 #[.val (.ref a1), .val (.int p2), .val (.long q3), .second, .unset, .unset, .unset] [] := by first | (simp [entryFrame, mkF, argsToLocals, Value.category]; done) | rfl
set_option maxRecDepth 65536 in
set_option maxHeartbeats 40000000 in
theorem rm1 (l : Launch) (Z : State) (a0 : Array Value) (hw : ∀ d ∈ tables_1, d.before a0 Z = true) (ws : List Jvm.Cond) (a1 : Addr) (p2 : Int32) (q3 : Int64) (ck : ClassId) (vs : List Int32) (j : Nat) (n : Nat) (V : Nat) (h0 : Heap) (n0 : Nat) (Z0 : n0 ≤ h0.size) (Va : Arv Z h0 a1 ck .byte (12 : Int32) (vs.map Value.int) (.int (0 : Int32))) (g_a1 : n0 ≤ a1) (hj : p2.toInt = (j : Int)) (hv : q3.toInt = (V : Int)) (hV : V < 128 ^ n) (hn1 : 1 ≤ n) (hn2 : n = 1 ∨ 128 ^ (n - 1) ≤ V) (hjn : j + n ≤ 12) (hlen : vs.length = 12) :
    MetFree l (⟨"com/example/millrace/millrace/storage/PackedGroups", "put", "([BIJ)I"⟩ : MethodName) (head1 (Jvm.Cond.code (⟨"com/example/millrace/millrace/storage/PackedGroups", "put", "([BIJ)I"⟩ : MethodName) prog_95_method_2_code 7 (some .int) :: ws) ({ frames := 0, cells := 0, slots := 0, locals := 0 } : Room)) (fun a U => a = #[(.ref a1), (.int p2), (.long q3)] ∧ Z.Warmed39 U.vm ∧ U.heap = h0) (fun _ _ _ _ _ => True) (fun _ U o U' => ∃ v L, o = .returned v ∧ Q1 Z a1 p2 q3 ck vs j n V h0 n0 v U'.heap L ∧ FrameEnd U o U' L ({ frames := 0, cells := 0, slots := 0, locals := 0 } : Room).cells ({ frames := 0, cells := 0, slots := 0, locals := 0 } : Room).slots) := by
  refine MetFree.of_bodySF pf_2 hisR ?_
  intro p e s m args below meth c s₁ Bd hml0 hP hK
  obtain ⟨rfl, hZ, hh⟩ := hP
  have hx := Bd.exec
  have hby := Bd.bytes
  have hlk : meth.locks = false := BodyLoose.notSynchronized Bd
  have hml : c.maxLocals = 7 := hml0
  have hown : s.vm.findClass "com/example/millrace/millrace/storage/PackedGroups" = some m.cls := findClass_of_methodNamed Bd.named
  have hnm := (name_of_methodNamed Bd.named Bd.method).1
  have X0 : Stand p l e ({ frames := 0, cells := 0, slots := 0, locals := 0 } : Room) s m #[(.ref a1), (.int p2), (.long q3)] below meth c s₁ [] 0 0 := Stand.of_body Bd
  have e0 : s₁.heap = h0 := by rw [← hh, Bd.state]; rfl
  have N0 := Fr.nil n0
  have K0 : Keep h0 h0 [a1] := Keep.refl h0 _
  show Gl p e below s (Q1 Z a1 p2 q3 ck vs j n V h0 n0) ({ frames := 0, cells := 0, slots := 0, locals := 0 } : Room).cells ({ frames := 0, cells := 0, slots := 0, locals := 0 } : Room).slots (s₁.setTop (entryFrame m #[(.ref a1), (.int p2), (.long q3)] 7))
  rw [ef_1]
  show Gl _ _ _ _ _ _ _ (s₁.setTop (mkF m 0 #[.val (.ref a1), .val (.int p2), .val (.long q3), .second, .unset, .unset, .unset] []))
  refine Gl.st (fun t k => XS.iloadN X0.here hx rfl (hb hby d1_0) rfl  k) ?_
  show Gl _ _ _ _ _ _ _ (s₁.setTop (mkF m 1 #[.val (.ref a1), .val (.int p2), .val (.long q3), .second, .unset, .unset, .unset] [(.int p2)]))
  refine Gl.st (fun t k => XS.istore X0.here hx rfl (hb hby d1_1) rfl (l' := #[.val (.ref a1), .val (.int p2), .val (.long q3), .second, .val (.int p2), .unset, .unset]) rfl k) ?_
  show Gl _ _ _ _ _ _ _ (s₁.setTop (mkF m 3 #[.val (.ref a1), .val (.int p2), .val (.long q3), .second, .val (.int p2), .unset, .unset] []))
  refine Gl.st (fun t k => XS.lloadN X0.here hx rfl (hb hby d1_3) rfl  k) ?_
  show Gl _ _ _ _ _ _ _ (s₁.setTop (mkF m 4 #[.val (.ref a1), .val (.int p2), .val (.long q3), .second, .val (.int p2), .unset, .unset] [(.long q3)]))
  refine Gl.st (fun t k => XS.lstore X0.here hx rfl (hb hby d1_4) rfl (l' := #[.val (.ref a1), .val (.int p2), .val (.long q3), .second, .val (.int p2), .val (.long q3), .second]) rfl k) ?_
  have LP1 : ∀ (k : Nat) (Tl1 : State) (Ll1 : List Loc) (hl1 : Heap) (Xl1 : Stand p l e ({ frames := 0, cells := 0, slots := 0, locals := 0 } : Room) s m #[(.ref a1), (.int p2), (.long q3)] below meth c Tl1 Ll1 0 0) (el1 : Tl1.heap = hl1) (Nl1 : Fr n0 Ll1) (Zl1 : n0 ≤ hl1.size) (Kl1 : Keep h0 hl1 [a1]) (t : Nat) (us : List Int32) (i : Int32) (w : Int64) (Gf1_0 : Arv Z hl1 a1 ck .byte (12 : Int32) (us.map Value.int) (.int (0 : Int32))) (hi : i.toInt = ((j + t : Nat) : Int)) (hw' : w.toInt = ((V / 128 ^ t : Nat) : Int)) (hk : t + k + 1 = n) (hl : us.length = vs.length) (hB : ∀ u, u < t → Byt V n u (us.getD (j + u) 0)) (hO : ∀ x, (x < j ∨ j + t ≤ x) → us.getD x 0 = vs.getD x 0), Gl p e below s (Q1 Z a1 p2 q3 ck vs j n V h0 n0) ({ frames := 0, cells := 0, slots := 0, locals := 0 } : Room).cells ({ frames := 0, cells := 0, slots := 0, locals := 0 } : Room).slots (Tl1.setTop (mkF m 6 #[.val (.ref a1), .val (.int p2), .val (.long q3), .second, .val (.int i), .val (.long w), .second] [])) := by
    intro k
    induction k with
    | zero =>
      intro Tl1 Ll1 hl1 Xl1 el1 Nl1 Zl1 Kl1 t us i w Gf1_0 hi hw' hk hl hB hO
      show Gl _ _ _ _ _ _ _ (Tl1.setTop (mkF m 6 #[.val (.ref a1), .val (.int p2), .val (.long q3), .second, .val (.int i), .val (.long w), .second] []))
      refine Gl.st (fun t k => XS.lload Xl1.here hx rfl (hb hby d1_6) rfl  k) ?_
      show Gl _ _ _ _ _ _ _ (Tl1.setTop (mkF m 8 #[.val (.ref a1), .val (.int p2), .val (.long q3), .second, .val (.int i), .val (.long w), .second] [(.long w)]))
      refine Gl.st (Xl1.ldc2Long hx hown (mvT hZ (hw _ (List.mem_of_getElem? (i := 7) rfl))) (g := (mkF m 8 #[.val (.ref a1), .val (.int p2), .val (.long q3), .second, .val (.int i), .val (.long w), .second] [(.long w)])) rfl (hb hby d1_8)) ?_
      show Gl _ _ _ _ _ _ _ (Tl1.setTop (mkF m 11 #[.val (.ref a1), .val (.int p2), .val (.long q3), .second, .val (.int i), .val (.long w), .second] [(.long (128 : Int64)), (.long w)]))
      refine Gl.st (fun t k => XS.lcmp Xl1.here hx rfl (hb hby d1_11) rfl k) ?_
      show Gl _ _ _ _ _ _ _ (Tl1.setTop (mkF m 12 #[.val (.ref a1), .val (.int p2), .val (.long q3), .second, .val (.int i), .val (.long w), .second] [(.int (lcmpW w (128 : Int64)))]))
      have hc12_2 : w < (128 : Int64) := by rw [Int64.lt_iff_toInt_lt, hw', show (128 : Int64).toInt = 128 from by decide]; have q := own_lastg hV (show t + 1 = n from by omega); omega
      refine Gl.st (fun t k => XS.ifYes Xl1.here hx rfl (pc0 := 12) (pc' := 40) rfl (hb hby d1_12) rfl (lc_t hc12_2).1 (by decide) (by decide) k) ?_
      show Gl _ _ _ _ _ _ _ (Tl1.setTop (mkF m 40 #[.val (.ref a1), .val (.int p2), .val (.long q3), .second, .val (.int i), .val (.long w), .second] []))
      refine Gl.st (fun t k => XS.aloadN Xl1.here hx rfl (hb hby d1_40) rfl rfl k) ?_
      show Gl _ _ _ _ _ _ _ (Tl1.setTop (mkF m 41 #[.val (.ref a1), .val (.int p2), .val (.long q3), .second, .val (.int i), .val (.long w), .second] [(.ref a1)]))
      refine Gl.st (fun t k => XS.iload Xl1.here hx rfl (hb hby d1_41) rfl  k) ?_
      show Gl _ _ _ _ _ _ _ (Tl1.setTop (mkF m 43 #[.val (.ref a1), .val (.int p2), .val (.long q3), .second, .val (.int i), .val (.long w), .second] [(.int i), (.ref a1)]))
      refine Gl.st (fun t k => XS.iinc Xl1.here hx rfl (hb hby d1_43) rfl (l' := #[.val (.ref a1), .val (.int p2), .val (.long q3), .second, .val (.int (i + (1 : Int32))), .val (.long w), .second]) rfl k) ?_
      show Gl _ _ _ _ _ _ _ (Tl1.setTop (mkF m 46 #[.val (.ref a1), .val (.int p2), .val (.long q3), .second, .val (.int (i + (1 : Int32))), .val (.long w), .second] [(.int i), (.ref a1)]))
      refine Gl.st (fun t k => XS.lload Xl1.here hx rfl (hb hby d1_46) rfl  k) ?_
      show Gl _ _ _ _ _ _ _ (Tl1.setTop (mkF m 48 #[.val (.ref a1), .val (.int p2), .val (.long q3), .second, .val (.int (i + (1 : Int32))), .val (.long w), .second] [(.long w), (.int i), (.ref a1)]))
      refine Gl.st (fun t k => XS.l2i Xl1.here hx rfl (hb hby d1_48) rfl k) ?_
      show Gl _ _ _ _ _ _ _ (Tl1.setTop (mkF m 49 #[.val (.ref a1), .val (.int p2), .val (.long q3), .second, .val (.int (i + (1 : Int32))), .val (.long w), .second] [(.int (w.toInt32)), (.int i), (.ref a1)]))
      refine Gl.st (fun t k => XS.i2b Xl1.here hx rfl (hb hby d1_49) rfl k) ?_
      show Gl _ _ _ _ _ _ _ (Tl1.setTop (mkF m 50 #[.val (.ref a1), .val (.int p2), .val (.long q3), .second, .val (.int (i + (1 : Int32))), .val (.long w), .second] [(.int ((w.toInt32).toInt8.toInt32)), (.int i), (.ref a1)]))
      have Vx3 := Gf1_0
      obtain ⟨cl3, Ar3, qk3, S3, M3, H3, G3⟩ := Vx3
      have hin3 : ¬ (i < 0 ∨ cl3.slots.size ≤ (i).toNatClampNeg) := inb_of S3 ⟨own_nn (by omega), own_lit (n := 12) (by decide) (by omega)⟩
      obtain ⟨T3, h3, X3, e3, W3, st3⟩ := stB Xl1 hx hZ el1 Ar3 (j := i) hin3 (g := (mkF m 50 #[.val (.ref a1), .val (.int p2), .val (.long q3), .second, .val (.int (i + (1 : Int32))), .val (.long w), .second] [(.int ((w.toInt32).toInt8.toInt32)), (.int i), (.ref a1)])) rfl rfl (hb hby d1_50)
      refine Gl.st st3 ?_
      have Z3 : n0 ≤ h3.size := Nat.le_trans Zl1 (Keep.of_wr W3).1
      have N3 := Fr.snoc X3 Nl1 g_a1
      have K3 : Keep h0 h3 [a1] := Kl1.wr W3 (Or.inl (List.mem_of_getElem? (i := 0) rfl))
      have V3 : Arv Z h3 a1 ck .byte (12 : Int32) ((us.set i.toNatClampNeg (nar .byte ((w.toInt32).toInt8.toInt32))).map Value.int) (.int (0 : Int32)) := by rw [own_mapset]; exact Arv.set Ar3 qk3 S3 M3 H3 G3 (fits_nar_byte _) W3 _ rfl (by rw [List.length_map, own_clamp hi, hl, hlen]; omega)
      show Gl _ _ _ _ _ _ _ (T3.setTop (mkF m 51 #[.val (.ref a1), .val (.int p2), .val (.long q3), .second, .val (.int (i + (1 : Int32))), .val (.long w), .second] []))
      refine Gl.st (fun t k => XS.iload X3.here hx rfl (hb hby d1_51) rfl  k) ?_
      show Gl _ _ _ _ _ _ _ (T3.setTop (mkF m 53 #[.val (.ref a1), .val (.int p2), .val (.long q3), .second, .val (.int (i + (1 : Int32))), .val (.long w), .second] [(.int (i + (1 : Int32)))]))
      exact Gl.retI X3 hx hlk Bd.returns (hb hby d1_53) (by
            rw [e3]
            refine ⟨congrArg (fun z => some (Value.int z)) (show (i + (1 : Int32)) = Int32.ofInt ((j + n : Nat) : Int) from own_of (by rw [own_succ (by omega)]; omega)), N3, K3, (us.set i.toNatClampNeg (nar .byte ((w.toInt32).toInt8.toInt32))), V3, by rw [List.length_set]; exact hl, ?_, ?_⟩
            · rw [own_clamp hi]; have q := own_stepB (by rw [hl, hlen]; omega) hB (own_bfin hw' hV (by omega)); rw [show t + 1 = n from by omega] at q; exact q
            · rw [own_clamp hi]; have q := own_stepO (b := (nar .byte ((w.toInt32).toInt8.toInt32))) (by rw [hl, hlen]; omega) hO; rw [show t + 1 = n from by omega] at q; exact q) (by decide) (by decide)
    | succ k ih =>
      intro Tl1 Ll1 hl1 Xl1 el1 Nl1 Zl1 Kl1 t us i w Gf1_0 hi hw' hk hl hB hO
      show Gl _ _ _ _ _ _ _ (Tl1.setTop (mkF m 6 #[.val (.ref a1), .val (.int p2), .val (.long q3), .second, .val (.int i), .val (.long w), .second] []))
      refine Gl.st (fun t k => XS.lload Xl1.here hx rfl (hb hby d1_6) rfl  k) ?_
      show Gl _ _ _ _ _ _ _ (Tl1.setTop (mkF m 8 #[.val (.ref a1), .val (.int p2), .val (.long q3), .second, .val (.int i), .val (.long w), .second] [(.long w)]))
      refine Gl.st (Xl1.ldc2Long hx hown (mvT hZ (hw _ (List.mem_of_getElem? (i := 7) rfl))) (g := (mkF m 8 #[.val (.ref a1), .val (.int p2), .val (.long q3), .second, .val (.int i), .val (.long w), .second] [(.long w)])) rfl (hb hby d1_8)) ?_
      show Gl _ _ _ _ _ _ _ (Tl1.setTop (mkF m 11 #[.val (.ref a1), .val (.int p2), .val (.long q3), .second, .val (.int i), .val (.long w), .second] [(.long (128 : Int64)), (.long w)]))
      refine Gl.st (fun t k => XS.lcmp Xl1.here hx rfl (hb hby d1_11) rfl k) ?_
      show Gl _ _ _ _ _ _ _ (Tl1.setTop (mkF m 12 #[.val (.ref a1), .val (.int p2), .val (.long q3), .second, .val (.int i), .val (.long w), .second] [(.int (lcmpW w (128 : Int64)))]))
      have hc12_4 : ¬ (w < (128 : Int64)) := by rw [Int64.lt_iff_toInt_lt, hw', show (128 : Int64).toInt = 128 from by decide]; have q := own_moreg hn2 hk; omega
      refine Gl.st (fun t k => XS.ifNo Xl1.here hx rfl (hb hby d1_12) rfl (lc_f hc12_4).1 k) ?_
      show Gl _ _ _ _ _ _ _ (Tl1.setTop (mkF m 15 #[.val (.ref a1), .val (.int p2), .val (.long q3), .second, .val (.int i), .val (.long w), .second] []))
      refine Gl.st (fun t k => XS.aloadN Xl1.here hx rfl (hb hby d1_15) rfl rfl k) ?_
      show Gl _ _ _ _ _ _ _ (Tl1.setTop (mkF m 16 #[.val (.ref a1), .val (.int p2), .val (.long q3), .second, .val (.int i), .val (.long w), .second] [(.ref a1)]))
      refine Gl.st (fun t k => XS.iload Xl1.here hx rfl (hb hby d1_16) rfl  k) ?_
      show Gl _ _ _ _ _ _ _ (Tl1.setTop (mkF m 18 #[.val (.ref a1), .val (.int p2), .val (.long q3), .second, .val (.int i), .val (.long w), .second] [(.int i), (.ref a1)]))
      refine Gl.st (fun t k => XS.iinc Xl1.here hx rfl (hb hby d1_18) rfl (l' := #[.val (.ref a1), .val (.int p2), .val (.long q3), .second, .val (.int (i + (1 : Int32))), .val (.long w), .second]) rfl k) ?_
      show Gl _ _ _ _ _ _ _ (Tl1.setTop (mkF m 21 #[.val (.ref a1), .val (.int p2), .val (.long q3), .second, .val (.int (i + (1 : Int32))), .val (.long w), .second] [(.int i), (.ref a1)]))
      refine Gl.st (fun t k => XS.lload Xl1.here hx rfl (hb hby d1_21) rfl  k) ?_
      show Gl _ _ _ _ _ _ _ (Tl1.setTop (mkF m 23 #[.val (.ref a1), .val (.int p2), .val (.long q3), .second, .val (.int (i + (1 : Int32))), .val (.long w), .second] [(.long w), (.int i), (.ref a1)]))
      refine Gl.st (Xl1.ldc2Long hx hown (mvT hZ (hw _ (List.mem_of_getElem? (i := 7) rfl))) (g := (mkF m 23 #[.val (.ref a1), .val (.int p2), .val (.long q3), .second, .val (.int (i + (1 : Int32))), .val (.long w), .second] [(.long w), (.int i), (.ref a1)])) rfl (hb hby d1_23)) ?_
      show Gl _ _ _ _ _ _ _ (Tl1.setTop (mkF m 26 #[.val (.ref a1), .val (.int p2), .val (.long q3), .second, .val (.int (i + (1 : Int32))), .val (.long w), .second] [(.long (128 : Int64)), (.long w), (.int i), (.ref a1)]))
      refine Gl.st (fun t k => XS.lor Xl1.here hx rfl (hb hby d1_26) rfl k) ?_
      show Gl _ _ _ _ _ _ _ (Tl1.setTop (mkF m 27 #[.val (.ref a1), .val (.int p2), .val (.long q3), .second, .val (.int (i + (1 : Int32))), .val (.long w), .second] [(.long (w ||| (128 : Int64))), (.int i), (.ref a1)]))
      refine Gl.st (fun t k => XS.l2i Xl1.here hx rfl (hb hby d1_27) rfl k) ?_
      show Gl _ _ _ _ _ _ _ (Tl1.setTop (mkF m 28 #[.val (.ref a1), .val (.int p2), .val (.long q3), .second, .val (.int (i + (1 : Int32))), .val (.long w), .second] [(.int ((w ||| (128 : Int64)).toInt32)), (.int i), (.ref a1)]))
      refine Gl.st (fun t k => XS.i2b Xl1.here hx rfl (hb hby d1_28) rfl k) ?_
      show Gl _ _ _ _ _ _ _ (Tl1.setTop (mkF m 29 #[.val (.ref a1), .val (.int p2), .val (.long q3), .second, .val (.int (i + (1 : Int32))), .val (.long w), .second] [(.int (((w ||| (128 : Int64)).toInt32).toInt8.toInt32)), (.int i), (.ref a1)]))
      have Vx5 := Gf1_0
      obtain ⟨cl5, Ar5, qk5, S5, M5, H5, G5⟩ := Vx5
      have hin5 : ¬ (i < 0 ∨ cl5.slots.size ≤ (i).toNatClampNeg) := inb_of S5 ⟨own_nn (by omega), own_lit (n := 12) (by decide) (by omega)⟩
      obtain ⟨T5, h5, X5, e5, W5, st5⟩ := stB Xl1 hx hZ el1 Ar5 (j := i) hin5 (g := (mkF m 29 #[.val (.ref a1), .val (.int p2), .val (.long q3), .second, .val (.int (i + (1 : Int32))), .val (.long w), .second] [(.int (((w ||| (128 : Int64)).toInt32).toInt8.toInt32)), (.int i), (.ref a1)])) rfl rfl (hb hby d1_29)
      refine Gl.st st5 ?_
      have Z5 : n0 ≤ h5.size := Nat.le_trans Zl1 (Keep.of_wr W5).1
      have N5 := Fr.snoc X5 Nl1 g_a1
      have K5 : Keep h0 h5 [a1] := Kl1.wr W5 (Or.inl (List.mem_of_getElem? (i := 0) rfl))
      have V5 : Arv Z h5 a1 ck .byte (12 : Int32) ((us.set i.toNatClampNeg (nar .byte (((w ||| (128 : Int64)).toInt32).toInt8.toInt32))).map Value.int) (.int (0 : Int32)) := by rw [own_mapset]; exact Arv.set Ar5 qk5 S5 M5 H5 G5 (fits_nar_byte _) W5 _ rfl (by rw [List.length_map, own_clamp hi, hl, hlen]; omega)
      show Gl _ _ _ _ _ _ _ (T5.setTop (mkF m 30 #[.val (.ref a1), .val (.int p2), .val (.long q3), .second, .val (.int (i + (1 : Int32))), .val (.long w), .second] []))
      refine Gl.st (fun t k => XS.lload X5.here hx rfl (hb hby d1_30) rfl  k) ?_
      show Gl _ _ _ _ _ _ _ (T5.setTop (mkF m 32 #[.val (.ref a1), .val (.int p2), .val (.long q3), .second, .val (.int (i + (1 : Int32))), .val (.long w), .second] [(.long w)]))
      refine Gl.st (fun t k => XS.bipush X5.here hx rfl (hb hby d1_32) k) ?_
      show Gl _ _ _ _ _ _ _ (T5.setTop (mkF m 34 #[.val (.ref a1), .val (.int p2), .val (.long q3), .second, .val (.int (i + (1 : Int32))), .val (.long w), .second] [(.int (7 : Int32)), (.long w)]))
      refine Gl.st (fun t k => XS.lushr X5.here hx rfl (hb hby d1_34) rfl k) ?_
      show Gl _ _ _ _ _ _ _ (T5.setTop (mkF m 35 #[.val (.ref a1), .val (.int p2), .val (.long q3), .second, .val (.int (i + (1 : Int32))), .val (.long w), .second] [(.long ((w.toUInt64 >>> ((7 : Int32) &&& 0x3f).toInt64.toUInt64).toInt64))]))
      refine Gl.st (fun t k => XS.lstore X5.here hx rfl (hb hby d1_35) rfl (l' := #[.val (.ref a1), .val (.int p2), .val (.long q3), .second, .val (.int (i + (1 : Int32))), .val (.long ((w.toUInt64 >>> ((7 : Int32) &&& 0x3f).toInt64.toUInt64).toInt64)), .second]) rfl k) ?_
      show Gl _ _ _ _ _ _ _ (T5.setTop (mkF m 37 #[.val (.ref a1), .val (.int p2), .val (.long q3), .second, .val (.int (i + (1 : Int32))), .val (.long ((w.toUInt64 >>> ((7 : Int32) &&& 0x3f).toInt64.toUInt64).toInt64)), .second] []))
      refine Gl.st (fun t k => XS.goto X5.here hx rfl (pc0 := 37) (pc' := 6) rfl (hb hby d1_37) (by decide) (by decide) k) ?_
      show Gl _ _ _ _ _ _ _ (T5.setTop (mkF m 6 #[.val (.ref a1), .val (.int p2), .val (.long q3), .second, .val (.int (i + (1 : Int32))), .val (.long ((w.toUInt64 >>> ((7 : Int32) &&& 0x3f).toInt64.toUInt64).toInt64)), .second] []))
      exact ih _ _ _ X5 e5 N5 Z5 K5 (t + 1) ((us.set i.toNatClampNeg (nar .byte (((w ||| (128 : Int64)).toInt32).toInt8.toInt32)))) _ _ V5 (by rw [own_succ (by omega)]; omega) (own_sh7 hw') (by omega) (by rw [List.length_set]; exact hl) (by rw [own_clamp hi]; exact own_stepB (by rw [hl, hlen]; omega) hB (own_bmid hw' hk)) (by rw [own_clamp hi]; exact own_stepO (by rw [hl, hlen]; omega) hO)
  exact LP1 (n - 1) _ _ _ X0 e0 N0 Z0 K0 (0) (vs) _ _ Va (by omega) (by rw [hv, Nat.pow_zero, Nat.div_one]) (by omega) (rfl) (fun u hu => absurd hu (Nat.not_lt_zero u)) (fun x _ => rfl)
theorem d3_0 : decode prog_96_method_1_code 0 = .ok (.aload_n 0, 1) := by decide +kernel
theorem d3_1 : decode prog_96_method_1_code 1 = .ok (.invokespecial 1, 3) := by decide +kernel
theorem d3_4 : decode prog_96_method_1_code 4 = .ok (.aload_n 0, 1) := by decide +kernel
theorem d3_5 : decode prog_96_method_1_code 5 = .ok (.aload_n 1, 1) := by decide +kernel
theorem d3_6 : decode prog_96_method_1_code 6 = .ok (.putfield 7, 3) := by decide +kernel
theorem d3_9 : decode prog_96_method_1_code 9 = .ok (.aload_n 0, 1) := by decide +kernel
theorem d3_10 : decode prog_96_method_1_code 10 = .ok (.iload_n 3, 1) := by decide +kernel
theorem d3_11 : decode prog_96_method_1_code 11 = .ok (.putfield 13, 3) := by decide +kernel
theorem d3_14 : decode prog_96_method_1_code 14 = .ok (.aload_n 0, 1) := by decide +kernel
theorem d3_15 : decode prog_96_method_1_code 15 = .ok (.iload_n 2, 1) := by decide +kernel
theorem d3_16 : decode prog_96_method_1_code 16 = .ok (.putfield 17, 3) := by decide +kernel
theorem d3_19 : decode prog_96_method_1_code 19 = .ok (.aload_n 0, 1) := by decide +kernel
theorem d3_20 : decode prog_96_method_1_code 20 = .ok (.lload 4, 2) := by decide +kernel
theorem d3_22 : decode prog_96_method_1_code 22 = .ok (.putfield 20, 3) := by decide +kernel
theorem d3_25 : decode prog_96_method_1_code 25 = .ok (.aload_n 0, 1) := by decide +kernel
theorem d3_26 : decode prog_96_method_1_code 26 = .ok (.lload 4, 2) := by decide +kernel
theorem d3_28 : decode prog_96_method_1_code 28 = .ok (.putfield 24, 3) := by decide +kernel
theorem d3_31 : decode prog_96_method_1_code 31 = .ok (.aload_n 0, 1) := by decide +kernel
theorem d3_32 : decode prog_96_method_1_code 32 = .ok (.lload 6, 2) := by decide +kernel
theorem d3_34 : decode prog_96_method_1_code 34 = .ok (.putfield 27, 3) := by decide +kernel
theorem d3_37 : decode prog_96_method_1_code 37 = .ok (.aload_n 0, 1) := by decide +kernel
theorem d3_38 : decode prog_96_method_1_code 38 = .ok (.lload 6, 2) := by decide +kernel
theorem d3_40 : decode prog_96_method_1_code 40 = .ok (.putfield 30, 3) := by decide +kernel
theorem d3_43 : decode prog_96_method_1_code 43 = .ok (.return_, 1) := by decide +kernel
theorem pf_3 : plainFor (⟨"com/example/millrace/millrace/storage/PackedGroups$Reader", "<init>", "([BIIJJ)V"⟩ : MethodName) = true := by decide +kernel
def Q3 (Z : State) (a1 : Addr) (a2 : Addr) (p3 : Int32) (p4 : Int32) (q5 : Int64) (q6 : Int64) (u_bytes : Value) (u_end : Value) (u_at : Value) (u_offset : Value) (u_endOffset : Value) (u_position : Value) (u_endPosition : Value) (h0 : Heap) (n0 : Nat) (v : Option Value) (h : Heap) (L : List Loc) : Prop := v = none ∧ Fr n0 L ∧ Keep h0 h [a1] ∧ Exa Z h a1 "com/example/millrace/millrace/storage/PackedGroups$Reader" ∧ Fld Z h a1 "com/example/millrace/millrace/storage/PackedGroups$Reader" "bytes" "[B" (.ref a2) ∧ Fld Z h a1 "com/example/millrace/millrace/storage/PackedGroups$Reader" "end" "I" (.int p4) ∧ Fld Z h a1 "com/example/millrace/millrace/storage/PackedGroups$Reader" "at" "I" (.int p3) ∧ Fld Z h a1 "com/example/millrace/millrace/storage/PackedGroups$Reader" "offset" "J" (.long q5) ∧ Fld Z h a1 "com/example/millrace/millrace/storage/PackedGroups$Reader" "endOffset" "J" (.long q5) ∧ Fld Z h a1 "com/example/millrace/millrace/storage/PackedGroups$Reader" "position" "J" (.long q6) ∧ Fld Z h a1 "com/example/millrace/millrace/storage/PackedGroups$Reader" "endPosition" "J" (.long q6)
theorem ef_3 (m : MethodId) (a1 : Addr) (a2 : Addr) (p3 : Int32) (p4 : Int32) (q5 : Int64) (q6 : Int64) : entryFrame m #[(.ref a1), (.ref a2), (.int p3), (.int p4), (.long q5), (.long q6)] 8 = mkF m 0 #[.val (.ref a1), .val (.ref a2), .val (.int p3), .val (.int p4), .val (.long q5), .second, .val (.long q6), .second] [] := by first | (simp [entryFrame, mkF, argsToLocals, Value.category]; done) | rfl
set_option maxRecDepth 65536 in
set_option maxHeartbeats 40000000 in
theorem rm3 (l : Launch) (Z : State) (a0 : Array Value) (hw : ∀ d ∈ tables_1, d.before a0 Z = true) (ws : List Jvm.Cond) (a1 : Addr) (a2 : Addr) (p3 : Int32) (p4 : Int32) (q5 : Int64) (q6 : Int64) (u_bytes : Value) (u_end : Value) (u_at : Value) (u_offset : Value) (u_endOffset : Value) (u_position : Value) (u_endPosition : Value) (h0 : Heap) (n0 : Nat) (Z0 : n0 ≤ h0.size) (E_a1 : Exa Z h0 a1 "com/example/millrace/millrace/storage/PackedGroups$Reader") (F_bytes : Fld Z h0 a1 "com/example/millrace/millrace/storage/PackedGroups$Reader" "bytes" "[B" u_bytes) (F_end : Fld Z h0 a1 "com/example/millrace/millrace/storage/PackedGroups$Reader" "end" "I" u_end) (F_at : Fld Z h0 a1 "com/example/millrace/millrace/storage/PackedGroups$Reader" "at" "I" u_at) (F_offset : Fld Z h0 a1 "com/example/millrace/millrace/storage/PackedGroups$Reader" "offset" "J" u_offset) (F_endOffset : Fld Z h0 a1 "com/example/millrace/millrace/storage/PackedGroups$Reader" "endOffset" "J" u_endOffset) (F_position : Fld Z h0 a1 "com/example/millrace/millrace/storage/PackedGroups$Reader" "position" "J" u_position) (F_endPosition : Fld Z h0 a1 "com/example/millrace/millrace/storage/PackedGroups$Reader" "endPosition" "J" u_endPosition) (g_a1 : n0 ≤ a1) :
    MetFree l (⟨"com/example/millrace/millrace/storage/PackedGroups$Reader", "<init>", "([BIIJJ)V"⟩ : MethodName) (head1 (Jvm.Cond.code (⟨"com/example/millrace/millrace/storage/PackedGroups$Reader", "<init>", "([BIIJJ)V"⟩ : MethodName) prog_96_method_1_code 8 none :: ws) ({ frames := 1, cells := 0, slots := 0, locals := 12 } : Room)) (fun a U => a = #[(.ref a1), (.ref a2), (.int p3), (.int p4), (.long q5), (.long q6)] ∧ Z.Warmed39 U.vm ∧ U.heap = h0) (fun _ _ _ _ _ => True) (fun _ U o U' => ∃ v L, o = .returned v ∧ Q3 Z a1 a2 p3 p4 q5 q6 u_bytes u_end u_at u_offset u_endOffset u_position u_endPosition h0 n0 v U'.heap L ∧ FrameEnd U o U' L ({ frames := 1, cells := 0, slots := 0, locals := 12 } : Room).cells ({ frames := 1, cells := 0, slots := 0, locals := 12 } : Room).slots) := by
  refine MetFree.of_bodySF pf_3 hisR ?_
  intro p e s m args below meth c s₁ Bd hml0 hP hK
  obtain ⟨rfl, hZ, hh⟩ := hP
  have hx := Bd.exec
  have hby := Bd.bytes
  have hlk : meth.locks = false := BodyLoose.notSynchronized Bd
  have hml : c.maxLocals = 8 := hml0
  have hown : s.vm.findClass "com/example/millrace/millrace/storage/PackedGroups$Reader" = some m.cls := findClass_of_methodNamed Bd.named
  have hnm := (name_of_methodNamed Bd.named Bd.method).1
  have X0 : Stand p l e ({ frames := 1, cells := 0, slots := 0, locals := 12 } : Room) s m #[(.ref a1), (.ref a2), (.int p3), (.int p4), (.long q5), (.long q6)] below meth c s₁ [] 0 0 := Stand.of_body Bd
  have e0 : s₁.heap = h0 := by rw [← hh, Bd.state]; rfl
  have N0 := Fr.nil n0
  have K0 : Keep h0 h0 [a1] := Keep.refl h0 _
  show Gl p e below s (Q3 Z a1 a2 p3 p4 q5 q6 u_bytes u_end u_at u_offset u_endOffset u_position u_endPosition h0 n0) ({ frames := 1, cells := 0, slots := 0, locals := 12 } : Room).cells ({ frames := 1, cells := 0, slots := 0, locals := 12 } : Room).slots (s₁.setTop (entryFrame m #[(.ref a1), (.ref a2), (.int p3), (.int p4), (.long q5), (.long q6)] 8))
  rw [ef_3]
  show Gl _ _ _ _ _ _ _ (s₁.setTop (mkF m 0 #[.val (.ref a1), .val (.ref a2), .val (.int p3), .val (.int p4), .val (.long q5), .second, .val (.long q6), .second] []))
  refine Gl.st (fun t k => XS.aloadN X0.here hx rfl (hb hby d3_0) rfl rfl k) ?_
  show Gl _ _ _ _ _ _ _ (s₁.setTop (mkF m 1 #[.val (.ref a1), .val (.ref a2), .val (.int p3), .val (.int p4), .val (.long q5), .second, .val (.long q6), .second] [(.ref a1)]))
  obtain ⟨T1, X1, e1, st1⟩ := initO X0 hx hZ hown (hw _ (List.mem_of_getElem? (i := 19) rfl)) (hw _ (List.mem_of_getElem? (i := 20) rfl)) (hw _ (List.mem_of_getElem? (i := 21) rfl)) e0 (g := (mkF m 1 #[.val (.ref a1), .val (.ref a2), .val (.int p3), .val (.int p4), .val (.long q5), .second, .val (.long q6), .second] [(.ref a1)])) rfl (by rw [hml]; rfl) rfl (hb hby d3_1) (by decide) (W := 0) (by show 2 * 0 + _ ≤ _; exact Nat.le_of_eq rfl) (by decide)
  refine Gl.st st1 ?_
  show Gl _ _ _ _ _ _ _ (T1.setTop (mkF m 4 #[.val (.ref a1), .val (.ref a2), .val (.int p3), .val (.int p4), .val (.long q5), .second, .val (.long q6), .second] []))
  refine Gl.st (fun t k => XS.aloadN X1.here hx rfl (hb hby d3_4) rfl rfl k) ?_
  show Gl _ _ _ _ _ _ _ (T1.setTop (mkF m 5 #[.val (.ref a1), .val (.ref a2), .val (.int p3), .val (.int p4), .val (.long q5), .second, .val (.long q6), .second] [(.ref a1)]))
  refine Gl.st (fun t k => XS.aloadN X1.here hx rfl (hb hby d3_5) rfl rfl k) ?_
  show Gl _ _ _ _ _ _ _ (T1.setTop (mkF m 6 #[.val (.ref a1), .val (.ref a2), .val (.int p3), .val (.int p4), .val (.long q5), .second, .val (.long q6), .second] [(.ref a2), (.ref a1)]))
  obtain ⟨T2, h2, X2, e2, W2, st2⟩ := putF X1 hx hZ hown (host := "") (Or.inl (hw _ (List.mem_of_getElem? (i := 22) rfl))) Via.refl e1 F_bytes E_a1 (Or.inr ⟨(hw _ (List.mem_of_getElem? (i := 23) rfl)), rfl, hnm⟩) (hw _ (List.mem_of_getElem? (i := 14) rfl)) (ty := (.array .byte)) (by decide) rfl rfl (g := (mkF m 6 #[.val (.ref a1), .val (.ref a2), .val (.int p3), .val (.int p4), .val (.long q5), .second, .val (.long q6), .second] [(.ref a2), (.ref a1)])) rfl rfl (hb hby d3_6)
  refine Gl.st st2 ?_
  have Z2 : n0 ≤ h2.size := Nat.le_trans Z0 (Keep.of_wr W2).1
  have N2 := Fr.snoc X2 N0 g_a1
  have K2 : Keep h0 h2 [a1] := K0.wr W2 (Or.inl (List.mem_of_getElem? (i := 0) rfl))
  have E_a1'3 : Exa Z h2 a1 "com/example/millrace/millrace/storage/PackedGroups$Reader" := E_a1.wr W2
  have F_end'4 : Fld Z h2 a1 "com/example/millrace/millrace/storage/PackedGroups$Reader" "end" "I" u_end := F_end.other W2 (Or.inr (slot_ne (Or.inr (hw _ (List.mem_of_getElem? (i := 25) rfl))) (Or.inr (hw _ (List.mem_of_getElem? (i := 23) rfl))) (by decide) (t := .int) (t' := (.array .byte)) (by decide) (by decide)))
  have F_at'5 : Fld Z h2 a1 "com/example/millrace/millrace/storage/PackedGroups$Reader" "at" "I" u_at := F_at.other W2 (Or.inr (slot_ne (Or.inl (hw _ (List.mem_of_getElem? (i := 27) rfl))) (Or.inr (hw _ (List.mem_of_getElem? (i := 23) rfl))) (by decide) (t := .int) (t' := (.array .byte)) (by decide) (by decide)))
  have F_offset'6 : Fld Z h2 a1 "com/example/millrace/millrace/storage/PackedGroups$Reader" "offset" "J" u_offset := F_offset.other W2 (Or.inr (slot_ne (Or.inl (hw _ (List.mem_of_getElem? (i := 29) rfl))) (Or.inr (hw _ (List.mem_of_getElem? (i := 23) rfl))) (by decide) (t := .long) (t' := (.array .byte)) (by decide) (by decide)))
  have F_endOffset'7 : Fld Z h2 a1 "com/example/millrace/millrace/storage/PackedGroups$Reader" "endOffset" "J" u_endOffset := F_endOffset.other W2 (Or.inr (slot_ne (Or.inl (hw _ (List.mem_of_getElem? (i := 31) rfl))) (Or.inr (hw _ (List.mem_of_getElem? (i := 23) rfl))) (by decide) (t := .long) (t' := (.array .byte)) (by decide) (by decide)))
  have F_position'8 : Fld Z h2 a1 "com/example/millrace/millrace/storage/PackedGroups$Reader" "position" "J" u_position := F_position.other W2 (Or.inr (slot_ne (Or.inl (hw _ (List.mem_of_getElem? (i := 33) rfl))) (Or.inr (hw _ (List.mem_of_getElem? (i := 23) rfl))) (by decide) (t := .long) (t' := (.array .byte)) (by decide) (by decide)))
  have F_endPosition'9 : Fld Z h2 a1 "com/example/millrace/millrace/storage/PackedGroups$Reader" "endPosition" "J" u_endPosition := F_endPosition.other W2 (Or.inr (slot_ne (Or.inl (hw _ (List.mem_of_getElem? (i := 35) rfl))) (Or.inr (hw _ (List.mem_of_getElem? (i := 23) rfl))) (by decide) (t := .long) (t' := (.array .byte)) (by decide) (by decide)))
  have Fw2 : Fld Z h2 a1 "com/example/millrace/millrace/storage/PackedGroups$Reader" "bytes" "[B" (.ref a2) := F_bytes.same W2
  show Gl _ _ _ _ _ _ _ (T2.setTop (mkF m 9 #[.val (.ref a1), .val (.ref a2), .val (.int p3), .val (.int p4), .val (.long q5), .second, .val (.long q6), .second] []))
  refine Gl.st (fun t k => XS.aloadN X2.here hx rfl (hb hby d3_9) rfl rfl k) ?_
  show Gl _ _ _ _ _ _ _ (T2.setTop (mkF m 10 #[.val (.ref a1), .val (.ref a2), .val (.int p3), .val (.int p4), .val (.long q5), .second, .val (.long q6), .second] [(.ref a1)]))
  refine Gl.st (fun t k => XS.iloadN X2.here hx rfl (hb hby d3_10) rfl  k) ?_
  show Gl _ _ _ _ _ _ _ (T2.setTop (mkF m 11 #[.val (.ref a1), .val (.ref a2), .val (.int p3), .val (.int p4), .val (.long q5), .second, .val (.long q6), .second] [(.int p4), (.ref a1)]))
  obtain ⟨T10, h10, X10, e10, W10, st10⟩ := putF X2 hx hZ hown (host := "") (Or.inl (hw _ (List.mem_of_getElem? (i := 24) rfl))) Via.refl e2 F_end'4 E_a1'3 (Or.inr ⟨(hw _ (List.mem_of_getElem? (i := 25) rfl)), rfl, hnm⟩) (hw _ (List.mem_of_getElem? (i := 14) rfl)) (ty := .int) (by decide) rfl rfl (g := (mkF m 11 #[.val (.ref a1), .val (.ref a2), .val (.int p3), .val (.int p4), .val (.long q5), .second, .val (.long q6), .second] [(.int p4), (.ref a1)])) rfl rfl (hb hby d3_11)
  refine Gl.st st10 ?_
  have Z10 : n0 ≤ h10.size := Nat.le_trans Z2 (Keep.of_wr W10).1
  have N10 := Fr.snoc X10 N2 g_a1
  have K10 : Keep h0 h10 [a1] := K2.wr W10 (Or.inl (List.mem_of_getElem? (i := 0) rfl))
  have E_a1'11 : Exa Z h10 a1 "com/example/millrace/millrace/storage/PackedGroups$Reader" := E_a1'3.wr W10
  have Fw2'12 : Fld Z h10 a1 "com/example/millrace/millrace/storage/PackedGroups$Reader" "bytes" "[B" (.ref a2) := Fw2.other W10 (Or.inr (slot_ne (Or.inr (hw _ (List.mem_of_getElem? (i := 23) rfl))) (Or.inr (hw _ (List.mem_of_getElem? (i := 25) rfl))) (by decide) (t := (.array .byte)) (t' := .int) (by decide) (by decide)))
  have F_at'13 : Fld Z h10 a1 "com/example/millrace/millrace/storage/PackedGroups$Reader" "at" "I" u_at := F_at'5.other W10 (Or.inr (slot_ne (Or.inl (hw _ (List.mem_of_getElem? (i := 27) rfl))) (Or.inr (hw _ (List.mem_of_getElem? (i := 25) rfl))) (by decide) (t := .int) (t' := .int) (by decide) (by decide)))
  have F_offset'14 : Fld Z h10 a1 "com/example/millrace/millrace/storage/PackedGroups$Reader" "offset" "J" u_offset := F_offset'6.other W10 (Or.inr (slot_ne (Or.inl (hw _ (List.mem_of_getElem? (i := 29) rfl))) (Or.inr (hw _ (List.mem_of_getElem? (i := 25) rfl))) (by decide) (t := .long) (t' := .int) (by decide) (by decide)))
  have F_endOffset'15 : Fld Z h10 a1 "com/example/millrace/millrace/storage/PackedGroups$Reader" "endOffset" "J" u_endOffset := F_endOffset'7.other W10 (Or.inr (slot_ne (Or.inl (hw _ (List.mem_of_getElem? (i := 31) rfl))) (Or.inr (hw _ (List.mem_of_getElem? (i := 25) rfl))) (by decide) (t := .long) (t' := .int) (by decide) (by decide)))
  have F_position'16 : Fld Z h10 a1 "com/example/millrace/millrace/storage/PackedGroups$Reader" "position" "J" u_position := F_position'8.other W10 (Or.inr (slot_ne (Or.inl (hw _ (List.mem_of_getElem? (i := 33) rfl))) (Or.inr (hw _ (List.mem_of_getElem? (i := 25) rfl))) (by decide) (t := .long) (t' := .int) (by decide) (by decide)))
  have F_endPosition'17 : Fld Z h10 a1 "com/example/millrace/millrace/storage/PackedGroups$Reader" "endPosition" "J" u_endPosition := F_endPosition'9.other W10 (Or.inr (slot_ne (Or.inl (hw _ (List.mem_of_getElem? (i := 35) rfl))) (Or.inr (hw _ (List.mem_of_getElem? (i := 25) rfl))) (by decide) (t := .long) (t' := .int) (by decide) (by decide)))
  have Fw10 : Fld Z h10 a1 "com/example/millrace/millrace/storage/PackedGroups$Reader" "end" "I" (.int p4) := F_end'4.same W10
  show Gl _ _ _ _ _ _ _ (T10.setTop (mkF m 14 #[.val (.ref a1), .val (.ref a2), .val (.int p3), .val (.int p4), .val (.long q5), .second, .val (.long q6), .second] []))
  refine Gl.st (fun t k => XS.aloadN X10.here hx rfl (hb hby d3_14) rfl rfl k) ?_
  show Gl _ _ _ _ _ _ _ (T10.setTop (mkF m 15 #[.val (.ref a1), .val (.ref a2), .val (.int p3), .val (.int p4), .val (.long q5), .second, .val (.long q6), .second] [(.ref a1)]))
  refine Gl.st (fun t k => XS.iloadN X10.here hx rfl (hb hby d3_15) rfl  k) ?_
  show Gl _ _ _ _ _ _ _ (T10.setTop (mkF m 16 #[.val (.ref a1), .val (.ref a2), .val (.int p3), .val (.int p4), .val (.long q5), .second, .val (.long q6), .second] [(.int p3), (.ref a1)]))
  obtain ⟨T18, h18, X18, e18, W18, st18⟩ := putF X10 hx hZ hown (host := "") (Or.inl (hw _ (List.mem_of_getElem? (i := 26) rfl))) Via.refl e10 F_at'13 E_a1'11 (Or.inl (hw _ (List.mem_of_getElem? (i := 27) rfl))) (hw _ (List.mem_of_getElem? (i := 14) rfl)) (ty := .int) (by decide) rfl rfl (g := (mkF m 16 #[.val (.ref a1), .val (.ref a2), .val (.int p3), .val (.int p4), .val (.long q5), .second, .val (.long q6), .second] [(.int p3), (.ref a1)])) rfl rfl (hb hby d3_16)
  refine Gl.st st18 ?_
  have Z18 : n0 ≤ h18.size := Nat.le_trans Z10 (Keep.of_wr W18).1
  have N18 := Fr.snoc X18 N10 g_a1
  have K18 : Keep h0 h18 [a1] := K10.wr W18 (Or.inl (List.mem_of_getElem? (i := 0) rfl))
  have E_a1'19 : Exa Z h18 a1 "com/example/millrace/millrace/storage/PackedGroups$Reader" := E_a1'11.wr W18
  have Fw2'20 : Fld Z h18 a1 "com/example/millrace/millrace/storage/PackedGroups$Reader" "bytes" "[B" (.ref a2) := Fw2'12.other W18 (Or.inr (slot_ne (Or.inr (hw _ (List.mem_of_getElem? (i := 23) rfl))) (Or.inl (hw _ (List.mem_of_getElem? (i := 27) rfl))) (by decide) (t := (.array .byte)) (t' := .int) (by decide) (by decide)))
  have Fw10'21 : Fld Z h18 a1 "com/example/millrace/millrace/storage/PackedGroups$Reader" "end" "I" (.int p4) := Fw10.other W18 (Or.inr (slot_ne (Or.inr (hw _ (List.mem_of_getElem? (i := 25) rfl))) (Or.inl (hw _ (List.mem_of_getElem? (i := 27) rfl))) (by decide) (t := .int) (t' := .int) (by decide) (by decide)))
  have F_offset'22 : Fld Z h18 a1 "com/example/millrace/millrace/storage/PackedGroups$Reader" "offset" "J" u_offset := F_offset'14.other W18 (Or.inr (slot_ne (Or.inl (hw _ (List.mem_of_getElem? (i := 29) rfl))) (Or.inl (hw _ (List.mem_of_getElem? (i := 27) rfl))) (by decide) (t := .long) (t' := .int) (by decide) (by decide)))
  have F_endOffset'23 : Fld Z h18 a1 "com/example/millrace/millrace/storage/PackedGroups$Reader" "endOffset" "J" u_endOffset := F_endOffset'15.other W18 (Or.inr (slot_ne (Or.inl (hw _ (List.mem_of_getElem? (i := 31) rfl))) (Or.inl (hw _ (List.mem_of_getElem? (i := 27) rfl))) (by decide) (t := .long) (t' := .int) (by decide) (by decide)))
  have F_position'24 : Fld Z h18 a1 "com/example/millrace/millrace/storage/PackedGroups$Reader" "position" "J" u_position := F_position'16.other W18 (Or.inr (slot_ne (Or.inl (hw _ (List.mem_of_getElem? (i := 33) rfl))) (Or.inl (hw _ (List.mem_of_getElem? (i := 27) rfl))) (by decide) (t := .long) (t' := .int) (by decide) (by decide)))
  have F_endPosition'25 : Fld Z h18 a1 "com/example/millrace/millrace/storage/PackedGroups$Reader" "endPosition" "J" u_endPosition := F_endPosition'17.other W18 (Or.inr (slot_ne (Or.inl (hw _ (List.mem_of_getElem? (i := 35) rfl))) (Or.inl (hw _ (List.mem_of_getElem? (i := 27) rfl))) (by decide) (t := .long) (t' := .int) (by decide) (by decide)))
  have Fw18 : Fld Z h18 a1 "com/example/millrace/millrace/storage/PackedGroups$Reader" "at" "I" (.int p3) := F_at'13.same W18
  show Gl _ _ _ _ _ _ _ (T18.setTop (mkF m 19 #[.val (.ref a1), .val (.ref a2), .val (.int p3), .val (.int p4), .val (.long q5), .second, .val (.long q6), .second] []))
  refine Gl.st (fun t k => XS.aloadN X18.here hx rfl (hb hby d3_19) rfl rfl k) ?_
  show Gl _ _ _ _ _ _ _ (T18.setTop (mkF m 20 #[.val (.ref a1), .val (.ref a2), .val (.int p3), .val (.int p4), .val (.long q5), .second, .val (.long q6), .second] [(.ref a1)]))
  refine Gl.st (fun t k => XS.lload X18.here hx rfl (hb hby d3_20) rfl  k) ?_
  show Gl _ _ _ _ _ _ _ (T18.setTop (mkF m 22 #[.val (.ref a1), .val (.ref a2), .val (.int p3), .val (.int p4), .val (.long q5), .second, .val (.long q6), .second] [(.long q5), (.ref a1)]))
  obtain ⟨T26, h26, X26, e26, W26, st26⟩ := putF X18 hx hZ hown (host := "") (Or.inl (hw _ (List.mem_of_getElem? (i := 28) rfl))) Via.refl e18 F_offset'22 E_a1'19 (Or.inl (hw _ (List.mem_of_getElem? (i := 29) rfl))) (hw _ (List.mem_of_getElem? (i := 14) rfl)) (ty := .long) (by decide) rfl rfl (g := (mkF m 22 #[.val (.ref a1), .val (.ref a2), .val (.int p3), .val (.int p4), .val (.long q5), .second, .val (.long q6), .second] [(.long q5), (.ref a1)])) rfl rfl (hb hby d3_22)
  refine Gl.st st26 ?_
  have Z26 : n0 ≤ h26.size := Nat.le_trans Z18 (Keep.of_wr W26).1
  have N26 := Fr.snoc X26 N18 g_a1
  have K26 : Keep h0 h26 [a1] := K18.wr W26 (Or.inl (List.mem_of_getElem? (i := 0) rfl))
  have E_a1'27 : Exa Z h26 a1 "com/example/millrace/millrace/storage/PackedGroups$Reader" := E_a1'19.wr W26
  have Fw2'28 : Fld Z h26 a1 "com/example/millrace/millrace/storage/PackedGroups$Reader" "bytes" "[B" (.ref a2) := Fw2'20.other W26 (Or.inr (slot_ne (Or.inr (hw _ (List.mem_of_getElem? (i := 23) rfl))) (Or.inl (hw _ (List.mem_of_getElem? (i := 29) rfl))) (by decide) (t := (.array .byte)) (t' := .long) (by decide) (by decide)))
  have Fw10'29 : Fld Z h26 a1 "com/example/millrace/millrace/storage/PackedGroups$Reader" "end" "I" (.int p4) := Fw10'21.other W26 (Or.inr (slot_ne (Or.inr (hw _ (List.mem_of_getElem? (i := 25) rfl))) (Or.inl (hw _ (List.mem_of_getElem? (i := 29) rfl))) (by decide) (t := .int) (t' := .long) (by decide) (by decide)))
  have Fw18'30 : Fld Z h26 a1 "com/example/millrace/millrace/storage/PackedGroups$Reader" "at" "I" (.int p3) := Fw18.other W26 (Or.inr (slot_ne (Or.inl (hw _ (List.mem_of_getElem? (i := 27) rfl))) (Or.inl (hw _ (List.mem_of_getElem? (i := 29) rfl))) (by decide) (t := .int) (t' := .long) (by decide) (by decide)))
  have F_endOffset'31 : Fld Z h26 a1 "com/example/millrace/millrace/storage/PackedGroups$Reader" "endOffset" "J" u_endOffset := F_endOffset'23.other W26 (Or.inr (slot_ne (Or.inl (hw _ (List.mem_of_getElem? (i := 31) rfl))) (Or.inl (hw _ (List.mem_of_getElem? (i := 29) rfl))) (by decide) (t := .long) (t' := .long) (by decide) (by decide)))
  have F_position'32 : Fld Z h26 a1 "com/example/millrace/millrace/storage/PackedGroups$Reader" "position" "J" u_position := F_position'24.other W26 (Or.inr (slot_ne (Or.inl (hw _ (List.mem_of_getElem? (i := 33) rfl))) (Or.inl (hw _ (List.mem_of_getElem? (i := 29) rfl))) (by decide) (t := .long) (t' := .long) (by decide) (by decide)))
  have F_endPosition'33 : Fld Z h26 a1 "com/example/millrace/millrace/storage/PackedGroups$Reader" "endPosition" "J" u_endPosition := F_endPosition'25.other W26 (Or.inr (slot_ne (Or.inl (hw _ (List.mem_of_getElem? (i := 35) rfl))) (Or.inl (hw _ (List.mem_of_getElem? (i := 29) rfl))) (by decide) (t := .long) (t' := .long) (by decide) (by decide)))
  have Fw26 : Fld Z h26 a1 "com/example/millrace/millrace/storage/PackedGroups$Reader" "offset" "J" (.long q5) := F_offset'22.same W26
  show Gl _ _ _ _ _ _ _ (T26.setTop (mkF m 25 #[.val (.ref a1), .val (.ref a2), .val (.int p3), .val (.int p4), .val (.long q5), .second, .val (.long q6), .second] []))
  refine Gl.st (fun t k => XS.aloadN X26.here hx rfl (hb hby d3_25) rfl rfl k) ?_
  show Gl _ _ _ _ _ _ _ (T26.setTop (mkF m 26 #[.val (.ref a1), .val (.ref a2), .val (.int p3), .val (.int p4), .val (.long q5), .second, .val (.long q6), .second] [(.ref a1)]))
  refine Gl.st (fun t k => XS.lload X26.here hx rfl (hb hby d3_26) rfl  k) ?_
  show Gl _ _ _ _ _ _ _ (T26.setTop (mkF m 28 #[.val (.ref a1), .val (.ref a2), .val (.int p3), .val (.int p4), .val (.long q5), .second, .val (.long q6), .second] [(.long q5), (.ref a1)]))
  obtain ⟨T34, h34, X34, e34, W34, st34⟩ := putF X26 hx hZ hown (host := "") (Or.inl (hw _ (List.mem_of_getElem? (i := 30) rfl))) Via.refl e26 F_endOffset'31 E_a1'27 (Or.inl (hw _ (List.mem_of_getElem? (i := 31) rfl))) (hw _ (List.mem_of_getElem? (i := 14) rfl)) (ty := .long) (by decide) rfl rfl (g := (mkF m 28 #[.val (.ref a1), .val (.ref a2), .val (.int p3), .val (.int p4), .val (.long q5), .second, .val (.long q6), .second] [(.long q5), (.ref a1)])) rfl rfl (hb hby d3_28)
  refine Gl.st st34 ?_
  have Z34 : n0 ≤ h34.size := Nat.le_trans Z26 (Keep.of_wr W34).1
  have N34 := Fr.snoc X34 N26 g_a1
  have K34 : Keep h0 h34 [a1] := K26.wr W34 (Or.inl (List.mem_of_getElem? (i := 0) rfl))
  have E_a1'35 : Exa Z h34 a1 "com/example/millrace/millrace/storage/PackedGroups$Reader" := E_a1'27.wr W34
  have Fw2'36 : Fld Z h34 a1 "com/example/millrace/millrace/storage/PackedGroups$Reader" "bytes" "[B" (.ref a2) := Fw2'28.other W34 (Or.inr (slot_ne (Or.inr (hw _ (List.mem_of_getElem? (i := 23) rfl))) (Or.inl (hw _ (List.mem_of_getElem? (i := 31) rfl))) (by decide) (t := (.array .byte)) (t' := .long) (by decide) (by decide)))
  have Fw10'37 : Fld Z h34 a1 "com/example/millrace/millrace/storage/PackedGroups$Reader" "end" "I" (.int p4) := Fw10'29.other W34 (Or.inr (slot_ne (Or.inr (hw _ (List.mem_of_getElem? (i := 25) rfl))) (Or.inl (hw _ (List.mem_of_getElem? (i := 31) rfl))) (by decide) (t := .int) (t' := .long) (by decide) (by decide)))
  have Fw18'38 : Fld Z h34 a1 "com/example/millrace/millrace/storage/PackedGroups$Reader" "at" "I" (.int p3) := Fw18'30.other W34 (Or.inr (slot_ne (Or.inl (hw _ (List.mem_of_getElem? (i := 27) rfl))) (Or.inl (hw _ (List.mem_of_getElem? (i := 31) rfl))) (by decide) (t := .int) (t' := .long) (by decide) (by decide)))
  have Fw26'39 : Fld Z h34 a1 "com/example/millrace/millrace/storage/PackedGroups$Reader" "offset" "J" (.long q5) := Fw26.other W34 (Or.inr (slot_ne (Or.inl (hw _ (List.mem_of_getElem? (i := 29) rfl))) (Or.inl (hw _ (List.mem_of_getElem? (i := 31) rfl))) (by decide) (t := .long) (t' := .long) (by decide) (by decide)))
  have F_position'40 : Fld Z h34 a1 "com/example/millrace/millrace/storage/PackedGroups$Reader" "position" "J" u_position := F_position'32.other W34 (Or.inr (slot_ne (Or.inl (hw _ (List.mem_of_getElem? (i := 33) rfl))) (Or.inl (hw _ (List.mem_of_getElem? (i := 31) rfl))) (by decide) (t := .long) (t' := .long) (by decide) (by decide)))
  have F_endPosition'41 : Fld Z h34 a1 "com/example/millrace/millrace/storage/PackedGroups$Reader" "endPosition" "J" u_endPosition := F_endPosition'33.other W34 (Or.inr (slot_ne (Or.inl (hw _ (List.mem_of_getElem? (i := 35) rfl))) (Or.inl (hw _ (List.mem_of_getElem? (i := 31) rfl))) (by decide) (t := .long) (t' := .long) (by decide) (by decide)))
  have Fw34 : Fld Z h34 a1 "com/example/millrace/millrace/storage/PackedGroups$Reader" "endOffset" "J" (.long q5) := F_endOffset'31.same W34
  show Gl _ _ _ _ _ _ _ (T34.setTop (mkF m 31 #[.val (.ref a1), .val (.ref a2), .val (.int p3), .val (.int p4), .val (.long q5), .second, .val (.long q6), .second] []))
  refine Gl.st (fun t k => XS.aloadN X34.here hx rfl (hb hby d3_31) rfl rfl k) ?_
  show Gl _ _ _ _ _ _ _ (T34.setTop (mkF m 32 #[.val (.ref a1), .val (.ref a2), .val (.int p3), .val (.int p4), .val (.long q5), .second, .val (.long q6), .second] [(.ref a1)]))
  refine Gl.st (fun t k => XS.lload X34.here hx rfl (hb hby d3_32) rfl  k) ?_
  show Gl _ _ _ _ _ _ _ (T34.setTop (mkF m 34 #[.val (.ref a1), .val (.ref a2), .val (.int p3), .val (.int p4), .val (.long q5), .second, .val (.long q6), .second] [(.long q6), (.ref a1)]))
  obtain ⟨T42, h42, X42, e42, W42, st42⟩ := putF X34 hx hZ hown (host := "") (Or.inl (hw _ (List.mem_of_getElem? (i := 32) rfl))) Via.refl e34 F_position'40 E_a1'35 (Or.inl (hw _ (List.mem_of_getElem? (i := 33) rfl))) (hw _ (List.mem_of_getElem? (i := 14) rfl)) (ty := .long) (by decide) rfl rfl (g := (mkF m 34 #[.val (.ref a1), .val (.ref a2), .val (.int p3), .val (.int p4), .val (.long q5), .second, .val (.long q6), .second] [(.long q6), (.ref a1)])) rfl rfl (hb hby d3_34)
  refine Gl.st st42 ?_
  have Z42 : n0 ≤ h42.size := Nat.le_trans Z34 (Keep.of_wr W42).1
  have N42 := Fr.snoc X42 N34 g_a1
  have K42 : Keep h0 h42 [a1] := K34.wr W42 (Or.inl (List.mem_of_getElem? (i := 0) rfl))
  have E_a1'43 : Exa Z h42 a1 "com/example/millrace/millrace/storage/PackedGroups$Reader" := E_a1'35.wr W42
  have Fw2'44 : Fld Z h42 a1 "com/example/millrace/millrace/storage/PackedGroups$Reader" "bytes" "[B" (.ref a2) := Fw2'36.other W42 (Or.inr (slot_ne (Or.inr (hw _ (List.mem_of_getElem? (i := 23) rfl))) (Or.inl (hw _ (List.mem_of_getElem? (i := 33) rfl))) (by decide) (t := (.array .byte)) (t' := .long) (by decide) (by decide)))
  have Fw10'45 : Fld Z h42 a1 "com/example/millrace/millrace/storage/PackedGroups$Reader" "end" "I" (.int p4) := Fw10'37.other W42 (Or.inr (slot_ne (Or.inr (hw _ (List.mem_of_getElem? (i := 25) rfl))) (Or.inl (hw _ (List.mem_of_getElem? (i := 33) rfl))) (by decide) (t := .int) (t' := .long) (by decide) (by decide)))
  have Fw18'46 : Fld Z h42 a1 "com/example/millrace/millrace/storage/PackedGroups$Reader" "at" "I" (.int p3) := Fw18'38.other W42 (Or.inr (slot_ne (Or.inl (hw _ (List.mem_of_getElem? (i := 27) rfl))) (Or.inl (hw _ (List.mem_of_getElem? (i := 33) rfl))) (by decide) (t := .int) (t' := .long) (by decide) (by decide)))
  have Fw26'47 : Fld Z h42 a1 "com/example/millrace/millrace/storage/PackedGroups$Reader" "offset" "J" (.long q5) := Fw26'39.other W42 (Or.inr (slot_ne (Or.inl (hw _ (List.mem_of_getElem? (i := 29) rfl))) (Or.inl (hw _ (List.mem_of_getElem? (i := 33) rfl))) (by decide) (t := .long) (t' := .long) (by decide) (by decide)))
  have Fw34'48 : Fld Z h42 a1 "com/example/millrace/millrace/storage/PackedGroups$Reader" "endOffset" "J" (.long q5) := Fw34.other W42 (Or.inr (slot_ne (Or.inl (hw _ (List.mem_of_getElem? (i := 31) rfl))) (Or.inl (hw _ (List.mem_of_getElem? (i := 33) rfl))) (by decide) (t := .long) (t' := .long) (by decide) (by decide)))
  have F_endPosition'49 : Fld Z h42 a1 "com/example/millrace/millrace/storage/PackedGroups$Reader" "endPosition" "J" u_endPosition := F_endPosition'41.other W42 (Or.inr (slot_ne (Or.inl (hw _ (List.mem_of_getElem? (i := 35) rfl))) (Or.inl (hw _ (List.mem_of_getElem? (i := 33) rfl))) (by decide) (t := .long) (t' := .long) (by decide) (by decide)))
  have Fw42 : Fld Z h42 a1 "com/example/millrace/millrace/storage/PackedGroups$Reader" "position" "J" (.long q6) := F_position'40.same W42
  show Gl _ _ _ _ _ _ _ (T42.setTop (mkF m 37 #[.val (.ref a1), .val (.ref a2), .val (.int p3), .val (.int p4), .val (.long q5), .second, .val (.long q6), .second] []))
  refine Gl.st (fun t k => XS.aloadN X42.here hx rfl (hb hby d3_37) rfl rfl k) ?_
  show Gl _ _ _ _ _ _ _ (T42.setTop (mkF m 38 #[.val (.ref a1), .val (.ref a2), .val (.int p3), .val (.int p4), .val (.long q5), .second, .val (.long q6), .second] [(.ref a1)]))
  refine Gl.st (fun t k => XS.lload X42.here hx rfl (hb hby d3_38) rfl  k) ?_
  show Gl _ _ _ _ _ _ _ (T42.setTop (mkF m 40 #[.val (.ref a1), .val (.ref a2), .val (.int p3), .val (.int p4), .val (.long q5), .second, .val (.long q6), .second] [(.long q6), (.ref a1)]))
  obtain ⟨T50, h50, X50, e50, W50, st50⟩ := putF X42 hx hZ hown (host := "") (Or.inl (hw _ (List.mem_of_getElem? (i := 34) rfl))) Via.refl e42 F_endPosition'49 E_a1'43 (Or.inl (hw _ (List.mem_of_getElem? (i := 35) rfl))) (hw _ (List.mem_of_getElem? (i := 14) rfl)) (ty := .long) (by decide) rfl rfl (g := (mkF m 40 #[.val (.ref a1), .val (.ref a2), .val (.int p3), .val (.int p4), .val (.long q5), .second, .val (.long q6), .second] [(.long q6), (.ref a1)])) rfl rfl (hb hby d3_40)
  refine Gl.st st50 ?_
  have Z50 : n0 ≤ h50.size := Nat.le_trans Z42 (Keep.of_wr W50).1
  have N50 := Fr.snoc X50 N42 g_a1
  have K50 : Keep h0 h50 [a1] := K42.wr W50 (Or.inl (List.mem_of_getElem? (i := 0) rfl))
  have E_a1'51 : Exa Z h50 a1 "com/example/millrace/millrace/storage/PackedGroups$Reader" := E_a1'43.wr W50
  have Fw2'52 : Fld Z h50 a1 "com/example/millrace/millrace/storage/PackedGroups$Reader" "bytes" "[B" (.ref a2) := Fw2'44.other W50 (Or.inr (slot_ne (Or.inr (hw _ (List.mem_of_getElem? (i := 23) rfl))) (Or.inl (hw _ (List.mem_of_getElem? (i := 35) rfl))) (by decide) (t := (.array .byte)) (t' := .long) (by decide) (by decide)))
  have Fw10'53 : Fld Z h50 a1 "com/example/millrace/millrace/storage/PackedGroups$Reader" "end" "I" (.int p4) := Fw10'45.other W50 (Or.inr (slot_ne (Or.inr (hw _ (List.mem_of_getElem? (i := 25) rfl))) (Or.inl (hw _ (List.mem_of_getElem? (i := 35) rfl))) (by decide) (t := .int) (t' := .long) (by decide) (by decide)))
  have Fw18'54 : Fld Z h50 a1 "com/example/millrace/millrace/storage/PackedGroups$Reader" "at" "I" (.int p3) := Fw18'46.other W50 (Or.inr (slot_ne (Or.inl (hw _ (List.mem_of_getElem? (i := 27) rfl))) (Or.inl (hw _ (List.mem_of_getElem? (i := 35) rfl))) (by decide) (t := .int) (t' := .long) (by decide) (by decide)))
  have Fw26'55 : Fld Z h50 a1 "com/example/millrace/millrace/storage/PackedGroups$Reader" "offset" "J" (.long q5) := Fw26'47.other W50 (Or.inr (slot_ne (Or.inl (hw _ (List.mem_of_getElem? (i := 29) rfl))) (Or.inl (hw _ (List.mem_of_getElem? (i := 35) rfl))) (by decide) (t := .long) (t' := .long) (by decide) (by decide)))
  have Fw34'56 : Fld Z h50 a1 "com/example/millrace/millrace/storage/PackedGroups$Reader" "endOffset" "J" (.long q5) := Fw34'48.other W50 (Or.inr (slot_ne (Or.inl (hw _ (List.mem_of_getElem? (i := 31) rfl))) (Or.inl (hw _ (List.mem_of_getElem? (i := 35) rfl))) (by decide) (t := .long) (t' := .long) (by decide) (by decide)))
  have Fw42'57 : Fld Z h50 a1 "com/example/millrace/millrace/storage/PackedGroups$Reader" "position" "J" (.long q6) := Fw42.other W50 (Or.inr (slot_ne (Or.inl (hw _ (List.mem_of_getElem? (i := 33) rfl))) (Or.inl (hw _ (List.mem_of_getElem? (i := 35) rfl))) (by decide) (t := .long) (t' := .long) (by decide) (by decide)))
  have Fw50 : Fld Z h50 a1 "com/example/millrace/millrace/storage/PackedGroups$Reader" "endPosition" "J" (.long q6) := F_endPosition'49.same W50
  show Gl _ _ _ _ _ _ _ (T50.setTop (mkF m 43 #[.val (.ref a1), .val (.ref a2), .val (.int p3), .val (.int p4), .val (.long q5), .second, .val (.long q6), .second] []))
  exact Gl.retV X50 hx hlk Bd.returns (hb hby d3_43) (by
        rw [e50]
        exact ⟨rfl, N50, K50, E_a1'51, Fw2'52, Fw10'53, Fw18'54, Fw26'55, Fw34'56, Fw42'57, Fw50⟩) (by decide) (by decide)
theorem own_plus7 {sh : Int32} {t : Nat} (h : sh.toInt = ((7 * t : Nat) : Int)) (ht : t < 100) : (sh + (7 : Int32)).toInt = ((7 * (t + 1) : Nat) : Int) := by
  have a := c_iadd sh 7
  have b := rng32 (sh + 7)
  have e : (7 : Int32).toInt = 7 := by decide
  omega
theorem own_zero {sh : Int32} {t : Nat} (h : sh.toInt = ((7 * t : Nat) : Int)) (ht : t = 0) : sh = (0 : Int32) := by
  rw [← Int32.toInt_inj, h, ht]; decide
theorem d5_0 : decode prog_96_method_3_code 0 = .ok (.lconst 0, 1) := by decide +kernel
theorem d5_1 : decode prog_96_method_3_code 1 = .ok (.lstore_n 1, 1) := by decide +kernel
theorem d5_2 : decode prog_96_method_3_code 2 = .ok (.iconst 0, 1) := by decide +kernel
theorem d5_3 : decode prog_96_method_3_code 3 = .ok (.istore_n 3, 1) := by decide +kernel
theorem d5_4 : decode prog_96_method_3_code 4 = .ok (.iconst 0, 1) := by decide +kernel
theorem d5_5 : decode prog_96_method_3_code 5 = .ok (.istore 4, 2) := by decide +kernel
theorem d5_7 : decode prog_96_method_3_code 7 = .ok (.aload_n 0, 1) := by decide +kernel
theorem d5_8 : decode prog_96_method_3_code 8 = .ok (.getfield 17, 3) := by decide +kernel
theorem d5_11 : decode prog_96_method_3_code 11 = .ok (.aload_n 0, 1) := by decide +kernel
theorem d5_12 : decode prog_96_method_3_code 12 = .ok (.getfield 13, 3) := by decide +kernel
theorem d5_15 : decode prog_96_method_3_code 15 = .ok (.if_icmp .ge 47, 3) := by decide +kernel
theorem d5_18 : decode prog_96_method_3_code 18 = .ok (.iload_n 3, 1) := by decide +kernel
theorem d5_19 : decode prog_96_method_3_code 19 = .ok (.ifCond .eq 8, 3) := by decide +kernel
theorem d5_22 : decode prog_96_method_3_code 22 = .ok (.iload 4, 2) := by decide +kernel
theorem d5_24 : decode prog_96_method_3_code 24 = .ok (.ifCond .ge 38, 3) := by decide +kernel
theorem d5_27 : decode prog_96_method_3_code 27 = .ok (.aload_n 0, 1) := by decide +kernel
theorem d5_28 : decode prog_96_method_3_code 28 = .ok (.getfield 7, 3) := by decide +kernel
theorem d5_31 : decode prog_96_method_3_code 31 = .ok (.aload_n 0, 1) := by decide +kernel
theorem d5_32 : decode prog_96_method_3_code 32 = .ok (.dup, 1) := by decide +kernel
theorem d5_33 : decode prog_96_method_3_code 33 = .ok (.getfield 17, 3) := by decide +kernel
theorem d5_36 : decode prog_96_method_3_code 36 = .ok (.dup_x1, 1) := by decide +kernel
theorem d5_37 : decode prog_96_method_3_code 37 = .ok (.iconst 1, 1) := by decide +kernel
theorem d5_38 : decode prog_96_method_3_code 38 = .ok (.iadd, 1) := by decide +kernel
theorem d5_39 : decode prog_96_method_3_code 39 = .ok (.putfield 17, 3) := by decide +kernel
theorem d5_42 : decode prog_96_method_3_code 42 = .ok (.baload, 1) := by decide +kernel
theorem d5_43 : decode prog_96_method_3_code 43 = .ok (.istore 4, 2) := by decide +kernel
theorem d5_45 : decode prog_96_method_3_code 45 = .ok (.lload_n 1, 1) := by decide +kernel
theorem d5_46 : decode prog_96_method_3_code 46 = .ok (.iload 4, 2) := by decide +kernel
theorem d5_48 : decode prog_96_method_3_code 48 = .ok (.bipush 127, 2) := by decide +kernel
theorem d5_50 : decode prog_96_method_3_code 50 = .ok (.iand, 1) := by decide +kernel
theorem d5_51 : decode prog_96_method_3_code 51 = .ok (.i2l, 1) := by decide +kernel
theorem d5_52 : decode prog_96_method_3_code 52 = .ok (.iload_n 3, 1) := by decide +kernel
theorem d5_53 : decode prog_96_method_3_code 53 = .ok (.lshl, 1) := by decide +kernel
theorem d5_54 : decode prog_96_method_3_code 54 = .ok (.lor, 1) := by decide +kernel
theorem d5_55 : decode prog_96_method_3_code 55 = .ok (.lstore_n 1, 1) := by decide +kernel
theorem d5_56 : decode prog_96_method_3_code 56 = .ok (.iinc 3 7, 3) := by decide +kernel
theorem d5_59 : decode prog_96_method_3_code 59 = .ok (.goto (-52), 3) := by decide +kernel
theorem d5_62 : decode prog_96_method_3_code 62 = .ok (.lload_n 1, 1) := by decide +kernel
theorem d5_63 : decode prog_96_method_3_code 63 = .ok (.lreturn, 1) := by decide +kernel
theorem pf_4 : plainFor (⟨"com/example/millrace/millrace/storage/PackedGroups$Reader", "number", "()J"⟩ : MethodName) = true := by decide +kernel
def Q5 (Z : State) (a1 : Addr) (ba : Addr) (ia : Int32) (en : Int32) (ck : ClassId) (vs : List Int32) (j : Nat) (n : Nat) (V : Nat) (mc : Nat) (h0 : Heap) (n0 : Nat) (v : Option Value) (h : Heap) (L : List Loc) : Prop := v = some (.long (Int64.ofInt ((V % 128 ^ mc : Nat) : Int))) ∧ Fr n0 L ∧ Keep h0 h [a1] ∧ Exa Z h a1 "com/example/millrace/millrace/storage/PackedGroups$Reader" ∧ Fld Z h a1 "com/example/millrace/millrace/storage/PackedGroups$Reader" "bytes" "[B" (.ref ba) ∧ Fld Z h a1 "com/example/millrace/millrace/storage/PackedGroups$Reader" "at" "I" (.int (Int32.ofInt ((j + mc : Nat) : Int))) ∧ Fld Z h a1 "com/example/millrace/millrace/storage/PackedGroups$Reader" "end" "I" (.int en)
theorem ef_5 (m : MethodId) (a1 : Addr) : entryFrame m #[(.ref a1)] 5 = mkF m 0 #[.val (.ref a1), .unset, .unset, .unset, .unset] [] := by first | (simp [entryFrame, mkF, argsToLocals, Value.category]; done) | rfl
set_option maxRecDepth 65536 in
set_option maxHeartbeats 40000000 in
theorem rm5 (l : Launch) (Z : State) (a0 : Array Value) (hw : ∀ d ∈ tables_1, d.before a0 Z = true) (ws : List Jvm.Cond) (a1 : Addr) (ba : Addr) (ia : Int32) (en : Int32) (ck : ClassId) (vs : List Int32) (j : Nat) (n : Nat) (V : Nat) (mc : Nat) (h0 : Heap) (n0 : Nat) (Z0 : n0 ≤ h0.size) (E_a1 : Exa Z h0 a1 "com/example/millrace/millrace/storage/PackedGroups$Reader") (Fby : Fld Z h0 a1 "com/example/millrace/millrace/storage/PackedGroups$Reader" "bytes" "[B" (.ref ba)) (Fat : Fld Z h0 a1 "com/example/millrace/millrace/storage/PackedGroups$Reader" "at" "I" (.int ia)) (Fen : Fld Z h0 a1 "com/example/millrace/millrace/storage/PackedGroups$Reader" "end" "I" (.int en)) (Vb : Arv Z h0 ba ck .byte (12 : Int32) (vs.map Value.int) (.int (0 : Int32))) (g_a1 : n0 ≤ a1) (hne : ba ≠ a1) (hj : ia.toInt = (j : Int)) (hm : mc = min n (en.toInt - (j : Int)).toNat) (hE : en.toInt ≤ 12) (hn1 : 1 ≤ n) (hn9 : n ≤ 9) (hB : ∀ u, u < n → Byt V n u (vs.getD (j + u) 0)) :
    MetFree l (⟨"com/example/millrace/millrace/storage/PackedGroups$Reader", "number", "()J"⟩ : MethodName) (head1 (Jvm.Cond.code (⟨"com/example/millrace/millrace/storage/PackedGroups$Reader", "number", "()J"⟩ : MethodName) prog_96_method_3_code 5 (some .long) :: ws) ({ frames := 0, cells := 0, slots := 0, locals := 0 } : Room)) (fun a U => a = #[(.ref a1)] ∧ Z.Warmed39 U.vm ∧ U.heap = h0) (fun _ _ _ _ _ => True) (fun _ U o U' => ∃ v L, o = .returned v ∧ Q5 Z a1 ba ia en ck vs j n V mc h0 n0 v U'.heap L ∧ FrameEnd U o U' L ({ frames := 0, cells := 0, slots := 0, locals := 0 } : Room).cells ({ frames := 0, cells := 0, slots := 0, locals := 0 } : Room).slots) := by
  refine MetFree.of_bodySF pf_4 hisR ?_
  intro p e s m args below meth c s₁ Bd hml0 hP hK
  obtain ⟨rfl, hZ, hh⟩ := hP
  have hx := Bd.exec
  have hby := Bd.bytes
  have hlk : meth.locks = false := BodyLoose.notSynchronized Bd
  have hml : c.maxLocals = 5 := hml0
  have hown : s.vm.findClass "com/example/millrace/millrace/storage/PackedGroups$Reader" = some m.cls := findClass_of_methodNamed Bd.named
  have hnm := (name_of_methodNamed Bd.named Bd.method).1
  have X0 : Stand p l e ({ frames := 0, cells := 0, slots := 0, locals := 0 } : Room) s m #[(.ref a1)] below meth c s₁ [] 0 0 := Stand.of_body Bd
  have e0 : s₁.heap = h0 := by rw [← hh, Bd.state]; rfl
  have N0 := Fr.nil n0
  have K0 : Keep h0 h0 [a1] := Keep.refl h0 _
  show Gl p e below s (Q5 Z a1 ba ia en ck vs j n V mc h0 n0) ({ frames := 0, cells := 0, slots := 0, locals := 0 } : Room).cells ({ frames := 0, cells := 0, slots := 0, locals := 0 } : Room).slots (s₁.setTop (entryFrame m #[(.ref a1)] 5))
  rw [ef_5]
  show Gl _ _ _ _ _ _ _ (s₁.setTop (mkF m 0 #[.val (.ref a1), .unset, .unset, .unset, .unset] []))
  refine Gl.st (fun t k => XS.lconst X0.here hx rfl (hb hby d5_0) k) ?_
  show Gl _ _ _ _ _ _ _ (s₁.setTop (mkF m 1 #[.val (.ref a1), .unset, .unset, .unset, .unset] [(.long (0 : Int64))]))
  refine Gl.st (fun t k => XS.lstoreN X0.here hx rfl (hb hby d5_1) rfl (l' := #[.val (.ref a1), .val (.long (0 : Int64)), .second, .unset, .unset]) rfl k) ?_
  show Gl _ _ _ _ _ _ _ (s₁.setTop (mkF m 2 #[.val (.ref a1), .val (.long (0 : Int64)), .second, .unset, .unset] []))
  refine Gl.st (fun t k => XS.iconst X0.here hx rfl (hb hby d5_2) k) ?_
  show Gl _ _ _ _ _ _ _ (s₁.setTop (mkF m 3 #[.val (.ref a1), .val (.long (0 : Int64)), .second, .unset, .unset] [(.int (0 : Int32))]))
  refine Gl.st (fun t k => XS.istoreN X0.here hx rfl (hb hby d5_3) rfl (l' := #[.val (.ref a1), .val (.long (0 : Int64)), .second, .val (.int (0 : Int32)), .unset]) rfl k) ?_
  show Gl _ _ _ _ _ _ _ (s₁.setTop (mkF m 4 #[.val (.ref a1), .val (.long (0 : Int64)), .second, .val (.int (0 : Int32)), .unset] []))
  refine Gl.st (fun t k => XS.iconst X0.here hx rfl (hb hby d5_4) k) ?_
  show Gl _ _ _ _ _ _ _ (s₁.setTop (mkF m 5 #[.val (.ref a1), .val (.long (0 : Int64)), .second, .val (.int (0 : Int32)), .unset] [(.int (0 : Int32))]))
  refine Gl.st (fun t k => XS.istore X0.here hx rfl (hb hby d5_5) rfl (l' := #[.val (.ref a1), .val (.long (0 : Int64)), .second, .val (.int (0 : Int32)), .val (.int (0 : Int32))]) rfl k) ?_
  have LP1 : ∀ (k : Nat) (Tl1 : State) (Ll1 : List Loc) (hl1 : Heap) (Xl1 : Stand p l e ({ frames := 0, cells := 0, slots := 0, locals := 0 } : Room) s m #[(.ref a1)] below meth c Tl1 Ll1 0 0) (el1 : Tl1.heap = hl1) (Nl1 : Fr n0 Ll1) (Zl1 : n0 ≤ hl1.size) (Kl1 : Keep h0 hl1 [a1]) (t : Nat) (i : Int32) (acc : Int64) (sh : Int32) (bb : Int32) (Gf1_0 : Exa Z hl1 a1 "com/example/millrace/millrace/storage/PackedGroups$Reader") (Gf1_1 : Fld Z hl1 a1 "com/example/millrace/millrace/storage/PackedGroups$Reader" "bytes" "[B" (.ref ba)) (Gf1_2 : Fld Z hl1 a1 "com/example/millrace/millrace/storage/PackedGroups$Reader" "at" "I" (.int i)) (Gf1_3 : Fld Z hl1 a1 "com/example/millrace/millrace/storage/PackedGroups$Reader" "end" "I" (.int en)) (Gf1_4 : Arv Z hl1 ba ck .byte (12 : Int32) (vs.map Value.int) (.int (0 : Int32))) (hi : i.toInt = ((j + t : Nat) : Int)) (hacc : acc.toInt = ((V % 128 ^ t : Nat) : Int)) (hsh : sh.toInt = ((7 * t : Nat) : Int)) (hk : t + k = mc) (hbb : t = 0 ∨ (1 ≤ t ∧ Byt V n (t - 1) bb)), Gl p e below s (Q5 Z a1 ba ia en ck vs j n V mc h0 n0) ({ frames := 0, cells := 0, slots := 0, locals := 0 } : Room).cells ({ frames := 0, cells := 0, slots := 0, locals := 0 } : Room).slots (Tl1.setTop (mkF m 7 #[.val (.ref a1), .val (.long acc), .second, .val (.int sh), .val (.int bb)] [])) := by
    intro k
    induction k with
    | zero =>
      intro Tl1 Ll1 hl1 Xl1 el1 Nl1 Zl1 Kl1 t i acc sh bb Gf1_0 Gf1_1 Gf1_2 Gf1_3 Gf1_4 hi hacc hsh hk hbb
      show Gl _ _ _ _ _ _ _ (Tl1.setTop (mkF m 7 #[.val (.ref a1), .val (.long acc), .second, .val (.int sh), .val (.int bb)] []))
      refine Gl.st (fun t k => XS.aloadN Xl1.here hx rfl (hb hby d5_7) rfl rfl k) ?_
      show Gl _ _ _ _ _ _ _ (Tl1.setTop (mkF m 8 #[.val (.ref a1), .val (.long acc), .second, .val (.int sh), .val (.int bb)] [(.ref a1)]))
      obtain ⟨T2, X2, e2, st2⟩ := getF Xl1 hx hZ hown (host := "") (Or.inl (hw _ (List.mem_of_getElem? (i := 26) rfl))) Via.refl el1 Gf1_2 (g := (mkF m 8 #[.val (.ref a1), .val (.long acc), .second, .val (.int sh), .val (.int bb)] [(.ref a1)])) rfl rfl (hb hby d5_8)
      refine Gl.st st2 ?_
      show Gl _ _ _ _ _ _ _ (T2.setTop (mkF m 11 #[.val (.ref a1), .val (.long acc), .second, .val (.int sh), .val (.int bb)] [(.int i)]))
      refine Gl.st (fun t k => XS.aloadN X2.here hx rfl (hb hby d5_11) rfl rfl k) ?_
      show Gl _ _ _ _ _ _ _ (T2.setTop (mkF m 12 #[.val (.ref a1), .val (.long acc), .second, .val (.int sh), .val (.int bb)] [(.ref a1), (.int i)]))
      obtain ⟨T3, X3, e3, st3⟩ := getF X2 hx hZ hown (host := "") (Or.inl (hw _ (List.mem_of_getElem? (i := 24) rfl))) Via.refl e2 Gf1_3 (g := (mkF m 12 #[.val (.ref a1), .val (.long acc), .second, .val (.int sh), .val (.int bb)] [(.ref a1), (.int i)])) rfl rfl (hb hby d5_12)
      refine Gl.st st3 ?_
      show Gl _ _ _ _ _ _ _ (T3.setTop (mkF m 15 #[.val (.ref a1), .val (.long acc), .second, .val (.int sh), .val (.int bb)] [(.int en), (.int i)]))
      by_cases hc15 : i < en
      · refine Gl.st (fun t k => XS.icmpNo X3.here hx rfl (hb hby d5_15) rfl (tlt hc15).2.1 k) ?_
        show Gl _ _ _ _ _ _ _ (T3.setTop (mkF m 18 #[.val (.ref a1), .val (.long acc), .second, .val (.int sh), .val (.int bb)] []))
        refine Gl.st (fun t k => XS.iloadN X3.here hx rfl (hb hby d5_18) rfl  k) ?_
        show Gl _ _ _ _ _ _ _ (T3.setTop (mkF m 19 #[.val (.ref a1), .val (.long acc), .second, .val (.int sh), .val (.int bb)] [(.int sh)]))
        have hc19_4 : ¬ (sh = (0 : Int32)) := by intro q; rw [q, show (0 : Int32).toInt = 0 from by decide] at hsh; rw [Int32.lt_iff_toInt_lt] at hc15; omega
        refine Gl.st (fun t k => XS.ifNo X3.here hx rfl (hb hby d5_19) rfl ((if0 _ _).trans (feq hc19_4).1) k) ?_
        show Gl _ _ _ _ _ _ _ (T3.setTop (mkF m 22 #[.val (.ref a1), .val (.long acc), .second, .val (.int sh), .val (.int bb)] []))
        refine Gl.st (fun t k => XS.iload X3.here hx rfl (hb hby d5_22) rfl  k) ?_
        show Gl _ _ _ _ _ _ _ (T3.setTop (mkF m 24 #[.val (.ref a1), .val (.long acc), .second, .val (.int sh), .val (.int bb)] [(.int bb)]))
        have hc24_5 : ¬ (bb < (0 : Int32)) := by 
          rw [Int32.lt_iff_toInt_lt, show (0 : Int32).toInt = 0 from by decide]; rw [Int32.lt_iff_toInt_lt] at hc15; rcases hbb with q | ⟨q1, q2⟩
          · omega
          · have q3 := q2.2; omega
        refine Gl.st (fun t k => XS.ifYes X3.here hx rfl (pc0 := 24) (pc' := 62) rfl (hb hby d5_24) rfl ((if0 _ _).trans (flt hc24_5).2.1) (by decide) (by decide) k) ?_
        show Gl _ _ _ _ _ _ _ (T3.setTop (mkF m 62 #[.val (.ref a1), .val (.long acc), .second, .val (.int sh), .val (.int bb)] []))
        refine Gl.st (fun t k => XS.lloadN X3.here hx rfl (hb hby d5_62) rfl  k) ?_
        show Gl _ _ _ _ _ _ _ (T3.setTop (mkF m 63 #[.val (.ref a1), .val (.long acc), .second, .val (.int sh), .val (.int bb)] [(.long acc)]))
        exact Gl.retJ X3 hx hlk Bd.returns (hb hby d5_63) (by
              rw [e3]
              have ht : t = mc := by omega
              subst ht
              exact ⟨congrArg (fun z => some (Value.long z)) (own_ofL hacc), Nl1, Kl1, Gf1_0, Gf1_1, by rw [← own_of hi]; exact Gf1_2, Gf1_3⟩) (by decide) (by decide)
      · refine Gl.st (fun t k => XS.icmpYes X3.here hx rfl (pc0 := 15) (pc' := 62) rfl (hb hby d5_15) rfl (flt hc15).2.1 (by decide) (by decide) k) ?_
        show Gl _ _ _ _ _ _ _ (T3.setTop (mkF m 62 #[.val (.ref a1), .val (.long acc), .second, .val (.int sh), .val (.int bb)] []))
        refine Gl.st (fun t k => XS.lloadN X3.here hx rfl (hb hby d5_62) rfl  k) ?_
        show Gl _ _ _ _ _ _ _ (T3.setTop (mkF m 63 #[.val (.ref a1), .val (.long acc), .second, .val (.int sh), .val (.int bb)] [(.long acc)]))
        exact Gl.retJ X3 hx hlk Bd.returns (hb hby d5_63) (by
              rw [e3]
              have ht : t = mc := by omega
              subst ht
              exact ⟨congrArg (fun z => some (Value.long z)) (own_ofL hacc), Nl1, Kl1, Gf1_0, Gf1_1, by rw [← own_of hi]; exact Gf1_2, Gf1_3⟩) (by decide) (by decide)
    | succ k ih =>
      intro Tl1 Ll1 hl1 Xl1 el1 Nl1 Zl1 Kl1 t i acc sh bb Gf1_0 Gf1_1 Gf1_2 Gf1_3 Gf1_4 hi hacc hsh hk hbb
      show Gl _ _ _ _ _ _ _ (Tl1.setTop (mkF m 7 #[.val (.ref a1), .val (.long acc), .second, .val (.int sh), .val (.int bb)] []))
      refine Gl.st (fun t k => XS.aloadN Xl1.here hx rfl (hb hby d5_7) rfl rfl k) ?_
      show Gl _ _ _ _ _ _ _ (Tl1.setTop (mkF m 8 #[.val (.ref a1), .val (.long acc), .second, .val (.int sh), .val (.int bb)] [(.ref a1)]))
      obtain ⟨T6, X6, e6, st6⟩ := getF Xl1 hx hZ hown (host := "") (Or.inl (hw _ (List.mem_of_getElem? (i := 26) rfl))) Via.refl el1 Gf1_2 (g := (mkF m 8 #[.val (.ref a1), .val (.long acc), .second, .val (.int sh), .val (.int bb)] [(.ref a1)])) rfl rfl (hb hby d5_8)
      refine Gl.st st6 ?_
      show Gl _ _ _ _ _ _ _ (T6.setTop (mkF m 11 #[.val (.ref a1), .val (.long acc), .second, .val (.int sh), .val (.int bb)] [(.int i)]))
      refine Gl.st (fun t k => XS.aloadN X6.here hx rfl (hb hby d5_11) rfl rfl k) ?_
      show Gl _ _ _ _ _ _ _ (T6.setTop (mkF m 12 #[.val (.ref a1), .val (.long acc), .second, .val (.int sh), .val (.int bb)] [(.ref a1), (.int i)]))
      obtain ⟨T7, X7, e7, st7⟩ := getF X6 hx hZ hown (host := "") (Or.inl (hw _ (List.mem_of_getElem? (i := 24) rfl))) Via.refl e6 Gf1_3 (g := (mkF m 12 #[.val (.ref a1), .val (.long acc), .second, .val (.int sh), .val (.int bb)] [(.ref a1), (.int i)])) rfl rfl (hb hby d5_12)
      refine Gl.st st7 ?_
      show Gl _ _ _ _ _ _ _ (T7.setTop (mkF m 15 #[.val (.ref a1), .val (.long acc), .second, .val (.int sh), .val (.int bb)] [(.int en), (.int i)]))
      have hc15_8 : i < en := by rw [Int32.lt_iff_toInt_lt]; omega
      refine Gl.st (fun t k => XS.icmpNo X7.here hx rfl (hb hby d5_15) rfl (tlt hc15_8).2.1 k) ?_
      show Gl _ _ _ _ _ _ _ (T7.setTop (mkF m 18 #[.val (.ref a1), .val (.long acc), .second, .val (.int sh), .val (.int bb)] []))
      refine Gl.st (fun t k => XS.iloadN X7.here hx rfl (hb hby d5_18) rfl  k) ?_
      show Gl _ _ _ _ _ _ _ (T7.setTop (mkF m 19 #[.val (.ref a1), .val (.long acc), .second, .val (.int sh), .val (.int bb)] [(.int sh)]))
      by_cases hc19 : sh = (0 : Int32)
      · refine Gl.st (fun t k => XS.ifYes X7.here hx rfl (pc0 := 19) (pc' := 27) rfl (hb hby d5_19) rfl ((if0 _ _).trans (teq hc19).1) (by decide) (by decide) k) ?_
        show Gl _ _ _ _ _ _ _ (T7.setTop (mkF m 27 #[.val (.ref a1), .val (.long acc), .second, .val (.int sh), .val (.int bb)] []))
        refine Gl.st (fun t k => XS.aloadN X7.here hx rfl (hb hby d5_27) rfl rfl k) ?_
        show Gl _ _ _ _ _ _ _ (T7.setTop (mkF m 28 #[.val (.ref a1), .val (.long acc), .second, .val (.int sh), .val (.int bb)] [(.ref a1)]))
        obtain ⟨T9, X9, e9, st9⟩ := getF X7 hx hZ hown (host := "") (Or.inl (hw _ (List.mem_of_getElem? (i := 22) rfl))) Via.refl e7 Gf1_1 (g := (mkF m 28 #[.val (.ref a1), .val (.long acc), .second, .val (.int sh), .val (.int bb)] [(.ref a1)])) rfl rfl (hb hby d5_28)
        refine Gl.st st9 ?_
        show Gl _ _ _ _ _ _ _ (T9.setTop (mkF m 31 #[.val (.ref a1), .val (.long acc), .second, .val (.int sh), .val (.int bb)] [(.ref ba)]))
        refine Gl.st (fun t k => XS.aloadN X9.here hx rfl (hb hby d5_31) rfl rfl k) ?_
        show Gl _ _ _ _ _ _ _ (T9.setTop (mkF m 32 #[.val (.ref a1), .val (.long acc), .second, .val (.int sh), .val (.int bb)] [(.ref a1), (.ref ba)]))
        refine Gl.st (fun t k => XS.dup X9.here hx rfl (hb hby d5_32) rfl rfl k) ?_
        show Gl _ _ _ _ _ _ _ (T9.setTop (mkF m 33 #[.val (.ref a1), .val (.long acc), .second, .val (.int sh), .val (.int bb)] [(.ref a1), (.ref a1), (.ref ba)]))
        obtain ⟨T10, X10, e10, st10⟩ := getF X9 hx hZ hown (host := "") (Or.inl (hw _ (List.mem_of_getElem? (i := 26) rfl))) Via.refl e9 Gf1_2 (g := (mkF m 33 #[.val (.ref a1), .val (.long acc), .second, .val (.int sh), .val (.int bb)] [(.ref a1), (.ref a1), (.ref ba)])) rfl rfl (hb hby d5_33)
        refine Gl.st st10 ?_
        show Gl _ _ _ _ _ _ _ (T10.setTop (mkF m 36 #[.val (.ref a1), .val (.long acc), .second, .val (.int sh), .val (.int bb)] [(.int i), (.ref a1), (.ref ba)]))
        refine Gl.st (fun t k => XS.dupX1 X10.here hx rfl (hb hby d5_36) rfl rfl rfl k) ?_
        show Gl _ _ _ _ _ _ _ (T10.setTop (mkF m 37 #[.val (.ref a1), .val (.long acc), .second, .val (.int sh), .val (.int bb)] [(.int i), (.ref a1), (.int i), (.ref ba)]))
        refine Gl.st (fun t k => XS.iconst X10.here hx rfl (hb hby d5_37) k) ?_
        show Gl _ _ _ _ _ _ _ (T10.setTop (mkF m 38 #[.val (.ref a1), .val (.long acc), .second, .val (.int sh), .val (.int bb)] [(.int (1 : Int32)), (.int i), (.ref a1), (.int i), (.ref ba)]))
        refine Gl.st (fun t k => XS.iadd X10.here hx rfl (hb hby d5_38) rfl k) ?_
        show Gl _ _ _ _ _ _ _ (T10.setTop (mkF m 39 #[.val (.ref a1), .val (.long acc), .second, .val (.int sh), .val (.int bb)] [(.int (i + (1 : Int32))), (.ref a1), (.int i), (.ref ba)]))
        obtain ⟨T11, h11, X11, e11, W11, st11⟩ := putF X10 hx hZ hown (host := "") (Or.inl (hw _ (List.mem_of_getElem? (i := 26) rfl))) Via.refl e10 Gf1_2 Gf1_0 (Or.inl (hw _ (List.mem_of_getElem? (i := 27) rfl))) (hw _ (List.mem_of_getElem? (i := 14) rfl)) (ty := .int) (by decide) rfl rfl (g := (mkF m 39 #[.val (.ref a1), .val (.long acc), .second, .val (.int sh), .val (.int bb)] [(.int (i + (1 : Int32))), (.ref a1), (.int i), (.ref ba)])) rfl rfl (hb hby d5_39)
        refine Gl.st st11 ?_
        have Z11 : n0 ≤ h11.size := Nat.le_trans Zl1 (Keep.of_wr W11).1
        have N11 := Fr.snoc X11 Nl1 g_a1
        have K11 : Keep h0 h11 [a1] := Kl1.wr W11 (Or.inl (List.mem_of_getElem? (i := 0) rfl))
        have Gf1_0'12 : Exa Z h11 a1 "com/example/millrace/millrace/storage/PackedGroups$Reader" := Gf1_0.wr W11
        have Gf1_1'13 : Fld Z h11 a1 "com/example/millrace/millrace/storage/PackedGroups$Reader" "bytes" "[B" (.ref ba) := Gf1_1.other W11 (Or.inr (slot_ne (Or.inr (hw _ (List.mem_of_getElem? (i := 23) rfl))) (Or.inl (hw _ (List.mem_of_getElem? (i := 27) rfl))) (by decide) (t := (.array .byte)) (t' := .int) (by decide) (by decide)))
        have Gf1_3'14 : Fld Z h11 a1 "com/example/millrace/millrace/storage/PackedGroups$Reader" "end" "I" (.int en) := Gf1_3.other W11 (Or.inr (slot_ne (Or.inr (hw _ (List.mem_of_getElem? (i := 25) rfl))) (Or.inl (hw _ (List.mem_of_getElem? (i := 27) rfl))) (by decide) (t := .int) (t' := .int) (by decide) (by decide)))
        have Gf1_4'15 : Arv Z h11 ba ck .byte (12 : Int32) (vs.map Value.int) (.int (0 : Int32)) := Gf1_4.other W11 hne
        have Fw11 : Fld Z h11 a1 "com/example/millrace/millrace/storage/PackedGroups$Reader" "at" "I" (.int (i + (1 : Int32))) := Gf1_2.same W11
        show Gl _ _ _ _ _ _ _ (T11.setTop (mkF m 42 #[.val (.ref a1), .val (.long acc), .second, .val (.int sh), .val (.int bb)] [(.int i), (.ref ba)]))
        have hbyt : Byt V n t (vs.getD i.toNatClampNeg 0) := by rw [own_clamp hi]; exact hB t (by omega)
        have Vx16 := Gf1_4'15
        obtain ⟨cl16, Ar16, qk16, S16, M16, H16, G16⟩ := Vx16
        have hin16 : ¬ (i < 0 ∨ cl16.slots.size ≤ (i).toNatClampNeg) := by
            have hbyt : Byt V n t (vs.getD (j + t) 0) := hB t (by omega)
            exact inb_of S16 ⟨own_nn (by omega), own_lit (n := 12) (by decide) (by omega)⟩
        have hat16 : cl16.slots[(i).toNatClampNeg]? = some (.int (vs.getD i.toNatClampNeg 0)) := H16.at hin16 (own_getD vs _)
        refine Gl.st (X11.baloadBytes hx (j := i) (v := (.int (vs.getD i.toNatClampNeg 0))) (by rw [e11]; exact Ar16.1) (State.isArrayOf_alike hZ.alike Ar16.2.1) Ar16.2.2 hin16 hat16 (g := (mkF m 42 #[.val (.ref a1), .val (.long acc), .second, .val (.int sh), .val (.int bb)] [(.int i), (.ref ba)])) rfl rfl (hb hby d5_42)) ?_
        show Gl _ _ _ _ _ _ _ (T11.setTop (mkF m 43 #[.val (.ref a1), .val (.long acc), .second, .val (.int sh), .val (.int bb)] [(.int (vs.getD i.toNatClampNeg 0))]))
        refine Gl.st (fun t k => XS.istore X11.here hx rfl (hb hby d5_43) rfl (l' := #[.val (.ref a1), .val (.long acc), .second, .val (.int sh), .val (.int (vs.getD i.toNatClampNeg 0))]) rfl k) ?_
        show Gl _ _ _ _ _ _ _ (T11.setTop (mkF m 45 #[.val (.ref a1), .val (.long acc), .second, .val (.int sh), .val (.int (vs.getD i.toNatClampNeg 0))] []))
        refine Gl.st (fun t k => XS.lloadN X11.here hx rfl (hb hby d5_45) rfl  k) ?_
        show Gl _ _ _ _ _ _ _ (T11.setTop (mkF m 46 #[.val (.ref a1), .val (.long acc), .second, .val (.int sh), .val (.int (vs.getD i.toNatClampNeg 0))] [(.long acc)]))
        refine Gl.st (fun t k => XS.iload X11.here hx rfl (hb hby d5_46) rfl  k) ?_
        show Gl _ _ _ _ _ _ _ (T11.setTop (mkF m 48 #[.val (.ref a1), .val (.long acc), .second, .val (.int sh), .val (.int (vs.getD i.toNatClampNeg 0))] [(.int (vs.getD i.toNatClampNeg 0)), (.long acc)]))
        refine Gl.st (fun t k => XS.bipush X11.here hx rfl (hb hby d5_48) k) ?_
        show Gl _ _ _ _ _ _ _ (T11.setTop (mkF m 50 #[.val (.ref a1), .val (.long acc), .second, .val (.int sh), .val (.int (vs.getD i.toNatClampNeg 0))] [(.int (127 : Int32)), (.int (vs.getD i.toNatClampNeg 0)), (.long acc)]))
        refine Gl.st (fun t k => XS.iand X11.here hx rfl (hb hby d5_50) rfl k) ?_
        show Gl _ _ _ _ _ _ _ (T11.setTop (mkF m 51 #[.val (.ref a1), .val (.long acc), .second, .val (.int sh), .val (.int (vs.getD i.toNatClampNeg 0))] [(.int ((vs.getD i.toNatClampNeg 0) &&& (127 : Int32))), (.long acc)]))
        refine Gl.st (fun t k => XS.i2l X11.here hx rfl (hb hby d5_51) rfl k) ?_
        show Gl _ _ _ _ _ _ _ (T11.setTop (mkF m 52 #[.val (.ref a1), .val (.long acc), .second, .val (.int sh), .val (.int (vs.getD i.toNatClampNeg 0))] [(.long (((vs.getD i.toNatClampNeg 0) &&& (127 : Int32)).toInt64)), (.long acc)]))
        refine Gl.st (fun t k => XS.iloadN X11.here hx rfl (hb hby d5_52) rfl  k) ?_
        show Gl _ _ _ _ _ _ _ (T11.setTop (mkF m 53 #[.val (.ref a1), .val (.long acc), .second, .val (.int sh), .val (.int (vs.getD i.toNatClampNeg 0))] [(.int sh), (.long (((vs.getD i.toNatClampNeg 0) &&& (127 : Int32)).toInt64)), (.long acc)]))
        refine Gl.st (fun t k => XS.lshl X11.here hx rfl (hb hby d5_53) rfl k) ?_
        show Gl _ _ _ _ _ _ _ (T11.setTop (mkF m 54 #[.val (.ref a1), .val (.long acc), .second, .val (.int sh), .val (.int (vs.getD i.toNatClampNeg 0))] [(.long ((((vs.getD i.toNatClampNeg 0) &&& (127 : Int32)).toInt64) <<< (sh &&& 0x3f).toInt64)), (.long acc)]))
        refine Gl.st (fun t k => XS.lor X11.here hx rfl (hb hby d5_54) rfl k) ?_
        show Gl _ _ _ _ _ _ _ (T11.setTop (mkF m 55 #[.val (.ref a1), .val (.long acc), .second, .val (.int sh), .val (.int (vs.getD i.toNatClampNeg 0))] [(.long (acc ||| ((((vs.getD i.toNatClampNeg 0) &&& (127 : Int32)).toInt64) <<< (sh &&& 0x3f).toInt64)))]))
        refine Gl.st (fun t k => XS.lstoreN X11.here hx rfl (hb hby d5_55) rfl (l' := #[.val (.ref a1), .val (.long (acc ||| ((((vs.getD i.toNatClampNeg 0) &&& (127 : Int32)).toInt64) <<< (sh &&& 0x3f).toInt64))), .second, .val (.int sh), .val (.int (vs.getD i.toNatClampNeg 0))]) rfl k) ?_
        show Gl _ _ _ _ _ _ _ (T11.setTop (mkF m 56 #[.val (.ref a1), .val (.long (acc ||| ((((vs.getD i.toNatClampNeg 0) &&& (127 : Int32)).toInt64) <<< (sh &&& 0x3f).toInt64))), .second, .val (.int sh), .val (.int (vs.getD i.toNatClampNeg 0))] []))
        refine Gl.st (fun t k => XS.iinc X11.here hx rfl (hb hby d5_56) rfl (l' := #[.val (.ref a1), .val (.long (acc ||| ((((vs.getD i.toNatClampNeg 0) &&& (127 : Int32)).toInt64) <<< (sh &&& 0x3f).toInt64))), .second, .val (.int (sh + (7 : Int32))), .val (.int (vs.getD i.toNatClampNeg 0))]) rfl k) ?_
        show Gl _ _ _ _ _ _ _ (T11.setTop (mkF m 59 #[.val (.ref a1), .val (.long (acc ||| ((((vs.getD i.toNatClampNeg 0) &&& (127 : Int32)).toInt64) <<< (sh &&& 0x3f).toInt64))), .second, .val (.int (sh + (7 : Int32))), .val (.int (vs.getD i.toNatClampNeg 0))] []))
        refine Gl.st (fun t k => XS.goto X11.here hx rfl (pc0 := 59) (pc' := 7) rfl (hb hby d5_59) (by decide) (by decide) k) ?_
        show Gl _ _ _ _ _ _ _ (T11.setTop (mkF m 7 #[.val (.ref a1), .val (.long (acc ||| ((((vs.getD i.toNatClampNeg 0) &&& (127 : Int32)).toInt64) <<< (sh &&& 0x3f).toInt64))), .second, .val (.int (sh + (7 : Int32))), .val (.int (vs.getD i.toNatClampNeg 0))] []))
        exact ih _ _ _ X11 e11 N11 Z11 K11 (t + 1) (_) _ _ _ Gf1_0'12 Gf1_1'13 Fw11 Gf1_3'14 Gf1_4'15 (by rw [own_succ (by omega)]; omega) (own_acc hacc hbyt.1 hsh (by omega : t < n) hn9) (own_plus7 hsh (by omega)) (by omega) (Or.inr ⟨by omega, by rw [show t + 1 - 1 = t from rfl]; exact hbyt⟩)
      · refine Gl.st (fun t k => XS.ifNo X7.here hx rfl (hb hby d5_19) rfl ((if0 _ _).trans (feq hc19).1) k) ?_
        show Gl _ _ _ _ _ _ _ (T7.setTop (mkF m 22 #[.val (.ref a1), .val (.long acc), .second, .val (.int sh), .val (.int bb)] []))
        refine Gl.st (fun t k => XS.iload X7.here hx rfl (hb hby d5_22) rfl  k) ?_
        show Gl _ _ _ _ _ _ _ (T7.setTop (mkF m 24 #[.val (.ref a1), .val (.long acc), .second, .val (.int sh), .val (.int bb)] [(.int bb)]))
        have hc24_17 : bb < (0 : Int32) := by 
          rw [Int32.lt_iff_toInt_lt, show (0 : Int32).toInt = 0 from by decide]; rcases hbb with q | ⟨q1, q2⟩
          · exact absurd (own_zero hsh q) hc19
          · have q3 := q2.2; omega
        refine Gl.st (fun t k => XS.ifNo X7.here hx rfl (hb hby d5_24) rfl ((if0 _ _).trans (tlt hc24_17).2.1) k) ?_
        show Gl _ _ _ _ _ _ _ (T7.setTop (mkF m 27 #[.val (.ref a1), .val (.long acc), .second, .val (.int sh), .val (.int bb)] []))
        refine Gl.st (fun t k => XS.aloadN X7.here hx rfl (hb hby d5_27) rfl rfl k) ?_
        show Gl _ _ _ _ _ _ _ (T7.setTop (mkF m 28 #[.val (.ref a1), .val (.long acc), .second, .val (.int sh), .val (.int bb)] [(.ref a1)]))
        obtain ⟨T18, X18, e18, st18⟩ := getF X7 hx hZ hown (host := "") (Or.inl (hw _ (List.mem_of_getElem? (i := 22) rfl))) Via.refl e7 Gf1_1 (g := (mkF m 28 #[.val (.ref a1), .val (.long acc), .second, .val (.int sh), .val (.int bb)] [(.ref a1)])) rfl rfl (hb hby d5_28)
        refine Gl.st st18 ?_
        show Gl _ _ _ _ _ _ _ (T18.setTop (mkF m 31 #[.val (.ref a1), .val (.long acc), .second, .val (.int sh), .val (.int bb)] [(.ref ba)]))
        refine Gl.st (fun t k => XS.aloadN X18.here hx rfl (hb hby d5_31) rfl rfl k) ?_
        show Gl _ _ _ _ _ _ _ (T18.setTop (mkF m 32 #[.val (.ref a1), .val (.long acc), .second, .val (.int sh), .val (.int bb)] [(.ref a1), (.ref ba)]))
        refine Gl.st (fun t k => XS.dup X18.here hx rfl (hb hby d5_32) rfl rfl k) ?_
        show Gl _ _ _ _ _ _ _ (T18.setTop (mkF m 33 #[.val (.ref a1), .val (.long acc), .second, .val (.int sh), .val (.int bb)] [(.ref a1), (.ref a1), (.ref ba)]))
        obtain ⟨T19, X19, e19, st19⟩ := getF X18 hx hZ hown (host := "") (Or.inl (hw _ (List.mem_of_getElem? (i := 26) rfl))) Via.refl e18 Gf1_2 (g := (mkF m 33 #[.val (.ref a1), .val (.long acc), .second, .val (.int sh), .val (.int bb)] [(.ref a1), (.ref a1), (.ref ba)])) rfl rfl (hb hby d5_33)
        refine Gl.st st19 ?_
        show Gl _ _ _ _ _ _ _ (T19.setTop (mkF m 36 #[.val (.ref a1), .val (.long acc), .second, .val (.int sh), .val (.int bb)] [(.int i), (.ref a1), (.ref ba)]))
        refine Gl.st (fun t k => XS.dupX1 X19.here hx rfl (hb hby d5_36) rfl rfl rfl k) ?_
        show Gl _ _ _ _ _ _ _ (T19.setTop (mkF m 37 #[.val (.ref a1), .val (.long acc), .second, .val (.int sh), .val (.int bb)] [(.int i), (.ref a1), (.int i), (.ref ba)]))
        refine Gl.st (fun t k => XS.iconst X19.here hx rfl (hb hby d5_37) k) ?_
        show Gl _ _ _ _ _ _ _ (T19.setTop (mkF m 38 #[.val (.ref a1), .val (.long acc), .second, .val (.int sh), .val (.int bb)] [(.int (1 : Int32)), (.int i), (.ref a1), (.int i), (.ref ba)]))
        refine Gl.st (fun t k => XS.iadd X19.here hx rfl (hb hby d5_38) rfl k) ?_
        show Gl _ _ _ _ _ _ _ (T19.setTop (mkF m 39 #[.val (.ref a1), .val (.long acc), .second, .val (.int sh), .val (.int bb)] [(.int (i + (1 : Int32))), (.ref a1), (.int i), (.ref ba)]))
        obtain ⟨T20, h20, X20, e20, W20, st20⟩ := putF X19 hx hZ hown (host := "") (Or.inl (hw _ (List.mem_of_getElem? (i := 26) rfl))) Via.refl e19 Gf1_2 Gf1_0 (Or.inl (hw _ (List.mem_of_getElem? (i := 27) rfl))) (hw _ (List.mem_of_getElem? (i := 14) rfl)) (ty := .int) (by decide) rfl rfl (g := (mkF m 39 #[.val (.ref a1), .val (.long acc), .second, .val (.int sh), .val (.int bb)] [(.int (i + (1 : Int32))), (.ref a1), (.int i), (.ref ba)])) rfl rfl (hb hby d5_39)
        refine Gl.st st20 ?_
        have Z20 : n0 ≤ h20.size := Nat.le_trans Zl1 (Keep.of_wr W20).1
        have N20 := Fr.snoc X20 Nl1 g_a1
        have K20 : Keep h0 h20 [a1] := Kl1.wr W20 (Or.inl (List.mem_of_getElem? (i := 0) rfl))
        have Gf1_0'21 : Exa Z h20 a1 "com/example/millrace/millrace/storage/PackedGroups$Reader" := Gf1_0.wr W20
        have Gf1_1'22 : Fld Z h20 a1 "com/example/millrace/millrace/storage/PackedGroups$Reader" "bytes" "[B" (.ref ba) := Gf1_1.other W20 (Or.inr (slot_ne (Or.inr (hw _ (List.mem_of_getElem? (i := 23) rfl))) (Or.inl (hw _ (List.mem_of_getElem? (i := 27) rfl))) (by decide) (t := (.array .byte)) (t' := .int) (by decide) (by decide)))
        have Gf1_3'23 : Fld Z h20 a1 "com/example/millrace/millrace/storage/PackedGroups$Reader" "end" "I" (.int en) := Gf1_3.other W20 (Or.inr (slot_ne (Or.inr (hw _ (List.mem_of_getElem? (i := 25) rfl))) (Or.inl (hw _ (List.mem_of_getElem? (i := 27) rfl))) (by decide) (t := .int) (t' := .int) (by decide) (by decide)))
        have Gf1_4'24 : Arv Z h20 ba ck .byte (12 : Int32) (vs.map Value.int) (.int (0 : Int32)) := Gf1_4.other W20 hne
        have Fw20 : Fld Z h20 a1 "com/example/millrace/millrace/storage/PackedGroups$Reader" "at" "I" (.int (i + (1 : Int32))) := Gf1_2.same W20
        show Gl _ _ _ _ _ _ _ (T20.setTop (mkF m 42 #[.val (.ref a1), .val (.long acc), .second, .val (.int sh), .val (.int bb)] [(.int i), (.ref ba)]))
        have hbyt : Byt V n t (vs.getD i.toNatClampNeg 0) := by rw [own_clamp hi]; exact hB t (by omega)
        have Vx25 := Gf1_4'24
        obtain ⟨cl25, Ar25, qk25, S25, M25, H25, G25⟩ := Vx25
        have hin25 : ¬ (i < 0 ∨ cl25.slots.size ≤ (i).toNatClampNeg) := by
            have hbyt : Byt V n t (vs.getD (j + t) 0) := hB t (by omega)
            exact inb_of S25 ⟨own_nn (by omega), own_lit (n := 12) (by decide) (by omega)⟩
        have hat25 : cl25.slots[(i).toNatClampNeg]? = some (.int (vs.getD i.toNatClampNeg 0)) := H25.at hin25 (own_getD vs _)
        refine Gl.st (X20.baloadBytes hx (j := i) (v := (.int (vs.getD i.toNatClampNeg 0))) (by rw [e20]; exact Ar25.1) (State.isArrayOf_alike hZ.alike Ar25.2.1) Ar25.2.2 hin25 hat25 (g := (mkF m 42 #[.val (.ref a1), .val (.long acc), .second, .val (.int sh), .val (.int bb)] [(.int i), (.ref ba)])) rfl rfl (hb hby d5_42)) ?_
        show Gl _ _ _ _ _ _ _ (T20.setTop (mkF m 43 #[.val (.ref a1), .val (.long acc), .second, .val (.int sh), .val (.int bb)] [(.int (vs.getD i.toNatClampNeg 0))]))
        refine Gl.st (fun t k => XS.istore X20.here hx rfl (hb hby d5_43) rfl (l' := #[.val (.ref a1), .val (.long acc), .second, .val (.int sh), .val (.int (vs.getD i.toNatClampNeg 0))]) rfl k) ?_
        show Gl _ _ _ _ _ _ _ (T20.setTop (mkF m 45 #[.val (.ref a1), .val (.long acc), .second, .val (.int sh), .val (.int (vs.getD i.toNatClampNeg 0))] []))
        refine Gl.st (fun t k => XS.lloadN X20.here hx rfl (hb hby d5_45) rfl  k) ?_
        show Gl _ _ _ _ _ _ _ (T20.setTop (mkF m 46 #[.val (.ref a1), .val (.long acc), .second, .val (.int sh), .val (.int (vs.getD i.toNatClampNeg 0))] [(.long acc)]))
        refine Gl.st (fun t k => XS.iload X20.here hx rfl (hb hby d5_46) rfl  k) ?_
        show Gl _ _ _ _ _ _ _ (T20.setTop (mkF m 48 #[.val (.ref a1), .val (.long acc), .second, .val (.int sh), .val (.int (vs.getD i.toNatClampNeg 0))] [(.int (vs.getD i.toNatClampNeg 0)), (.long acc)]))
        refine Gl.st (fun t k => XS.bipush X20.here hx rfl (hb hby d5_48) k) ?_
        show Gl _ _ _ _ _ _ _ (T20.setTop (mkF m 50 #[.val (.ref a1), .val (.long acc), .second, .val (.int sh), .val (.int (vs.getD i.toNatClampNeg 0))] [(.int (127 : Int32)), (.int (vs.getD i.toNatClampNeg 0)), (.long acc)]))
        refine Gl.st (fun t k => XS.iand X20.here hx rfl (hb hby d5_50) rfl k) ?_
        show Gl _ _ _ _ _ _ _ (T20.setTop (mkF m 51 #[.val (.ref a1), .val (.long acc), .second, .val (.int sh), .val (.int (vs.getD i.toNatClampNeg 0))] [(.int ((vs.getD i.toNatClampNeg 0) &&& (127 : Int32))), (.long acc)]))
        refine Gl.st (fun t k => XS.i2l X20.here hx rfl (hb hby d5_51) rfl k) ?_
        show Gl _ _ _ _ _ _ _ (T20.setTop (mkF m 52 #[.val (.ref a1), .val (.long acc), .second, .val (.int sh), .val (.int (vs.getD i.toNatClampNeg 0))] [(.long (((vs.getD i.toNatClampNeg 0) &&& (127 : Int32)).toInt64)), (.long acc)]))
        refine Gl.st (fun t k => XS.iloadN X20.here hx rfl (hb hby d5_52) rfl  k) ?_
        show Gl _ _ _ _ _ _ _ (T20.setTop (mkF m 53 #[.val (.ref a1), .val (.long acc), .second, .val (.int sh), .val (.int (vs.getD i.toNatClampNeg 0))] [(.int sh), (.long (((vs.getD i.toNatClampNeg 0) &&& (127 : Int32)).toInt64)), (.long acc)]))
        refine Gl.st (fun t k => XS.lshl X20.here hx rfl (hb hby d5_53) rfl k) ?_
        show Gl _ _ _ _ _ _ _ (T20.setTop (mkF m 54 #[.val (.ref a1), .val (.long acc), .second, .val (.int sh), .val (.int (vs.getD i.toNatClampNeg 0))] [(.long ((((vs.getD i.toNatClampNeg 0) &&& (127 : Int32)).toInt64) <<< (sh &&& 0x3f).toInt64)), (.long acc)]))
        refine Gl.st (fun t k => XS.lor X20.here hx rfl (hb hby d5_54) rfl k) ?_
        show Gl _ _ _ _ _ _ _ (T20.setTop (mkF m 55 #[.val (.ref a1), .val (.long acc), .second, .val (.int sh), .val (.int (vs.getD i.toNatClampNeg 0))] [(.long (acc ||| ((((vs.getD i.toNatClampNeg 0) &&& (127 : Int32)).toInt64) <<< (sh &&& 0x3f).toInt64)))]))
        refine Gl.st (fun t k => XS.lstoreN X20.here hx rfl (hb hby d5_55) rfl (l' := #[.val (.ref a1), .val (.long (acc ||| ((((vs.getD i.toNatClampNeg 0) &&& (127 : Int32)).toInt64) <<< (sh &&& 0x3f).toInt64))), .second, .val (.int sh), .val (.int (vs.getD i.toNatClampNeg 0))]) rfl k) ?_
        show Gl _ _ _ _ _ _ _ (T20.setTop (mkF m 56 #[.val (.ref a1), .val (.long (acc ||| ((((vs.getD i.toNatClampNeg 0) &&& (127 : Int32)).toInt64) <<< (sh &&& 0x3f).toInt64))), .second, .val (.int sh), .val (.int (vs.getD i.toNatClampNeg 0))] []))
        refine Gl.st (fun t k => XS.iinc X20.here hx rfl (hb hby d5_56) rfl (l' := #[.val (.ref a1), .val (.long (acc ||| ((((vs.getD i.toNatClampNeg 0) &&& (127 : Int32)).toInt64) <<< (sh &&& 0x3f).toInt64))), .second, .val (.int (sh + (7 : Int32))), .val (.int (vs.getD i.toNatClampNeg 0))]) rfl k) ?_
        show Gl _ _ _ _ _ _ _ (T20.setTop (mkF m 59 #[.val (.ref a1), .val (.long (acc ||| ((((vs.getD i.toNatClampNeg 0) &&& (127 : Int32)).toInt64) <<< (sh &&& 0x3f).toInt64))), .second, .val (.int (sh + (7 : Int32))), .val (.int (vs.getD i.toNatClampNeg 0))] []))
        refine Gl.st (fun t k => XS.goto X20.here hx rfl (pc0 := 59) (pc' := 7) rfl (hb hby d5_59) (by decide) (by decide) k) ?_
        show Gl _ _ _ _ _ _ _ (T20.setTop (mkF m 7 #[.val (.ref a1), .val (.long (acc ||| ((((vs.getD i.toNatClampNeg 0) &&& (127 : Int32)).toInt64) <<< (sh &&& 0x3f).toInt64))), .second, .val (.int (sh + (7 : Int32))), .val (.int (vs.getD i.toNatClampNeg 0))] []))
        exact ih _ _ _ X20 e20 N20 Z20 K20 (t + 1) (_) _ _ _ Gf1_0'21 Gf1_1'22 Fw20 Gf1_3'23 Gf1_4'24 (by rw [own_succ (by omega)]; omega) (own_acc hacc hbyt.1 hsh (by omega : t < n) hn9) (own_plus7 hsh (by omega)) (by omega) (Or.inr ⟨by omega, by rw [show t + 1 - 1 = t from rfl]; exact hbyt⟩)
  exact LP1 (mc) _ _ _ X0 e0 N0 Z0 K0 (0) (ia) _ _ _ E_a1 Fby Fat Fen Vb (by omega) (by rw [Nat.pow_zero, Nat.mod_one]; decide) (by decide) (by omega) (Or.inl rfl)
def own_at (ia : Int32) : Int32 := ia
theorem d6_0 : decode prog_96_method_4_code 0 = .ok (.aload_n 0, 1) := by decide +kernel
theorem d6_1 : decode prog_96_method_4_code 1 = .ok (.getfield 17, 3) := by decide +kernel
theorem d6_4 : decode prog_96_method_4_code 4 = .ok (.ireturn, 1) := by decide +kernel
theorem pf_5 : plainFor (⟨"com/example/millrace/millrace/storage/PackedGroups$Reader", "at", "()I"⟩ : MethodName) = true := by decide +kernel
def Q6 (Z : State) (a1 : Addr) (ia : Int32) (h0 : Heap) (n0 : Nat) (v : Option Value) (h : Heap) (L : List Loc) : Prop := v = some (.int (own_at ia)) ∧ Fr n0 L ∧ h = h0
theorem ef_6 (m : MethodId) (a1 : Addr) : entryFrame m #[(.ref a1)] 1 = mkF m 0 #[.val (.ref a1)] [] := by first | (simp [entryFrame, mkF, argsToLocals, Value.category]; done) | rfl
set_option maxRecDepth 65536 in
set_option maxHeartbeats 40000000 in
theorem rm6 (l : Launch) (Z : State) (a0 : Array Value) (hw : ∀ d ∈ tables_1, d.before a0 Z = true) (ws : List Jvm.Cond) (a1 : Addr) (ia : Int32) (h0 : Heap) (n0 : Nat) (Fa : Fld Z h0 a1 "com/example/millrace/millrace/storage/PackedGroups$Reader" "at" "I" (.int ia)) :
    MetFree l (⟨"com/example/millrace/millrace/storage/PackedGroups$Reader", "at", "()I"⟩ : MethodName) (head1 (Jvm.Cond.code (⟨"com/example/millrace/millrace/storage/PackedGroups$Reader", "at", "()I"⟩ : MethodName) prog_96_method_4_code 1 (some .int) :: ws) ({ frames := 0, cells := 0, slots := 0, locals := 0 } : Room)) (fun a U => a = #[(.ref a1)] ∧ Z.Warmed39 U.vm ∧ U.heap = h0) (fun _ _ _ _ _ => True) (fun _ U o U' => ∃ v L, o = .returned v ∧ Q6 Z a1 ia h0 n0 v U'.heap L ∧ FrameEnd U o U' L ({ frames := 0, cells := 0, slots := 0, locals := 0 } : Room).cells ({ frames := 0, cells := 0, slots := 0, locals := 0 } : Room).slots) := by
  refine MetFree.of_bodySF pf_5 hisR ?_
  intro p e s m args below meth c s₁ Bd hml0 hP hK
  obtain ⟨rfl, hZ, hh⟩ := hP
  have hx := Bd.exec
  have hby := Bd.bytes
  have hlk : meth.locks = false := BodyLoose.notSynchronized Bd
  have hml : c.maxLocals = 1 := hml0
  have hown : s.vm.findClass "com/example/millrace/millrace/storage/PackedGroups$Reader" = some m.cls := findClass_of_methodNamed Bd.named
  have hnm := (name_of_methodNamed Bd.named Bd.method).1
  have X0 : Stand p l e ({ frames := 0, cells := 0, slots := 0, locals := 0 } : Room) s m #[(.ref a1)] below meth c s₁ [] 0 0 := Stand.of_body Bd
  have e0 : s₁.heap = h0 := by rw [← hh, Bd.state]; rfl
  have N0 := Fr.nil n0
  show Gl p e below s (Q6 Z a1 ia h0 n0) ({ frames := 0, cells := 0, slots := 0, locals := 0 } : Room).cells ({ frames := 0, cells := 0, slots := 0, locals := 0 } : Room).slots (s₁.setTop (entryFrame m #[(.ref a1)] 1))
  rw [ef_6]
  show Gl _ _ _ _ _ _ _ (s₁.setTop (mkF m 0 #[.val (.ref a1)] []))
  refine Gl.st (fun t k => XS.aloadN X0.here hx rfl (hb hby d6_0) rfl rfl k) ?_
  show Gl _ _ _ _ _ _ _ (s₁.setTop (mkF m 1 #[.val (.ref a1)] [(.ref a1)]))
  obtain ⟨T1, X1, e1, st1⟩ := getF X0 hx hZ hown (host := "") (Or.inl (hw _ (List.mem_of_getElem? (i := 26) rfl))) Via.refl e0 Fa (g := (mkF m 1 #[.val (.ref a1)] [(.ref a1)])) rfl rfl (hb hby d6_1)
  refine Gl.st st1 ?_
  show Gl _ _ _ _ _ _ _ (T1.setTop (mkF m 4 #[.val (.ref a1)] [(.int ia)]))
  exact Gl.retI X1 hx hlk Bd.returns (hb hby d6_4) (⟨congrArg (fun z => some (Value.int z)) (show ia = (own_at ia) from by simp only [own_at]), N0, e1⟩) (by decide) (by decide)
theorem own_len_spec (v : Int64) (h : 0 ≤ v.toInt) : 1 ≤ (own_len v).toInt ∧ (own_len v).toInt ≤ 9 ∧ v.toInt.toNat < 128 ^ (own_len v).toInt.toNat ∧ ((own_len v).toInt.toNat = 1 ∨ 128 ^ ((own_len v).toInt.toNat - 1) ≤ v.toInt.toNat) := by
  have r := rng64 v
  have e1 : (128 : Int64).toInt = 128 := by decide
  have e2 : (16384 : Int64).toInt = 16384 := by decide
  have e3 : (2097152 : Int64).toInt = 2097152 := by decide
  have e4 : (268435456 : Int64).toInt = 268435456 := by decide
  have e5 : (34359738368 : Int64).toInt = 34359738368 := by decide
  have e6 : (4398046511104 : Int64).toInt = 4398046511104 := by decide
  have e7 : (562949953421312 : Int64).toInt = 562949953421312 := by decide
  have e8 : (72057594037927936 : Int64).toInt = 72057594037927936 := by decide
  unfold own_len
  simp only [Int64.lt_iff_toInt_lt, e1, e2, e3, e4, e5, e6, e7, e8]
  generalize v.toInt = n at *
  have d : ∀ k : Int32, 1 ≤ k.toInt ∧ k.toInt ≤ 9 → True := fun _ _ => trivial
  split
  · exact ⟨by decide, by decide, by rw [show (1 : Int32).toInt.toNat = 1 from by decide]; omega, Or.inl (by decide)⟩
  split
  · exact ⟨by decide, by decide, by rw [show (2 : Int32).toInt.toNat = 2 from by decide]; omega, Or.inr (by rw [show (2 : Int32).toInt.toNat = 2 from by decide]; omega)⟩
  split
  · exact ⟨by decide, by decide, by rw [show (3 : Int32).toInt.toNat = 3 from by decide]; omega, Or.inr (by rw [show (3 : Int32).toInt.toNat = 3 from by decide]; omega)⟩
  split
  · exact ⟨by decide, by decide, by rw [show (4 : Int32).toInt.toNat = 4 from by decide]; omega, Or.inr (by rw [show (4 : Int32).toInt.toNat = 4 from by decide]; omega)⟩
  split
  · exact ⟨by decide, by decide, by rw [show (5 : Int32).toInt.toNat = 5 from by decide]; omega, Or.inr (by rw [show (5 : Int32).toInt.toNat = 5 from by decide]; omega)⟩
  split
  · exact ⟨by decide, by decide, by rw [show (6 : Int32).toInt.toNat = 6 from by decide]; omega, Or.inr (by rw [show (6 : Int32).toInt.toNat = 6 from by decide]; omega)⟩
  split
  · exact ⟨by decide, by decide, by rw [show (7 : Int32).toInt.toNat = 7 from by decide]; omega, Or.inr (by rw [show (7 : Int32).toInt.toNat = 7 from by decide]; omega)⟩
  split
  · exact ⟨by decide, by decide, by rw [show (8 : Int32).toInt.toNat = 8 from by decide]; omega, Or.inr (by rw [show (8 : Int32).toInt.toNat = 8 from by decide]; omega)⟩
  · exact ⟨by decide, by decide, by rw [show (9 : Int32).toInt.toNat = 9 from by decide]; omega, Or.inr (by rw [show (9 : Int32).toInt.toNat = 9 from by decide]; omega)⟩
theorem own_value (x : Int64) (s : Int32) : 0 ≤ (((x &&& (9223372036854775807 : Int64)).toUInt64 >>> ((s &&& (63 : Int32)) &&& 0x3f).toInt64.toUInt64).toInt64).toInt := by
  have a := c_maskL x 9223372036854775807 63 (by decide) (by decide)
  have a0 : 0 ≤ (x &&& (9223372036854775807 : Int64)).toInt := by rw [a]; exact Int.emod_nonneg _ (by decide)
  generalize x &&& (9223372036854775807 : Int64) = y at *
  obtain ⟨A, hA⟩ : ∃ A : Nat, y.toInt = (A : Int) := ⟨y.toInt.toNat, by omega⟩
  have r := rng64 y
  have e : ((y.toUInt64 >>> ((s &&& (63 : Int32)) &&& 0x3f).toInt64.toUInt64).toInt64).toBitVec.toNat ≤ A := by
    show (y.toUInt64 >>> ((s &&& (63 : Int32)) &&& 0x3f).toInt64.toUInt64).toNat ≤ A
    rw [UInt64.toNat_shiftRight, show y.toUInt64.toNat = A from own_nat64 hA, Nat.shiftRight_eq_div_pow]
    exact Nat.div_le_self _ _
  rw [own_int64 rfl (by omega)]
  omega
theorem own_at2 (a : Int32) : 0 ≤ (a &&& (1 : Int32)).toInt ∧ (a &&& (1 : Int32)).toInt ≤ 1 := by
  have q := c_mask a 1 1 (by decide) (by decide)
  omega
theorem own_end13 (r : Int32) : 0 ≤ ((r &&& (2147483647 : Int32)) % (13 : Int32)).toInt ∧ ((r &&& (2147483647 : Int32)) % (13 : Int32)).toInt ≤ 12 := by
  have a := c_and r 2147483647 (by decide)
  have b := (c_irem (r &&& 2147483647) 13 13 (by decide)).1
  omega
theorem own_min_i (a b : Int32) : (own_min a b).toInt = min a.toInt b.toInt := by
  unfold own_min
  split
  all_goals (rename_i h; rw [Int32.lt_iff_toInt_lt] at h; omega)
theorem own_m (ee aa nn mm : Int32) (he : 0 ≤ ee.toInt ∧ ee.toInt ≤ 12) (ha : 0 ≤ aa.toInt ∧ aa.toInt ≤ 1) (hn : 1 ≤ nn.toInt ∧ nn.toInt ≤ 9) (h : mm = (if aa < ee then own_min (ee - aa) nn else (0 : Int32))) : mm.toInt = ((min nn.toInt.toNat (ee.toInt - (aa.toInt.toNat : Int)).toNat : Nat) : Int) := by
  subst h
  have a := c_isub ee aa
  have b := rng32 (ee - aa)
  by_cases q : aa < ee
  · rw [if_pos q, own_min_i]; rw [Int32.lt_iff_toInt_lt] at q; omega
  · rw [if_neg q, show (0 : Int32).toInt = 0 from by decide]; rw [Int32.lt_iff_toInt_lt] at q; omega
theorem own_masked (v : Int64) (mm : Int32) (h0 : 0 ≤ v.toInt) (h1 : 1 ≤ mm.toInt) (h8 : mm.toInt ≤ 8) : (v &&& (((1 : Int64) <<< (((7 : Int32) * mm) &&& 0x3f).toInt64) - (1 : Int64))).toInt = ((v.toInt.toNat % 128 ^ mm.toInt.toNat : Nat) : Int) := by
  have e : ∀ k : Nat, mm.toInt = (k : Int) → mm = Int32.ofInt (k : Int) := fun k hk => own_of hk
  have hc : mm.toInt = 1 ∨ mm.toInt = 2 ∨ mm.toInt = 3 ∨ mm.toInt = 4 ∨ mm.toInt = 5 ∨ mm.toInt = 6 ∨ mm.toInt = 7 ∨ mm.toInt = 8 := by omega
  rcases hc with q | q | q | q | q | q | q | q
  · obtain rfl : mm = (1 : Int32) := e 1 q
    have a := c_maskL v (((1 : Int64) <<< (((7 : Int32) * 1) &&& 0x3f).toInt64) - (1 : Int64)) 7 (by decide) (by decide +kernel)
    rw [a, show (1 : Int32).toInt.toNat = 1 from by decide]; omega
  · obtain rfl : mm = (2 : Int32) := e 2 q
    have a := c_maskL v (((1 : Int64) <<< (((7 : Int32) * 2) &&& 0x3f).toInt64) - (1 : Int64)) 14 (by decide) (by decide +kernel)
    rw [a, show (2 : Int32).toInt.toNat = 2 from by decide]; omega
  · obtain rfl : mm = (3 : Int32) := e 3 q
    have a := c_maskL v (((1 : Int64) <<< (((7 : Int32) * 3) &&& 0x3f).toInt64) - (1 : Int64)) 21 (by decide) (by decide +kernel)
    rw [a, show (3 : Int32).toInt.toNat = 3 from by decide]; omega
  · obtain rfl : mm = (4 : Int32) := e 4 q
    have a := c_maskL v (((1 : Int64) <<< (((7 : Int32) * 4) &&& 0x3f).toInt64) - (1 : Int64)) 28 (by decide) (by decide +kernel)
    rw [a, show (4 : Int32).toInt.toNat = 4 from by decide]; omega
  · obtain rfl : mm = (5 : Int32) := e 5 q
    have a := c_maskL v (((1 : Int64) <<< (((7 : Int32) * 5) &&& 0x3f).toInt64) - (1 : Int64)) 35 (by decide) (by decide +kernel)
    rw [a, show (5 : Int32).toInt.toNat = 5 from by decide]; omega
  · obtain rfl : mm = (6 : Int32) := e 6 q
    have a := c_maskL v (((1 : Int64) <<< (((7 : Int32) * 6) &&& 0x3f).toInt64) - (1 : Int64)) 42 (by decide) (by decide +kernel)
    rw [a, show (6 : Int32).toInt.toNat = 6 from by decide]; omega
  · obtain rfl : mm = (7 : Int32) := e 7 q
    have a := c_maskL v (((1 : Int64) <<< (((7 : Int32) * 7) &&& 0x3f).toInt64) - (1 : Int64)) 49 (by decide) (by decide +kernel)
    rw [a, show (7 : Int32).toInt.toNat = 7 from by decide]; omega
  · obtain rfl : mm = (8 : Int32) := e 8 q
    have a := c_maskL v (((1 : Int64) <<< (((7 : Int32) * 8) &&& 0x3f).toInt64) - (1 : Int64)) 56 (by decide) (by decide +kernel)
    rw [a, show (8 : Int32).toInt.toNat = 8 from by decide]; omega
theorem own_expected (v z : Int64) (mm nn : Int32) (m : Nat) (h0 : 0 ≤ v.toInt) (hn : 1 ≤ nn.toInt ∧ nn.toInt ≤ 9) (hV : v.toInt.toNat < 128 ^ nn.toInt.toNat) (hm : mm.toInt = (m : Int)) (hmn : m ≤ nn.toInt.toNat)
    (hz : z = (if mm = (0 : Int32) then (0 : Int64) else (if mm < nn then (v &&& (((1 : Int64) <<< (((7 : Int32) * mm) &&& 0x3f).toInt64) - (1 : Int64))) else v))) : Int64.ofInt ((v.toInt.toNat % 128 ^ m : Nat) : Int) = z := by
  subst hz
  by_cases q : mm = (0 : Int32)
  · have e : m = 0 := by rw [q, show (0 : Int32).toInt = 0 from by decide] at hm; omega
    rw [if_pos q, e, Nat.pow_zero, Nat.mod_one]; rfl
  · have m1 : 1 ≤ mm.toInt := by
      rw [← Int32.toInt_inj, show (0 : Int32).toInt = 0 from by decide] at q; omega
    rw [if_neg q]
    by_cases l : mm < nn
    · rw [if_pos l]
      rw [Int32.lt_iff_toInt_lt] at l
      refine (own_ofL ?_).symm
      rw [own_masked v mm h0 m1 (by omega), show mm.toInt.toNat = m from by omega]
    · rw [if_neg l]
      rw [Int32.lt_iff_toInt_lt] at l
      rw [show m = nn.toInt.toNat from by omega, Nat.mod_eq_of_lt hV]
      exact (own_ofL (by omega)).symm
theorem pf_6 : plainFor (⟨"com/example/millrace/millrace/storage/ReaderNumberPinLaw", "law", "(JIIII)Z"⟩ : MethodName) = true := by decide +kernel
def Q0 (Z : State) (q1 : Int64) (p2 : Int32) (p3 : Int32) (p4 : Int32) (p5 : Int32) (h0 : Heap) (n0 : Nat) (v : Option Value) (h : Heap) (L : List Loc) : Prop := v = some (.int 1) ∧ Fr n0 L
theorem ef_0 (m : MethodId) (q1 : Int64) (p2 : Int32) (p3 : Int32) (p4 : Int32) (p5 : Int32) : entryFrame m #[(.long q1), (.int p2), (.int p3), (.int p4), (.int p5)] maxLocals = mkF m 0 #[.val (.long q1), .second, .val (.int p2), .val (.int p3), .val (.int p4), .val (.int p5), .unset, .unset, .unset, .unset, .unset, .unset, .unset, .unset, .unset, .unset, .unset, .unset, .unset] [] := by first | (simp [entryFrame, mkF, argsToLocals, Value.category, maxLocals]; done) | rfl
theorem pd_0 : parseMethodDescriptor "([BIJ)I" = some ⟨[(.array .byte), .int, .long], some .int⟩ := by decide +kernel
theorem pd_1 : parseMethodDescriptor "(J)I" = some ⟨[.long], some .int⟩ := by decide +kernel
theorem pd_2 : parseMethodDescriptor "([BIIJJ)V" = some ⟨[(.array .byte), .int, .int, .long, .long], none⟩ := by decide +kernel
theorem pd_3 : parseMethodDescriptor "()J" = some ⟨[], some .long⟩ := by decide +kernel
theorem pd_4 : parseMethodDescriptor "(II)I" = some ⟨[.int, .int], some .int⟩ := by decide +kernel
theorem pd_5 : parseMethodDescriptor "()I" = some ⟨[], some .int⟩ := by decide +kernel
set_option maxRecDepth 65536 in
set_option maxHeartbeats 40000000 in
theorem rm0 (l : Launch) (Z : State) (a0 : Array Value) (hw : ∀ d ∈ tables_1, d.before a0 Z = true) (ws : List Jvm.Cond) (q1 : Int64) (p2 : Int32) (p3 : Int32) (p4 : Int32) (p5 : Int32) (h0 : Heap) (n0 : Nat) (Z0 : n0 ≤ h0.size) :
    MetFree l x (head1 (Jvm.Cond.code x code maxLocals ret :: ws) room_1) (fun a U => a = #[(.long q1), (.int p2), (.int p3), (.int p4), (.int p5)] ∧ Z.Warmed39 U.vm ∧ U.heap = h0) (fun _ _ _ _ _ => True) (fun _ U o U' => ∃ v L, o = .returned v ∧ Q0 Z q1 p2 p3 p4 p5 h0 n0 v U'.heap L ∧ FrameEnd U o U' L room_1.cells room_1.slots) := by
  refine MetFree.of_bodySF pf_6 hisR ?_
  intro p e s m args below meth c s₁ Bd hml0 hP hK
  obtain ⟨rfl, hZ, hh⟩ := hP
  have hx := Bd.exec
  have hby := Bd.bytes
  have hlk : meth.locks = false := BodyLoose.notSynchronized Bd
  have hml : c.maxLocals = 19 := hml0
  have hown : s.vm.findClass "com/example/millrace/millrace/storage/ReaderNumberPinLaw" = some m.cls := findClass_of_methodNamed Bd.named
  have hnm := (name_of_methodNamed Bd.named Bd.method).1
  have X0 : Stand p l e room_1 s m #[(.long q1), (.int p2), (.int p3), (.int p4), (.int p5)] below meth c s₁ [] 0 0 := Stand.of_body Bd
  have e0 : s₁.heap = h0 := by rw [← hh, Bd.state]; rfl
  have N0 := Fr.nil n0
  show Gl p e below s (Q0 Z q1 p2 p3 p4 p5 h0 n0) room_1.cells room_1.slots (s₁.setTop (entryFrame m #[(.long q1), (.int p2), (.int p3), (.int p4), (.int p5)] maxLocals))
  rw [ef_0]
  show Gl _ _ _ _ _ _ _ (s₁.setTop (mkF m 0 #[.val (.long q1), .second, .val (.int p2), .val (.int p3), .val (.int p4), .val (.int p5), .unset, .unset, .unset, .unset, .unset, .unset, .unset, .unset, .unset, .unset, .unset, .unset, .unset] []))
  refine Gl.st (fun t k => XS.lloadN X0.here hx rfl (hb hby at_0) rfl  k) ?_
  show Gl _ _ _ _ _ _ _ (s₁.setTop (mkF m 1 #[.val (.long q1), .second, .val (.int p2), .val (.int p3), .val (.int p4), .val (.int p5), .unset, .unset, .unset, .unset, .unset, .unset, .unset, .unset, .unset, .unset, .unset, .unset, .unset] [(.long q1)]))
  refine Gl.st (X0.ldc2Long hx hown (mvT hZ (hw _ (List.mem_of_getElem? (i := 0) rfl))) (g := (mkF m 1 #[.val (.long q1), .second, .val (.int p2), .val (.int p3), .val (.int p4), .val (.int p5), .unset, .unset, .unset, .unset, .unset, .unset, .unset, .unset, .unset, .unset, .unset, .unset, .unset] [(.long q1)])) rfl (hb hby at_1)) ?_
  show Gl _ _ _ _ _ _ _ (s₁.setTop (mkF m 4 #[.val (.long q1), .second, .val (.int p2), .val (.int p3), .val (.int p4), .val (.int p5), .unset, .unset, .unset, .unset, .unset, .unset, .unset, .unset, .unset, .unset, .unset, .unset, .unset] [(.long (9223372036854775807 : Int64)), (.long q1)]))
  refine Gl.st (fun t k => XS.land X0.here hx rfl (hb hby at_4) rfl k) ?_
  show Gl _ _ _ _ _ _ _ (s₁.setTop (mkF m 5 #[.val (.long q1), .second, .val (.int p2), .val (.int p3), .val (.int p4), .val (.int p5), .unset, .unset, .unset, .unset, .unset, .unset, .unset, .unset, .unset, .unset, .unset, .unset, .unset] [(.long (q1 &&& (9223372036854775807 : Int64)))]))
  refine Gl.st (fun t k => XS.iloadN X0.here hx rfl (hb hby at_5) rfl  k) ?_
  show Gl _ _ _ _ _ _ _ (s₁.setTop (mkF m 6 #[.val (.long q1), .second, .val (.int p2), .val (.int p3), .val (.int p4), .val (.int p5), .unset, .unset, .unset, .unset, .unset, .unset, .unset, .unset, .unset, .unset, .unset, .unset, .unset] [(.int p2), (.long (q1 &&& (9223372036854775807 : Int64)))]))
  refine Gl.st (fun t k => XS.bipush X0.here hx rfl (hb hby at_6) k) ?_
  show Gl _ _ _ _ _ _ _ (s₁.setTop (mkF m 8 #[.val (.long q1), .second, .val (.int p2), .val (.int p3), .val (.int p4), .val (.int p5), .unset, .unset, .unset, .unset, .unset, .unset, .unset, .unset, .unset, .unset, .unset, .unset, .unset] [(.int (63 : Int32)), (.int p2), (.long (q1 &&& (9223372036854775807 : Int64)))]))
  refine Gl.st (fun t k => XS.iand X0.here hx rfl (hb hby at_8) rfl k) ?_
  show Gl _ _ _ _ _ _ _ (s₁.setTop (mkF m 9 #[.val (.long q1), .second, .val (.int p2), .val (.int p3), .val (.int p4), .val (.int p5), .unset, .unset, .unset, .unset, .unset, .unset, .unset, .unset, .unset, .unset, .unset, .unset, .unset] [(.int (p2 &&& (63 : Int32))), (.long (q1 &&& (9223372036854775807 : Int64)))]))
  refine Gl.st (fun t k => XS.lushr X0.here hx rfl (hb hby at_9) rfl k) ?_
  show Gl _ _ _ _ _ _ _ (s₁.setTop (mkF m 10 #[.val (.long q1), .second, .val (.int p2), .val (.int p3), .val (.int p4), .val (.int p5), .unset, .unset, .unset, .unset, .unset, .unset, .unset, .unset, .unset, .unset, .unset, .unset, .unset] [(.long (((q1 &&& (9223372036854775807 : Int64)).toUInt64 >>> ((p2 &&& (63 : Int32)) &&& 0x3f).toInt64.toUInt64).toInt64))]))
  refine Gl.st (fun t k => XS.lstore X0.here hx rfl (hb hby at_10) rfl (l' := #[.val (.long q1), .second, .val (.int p2), .val (.int p3), .val (.int p4), .val (.int p5), .val (.long (((q1 &&& (9223372036854775807 : Int64)).toUInt64 >>> ((p2 &&& (63 : Int32)) &&& 0x3f).toInt64.toUInt64).toInt64)), .second, .unset, .unset, .unset, .unset, .unset, .unset, .unset, .unset, .unset, .unset, .unset]) rfl k) ?_
  show Gl _ _ _ _ _ _ _ (s₁.setTop (mkF m 12 #[.val (.long q1), .second, .val (.int p2), .val (.int p3), .val (.int p4), .val (.int p5), .val (.long (((q1 &&& (9223372036854775807 : Int64)).toUInt64 >>> ((p2 &&& (63 : Int32)) &&& 0x3f).toInt64.toUInt64).toInt64)), .second, .unset, .unset, .unset, .unset, .unset, .unset, .unset, .unset, .unset, .unset, .unset] []))
  obtain ⟨vv, hvv⟩ : ∃ z : Int64, z = (((q1 &&& (9223372036854775807 : Int64)).toUInt64 >>> ((p2 &&& (63 : Int32)) &&& 0x3f).toInt64.toUInt64).toInt64) := ⟨_, rfl⟩
  rw [← hvv]
  show Gl _ _ _ _ _ _ _ (s₁.setTop (mkF m 12 #[.val (.long q1), .second, .val (.int p2), .val (.int p3), .val (.int p4), .val (.int p5), .val (.long vv), .second, .unset, .unset, .unset, .unset, .unset, .unset, .unset, .unset, .unset, .unset, .unset] []))
  refine Gl.st (fun t k => XS.iloadN X0.here hx rfl (hb hby at_12) rfl  k) ?_
  show Gl _ _ _ _ _ _ _ (s₁.setTop (mkF m 13 #[.val (.long q1), .second, .val (.int p2), .val (.int p3), .val (.int p4), .val (.int p5), .val (.long vv), .second, .unset, .unset, .unset, .unset, .unset, .unset, .unset, .unset, .unset, .unset, .unset] [(.int p3)]))
  refine Gl.st (fun t k => XS.iconst X0.here hx rfl (hb hby at_13) k) ?_
  show Gl _ _ _ _ _ _ _ (s₁.setTop (mkF m 14 #[.val (.long q1), .second, .val (.int p2), .val (.int p3), .val (.int p4), .val (.int p5), .val (.long vv), .second, .unset, .unset, .unset, .unset, .unset, .unset, .unset, .unset, .unset, .unset, .unset] [(.int (1 : Int32)), (.int p3)]))
  refine Gl.st (fun t k => XS.iand X0.here hx rfl (hb hby at_14) rfl k) ?_
  show Gl _ _ _ _ _ _ _ (s₁.setTop (mkF m 15 #[.val (.long q1), .second, .val (.int p2), .val (.int p3), .val (.int p4), .val (.int p5), .val (.long vv), .second, .unset, .unset, .unset, .unset, .unset, .unset, .unset, .unset, .unset, .unset, .unset] [(.int (p3 &&& (1 : Int32)))]))
  refine Gl.st (fun t k => XS.istore X0.here hx rfl (hb hby at_15) rfl (l' := #[.val (.long q1), .second, .val (.int p2), .val (.int p3), .val (.int p4), .val (.int p5), .val (.long vv), .second, .val (.int (p3 &&& (1 : Int32))), .unset, .unset, .unset, .unset, .unset, .unset, .unset, .unset, .unset, .unset]) rfl k) ?_
  show Gl _ _ _ _ _ _ _ (s₁.setTop (mkF m 17 #[.val (.long q1), .second, .val (.int p2), .val (.int p3), .val (.int p4), .val (.int p5), .val (.long vv), .second, .val (.int (p3 &&& (1 : Int32))), .unset, .unset, .unset, .unset, .unset, .unset, .unset, .unset, .unset, .unset] []))
  obtain ⟨aa, haa⟩ : ∃ z : Int32, z = (p3 &&& (1 : Int32)) := ⟨_, rfl⟩
  rw [← haa]
  show Gl _ _ _ _ _ _ _ (s₁.setTop (mkF m 17 #[.val (.long q1), .second, .val (.int p2), .val (.int p3), .val (.int p4), .val (.int p5), .val (.long vv), .second, .val (.int aa), .unset, .unset, .unset, .unset, .unset, .unset, .unset, .unset, .unset, .unset] []))
  refine Gl.st (fun t k => XS.iload X0.here hx rfl (hb hby at_17) rfl  k) ?_
  show Gl _ _ _ _ _ _ _ (s₁.setTop (mkF m 19 #[.val (.long q1), .second, .val (.int p2), .val (.int p3), .val (.int p4), .val (.int p5), .val (.long vv), .second, .val (.int aa), .unset, .unset, .unset, .unset, .unset, .unset, .unset, .unset, .unset, .unset] [(.int p4)]))
  refine Gl.st (X0.ldcInt hx hown (mvT hZ (hw _ (List.mem_of_getElem? (i := 1) rfl))) (g := (mkF m 19 #[.val (.long q1), .second, .val (.int p2), .val (.int p3), .val (.int p4), .val (.int p5), .val (.long vv), .second, .val (.int aa), .unset, .unset, .unset, .unset, .unset, .unset, .unset, .unset, .unset, .unset] [(.int p4)])) rfl (hb hby at_19)) ?_
  show Gl _ _ _ _ _ _ _ (s₁.setTop (mkF m 21 #[.val (.long q1), .second, .val (.int p2), .val (.int p3), .val (.int p4), .val (.int p5), .val (.long vv), .second, .val (.int aa), .unset, .unset, .unset, .unset, .unset, .unset, .unset, .unset, .unset, .unset] [(.int (2147483647 : Int32)), (.int p4)]))
  refine Gl.st (fun t k => XS.iand X0.here hx rfl (hb hby at_21) rfl k) ?_
  show Gl _ _ _ _ _ _ _ (s₁.setTop (mkF m 22 #[.val (.long q1), .second, .val (.int p2), .val (.int p3), .val (.int p4), .val (.int p5), .val (.long vv), .second, .val (.int aa), .unset, .unset, .unset, .unset, .unset, .unset, .unset, .unset, .unset, .unset] [(.int (p4 &&& (2147483647 : Int32)))]))
  refine Gl.st (fun t k => XS.bipush X0.here hx rfl (hb hby at_22) k) ?_
  show Gl _ _ _ _ _ _ _ (s₁.setTop (mkF m 24 #[.val (.long q1), .second, .val (.int p2), .val (.int p3), .val (.int p4), .val (.int p5), .val (.long vv), .second, .val (.int aa), .unset, .unset, .unset, .unset, .unset, .unset, .unset, .unset, .unset, .unset] [(.int (13 : Int32)), (.int (p4 &&& (2147483647 : Int32)))]))
  refine Gl.st (fun t k => iremM X0 hx rfl (hb hby at_24) rfl (by decide) k) ?_
  show Gl _ _ _ _ _ _ _ (s₁.setTop (mkF m 25 #[.val (.long q1), .second, .val (.int p2), .val (.int p3), .val (.int p4), .val (.int p5), .val (.long vv), .second, .val (.int aa), .unset, .unset, .unset, .unset, .unset, .unset, .unset, .unset, .unset, .unset] [(.int ((p4 &&& (2147483647 : Int32)) % (13 : Int32)))]))
  refine Gl.st (fun t k => XS.istore X0.here hx rfl (hb hby at_25) rfl (l' := #[.val (.long q1), .second, .val (.int p2), .val (.int p3), .val (.int p4), .val (.int p5), .val (.long vv), .second, .val (.int aa), .val (.int ((p4 &&& (2147483647 : Int32)) % (13 : Int32))), .unset, .unset, .unset, .unset, .unset, .unset, .unset, .unset, .unset]) rfl k) ?_
  show Gl _ _ _ _ _ _ _ (s₁.setTop (mkF m 27 #[.val (.long q1), .second, .val (.int p2), .val (.int p3), .val (.int p4), .val (.int p5), .val (.long vv), .second, .val (.int aa), .val (.int ((p4 &&& (2147483647 : Int32)) % (13 : Int32))), .unset, .unset, .unset, .unset, .unset, .unset, .unset, .unset, .unset] []))
  obtain ⟨ee, hee⟩ : ∃ z : Int32, z = ((p4 &&& (2147483647 : Int32)) % (13 : Int32)) := ⟨_, rfl⟩
  rw [← hee]
  show Gl _ _ _ _ _ _ _ (s₁.setTop (mkF m 27 #[.val (.long q1), .second, .val (.int p2), .val (.int p3), .val (.int p4), .val (.int p5), .val (.long vv), .second, .val (.int aa), .val (.int ee), .unset, .unset, .unset, .unset, .unset, .unset, .unset, .unset, .unset] []))
  refine Gl.st (fun t k => XS.bipush X0.here hx rfl (hb hby at_27) k) ?_
  show Gl _ _ _ _ _ _ _ (s₁.setTop (mkF m 29 #[.val (.long q1), .second, .val (.int p2), .val (.int p3), .val (.int p4), .val (.int p5), .val (.long vv), .second, .val (.int aa), .val (.int ee), .unset, .unset, .unset, .unset, .unset, .unset, .unset, .unset, .unset] [(.int (12 : Int32))]))
  obtain ⟨T1, h1, k1, X1, e1, E1, A1, st1⟩ := newP X0 hx hZ (hw _ (List.mem_of_getElem? (i := 2) rfl)) e0 (g := (mkF m 29 #[.val (.long q1), .second, .val (.int p2), .val (.int p3), .val (.int p4), .val (.int p5), .val (.long vv), .second, .val (.int aa), .val (.int ee), .unset, .unset, .unset, .unset, .unset, .unset, .unset, .unset, .unset] [(.int (12 : Int32))])) rfl (hb hby at_29) rfl (by decide) (cap := 12) (by decide) (by decide) (by decide) (by decide)
  obtain ⟨b1, g1⟩ : ∃ z, z = h0.size := ⟨_, rfl⟩
  rw [← g1] at A1 st1
  refine Gl.st st1 ?_
  have gzb1 : n0 ≤ b1 := Nat.le_trans Z0 (Nat.le_of_eq g1.symm)
  have Z1 : n0 ≤ h1.size := Nat.le_trans Z0 E1.1
  have V1 : Arv Z h1 b1 k1 .byte (12 : Int32) [(.int (0 : Int32)), (.int (0 : Int32)), (.int (0 : Int32)), (.int (0 : Int32)), (.int (0 : Int32)), (.int (0 : Int32)), (.int (0 : Int32)), (.int (0 : Int32)), (.int (0 : Int32)), (.int (0 : Int32)), (.int (0 : Int32)), (.int (0 : Int32))] (.int (0 : Int32)) := (Arv.new A1 (by decide)).pad (pad_rep [] (.int (0 : Int32)) 12)
  show Gl _ _ _ _ _ _ _ (T1.setTop (mkF m 31 #[.val (.long q1), .second, .val (.int p2), .val (.int p3), .val (.int p4), .val (.int p5), .val (.long vv), .second, .val (.int aa), .val (.int ee), .unset, .unset, .unset, .unset, .unset, .unset, .unset, .unset, .unset] [(.ref b1)]))
  refine Gl.st (fun t k => XS.astore X1.here hx rfl (hb hby at_31) rfl rfl (l' := #[.val (.long q1), .second, .val (.int p2), .val (.int p3), .val (.int p4), .val (.int p5), .val (.long vv), .second, .val (.int aa), .val (.int ee), .val (.ref b1), .unset, .unset, .unset, .unset, .unset, .unset, .unset, .unset]) rfl k) ?_
  show Gl _ _ _ _ _ _ _ (T1.setTop (mkF m 33 #[.val (.long q1), .second, .val (.int p2), .val (.int p3), .val (.int p4), .val (.int p5), .val (.long vv), .second, .val (.int aa), .val (.int ee), .val (.ref b1), .unset, .unset, .unset, .unset, .unset, .unset, .unset, .unset] []))
  refine Gl.st (fun t k => XS.aload X1.here hx rfl (hb hby at_33) rfl rfl k) ?_
  show Gl _ _ _ _ _ _ _ (T1.setTop (mkF m 35 #[.val (.long q1), .second, .val (.int p2), .val (.int p3), .val (.int p4), .val (.int p5), .val (.long vv), .second, .val (.int aa), .val (.int ee), .val (.ref b1), .unset, .unset, .unset, .unset, .unset, .unset, .unset, .unset] [(.ref b1)]))
  refine Gl.st (fun t k => XS.iconst X1.here hx rfl (hb hby at_35) k) ?_
  show Gl _ _ _ _ _ _ _ (T1.setTop (mkF m 36 #[.val (.long q1), .second, .val (.int p2), .val (.int p3), .val (.int p4), .val (.int p5), .val (.long vv), .second, .val (.int aa), .val (.int ee), .val (.ref b1), .unset, .unset, .unset, .unset, .unset, .unset, .unset, .unset] [(.int (0 : Int32)), (.ref b1)]))
  refine Gl.st (fun t k => XS.iload X1.here hx rfl (hb hby at_36) rfl  k) ?_
  show Gl _ _ _ _ _ _ _ (T1.setTop (mkF m 38 #[.val (.long q1), .second, .val (.int p2), .val (.int p3), .val (.int p4), .val (.int p5), .val (.long vv), .second, .val (.int aa), .val (.int ee), .val (.ref b1), .unset, .unset, .unset, .unset, .unset, .unset, .unset, .unset] [(.int p5), (.int (0 : Int32)), (.ref b1)]))
  refine Gl.st (fun t k => XS.i2b X1.here hx rfl (hb hby at_38) rfl k) ?_
  show Gl _ _ _ _ _ _ _ (T1.setTop (mkF m 39 #[.val (.long q1), .second, .val (.int p2), .val (.int p3), .val (.int p4), .val (.int p5), .val (.long vv), .second, .val (.int aa), .val (.int ee), .val (.ref b1), .unset, .unset, .unset, .unset, .unset, .unset, .unset, .unset] [(.int (p5.toInt8.toInt32)), (.int (0 : Int32)), (.ref b1)]))
  have Vx2 := V1
  obtain ⟨cl2, Ar2, qk2, S2, M2, H2, G2⟩ := Vx2
  have hin2 : ¬ ((0 : Int32) < 0 ∨ cl2.slots.size ≤ ((0 : Int32)).toNatClampNeg) := inb_of S2 ⟨by decide, by decide⟩
  obtain ⟨T2, h2, X2, e2, W2, st2⟩ := stB X1 hx hZ e1 Ar2 (j := (0 : Int32)) hin2 (g := (mkF m 39 #[.val (.long q1), .second, .val (.int p2), .val (.int p3), .val (.int p4), .val (.int p5), .val (.long vv), .second, .val (.int aa), .val (.int ee), .val (.ref b1), .unset, .unset, .unset, .unset, .unset, .unset, .unset, .unset] [(.int (p5.toInt8.toInt32)), (.int (0 : Int32)), (.ref b1)])) rfl rfl (hb hby at_39)
  refine Gl.st st2 ?_
  have Z2 : n0 ≤ h2.size := Nat.le_trans Z1 (Keep.of_wr W2).1
  have N2 := Fr.snoc X2 N0 gzb1
  have V2 : Arv Z h2 b1 k1 .byte (12 : Int32) [(.int (nar .byte (p5.toInt8.toInt32))), (.int (0 : Int32)), (.int (0 : Int32)), (.int (0 : Int32)), (.int (0 : Int32)), (.int (0 : Int32)), (.int (0 : Int32)), (.int (0 : Int32)), (.int (0 : Int32)), (.int (0 : Int32)), (.int (0 : Int32)), (.int (0 : Int32))] (.int (0 : Int32)) := Arv.set Ar2 qk2 S2 M2 H2 G2 (fits_nar_byte _) W2 0 rfl (Nat.le_of_ble_eq_true rfl)
  show Gl _ _ _ _ _ _ _ (T2.setTop (mkF m 40 #[.val (.long q1), .second, .val (.int p2), .val (.int p3), .val (.int p4), .val (.int p5), .val (.long vv), .second, .val (.int aa), .val (.int ee), .val (.ref b1), .unset, .unset, .unset, .unset, .unset, .unset, .unset, .unset] []))
  refine Gl.st (fun t k => XS.aload X2.here hx rfl (hb hby at_40) rfl rfl k) ?_
  show Gl _ _ _ _ _ _ _ (T2.setTop (mkF m 42 #[.val (.long q1), .second, .val (.int p2), .val (.int p3), .val (.int p4), .val (.int p5), .val (.long vv), .second, .val (.int aa), .val (.int ee), .val (.ref b1), .unset, .unset, .unset, .unset, .unset, .unset, .unset, .unset] [(.ref b1)]))
  refine Gl.st (fun t k => XS.bipush X2.here hx rfl (hb hby at_42) k) ?_
  show Gl _ _ _ _ _ _ _ (T2.setTop (mkF m 44 #[.val (.long q1), .second, .val (.int p2), .val (.int p3), .val (.int p4), .val (.int p5), .val (.long vv), .second, .val (.int aa), .val (.int ee), .val (.ref b1), .unset, .unset, .unset, .unset, .unset, .unset, .unset, .unset] [(.int (9 : Int32)), (.ref b1)]))
  refine Gl.st (fun t k => XS.iload X2.here hx rfl (hb hby at_44) rfl  k) ?_
  show Gl _ _ _ _ _ _ _ (T2.setTop (mkF m 46 #[.val (.long q1), .second, .val (.int p2), .val (.int p3), .val (.int p4), .val (.int p5), .val (.long vv), .second, .val (.int aa), .val (.int ee), .val (.ref b1), .unset, .unset, .unset, .unset, .unset, .unset, .unset, .unset] [(.int p5), (.int (9 : Int32)), (.ref b1)]))
  refine Gl.st (fun t k => XS.bipush X2.here hx rfl (hb hby at_46) k) ?_
  show Gl _ _ _ _ _ _ _ (T2.setTop (mkF m 48 #[.val (.long q1), .second, .val (.int p2), .val (.int p3), .val (.int p4), .val (.int p5), .val (.long vv), .second, .val (.int aa), .val (.int ee), .val (.ref b1), .unset, .unset, .unset, .unset, .unset, .unset, .unset, .unset] [(.int (8 : Int32)), (.int p5), (.int (9 : Int32)), (.ref b1)]))
  refine Gl.st (fun t k => XS.iushr X2.here hx rfl (hb hby at_48) rfl k) ?_
  show Gl _ _ _ _ _ _ _ (T2.setTop (mkF m 49 #[.val (.long q1), .second, .val (.int p2), .val (.int p3), .val (.int p4), .val (.int p5), .val (.long vv), .second, .val (.int aa), .val (.int ee), .val (.ref b1), .unset, .unset, .unset, .unset, .unset, .unset, .unset, .unset] [(.int ((p5.toUInt32 >>> ((8 : Int32) &&& 31).toUInt32).toInt32)), (.int (9 : Int32)), (.ref b1)]))
  refine Gl.st (fun t k => XS.i2b X2.here hx rfl (hb hby at_49) rfl k) ?_
  show Gl _ _ _ _ _ _ _ (T2.setTop (mkF m 50 #[.val (.long q1), .second, .val (.int p2), .val (.int p3), .val (.int p4), .val (.int p5), .val (.long vv), .second, .val (.int aa), .val (.int ee), .val (.ref b1), .unset, .unset, .unset, .unset, .unset, .unset, .unset, .unset] [(.int (((p5.toUInt32 >>> ((8 : Int32) &&& 31).toUInt32).toInt32).toInt8.toInt32)), (.int (9 : Int32)), (.ref b1)]))
  have Vx3 := V2
  obtain ⟨cl3, Ar3, qk3, S3, M3, H3, G3⟩ := Vx3
  have hin3 : ¬ ((9 : Int32) < 0 ∨ cl3.slots.size ≤ ((9 : Int32)).toNatClampNeg) := inb_of S3 ⟨by decide, by decide⟩
  obtain ⟨T3, h3, X3, e3, W3, st3⟩ := stB X2 hx hZ e2 Ar3 (j := (9 : Int32)) hin3 (g := (mkF m 50 #[.val (.long q1), .second, .val (.int p2), .val (.int p3), .val (.int p4), .val (.int p5), .val (.long vv), .second, .val (.int aa), .val (.int ee), .val (.ref b1), .unset, .unset, .unset, .unset, .unset, .unset, .unset, .unset] [(.int (((p5.toUInt32 >>> ((8 : Int32) &&& 31).toUInt32).toInt32).toInt8.toInt32)), (.int (9 : Int32)), (.ref b1)])) rfl rfl (hb hby at_50)
  refine Gl.st st3 ?_
  have Z3 : n0 ≤ h3.size := Nat.le_trans Z2 (Keep.of_wr W3).1
  have N3 := Fr.snoc X3 N2 gzb1
  have V3 : Arv Z h3 b1 k1 .byte (12 : Int32) [(.int (nar .byte (p5.toInt8.toInt32))), (.int (0 : Int32)), (.int (0 : Int32)), (.int (0 : Int32)), (.int (0 : Int32)), (.int (0 : Int32)), (.int (0 : Int32)), (.int (0 : Int32)), (.int (0 : Int32)), (.int (nar .byte (((p5.toUInt32 >>> ((8 : Int32) &&& 31).toUInt32).toInt32).toInt8.toInt32))), (.int (0 : Int32)), (.int (0 : Int32))] (.int (0 : Int32)) := Arv.set Ar3 qk3 S3 M3 H3 G3 (fits_nar_byte _) W3 9 rfl (Nat.le_of_ble_eq_true rfl)
  show Gl _ _ _ _ _ _ _ (T3.setTop (mkF m 51 #[.val (.long q1), .second, .val (.int p2), .val (.int p3), .val (.int p4), .val (.int p5), .val (.long vv), .second, .val (.int aa), .val (.int ee), .val (.ref b1), .unset, .unset, .unset, .unset, .unset, .unset, .unset, .unset] []))
  refine Gl.st (fun t k => XS.aload X3.here hx rfl (hb hby at_51) rfl rfl k) ?_
  show Gl _ _ _ _ _ _ _ (T3.setTop (mkF m 53 #[.val (.long q1), .second, .val (.int p2), .val (.int p3), .val (.int p4), .val (.int p5), .val (.long vv), .second, .val (.int aa), .val (.int ee), .val (.ref b1), .unset, .unset, .unset, .unset, .unset, .unset, .unset, .unset] [(.ref b1)]))
  refine Gl.st (fun t k => XS.bipush X3.here hx rfl (hb hby at_53) k) ?_
  show Gl _ _ _ _ _ _ _ (T3.setTop (mkF m 55 #[.val (.long q1), .second, .val (.int p2), .val (.int p3), .val (.int p4), .val (.int p5), .val (.long vv), .second, .val (.int aa), .val (.int ee), .val (.ref b1), .unset, .unset, .unset, .unset, .unset, .unset, .unset, .unset] [(.int (10 : Int32)), (.ref b1)]))
  refine Gl.st (fun t k => XS.iload X3.here hx rfl (hb hby at_55) rfl  k) ?_
  show Gl _ _ _ _ _ _ _ (T3.setTop (mkF m 57 #[.val (.long q1), .second, .val (.int p2), .val (.int p3), .val (.int p4), .val (.int p5), .val (.long vv), .second, .val (.int aa), .val (.int ee), .val (.ref b1), .unset, .unset, .unset, .unset, .unset, .unset, .unset, .unset] [(.int p5), (.int (10 : Int32)), (.ref b1)]))
  refine Gl.st (fun t k => XS.bipush X3.here hx rfl (hb hby at_57) k) ?_
  show Gl _ _ _ _ _ _ _ (T3.setTop (mkF m 59 #[.val (.long q1), .second, .val (.int p2), .val (.int p3), .val (.int p4), .val (.int p5), .val (.long vv), .second, .val (.int aa), .val (.int ee), .val (.ref b1), .unset, .unset, .unset, .unset, .unset, .unset, .unset, .unset] [(.int (16 : Int32)), (.int p5), (.int (10 : Int32)), (.ref b1)]))
  refine Gl.st (fun t k => XS.iushr X3.here hx rfl (hb hby at_59) rfl k) ?_
  show Gl _ _ _ _ _ _ _ (T3.setTop (mkF m 60 #[.val (.long q1), .second, .val (.int p2), .val (.int p3), .val (.int p4), .val (.int p5), .val (.long vv), .second, .val (.int aa), .val (.int ee), .val (.ref b1), .unset, .unset, .unset, .unset, .unset, .unset, .unset, .unset] [(.int ((p5.toUInt32 >>> ((16 : Int32) &&& 31).toUInt32).toInt32)), (.int (10 : Int32)), (.ref b1)]))
  refine Gl.st (fun t k => XS.i2b X3.here hx rfl (hb hby at_60) rfl k) ?_
  show Gl _ _ _ _ _ _ _ (T3.setTop (mkF m 61 #[.val (.long q1), .second, .val (.int p2), .val (.int p3), .val (.int p4), .val (.int p5), .val (.long vv), .second, .val (.int aa), .val (.int ee), .val (.ref b1), .unset, .unset, .unset, .unset, .unset, .unset, .unset, .unset] [(.int (((p5.toUInt32 >>> ((16 : Int32) &&& 31).toUInt32).toInt32).toInt8.toInt32)), (.int (10 : Int32)), (.ref b1)]))
  have Vx4 := V3
  obtain ⟨cl4, Ar4, qk4, S4, M4, H4, G4⟩ := Vx4
  have hin4 : ¬ ((10 : Int32) < 0 ∨ cl4.slots.size ≤ ((10 : Int32)).toNatClampNeg) := inb_of S4 ⟨by decide, by decide⟩
  obtain ⟨T4, h4, X4, e4, W4, st4⟩ := stB X3 hx hZ e3 Ar4 (j := (10 : Int32)) hin4 (g := (mkF m 61 #[.val (.long q1), .second, .val (.int p2), .val (.int p3), .val (.int p4), .val (.int p5), .val (.long vv), .second, .val (.int aa), .val (.int ee), .val (.ref b1), .unset, .unset, .unset, .unset, .unset, .unset, .unset, .unset] [(.int (((p5.toUInt32 >>> ((16 : Int32) &&& 31).toUInt32).toInt32).toInt8.toInt32)), (.int (10 : Int32)), (.ref b1)])) rfl rfl (hb hby at_61)
  refine Gl.st st4 ?_
  have Z4 : n0 ≤ h4.size := Nat.le_trans Z3 (Keep.of_wr W4).1
  have N4 := Fr.snoc X4 N3 gzb1
  have V4 : Arv Z h4 b1 k1 .byte (12 : Int32) [(.int (nar .byte (p5.toInt8.toInt32))), (.int (0 : Int32)), (.int (0 : Int32)), (.int (0 : Int32)), (.int (0 : Int32)), (.int (0 : Int32)), (.int (0 : Int32)), (.int (0 : Int32)), (.int (0 : Int32)), (.int (nar .byte (((p5.toUInt32 >>> ((8 : Int32) &&& 31).toUInt32).toInt32).toInt8.toInt32))), (.int (nar .byte (((p5.toUInt32 >>> ((16 : Int32) &&& 31).toUInt32).toInt32).toInt8.toInt32))), (.int (0 : Int32))] (.int (0 : Int32)) := Arv.set Ar4 qk4 S4 M4 H4 G4 (fits_nar_byte _) W4 10 rfl (Nat.le_of_ble_eq_true rfl)
  show Gl _ _ _ _ _ _ _ (T4.setTop (mkF m 62 #[.val (.long q1), .second, .val (.int p2), .val (.int p3), .val (.int p4), .val (.int p5), .val (.long vv), .second, .val (.int aa), .val (.int ee), .val (.ref b1), .unset, .unset, .unset, .unset, .unset, .unset, .unset, .unset] []))
  refine Gl.st (fun t k => XS.aload X4.here hx rfl (hb hby at_62) rfl rfl k) ?_
  show Gl _ _ _ _ _ _ _ (T4.setTop (mkF m 64 #[.val (.long q1), .second, .val (.int p2), .val (.int p3), .val (.int p4), .val (.int p5), .val (.long vv), .second, .val (.int aa), .val (.int ee), .val (.ref b1), .unset, .unset, .unset, .unset, .unset, .unset, .unset, .unset] [(.ref b1)]))
  refine Gl.st (fun t k => XS.bipush X4.here hx rfl (hb hby at_64) k) ?_
  show Gl _ _ _ _ _ _ _ (T4.setTop (mkF m 66 #[.val (.long q1), .second, .val (.int p2), .val (.int p3), .val (.int p4), .val (.int p5), .val (.long vv), .second, .val (.int aa), .val (.int ee), .val (.ref b1), .unset, .unset, .unset, .unset, .unset, .unset, .unset, .unset] [(.int (11 : Int32)), (.ref b1)]))
  refine Gl.st (fun t k => XS.iload X4.here hx rfl (hb hby at_66) rfl  k) ?_
  show Gl _ _ _ _ _ _ _ (T4.setTop (mkF m 68 #[.val (.long q1), .second, .val (.int p2), .val (.int p3), .val (.int p4), .val (.int p5), .val (.long vv), .second, .val (.int aa), .val (.int ee), .val (.ref b1), .unset, .unset, .unset, .unset, .unset, .unset, .unset, .unset] [(.int p5), (.int (11 : Int32)), (.ref b1)]))
  refine Gl.st (fun t k => XS.bipush X4.here hx rfl (hb hby at_68) k) ?_
  show Gl _ _ _ _ _ _ _ (T4.setTop (mkF m 70 #[.val (.long q1), .second, .val (.int p2), .val (.int p3), .val (.int p4), .val (.int p5), .val (.long vv), .second, .val (.int aa), .val (.int ee), .val (.ref b1), .unset, .unset, .unset, .unset, .unset, .unset, .unset, .unset] [(.int (24 : Int32)), (.int p5), (.int (11 : Int32)), (.ref b1)]))
  refine Gl.st (fun t k => XS.iushr X4.here hx rfl (hb hby at_70) rfl k) ?_
  show Gl _ _ _ _ _ _ _ (T4.setTop (mkF m 71 #[.val (.long q1), .second, .val (.int p2), .val (.int p3), .val (.int p4), .val (.int p5), .val (.long vv), .second, .val (.int aa), .val (.int ee), .val (.ref b1), .unset, .unset, .unset, .unset, .unset, .unset, .unset, .unset] [(.int ((p5.toUInt32 >>> ((24 : Int32) &&& 31).toUInt32).toInt32)), (.int (11 : Int32)), (.ref b1)]))
  refine Gl.st (fun t k => XS.i2b X4.here hx rfl (hb hby at_71) rfl k) ?_
  show Gl _ _ _ _ _ _ _ (T4.setTop (mkF m 72 #[.val (.long q1), .second, .val (.int p2), .val (.int p3), .val (.int p4), .val (.int p5), .val (.long vv), .second, .val (.int aa), .val (.int ee), .val (.ref b1), .unset, .unset, .unset, .unset, .unset, .unset, .unset, .unset] [(.int (((p5.toUInt32 >>> ((24 : Int32) &&& 31).toUInt32).toInt32).toInt8.toInt32)), (.int (11 : Int32)), (.ref b1)]))
  have Vx5 := V4
  obtain ⟨cl5, Ar5, qk5, S5, M5, H5, G5⟩ := Vx5
  have hin5 : ¬ ((11 : Int32) < 0 ∨ cl5.slots.size ≤ ((11 : Int32)).toNatClampNeg) := inb_of S5 ⟨by decide, by decide⟩
  obtain ⟨T5, h5, X5, e5, W5, st5⟩ := stB X4 hx hZ e4 Ar5 (j := (11 : Int32)) hin5 (g := (mkF m 72 #[.val (.long q1), .second, .val (.int p2), .val (.int p3), .val (.int p4), .val (.int p5), .val (.long vv), .second, .val (.int aa), .val (.int ee), .val (.ref b1), .unset, .unset, .unset, .unset, .unset, .unset, .unset, .unset] [(.int (((p5.toUInt32 >>> ((24 : Int32) &&& 31).toUInt32).toInt32).toInt8.toInt32)), (.int (11 : Int32)), (.ref b1)])) rfl rfl (hb hby at_72)
  refine Gl.st st5 ?_
  have Z5 : n0 ≤ h5.size := Nat.le_trans Z4 (Keep.of_wr W5).1
  have N5 := Fr.snoc X5 N4 gzb1
  have V5 : Arv Z h5 b1 k1 .byte (12 : Int32) [(.int (nar .byte (p5.toInt8.toInt32))), (.int (0 : Int32)), (.int (0 : Int32)), (.int (0 : Int32)), (.int (0 : Int32)), (.int (0 : Int32)), (.int (0 : Int32)), (.int (0 : Int32)), (.int (0 : Int32)), (.int (nar .byte (((p5.toUInt32 >>> ((8 : Int32) &&& 31).toUInt32).toInt32).toInt8.toInt32))), (.int (nar .byte (((p5.toUInt32 >>> ((16 : Int32) &&& 31).toUInt32).toInt32).toInt8.toInt32))), (.int (nar .byte (((p5.toUInt32 >>> ((24 : Int32) &&& 31).toUInt32).toInt32).toInt8.toInt32)))] (.int (0 : Int32)) := Arv.set Ar5 qk5 S5 M5 H5 G5 (fits_nar_byte _) W5 11 rfl (Nat.le_of_ble_eq_true rfl)
  have hvv2 : 0 ≤ vv.toInt := by rw [hvv]; exact own_value _ _
  have haa2 : 0 ≤ aa.toInt ∧ aa.toInt ≤ 1 := by rw [haa]; exact own_at2 _
  have hee2 : 0 ≤ ee.toInt ∧ ee.toInt ≤ 12 := by rw [hee]; exact own_end13 _
  have hls := own_len_spec vv hvv2
  have hpj : aa.toInt = (aa.toInt.toNat : Int) := (Int.toNat_of_nonneg haa2.1).symm
  have hpv : vv.toInt = (vv.toInt.toNat : Int) := (Int.toNat_of_nonneg hvv2).symm
  have hpV := hls.2.2.1
  have hpn1 : 1 ≤ (own_len vv).toInt.toNat := by omega
  have hpn2 := hls.2.2.2
  have hpjn : aa.toInt.toNat + (own_len vv).toInt.toNat ≤ 12 := by omega
  have hpn9 : (own_len vv).toInt.toNat ≤ 9 := by omega
  have hpE : ee.toInt ≤ 12 := hee2.2
  show Gl _ _ _ _ _ _ _ (T5.setTop (mkF m 73 #[.val (.long q1), .second, .val (.int p2), .val (.int p3), .val (.int p4), .val (.int p5), .val (.long vv), .second, .val (.int aa), .val (.int ee), .val (.ref b1), .unset, .unset, .unset, .unset, .unset, .unset, .unset, .unset] []))
  refine Gl.st (fun t k => XS.aload X5.here hx rfl (hb hby at_73) rfl rfl k) ?_
  show Gl _ _ _ _ _ _ _ (T5.setTop (mkF m 75 #[.val (.long q1), .second, .val (.int p2), .val (.int p3), .val (.int p4), .val (.int p5), .val (.long vv), .second, .val (.int aa), .val (.int ee), .val (.ref b1), .unset, .unset, .unset, .unset, .unset, .unset, .unset, .unset] [(.ref b1)]))
  refine Gl.st (fun t k => XS.iload X5.here hx rfl (hb hby at_75) rfl  k) ?_
  show Gl _ _ _ _ _ _ _ (T5.setTop (mkF m 77 #[.val (.long q1), .second, .val (.int p2), .val (.int p3), .val (.int p4), .val (.int p5), .val (.long vv), .second, .val (.int aa), .val (.int ee), .val (.ref b1), .unset, .unset, .unset, .unset, .unset, .unset, .unset, .unset] [(.int aa), (.ref b1)]))
  refine Gl.st (fun t k => XS.lload X5.here hx rfl (hb hby at_77) rfl  k) ?_
  show Gl _ _ _ _ _ _ _ (T5.setTop (mkF m 79 #[.val (.long q1), .second, .val (.int p2), .val (.int p3), .val (.int p4), .val (.int p5), .val (.long vv), .second, .val (.int aa), .val (.int ee), .val (.ref b1), .unset, .unset, .unset, .unset, .unset, .unset, .unset, .unset] [(.long vv), (.int aa), (.ref b1)]))
  obtain ⟨_, _, ⟨T6, L6, k6, n6⟩, -, X6, ⟨Lc6, hQ6, l6, y6, z6⟩, st6⟩ := Jvm.LawKit.callS X5 hx (y := (⟨"com/example/millrace/millrace/storage/PackedGroups", "put", "([BIJ)I"⟩ : MethodName)) hown (mvT hZ (hw _ (List.mem_of_getElem? (i := 3) rfl))) (mvT hZ (hw _ (List.mem_of_getElem? (i := 4) rfl))) (mvT hZ (hw _ (List.mem_of_getElem? (i := 5) rfl))) (mvT hZ (hw _ (List.mem_of_getElem? (i := 6) rfl))) (by decide) (backOf (W := 0) (rm1 l Z a0 hw [] b1 aa vv (k1) ([(nar .byte (p5.toInt8.toInt32)), (0 : Int32), (0 : Int32), (0 : Int32), (0 : Int32), (0 : Int32), (0 : Int32), (0 : Int32), (0 : Int32), (nar .byte (((p5.toUInt32 >>> ((8 : Int32) &&& 31).toUInt32).toInt32).toInt8.toInt32)), (nar .byte (((p5.toUInt32 >>> ((16 : Int32) &&& 31).toUInt32).toInt32).toInt8.toInt32)), (nar .byte (((p5.toUInt32 >>> ((24 : Int32) &&& 31).toUInt32).toInt32).toInt8.toInt32))]) (aa.toInt.toNat) ((own_len vv).toInt.toNat) (vv.toInt.toNat) h5 n0 Z5 V5 gzb1 hpj hpv hpV hpn1 hpn2 hpjn rfl) hZ (hw _ (List.mem_of_getElem? (i := 6) rfl)) (hw _ (List.mem_of_getElem? (i := 5) rfl)) (by decide) (by decide)) (g := (mkF m 79 #[.val (.long q1), .second, .val (.int p2), .val (.int p3), .val (.int p4), .val (.int p5), .val (.long vv), .second, .val (.int aa), .val (.int ee), .val (.ref b1), .unset, .unset, .unset, .unset, .unset, .unset, .unset, .unset] [(.long vv), (.int aa), (.ref b1)])) rfl (by rw [hml]; rfl) (argsL := [(.ref b1), (.int aa), (.long vv)]) (rest := []) (lenOf pd_0 rfl) rfl (by show 2 * 0 + _ ≤ _; exact Nat.le_of_eq rfl) (hb hby at_79) (fun _ _ => ⟨rfl, e5, (by decide : 1 + 0 ≤ _), (by decide : 12 + 0 ≤ _)⟩)
  dsimp only [Pt.U, Pt.locs, Pt.cells, Pt.slots] at X6 l6 y6 z6 st6 hQ6
  rw [y6, z6] at X6
  obtain ⟨rfl, N6q, Kq6, vo_6, Fq6_0, Pq6_0, Pq6_1, Pq6_2⟩ := hQ6
  have N6 : Fr n0 L6 := by rw [l6]; exact Fr.app N5 N6q
  have Z6 : n0 ≤ T6.heap.size := Nat.le_trans Z5 Kq6.1
  refine Gl.st st6 ?_
  show Gl _ _ _ _ _ _ _ (T6.setTop (mkF m 82 #[.val (.long q1), .second, .val (.int p2), .val (.int p3), .val (.int p4), .val (.int p5), .val (.long vv), .second, .val (.int aa), .val (.int ee), .val (.ref b1), .unset, .unset, .unset, .unset, .unset, .unset, .unset, .unset] [(.int (Int32.ofInt ((aa.toInt.toNat + (own_len vv).toInt.toNat : Nat) : Int)))]))
  refine Gl.st (fun t k => XS.istore X6.here hx rfl (hb hby at_82) rfl (l' := #[.val (.long q1), .second, .val (.int p2), .val (.int p3), .val (.int p4), .val (.int p5), .val (.long vv), .second, .val (.int aa), .val (.int ee), .val (.ref b1), .val (.int (Int32.ofInt ((aa.toInt.toNat + (own_len vv).toInt.toNat : Nat) : Int))), .unset, .unset, .unset, .unset, .unset, .unset, .unset]) rfl k) ?_
  show Gl _ _ _ _ _ _ _ (T6.setTop (mkF m 84 #[.val (.long q1), .second, .val (.int p2), .val (.int p3), .val (.int p4), .val (.int p5), .val (.long vv), .second, .val (.int aa), .val (.int ee), .val (.ref b1), .val (.int (Int32.ofInt ((aa.toInt.toNat + (own_len vv).toInt.toNat : Nat) : Int))), .unset, .unset, .unset, .unset, .unset, .unset, .unset] []))
  obtain ⟨nx, hnx⟩ : ∃ z : Int32, z = (Int32.ofInt ((aa.toInt.toNat + (own_len vv).toInt.toNat : Nat) : Int)) := ⟨_, rfl⟩
  rw [← hnx]
  have hpB := Pq6_1
  have hnx2 : nx.toInt = ((aa.toInt.toNat + (own_len vv).toInt.toNat : Nat) : Int) := by rw [hnx]; exact own_toOf (by omega)
  show Gl _ _ _ _ _ _ _ (T6.setTop (mkF m 84 #[.val (.long q1), .second, .val (.int p2), .val (.int p3), .val (.int p4), .val (.int p5), .val (.long vv), .second, .val (.int aa), .val (.int ee), .val (.ref b1), .val (.int nx), .unset, .unset, .unset, .unset, .unset, .unset, .unset] []))
  refine Gl.st (fun t k => XS.lload X6.here hx rfl (hb hby at_84) rfl  k) ?_
  show Gl _ _ _ _ _ _ _ (T6.setTop (mkF m 86 #[.val (.long q1), .second, .val (.int p2), .val (.int p3), .val (.int p4), .val (.int p5), .val (.long vv), .second, .val (.int aa), .val (.int ee), .val (.ref b1), .val (.int nx), .unset, .unset, .unset, .unset, .unset, .unset, .unset] [(.long vv)]))
  obtain ⟨_, _, ⟨T7, L7, k7, n7⟩, -, X7, ⟨Lc7, hQ7, l7, y7, z7⟩, st7⟩ := Jvm.LawKit.callS X6 hx (y := (⟨"com/example/millrace/millrace/storage/ReaderNumberPinLaw", "length", "(J)I"⟩ : MethodName)) hown (mvT hZ (hw _ (List.mem_of_getElem? (i := 8) rfl))) (mvT hZ (hw _ (List.mem_of_getElem? (i := 9) rfl))) (mvT hZ (hw _ (List.mem_of_getElem? (i := 10) rfl))) (mvT hZ (hw _ (List.mem_of_getElem? (i := 11) rfl))) (by decide) (backOf (W := 0) (rm2 l Z a0 hw [] vv T6.heap n0) hZ (hw _ (List.mem_of_getElem? (i := 11) rfl)) (hw _ (List.mem_of_getElem? (i := 10) rfl)) (by decide) (by decide)) (g := (mkF m 86 #[.val (.long q1), .second, .val (.int p2), .val (.int p3), .val (.int p4), .val (.int p5), .val (.long vv), .second, .val (.int aa), .val (.int ee), .val (.ref b1), .val (.int nx), .unset, .unset, .unset, .unset, .unset, .unset, .unset] [(.long vv)])) rfl (by rw [hml]; rfl) (argsL := [(.long vv)]) (rest := []) (lenOf pd_1 rfl) rfl (by show 2 * 0 + _ ≤ _; exact Nat.le_of_eq rfl) (hb hby at_86) (fun _ _ => ⟨rfl, rfl, (by decide : 1 + 0 ≤ _), (by decide : 12 + 0 ≤ _)⟩)
  dsimp only [Pt.U, Pt.locs, Pt.cells, Pt.slots] at X7 l7 y7 z7 st7 hQ7
  rw [y7, z7] at X7
  obtain ⟨rfl, N7q, e7⟩ := hQ7
  have N7 : Fr n0 L7 := by rw [l7]; exact Fr.app N6 N7q
  refine Gl.st st7 ?_
  show Gl _ _ _ _ _ _ _ (T7.setTop (mkF m 89 #[.val (.long q1), .second, .val (.int p2), .val (.int p3), .val (.int p4), .val (.int p5), .val (.long vv), .second, .val (.int aa), .val (.int ee), .val (.ref b1), .val (.int nx), .unset, .unset, .unset, .unset, .unset, .unset, .unset] [(.int (own_len vv))]))
  refine Gl.st (fun t k => XS.istore X7.here hx rfl (hb hby at_89) rfl (l' := #[.val (.long q1), .second, .val (.int p2), .val (.int p3), .val (.int p4), .val (.int p5), .val (.long vv), .second, .val (.int aa), .val (.int ee), .val (.ref b1), .val (.int nx), .val (.int (own_len vv)), .unset, .unset, .unset, .unset, .unset, .unset]) rfl k) ?_
  show Gl _ _ _ _ _ _ _ (T7.setTop (mkF m 91 #[.val (.long q1), .second, .val (.int p2), .val (.int p3), .val (.int p4), .val (.int p5), .val (.long vv), .second, .val (.int aa), .val (.int ee), .val (.ref b1), .val (.int nx), .val (.int (own_len vv)), .unset, .unset, .unset, .unset, .unset, .unset] []))
  refine Gl.st (fun t k => XS.iload X7.here hx rfl (hb hby at_91) rfl  k) ?_
  show Gl _ _ _ _ _ _ _ (T7.setTop (mkF m 93 #[.val (.long q1), .second, .val (.int p2), .val (.int p3), .val (.int p4), .val (.int p5), .val (.long vv), .second, .val (.int aa), .val (.int ee), .val (.ref b1), .val (.int nx), .val (.int (own_len vv)), .unset, .unset, .unset, .unset, .unset, .unset] [(.int nx)]))
  refine Gl.st (fun t k => XS.iload X7.here hx rfl (hb hby at_93) rfl  k) ?_
  show Gl _ _ _ _ _ _ _ (T7.setTop (mkF m 95 #[.val (.long q1), .second, .val (.int p2), .val (.int p3), .val (.int p4), .val (.int p5), .val (.long vv), .second, .val (.int aa), .val (.int ee), .val (.ref b1), .val (.int nx), .val (.int (own_len vv)), .unset, .unset, .unset, .unset, .unset, .unset] [(.int aa), (.int nx)]))
  refine Gl.st (fun t k => XS.iload X7.here hx rfl (hb hby at_95) rfl  k) ?_
  show Gl _ _ _ _ _ _ _ (T7.setTop (mkF m 97 #[.val (.long q1), .second, .val (.int p2), .val (.int p3), .val (.int p4), .val (.int p5), .val (.long vv), .second, .val (.int aa), .val (.int ee), .val (.ref b1), .val (.int nx), .val (.int (own_len vv)), .unset, .unset, .unset, .unset, .unset, .unset] [(.int (own_len vv)), (.int aa), (.int nx)]))
  refine Gl.st (fun t k => XS.iadd X7.here hx rfl (hb hby at_97) rfl k) ?_
  show Gl _ _ _ _ _ _ _ (T7.setTop (mkF m 98 #[.val (.long q1), .second, .val (.int p2), .val (.int p3), .val (.int p4), .val (.int p5), .val (.long vv), .second, .val (.int aa), .val (.int ee), .val (.ref b1), .val (.int nx), .val (.int (own_len vv)), .unset, .unset, .unset, .unset, .unset, .unset] [(.int (aa + (own_len vv))), (.int nx)]))
  have hc98_8 : nx = (aa + (own_len vv)) := by rw [← Int32.toInt_inj, hnx2]; have q := c_iadd aa (own_len vv); have q2 := rng32 (aa + own_len vv); omega
  refine Gl.st (fun t k => XS.icmpYes X7.here hx rfl (pc0 := 98) (pc' := 103) rfl (hb hby at_98) rfl (teq hc98_8).1 (by decide) (by decide) k) ?_
  show Gl _ _ _ _ _ _ _ (T7.setTop (mkF m 103 #[.val (.long q1), .second, .val (.int p2), .val (.int p3), .val (.int p4), .val (.int p5), .val (.long vv), .second, .val (.int aa), .val (.int ee), .val (.ref b1), .val (.int nx), .val (.int (own_len vv)), .unset, .unset, .unset, .unset, .unset, .unset] []))
  obtain ⟨T9, h9, X9, e9, E9, A9, D9, -, st9⟩ := newO X7 hx hZ hown (hw _ (List.mem_of_getElem? (i := 13) rfl)) (hw _ (List.mem_of_getElem? (i := 14) rfl)) (hw _ (List.mem_of_getElem? (i := 15) rfl)) e7 (g := (mkF m 103 #[.val (.long q1), .second, .val (.int p2), .val (.int p3), .val (.int p4), .val (.int p5), .val (.long vv), .second, .val (.int aa), .val (.int ee), .val (.ref b1), .val (.int nx), .val (.int (own_len vv)), .unset, .unset, .unset, .unset, .unset, .unset] [])) rfl (hb hby at_103) (by decide) (by decide)
  obtain ⟨b9, g9⟩ : ∃ z, z = T6.heap.size := ⟨_, rfl⟩
  rw [← g9] at A9 D9 st9
  refine Gl.st st9 ?_
  have ne_b1_b9 : b1 ≠ b9 := Nat.ne_of_lt (Nat.lt_of_lt_of_le Fq6_0.lt (Nat.le_of_eq g9.symm))
  have gzb9 : n0 ≤ b9 := Nat.le_trans Z6 (Nat.le_of_eq g9.symm)
  have Z9 : n0 ≤ h9.size := Nat.le_trans Z6 E9.1
  have Fq6_0'10 : Arv Z h9 b1 k1 .byte (12 : Int32) (vo_6.map Value.int) (.int (0 : Int32)) := Fq6_0.ext E9
  have F9_bytes : Fld Z h9 b9 "com/example/millrace/millrace/storage/PackedGroups$Reader" "bytes" "[B" .null := D9 (Or.inr (hw _ (List.mem_of_getElem? (i := 23) rfl))) (ty := (.array .byte)) (by decide)
  have F9_end : Fld Z h9 b9 "com/example/millrace/millrace/storage/PackedGroups$Reader" "end" "I" (.int (0 : Int32)) := D9 (Or.inr (hw _ (List.mem_of_getElem? (i := 25) rfl))) (ty := .int) (by decide)
  have F9_at : Fld Z h9 b9 "com/example/millrace/millrace/storage/PackedGroups$Reader" "at" "I" (.int (0 : Int32)) := D9 (Or.inl (hw _ (List.mem_of_getElem? (i := 27) rfl))) (ty := .int) (by decide)
  have F9_offset : Fld Z h9 b9 "com/example/millrace/millrace/storage/PackedGroups$Reader" "offset" "J" (.long (0 : Int64)) := D9 (Or.inl (hw _ (List.mem_of_getElem? (i := 29) rfl))) (ty := .long) (by decide)
  have F9_endOffset : Fld Z h9 b9 "com/example/millrace/millrace/storage/PackedGroups$Reader" "endOffset" "J" (.long (0 : Int64)) := D9 (Or.inl (hw _ (List.mem_of_getElem? (i := 31) rfl))) (ty := .long) (by decide)
  have F9_position : Fld Z h9 b9 "com/example/millrace/millrace/storage/PackedGroups$Reader" "position" "J" (.long (0 : Int64)) := D9 (Or.inl (hw _ (List.mem_of_getElem? (i := 33) rfl))) (ty := .long) (by decide)
  have F9_endPosition : Fld Z h9 b9 "com/example/millrace/millrace/storage/PackedGroups$Reader" "endPosition" "J" (.long (0 : Int64)) := D9 (Or.inl (hw _ (List.mem_of_getElem? (i := 35) rfl))) (ty := .long) (by decide)
  show Gl _ _ _ _ _ _ _ (T9.setTop (mkF m 106 #[.val (.long q1), .second, .val (.int p2), .val (.int p3), .val (.int p4), .val (.int p5), .val (.long vv), .second, .val (.int aa), .val (.int ee), .val (.ref b1), .val (.int nx), .val (.int (own_len vv)), .unset, .unset, .unset, .unset, .unset, .unset] [(.ref b9)]))
  refine Gl.st (fun t k => XS.dup X9.here hx rfl (hb hby at_106) rfl rfl k) ?_
  show Gl _ _ _ _ _ _ _ (T9.setTop (mkF m 107 #[.val (.long q1), .second, .val (.int p2), .val (.int p3), .val (.int p4), .val (.int p5), .val (.long vv), .second, .val (.int aa), .val (.int ee), .val (.ref b1), .val (.int nx), .val (.int (own_len vv)), .unset, .unset, .unset, .unset, .unset, .unset] [(.ref b9), (.ref b9)]))
  refine Gl.st (fun t k => XS.aload X9.here hx rfl (hb hby at_107) rfl rfl k) ?_
  show Gl _ _ _ _ _ _ _ (T9.setTop (mkF m 109 #[.val (.long q1), .second, .val (.int p2), .val (.int p3), .val (.int p4), .val (.int p5), .val (.long vv), .second, .val (.int aa), .val (.int ee), .val (.ref b1), .val (.int nx), .val (.int (own_len vv)), .unset, .unset, .unset, .unset, .unset, .unset] [(.ref b1), (.ref b9), (.ref b9)]))
  refine Gl.st (fun t k => XS.iload X9.here hx rfl (hb hby at_109) rfl  k) ?_
  show Gl _ _ _ _ _ _ _ (T9.setTop (mkF m 111 #[.val (.long q1), .second, .val (.int p2), .val (.int p3), .val (.int p4), .val (.int p5), .val (.long vv), .second, .val (.int aa), .val (.int ee), .val (.ref b1), .val (.int nx), .val (.int (own_len vv)), .unset, .unset, .unset, .unset, .unset, .unset] [(.int aa), (.ref b1), (.ref b9), (.ref b9)]))
  refine Gl.st (fun t k => XS.iload X9.here hx rfl (hb hby at_111) rfl  k) ?_
  show Gl _ _ _ _ _ _ _ (T9.setTop (mkF m 113 #[.val (.long q1), .second, .val (.int p2), .val (.int p3), .val (.int p4), .val (.int p5), .val (.long vv), .second, .val (.int aa), .val (.int ee), .val (.ref b1), .val (.int nx), .val (.int (own_len vv)), .unset, .unset, .unset, .unset, .unset, .unset] [(.int ee), (.int aa), (.ref b1), (.ref b9), (.ref b9)]))
  refine Gl.st (fun t k => XS.lconst X9.here hx rfl (hb hby at_113) k) ?_
  show Gl _ _ _ _ _ _ _ (T9.setTop (mkF m 114 #[.val (.long q1), .second, .val (.int p2), .val (.int p3), .val (.int p4), .val (.int p5), .val (.long vv), .second, .val (.int aa), .val (.int ee), .val (.ref b1), .val (.int nx), .val (.int (own_len vv)), .unset, .unset, .unset, .unset, .unset, .unset] [(.long (0 : Int64)), (.int ee), (.int aa), (.ref b1), (.ref b9), (.ref b9)]))
  refine Gl.st (fun t k => XS.lconst X9.here hx rfl (hb hby at_114) k) ?_
  show Gl _ _ _ _ _ _ _ (T9.setTop (mkF m 115 #[.val (.long q1), .second, .val (.int p2), .val (.int p3), .val (.int p4), .val (.int p5), .val (.long vv), .second, .val (.int aa), .val (.int ee), .val (.ref b1), .val (.int nx), .val (.int (own_len vv)), .unset, .unset, .unset, .unset, .unset, .unset] [(.long (0 : Int64)), (.long (0 : Int64)), (.int ee), (.int aa), (.ref b1), (.ref b9), (.ref b9)]))
  obtain ⟨_, _, ⟨T11, L11, k11, n11⟩, -, X11, ⟨Lc11, hQ11, l11, y11, z11⟩, st11⟩ := X9.specialBack hx (y := (⟨"com/example/millrace/millrace/storage/PackedGroups$Reader", "<init>", "([BIIJJ)V"⟩ : MethodName)) rfl hown (mvT hZ (hw _ (List.mem_of_getElem? (i := 16) rfl))) (mvT hZ (hw _ (List.mem_of_getElem? (i := 17) rfl))) (mvT hZ (hw _ (List.mem_of_getElem? (i := 18) rfl))) (by decide) (backOf (W := 1) (rm3 l Z a0 hw [] b9 b1 aa ee (0 : Int64) (0 : Int64) (.null) ((.int (0 : Int32))) ((.int (0 : Int32))) ((.long (0 : Int64))) ((.long (0 : Int64))) ((.long (0 : Int64))) ((.long (0 : Int64))) h9 n0 Z9 A9 F9_bytes F9_end F9_at F9_offset F9_endOffset F9_position F9_endPosition gzb9) hZ (hw _ (List.mem_of_getElem? (i := 18) rfl)) (hw _ (List.mem_of_getElem? (i := 15) rfl)) (by decide) (by decide)) (g := (mkF m 115 #[.val (.long q1), .second, .val (.int p2), .val (.int p3), .val (.int p4), .val (.int p5), .val (.long vv), .second, .val (.int aa), .val (.int ee), .val (.ref b1), .val (.int nx), .val (.int (own_len vv)), .unset, .unset, .unset, .unset, .unset, .unset] [(.long (0 : Int64)), (.long (0 : Int64)), (.int ee), (.int aa), (.ref b1), (.ref b9), (.ref b9)])) rfl (by rw [hml]; rfl) (Steps.refl _) (a := b9) (argsL := [(.ref b1), (.int aa), (.int ee), (.long (0 : Int64)), (.long (0 : Int64))]) (rest := [(.ref b9)]) (lenOf pd_2 rfl) rfl (by show 2 * 0 + _ ≤ _; exact Nat.le_of_eq rfl) (hb hby at_115) (fun _ _ => ⟨rfl, e9, (by decide : 2 + 0 ≤ _), (by decide : 19 + 0 ≤ _)⟩)
  dsimp only [Pt.U, Pt.locs, Pt.cells, Pt.slots] at X11 l11 y11 z11 st11 hQ11
  rw [y11, z11] at X11
  obtain ⟨rfl, N11q, Kq11, Fq11_0, Fq11_1, Fq11_2, Fq11_3, Fq11_4, Fq11_5, Fq11_6, Fq11_7⟩ := hQ11
  have N11 : Fr n0 L11 := by rw [l11]; exact Fr.app N7 N11q
  have Z11 : n0 ≤ T11.heap.size := Nat.le_trans Z9 Kq11.1
  have Fq6_0'12 : Arv Z T11.heap b1 k1 .byte (12 : Int32) (vo_6.map Value.int) (.int (0 : Int32)) := Fq6_0'10.keep Kq11 (ninS ne_b1_b9 nin0)
  refine Gl.to st11 ?_
  show Gl _ _ _ _ _ _ _ (T11.setTop (mkF m 118 #[.val (.long q1), .second, .val (.int p2), .val (.int p3), .val (.int p4), .val (.int p5), .val (.long vv), .second, .val (.int aa), .val (.int ee), .val (.ref b1), .val (.int nx), .val (.int (own_len vv)), .unset, .unset, .unset, .unset, .unset, .unset] [(.ref b9)]))
  refine Gl.st (fun t k => XS.astore X11.here hx rfl (hb hby at_118) rfl rfl (l' := #[.val (.long q1), .second, .val (.int p2), .val (.int p3), .val (.int p4), .val (.int p5), .val (.long vv), .second, .val (.int aa), .val (.int ee), .val (.ref b1), .val (.int nx), .val (.int (own_len vv)), .val (.ref b9), .unset, .unset, .unset, .unset, .unset]) rfl k) ?_
  show Gl _ _ _ _ _ _ _ (T11.setTop (mkF m 120 #[.val (.long q1), .second, .val (.int p2), .val (.int p3), .val (.int p4), .val (.int p5), .val (.long vv), .second, .val (.int aa), .val (.int ee), .val (.ref b1), .val (.int nx), .val (.int (own_len vv)), .val (.ref b9), .unset, .unset, .unset, .unset, .unset] []))
  refine Gl.st (fun t k => XS.aload X11.here hx rfl (hb hby at_120) rfl rfl k) ?_
  show Gl _ _ _ _ _ _ _ (T11.setTop (mkF m 122 #[.val (.long q1), .second, .val (.int p2), .val (.int p3), .val (.int p4), .val (.int p5), .val (.long vv), .second, .val (.int aa), .val (.int ee), .val (.ref b1), .val (.int nx), .val (.int (own_len vv)), .val (.ref b9), .unset, .unset, .unset, .unset, .unset] [(.ref b9)]))
  obtain ⟨cq13, kq13, qa13, qb13, qc13⟩ := isOf hZ rfl Fq11_0
  obtain ⟨_, _, ⟨T13, L13, k13, n13⟩, -, X13, ⟨Lc13, hQ13, l13, y13, z13⟩, st13⟩ := X11.virtualBack hx (y := (⟨"com/example/millrace/millrace/storage/PackedGroups$Reader", "number", "()J"⟩ : MethodName)) (z := (⟨"com/example/millrace/millrace/storage/PackedGroups$Reader", "number", "()J"⟩ : MethodName)) hown (mvT hZ (hw _ (List.mem_of_getElem? (i := 36) rfl))) (mvT hZ (hw _ (List.mem_of_getElem? (i := 37) rfl))) (notFace_of_selects (args := #[]) (mvT hZ (hw _ (List.mem_of_getElem? (i := 39) rfl)))) (mvT hZ (hw _ (List.mem_of_getElem? (i := 39) rfl))) (mvT hZ (hw _ (List.mem_of_getElem? (i := 38) rfl))) (by decide) (backOf (W := 0) (rm5 l Z a0 hw [] b9 (b1) (aa) (ee) (k1) (vo_6) (aa.toInt.toNat) ((own_len vv).toInt.toNat) (vv.toInt.toNat) (min (own_len vv).toInt.toNat (ee.toInt - (aa.toInt.toNat : Int)).toNat) T11.heap n0 Z11 Fq11_0 Fq11_1 Fq11_3 Fq11_2 Fq6_0'12 gzb9 ne_b1_b9 hpj rfl hpE hpn1 hpn9 hpB) hZ (hw _ (List.mem_of_getElem? (i := 40) rfl)) (hw _ (List.mem_of_getElem? (i := 15) rfl)) (by decide) (by decide)) qa13 qc13 (g := (mkF m 122 #[.val (.long q1), .second, .val (.int p2), .val (.int p3), .val (.int p4), .val (.int p5), .val (.long vv), .second, .val (.int aa), .val (.int ee), .val (.ref b1), .val (.int nx), .val (.int (own_len vv)), .val (.ref b9), .unset, .unset, .unset, .unset, .unset] [(.ref b9)])) rfl (by rw [hml]; rfl) (Steps.refl _) (argsL := []) (rest := []) (lenOf pd_3 rfl) rfl (by show 2 * 0 + _ ≤ _; exact Nat.le_of_eq rfl) (hb hby at_122) (fun _ _ => ⟨rfl, rfl, (by decide : 2 + 0 ≤ _), (by decide : 19 + 0 ≤ _)⟩)
  dsimp only [Pt.U, Pt.locs, Pt.cells, Pt.slots] at X13 l13 y13 z13 st13 hQ13
  rw [y13, z13] at X13
  obtain ⟨rfl, N13q, Kq13, Fq13_0, Fq13_1, Fq13_2, Fq13_3⟩ := hQ13
  have N13 : Fr n0 L13 := by rw [l13]; exact Fr.app N11 N13q
  have Z13 : n0 ≤ T13.heap.size := Nat.le_trans Z11 Kq13.1
  have Fq6_0'14 : Arv Z T13.heap b1 k1 .byte (12 : Int32) (vo_6.map Value.int) (.int (0 : Int32)) := Fq6_0'12.keep Kq13 (ninS ne_b1_b9 nin0)
  refine Gl.to st13 ?_
  show Gl _ _ _ _ _ _ _ (T13.setTop (mkF m 125 #[.val (.long q1), .second, .val (.int p2), .val (.int p3), .val (.int p4), .val (.int p5), .val (.long vv), .second, .val (.int aa), .val (.int ee), .val (.ref b1), .val (.int nx), .val (.int (own_len vv)), .val (.ref b9), .unset, .unset, .unset, .unset, .unset] [(.long (Int64.ofInt ((vv.toInt.toNat % 128 ^ min (own_len vv).toInt.toNat (ee.toInt - (aa.toInt.toNat : Int)).toNat : Nat) : Int)))]))
  refine Gl.st (fun t k => XS.lstore X13.here hx rfl (hb hby at_125) rfl (l' := #[.val (.long q1), .second, .val (.int p2), .val (.int p3), .val (.int p4), .val (.int p5), .val (.long vv), .second, .val (.int aa), .val (.int ee), .val (.ref b1), .val (.int nx), .val (.int (own_len vv)), .val (.ref b9), .val (.long (Int64.ofInt ((vv.toInt.toNat % 128 ^ min (own_len vv).toInt.toNat (ee.toInt - (aa.toInt.toNat : Int)).toNat : Nat) : Int))), .second, .unset, .unset, .unset]) rfl k) ?_
  show Gl _ _ _ _ _ _ _ (T13.setTop (mkF m 127 #[.val (.long q1), .second, .val (.int p2), .val (.int p3), .val (.int p4), .val (.int p5), .val (.long vv), .second, .val (.int aa), .val (.int ee), .val (.ref b1), .val (.int nx), .val (.int (own_len vv)), .val (.ref b9), .val (.long (Int64.ofInt ((vv.toInt.toNat % 128 ^ min (own_len vv).toInt.toNat (ee.toInt - (aa.toInt.toNat : Int)).toNat : Nat) : Int))), .second, .unset, .unset, .unset] []))
  refine Gl.st (fun t k => XS.iload X13.here hx rfl (hb hby at_127) rfl  k) ?_
  show Gl _ _ _ _ _ _ _ (T13.setTop (mkF m 129 #[.val (.long q1), .second, .val (.int p2), .val (.int p3), .val (.int p4), .val (.int p5), .val (.long vv), .second, .val (.int aa), .val (.int ee), .val (.ref b1), .val (.int nx), .val (.int (own_len vv)), .val (.ref b9), .val (.long (Int64.ofInt ((vv.toInt.toNat % 128 ^ min (own_len vv).toInt.toNat (ee.toInt - (aa.toInt.toNat : Int)).toNat : Nat) : Int))), .second, .unset, .unset, .unset] [(.int ee)]))
  refine Gl.st (fun t k => XS.iload X13.here hx rfl (hb hby at_129) rfl  k) ?_
  show Gl _ _ _ _ _ _ _ (T13.setTop (mkF m 131 #[.val (.long q1), .second, .val (.int p2), .val (.int p3), .val (.int p4), .val (.int p5), .val (.long vv), .second, .val (.int aa), .val (.int ee), .val (.ref b1), .val (.int nx), .val (.int (own_len vv)), .val (.ref b9), .val (.long (Int64.ofInt ((vv.toInt.toNat % 128 ^ min (own_len vv).toInt.toNat (ee.toInt - (aa.toInt.toNat : Int)).toNat : Nat) : Int))), .second, .unset, .unset, .unset] [(.int aa), (.int ee)]))
  have J15 : ∀ (Tj15 : State) (Lj15 : List Loc) (Xj15 : Stand p l e room_1 s m #[(.long q1), (.int p2), (.int p3), (.int p4), (.int p5)] below meth c Tj15 Lj15 2 19) (ej15 : Tj15.heap = T13.heap) (Nj15 : Fr n0 Lj15) (z148s0 : Int32) (hz148s0 : z148s0 = (if aa < ee then (own_min (ee - aa) (own_len vv)) else (0 : Int32))), Gl p e below s (Q0 Z q1 p2 p3 p4 p5 h0 n0) room_1.cells room_1.slots (Tj15.setTop (mkF m 148 #[.val (.long q1), .second, .val (.int p2), .val (.int p3), .val (.int p4), .val (.int p5), .val (.long vv), .second, .val (.int aa), .val (.int ee), .val (.ref b1), .val (.int nx), .val (.int (own_len vv)), .val (.ref b9), .val (.long (Int64.ofInt ((vv.toInt.toNat % 128 ^ min (own_len vv).toInt.toNat (ee.toInt - (aa.toInt.toNat : Int)).toNat : Nat) : Int))), .second, .unset, .unset, .unset] [(.int z148s0)])) := by
    intro Tj15 Lj15 Xj15 ej15 Nj15 z148s0 hz148s0
    show Gl _ _ _ _ _ _ _ (Tj15.setTop (mkF m 148 #[.val (.long q1), .second, .val (.int p2), .val (.int p3), .val (.int p4), .val (.int p5), .val (.long vv), .second, .val (.int aa), .val (.int ee), .val (.ref b1), .val (.int nx), .val (.int (own_len vv)), .val (.ref b9), .val (.long (Int64.ofInt ((vv.toInt.toNat % 128 ^ min (own_len vv).toInt.toNat (ee.toInt - (aa.toInt.toNat : Int)).toNat : Nat) : Int))), .second, .unset, .unset, .unset] [(.int z148s0)]))
    refine Gl.st (fun t k => XS.istore Xj15.here hx rfl (hb hby at_148) rfl (l' := #[.val (.long q1), .second, .val (.int p2), .val (.int p3), .val (.int p4), .val (.int p5), .val (.long vv), .second, .val (.int aa), .val (.int ee), .val (.ref b1), .val (.int nx), .val (.int (own_len vv)), .val (.ref b9), .val (.long (Int64.ofInt ((vv.toInt.toNat % 128 ^ min (own_len vv).toInt.toNat (ee.toInt - (aa.toInt.toNat : Int)).toNat : Nat) : Int))), .second, .val (.int z148s0), .unset, .unset]) rfl k) ?_
    show Gl _ _ _ _ _ _ _ (Tj15.setTop (mkF m 150 #[.val (.long q1), .second, .val (.int p2), .val (.int p3), .val (.int p4), .val (.int p5), .val (.long vv), .second, .val (.int aa), .val (.int ee), .val (.ref b1), .val (.int nx), .val (.int (own_len vv)), .val (.ref b9), .val (.long (Int64.ofInt ((vv.toInt.toNat % 128 ^ min (own_len vv).toInt.toNat (ee.toInt - (aa.toInt.toNat : Int)).toNat : Nat) : Int))), .second, .val (.int z148s0), .unset, .unset] []))
    obtain ⟨mm, hmm⟩ : ∃ z : Int32, z = z148s0 := ⟨_, rfl⟩
    rw [← hmm]
    have hmm2 : mm.toInt = ((min (own_len vv).toInt.toNat (ee.toInt - (aa.toInt.toNat : Int)).toNat : Nat) : Int) := own_m _ _ _ _ hee2 haa2 ⟨hls.1, hls.2.1⟩ (hmm.trans hz148s0)
    show Gl _ _ _ _ _ _ _ (Tj15.setTop (mkF m 150 #[.val (.long q1), .second, .val (.int p2), .val (.int p3), .val (.int p4), .val (.int p5), .val (.long vv), .second, .val (.int aa), .val (.int ee), .val (.ref b1), .val (.int nx), .val (.int (own_len vv)), .val (.ref b9), .val (.long (Int64.ofInt ((vv.toInt.toNat % 128 ^ min (own_len vv).toInt.toNat (ee.toInt - (aa.toInt.toNat : Int)).toNat : Nat) : Int))), .second, .val (.int mm), .unset, .unset] []))
    refine Gl.st (fun t k => XS.iload Xj15.here hx rfl (hb hby at_150) rfl  k) ?_
    show Gl _ _ _ _ _ _ _ (Tj15.setTop (mkF m 152 #[.val (.long q1), .second, .val (.int p2), .val (.int p3), .val (.int p4), .val (.int p5), .val (.long vv), .second, .val (.int aa), .val (.int ee), .val (.ref b1), .val (.int nx), .val (.int (own_len vv)), .val (.ref b9), .val (.long (Int64.ofInt ((vv.toInt.toNat % 128 ^ min (own_len vv).toInt.toNat (ee.toInt - (aa.toInt.toNat : Int)).toNat : Nat) : Int))), .second, .val (.int mm), .unset, .unset] [(.int mm)]))
    have J16 : ∀ (Tj16 : State) (Lj16 : List Loc) (Xj16 : Stand p l e room_1 s m #[(.long q1), (.int p2), (.int p3), (.int p4), (.int p5)] below meth c Tj16 Lj16 2 19) (ej16 : Tj16.heap = T13.heap) (Nj16 : Fr n0 Lj16) (z189l17 : Int64) (hz189l17 : z189l17 = (if mm = (0 : Int32) then (0 : Int64) else (if mm < (own_len vv) then (vv &&& (((1 : Int64) <<< (((7 : Int32) * mm) &&& 0x3f).toInt64) - (1 : Int64))) else vv))), Gl p e below s (Q0 Z q1 p2 p3 p4 p5 h0 n0) room_1.cells room_1.slots (Tj16.setTop (mkF m 189 #[.val (.long q1), .second, .val (.int p2), .val (.int p3), .val (.int p4), .val (.int p5), .val (.long vv), .second, .val (.int aa), .val (.int ee), .val (.ref b1), .val (.int nx), .val (.int (own_len vv)), .val (.ref b9), .val (.long (Int64.ofInt ((vv.toInt.toNat % 128 ^ min (own_len vv).toInt.toNat (ee.toInt - (aa.toInt.toNat : Int)).toNat : Nat) : Int))), .second, .val (.int mm), .val (.long z189l17), .second] [])) := by
      intro Tj16 Lj16 Xj16 ej16 Nj16 z189l17 hz189l17
      show Gl _ _ _ _ _ _ _ (Tj16.setTop (mkF m 189 #[.val (.long q1), .second, .val (.int p2), .val (.int p3), .val (.int p4), .val (.int p5), .val (.long vv), .second, .val (.int aa), .val (.int ee), .val (.ref b1), .val (.int nx), .val (.int (own_len vv)), .val (.ref b9), .val (.long (Int64.ofInt ((vv.toInt.toNat % 128 ^ min (own_len vv).toInt.toNat (ee.toInt - (aa.toInt.toNat : Int)).toNat : Nat) : Int))), .second, .val (.int mm), .val (.long z189l17), .second] []))
      refine Gl.st (fun t k => XS.lload Xj16.here hx rfl (hb hby at_189) rfl  k) ?_
      show Gl _ _ _ _ _ _ _ (Tj16.setTop (mkF m 191 #[.val (.long q1), .second, .val (.int p2), .val (.int p3), .val (.int p4), .val (.int p5), .val (.long vv), .second, .val (.int aa), .val (.int ee), .val (.ref b1), .val (.int nx), .val (.int (own_len vv)), .val (.ref b9), .val (.long (Int64.ofInt ((vv.toInt.toNat % 128 ^ min (own_len vv).toInt.toNat (ee.toInt - (aa.toInt.toNat : Int)).toNat : Nat) : Int))), .second, .val (.int mm), .val (.long z189l17), .second] [(.long (Int64.ofInt ((vv.toInt.toNat % 128 ^ min (own_len vv).toInt.toNat (ee.toInt - (aa.toInt.toNat : Int)).toNat : Nat) : Int)))]))
      refine Gl.st (fun t k => XS.lload Xj16.here hx rfl (hb hby at_191) rfl  k) ?_
      show Gl _ _ _ _ _ _ _ (Tj16.setTop (mkF m 193 #[.val (.long q1), .second, .val (.int p2), .val (.int p3), .val (.int p4), .val (.int p5), .val (.long vv), .second, .val (.int aa), .val (.int ee), .val (.ref b1), .val (.int nx), .val (.int (own_len vv)), .val (.ref b9), .val (.long (Int64.ofInt ((vv.toInt.toNat % 128 ^ min (own_len vv).toInt.toNat (ee.toInt - (aa.toInt.toNat : Int)).toNat : Nat) : Int))), .second, .val (.int mm), .val (.long z189l17), .second] [(.long z189l17), (.long (Int64.ofInt ((vv.toInt.toNat % 128 ^ min (own_len vv).toInt.toNat (ee.toInt - (aa.toInt.toNat : Int)).toNat : Nat) : Int)))]))
      refine Gl.st (fun t k => XS.lcmp Xj16.here hx rfl (hb hby at_193) rfl k) ?_
      show Gl _ _ _ _ _ _ _ (Tj16.setTop (mkF m 194 #[.val (.long q1), .second, .val (.int p2), .val (.int p3), .val (.int p4), .val (.int p5), .val (.long vv), .second, .val (.int aa), .val (.int ee), .val (.ref b1), .val (.int nx), .val (.int (own_len vv)), .val (.ref b9), .val (.long (Int64.ofInt ((vv.toInt.toNat % 128 ^ min (own_len vv).toInt.toNat (ee.toInt - (aa.toInt.toNat : Int)).toNat : Nat) : Int))), .second, .val (.int mm), .val (.long z189l17), .second] [(.int (lcmpW (Int64.ofInt ((vv.toInt.toNat % 128 ^ min (own_len vv).toInt.toNat (ee.toInt - (aa.toInt.toNat : Int)).toNat : Nat) : Int)) z189l17))]))
      have hc194_17 : (Int64.ofInt ((vv.toInt.toNat % 128 ^ min (own_len vv).toInt.toNat (ee.toInt - (aa.toInt.toNat : Int)).toNat : Nat) : Int)) = z189l17 := by exact own_expected _ _ _ _ _ hvv2 ⟨hls.1, hls.2.1⟩ hpV hmm2 (Nat.min_le_left _ _) hz189l17
      refine Gl.st (fun t k => XS.ifNo Xj16.here hx rfl (hb hby at_194) rfl (le_t hc194_17).2 k) ?_
      show Gl _ _ _ _ _ _ _ (Tj16.setTop (mkF m 197 #[.val (.long q1), .second, .val (.int p2), .val (.int p3), .val (.int p4), .val (.int p5), .val (.long vv), .second, .val (.int aa), .val (.int ee), .val (.ref b1), .val (.int nx), .val (.int (own_len vv)), .val (.ref b9), .val (.long (Int64.ofInt ((vv.toInt.toNat % 128 ^ min (own_len vv).toInt.toNat (ee.toInt - (aa.toInt.toNat : Int)).toNat : Nat) : Int))), .second, .val (.int mm), .val (.long z189l17), .second] []))
      refine Gl.st (fun t k => XS.aload Xj16.here hx rfl (hb hby at_197) rfl rfl k) ?_
      show Gl _ _ _ _ _ _ _ (Tj16.setTop (mkF m 199 #[.val (.long q1), .second, .val (.int p2), .val (.int p3), .val (.int p4), .val (.int p5), .val (.long vv), .second, .val (.int aa), .val (.int ee), .val (.ref b1), .val (.int nx), .val (.int (own_len vv)), .val (.ref b9), .val (.long (Int64.ofInt ((vv.toInt.toNat % 128 ^ min (own_len vv).toInt.toNat (ee.toInt - (aa.toInt.toNat : Int)).toNat : Nat) : Int))), .second, .val (.int mm), .val (.long z189l17), .second] [(.ref b9)]))
      obtain ⟨cq18, kq18, qa18, qb18, qc18⟩ := isOf hZ ej16 Fq13_0
      obtain ⟨_, _, ⟨T18, L18, k18, n18⟩, -, X18, ⟨Lc18, hQ18, l18, y18, z18⟩, st18⟩ := Xj16.virtualBack hx (y := (⟨"com/example/millrace/millrace/storage/PackedGroups$Reader", "at", "()I"⟩ : MethodName)) (z := (⟨"com/example/millrace/millrace/storage/PackedGroups$Reader", "at", "()I"⟩ : MethodName)) hown (mvT hZ (hw _ (List.mem_of_getElem? (i := 41) rfl))) (mvT hZ (hw _ (List.mem_of_getElem? (i := 42) rfl))) (notFace_of_selects (args := #[]) (mvT hZ (hw _ (List.mem_of_getElem? (i := 44) rfl)))) (mvT hZ (hw _ (List.mem_of_getElem? (i := 44) rfl))) (mvT hZ (hw _ (List.mem_of_getElem? (i := 43) rfl))) (by decide) (backOf (W := 0) (rm6 l Z a0 hw [] b9 ((Int32.ofInt ((aa.toInt.toNat + min (own_len vv).toInt.toNat (ee.toInt - (aa.toInt.toNat : Int)).toNat : Nat) : Int))) T13.heap n0  Fq13_2) hZ (hw _ (List.mem_of_getElem? (i := 45) rfl)) (hw _ (List.mem_of_getElem? (i := 15) rfl)) (by decide) (by decide)) qa18 qc18 (g := (mkF m 199 #[.val (.long q1), .second, .val (.int p2), .val (.int p3), .val (.int p4), .val (.int p5), .val (.long vv), .second, .val (.int aa), .val (.int ee), .val (.ref b1), .val (.int nx), .val (.int (own_len vv)), .val (.ref b9), .val (.long (Int64.ofInt ((vv.toInt.toNat % 128 ^ min (own_len vv).toInt.toNat (ee.toInt - (aa.toInt.toNat : Int)).toNat : Nat) : Int))), .second, .val (.int mm), .val (.long z189l17), .second] [(.ref b9)])) rfl (by rw [hml]; rfl) (Steps.refl _) (argsL := []) (rest := []) (lenOf pd_5 rfl) rfl (by show 2 * 0 + _ ≤ _; exact Nat.le_of_eq rfl) (hb hby at_199) (fun _ _ => ⟨rfl, ej16, (by decide : 2 + 0 ≤ _), (by decide : 19 + 0 ≤ _)⟩)
      dsimp only [Pt.U, Pt.locs, Pt.cells, Pt.slots] at X18 l18 y18 z18 st18 hQ18
      rw [y18, z18] at X18
      obtain ⟨rfl, N18q, e18⟩ := hQ18
      have N18 : Fr n0 L18 := by rw [l18]; exact Fr.app Nj16 N18q
      refine Gl.to st18 ?_
      show Gl _ _ _ _ _ _ _ (T18.setTop (mkF m 202 #[.val (.long q1), .second, .val (.int p2), .val (.int p3), .val (.int p4), .val (.int p5), .val (.long vv), .second, .val (.int aa), .val (.int ee), .val (.ref b1), .val (.int nx), .val (.int (own_len vv)), .val (.ref b9), .val (.long (Int64.ofInt ((vv.toInt.toNat % 128 ^ min (own_len vv).toInt.toNat (ee.toInt - (aa.toInt.toNat : Int)).toNat : Nat) : Int))), .second, .val (.int mm), .val (.long z189l17), .second] [(.int (own_at (Int32.ofInt ((aa.toInt.toNat + min (own_len vv).toInt.toNat (ee.toInt - (aa.toInt.toNat : Int)).toNat : Nat) : Int))))]))
      refine Gl.st (fun t k => XS.iload X18.here hx rfl (hb hby at_202) rfl  k) ?_
      show Gl _ _ _ _ _ _ _ (T18.setTop (mkF m 204 #[.val (.long q1), .second, .val (.int p2), .val (.int p3), .val (.int p4), .val (.int p5), .val (.long vv), .second, .val (.int aa), .val (.int ee), .val (.ref b1), .val (.int nx), .val (.int (own_len vv)), .val (.ref b9), .val (.long (Int64.ofInt ((vv.toInt.toNat % 128 ^ min (own_len vv).toInt.toNat (ee.toInt - (aa.toInt.toNat : Int)).toNat : Nat) : Int))), .second, .val (.int mm), .val (.long z189l17), .second] [(.int aa), (.int (own_at (Int32.ofInt ((aa.toInt.toNat + min (own_len vv).toInt.toNat (ee.toInt - (aa.toInt.toNat : Int)).toNat : Nat) : Int))))]))
      refine Gl.st (fun t k => XS.iload X18.here hx rfl (hb hby at_204) rfl  k) ?_
      show Gl _ _ _ _ _ _ _ (T18.setTop (mkF m 206 #[.val (.long q1), .second, .val (.int p2), .val (.int p3), .val (.int p4), .val (.int p5), .val (.long vv), .second, .val (.int aa), .val (.int ee), .val (.ref b1), .val (.int nx), .val (.int (own_len vv)), .val (.ref b9), .val (.long (Int64.ofInt ((vv.toInt.toNat % 128 ^ min (own_len vv).toInt.toNat (ee.toInt - (aa.toInt.toNat : Int)).toNat : Nat) : Int))), .second, .val (.int mm), .val (.long z189l17), .second] [(.int mm), (.int aa), (.int (own_at (Int32.ofInt ((aa.toInt.toNat + min (own_len vv).toInt.toNat (ee.toInt - (aa.toInt.toNat : Int)).toNat : Nat) : Int))))]))
      refine Gl.st (fun t k => XS.iadd X18.here hx rfl (hb hby at_206) rfl k) ?_
      show Gl _ _ _ _ _ _ _ (T18.setTop (mkF m 207 #[.val (.long q1), .second, .val (.int p2), .val (.int p3), .val (.int p4), .val (.int p5), .val (.long vv), .second, .val (.int aa), .val (.int ee), .val (.ref b1), .val (.int nx), .val (.int (own_len vv)), .val (.ref b9), .val (.long (Int64.ofInt ((vv.toInt.toNat % 128 ^ min (own_len vv).toInt.toNat (ee.toInt - (aa.toInt.toNat : Int)).toNat : Nat) : Int))), .second, .val (.int mm), .val (.long z189l17), .second] [(.int (aa + mm)), (.int (own_at (Int32.ofInt ((aa.toInt.toNat + min (own_len vv).toInt.toNat (ee.toInt - (aa.toInt.toNat : Int)).toNat : Nat) : Int))))]))
      have hc207_19 : (own_at (Int32.ofInt ((aa.toInt.toNat + min (own_len vv).toInt.toNat (ee.toInt - (aa.toInt.toNat : Int)).toNat : Nat) : Int))) = (aa + mm) := by 
        show Int32.ofInt ((aa.toInt.toNat + min (own_len vv).toInt.toNat (ee.toInt - (aa.toInt.toNat : Int)).toNat : Nat) : Int) = aa + mm
        rw [← Int32.toInt_inj, own_toOf (by omega)]
        have q := c_iadd aa mm
        have q2 := rng32 (aa + mm)
        omega
      refine Gl.st (fun t k => XS.icmpNo X18.here hx rfl (hb hby at_207) rfl (teq hc207_19).2 k) ?_
      show Gl _ _ _ _ _ _ _ (T18.setTop (mkF m 210 #[.val (.long q1), .second, .val (.int p2), .val (.int p3), .val (.int p4), .val (.int p5), .val (.long vv), .second, .val (.int aa), .val (.int ee), .val (.ref b1), .val (.int nx), .val (.int (own_len vv)), .val (.ref b9), .val (.long (Int64.ofInt ((vv.toInt.toNat % 128 ^ min (own_len vv).toInt.toNat (ee.toInt - (aa.toInt.toNat : Int)).toNat : Nat) : Int))), .second, .val (.int mm), .val (.long z189l17), .second] []))
      refine Gl.st (fun t k => XS.iconst X18.here hx rfl (hb hby at_210) k) ?_
      show Gl _ _ _ _ _ _ _ (T18.setTop (mkF m 211 #[.val (.long q1), .second, .val (.int p2), .val (.int p3), .val (.int p4), .val (.int p5), .val (.long vv), .second, .val (.int aa), .val (.int ee), .val (.ref b1), .val (.int nx), .val (.int (own_len vv)), .val (.ref b9), .val (.long (Int64.ofInt ((vv.toInt.toNat % 128 ^ min (own_len vv).toInt.toNat (ee.toInt - (aa.toInt.toNat : Int)).toNat : Nat) : Int))), .second, .val (.int mm), .val (.long z189l17), .second] [(.int (1 : Int32))]))
      refine Gl.st (fun t k => XS.goto X18.here hx rfl (pc0 := 211) (pc' := 215) rfl (hb hby at_211) (by decide) (by decide) k) ?_
      show Gl _ _ _ _ _ _ _ (T18.setTop (mkF m 215 #[.val (.long q1), .second, .val (.int p2), .val (.int p3), .val (.int p4), .val (.int p5), .val (.long vv), .second, .val (.int aa), .val (.int ee), .val (.ref b1), .val (.int nx), .val (.int (own_len vv)), .val (.ref b9), .val (.long (Int64.ofInt ((vv.toInt.toNat % 128 ^ min (own_len vv).toInt.toNat (ee.toInt - (aa.toInt.toNat : Int)).toNat : Nat) : Int))), .second, .val (.int mm), .val (.long z189l17), .second] [(.int (1 : Int32))]))
      exact Gl.retN X18 hx hlk Bd.returns (by simp) (hb hby at_215) (⟨rfl, N18⟩) (by decide) (by decide)
    by_cases hc152 : mm = (0 : Int32)
    · refine Gl.st (fun t k => XS.ifNo Xj15.here hx rfl (hb hby at_152) rfl ((if0 _ _).trans (teq hc152).2) k) ?_
      show Gl _ _ _ _ _ _ _ (Tj15.setTop (mkF m 155 #[.val (.long q1), .second, .val (.int p2), .val (.int p3), .val (.int p4), .val (.int p5), .val (.long vv), .second, .val (.int aa), .val (.int ee), .val (.ref b1), .val (.int nx), .val (.int (own_len vv)), .val (.ref b9), .val (.long (Int64.ofInt ((vv.toInt.toNat % 128 ^ min (own_len vv).toInt.toNat (ee.toInt - (aa.toInt.toNat : Int)).toNat : Nat) : Int))), .second, .val (.int mm), .unset, .unset] []))
      refine Gl.st (fun t k => XS.lconst Xj15.here hx rfl (hb hby at_155) k) ?_
      show Gl _ _ _ _ _ _ _ (Tj15.setTop (mkF m 156 #[.val (.long q1), .second, .val (.int p2), .val (.int p3), .val (.int p4), .val (.int p5), .val (.long vv), .second, .val (.int aa), .val (.int ee), .val (.ref b1), .val (.int nx), .val (.int (own_len vv)), .val (.ref b9), .val (.long (Int64.ofInt ((vv.toInt.toNat % 128 ^ min (own_len vv).toInt.toNat (ee.toInt - (aa.toInt.toNat : Int)).toNat : Nat) : Int))), .second, .val (.int mm), .unset, .unset] [(.long (0 : Int64))]))
      refine Gl.st (fun t k => XS.lstore Xj15.here hx rfl (hb hby at_156) rfl (l' := #[.val (.long q1), .second, .val (.int p2), .val (.int p3), .val (.int p4), .val (.int p5), .val (.long vv), .second, .val (.int aa), .val (.int ee), .val (.ref b1), .val (.int nx), .val (.int (own_len vv)), .val (.ref b9), .val (.long (Int64.ofInt ((vv.toInt.toNat % 128 ^ min (own_len vv).toInt.toNat (ee.toInt - (aa.toInt.toNat : Int)).toNat : Nat) : Int))), .second, .val (.int mm), .val (.long (0 : Int64)), .second]) rfl k) ?_
      show Gl _ _ _ _ _ _ _ (Tj15.setTop (mkF m 158 #[.val (.long q1), .second, .val (.int p2), .val (.int p3), .val (.int p4), .val (.int p5), .val (.long vv), .second, .val (.int aa), .val (.int ee), .val (.ref b1), .val (.int nx), .val (.int (own_len vv)), .val (.ref b9), .val (.long (Int64.ofInt ((vv.toInt.toNat % 128 ^ min (own_len vv).toInt.toNat (ee.toInt - (aa.toInt.toNat : Int)).toNat : Nat) : Int))), .second, .val (.int mm), .val (.long (0 : Int64)), .second] []))
      refine Gl.st (fun t k => XS.goto Xj15.here hx rfl (pc0 := 158) (pc' := 189) rfl (hb hby at_158) (by decide) (by decide) k) ?_
      show Gl _ _ _ _ _ _ _ (Tj15.setTop (mkF m 189 #[.val (.long q1), .second, .val (.int p2), .val (.int p3), .val (.int p4), .val (.int p5), .val (.long vv), .second, .val (.int aa), .val (.int ee), .val (.ref b1), .val (.int nx), .val (.int (own_len vv)), .val (.ref b9), .val (.long (Int64.ofInt ((vv.toInt.toNat % 128 ^ min (own_len vv).toInt.toNat (ee.toInt - (aa.toInt.toNat : Int)).toNat : Nat) : Int))), .second, .val (.int mm), .val (.long (0 : Int64)), .second] []))
      exact J16 _ _ Xj15 ej15 Nj15 _ (by simp only [if_pos hc152])
    · refine Gl.st (fun t k => XS.ifYes Xj15.here hx rfl (pc0 := 152) (pc' := 161) rfl (hb hby at_152) rfl ((if0 _ _).trans (feq hc152).2) (by decide) (by decide) k) ?_
      show Gl _ _ _ _ _ _ _ (Tj15.setTop (mkF m 161 #[.val (.long q1), .second, .val (.int p2), .val (.int p3), .val (.int p4), .val (.int p5), .val (.long vv), .second, .val (.int aa), .val (.int ee), .val (.ref b1), .val (.int nx), .val (.int (own_len vv)), .val (.ref b9), .val (.long (Int64.ofInt ((vv.toInt.toNat % 128 ^ min (own_len vv).toInt.toNat (ee.toInt - (aa.toInt.toNat : Int)).toNat : Nat) : Int))), .second, .val (.int mm), .unset, .unset] []))
      refine Gl.st (fun t k => XS.iload Xj15.here hx rfl (hb hby at_161) rfl  k) ?_
      show Gl _ _ _ _ _ _ _ (Tj15.setTop (mkF m 163 #[.val (.long q1), .second, .val (.int p2), .val (.int p3), .val (.int p4), .val (.int p5), .val (.long vv), .second, .val (.int aa), .val (.int ee), .val (.ref b1), .val (.int nx), .val (.int (own_len vv)), .val (.ref b9), .val (.long (Int64.ofInt ((vv.toInt.toNat % 128 ^ min (own_len vv).toInt.toNat (ee.toInt - (aa.toInt.toNat : Int)).toNat : Nat) : Int))), .second, .val (.int mm), .unset, .unset] [(.int mm)]))
      refine Gl.st (fun t k => XS.iload Xj15.here hx rfl (hb hby at_163) rfl  k) ?_
      show Gl _ _ _ _ _ _ _ (Tj15.setTop (mkF m 165 #[.val (.long q1), .second, .val (.int p2), .val (.int p3), .val (.int p4), .val (.int p5), .val (.long vv), .second, .val (.int aa), .val (.int ee), .val (.ref b1), .val (.int nx), .val (.int (own_len vv)), .val (.ref b9), .val (.long (Int64.ofInt ((vv.toInt.toNat % 128 ^ min (own_len vv).toInt.toNat (ee.toInt - (aa.toInt.toNat : Int)).toNat : Nat) : Int))), .second, .val (.int mm), .unset, .unset] [(.int (own_len vv)), (.int mm)]))
      by_cases hc165 : mm < (own_len vv)
      · refine Gl.st (fun t k => XS.icmpYes Xj15.here hx rfl (pc0 := 165) (pc' := 175) rfl (hb hby at_165) rfl (tlt hc165).1 (by decide) (by decide) k) ?_
        show Gl _ _ _ _ _ _ _ (Tj15.setTop (mkF m 175 #[.val (.long q1), .second, .val (.int p2), .val (.int p3), .val (.int p4), .val (.int p5), .val (.long vv), .second, .val (.int aa), .val (.int ee), .val (.ref b1), .val (.int nx), .val (.int (own_len vv)), .val (.ref b9), .val (.long (Int64.ofInt ((vv.toInt.toNat % 128 ^ min (own_len vv).toInt.toNat (ee.toInt - (aa.toInt.toNat : Int)).toNat : Nat) : Int))), .second, .val (.int mm), .unset, .unset] []))
        refine Gl.st (fun t k => XS.lload Xj15.here hx rfl (hb hby at_175) rfl  k) ?_
        show Gl _ _ _ _ _ _ _ (Tj15.setTop (mkF m 177 #[.val (.long q1), .second, .val (.int p2), .val (.int p3), .val (.int p4), .val (.int p5), .val (.long vv), .second, .val (.int aa), .val (.int ee), .val (.ref b1), .val (.int nx), .val (.int (own_len vv)), .val (.ref b9), .val (.long (Int64.ofInt ((vv.toInt.toNat % 128 ^ min (own_len vv).toInt.toNat (ee.toInt - (aa.toInt.toNat : Int)).toNat : Nat) : Int))), .second, .val (.int mm), .unset, .unset] [(.long vv)]))
        refine Gl.st (fun t k => XS.lconst Xj15.here hx rfl (hb hby at_177) k) ?_
        show Gl _ _ _ _ _ _ _ (Tj15.setTop (mkF m 178 #[.val (.long q1), .second, .val (.int p2), .val (.int p3), .val (.int p4), .val (.int p5), .val (.long vv), .second, .val (.int aa), .val (.int ee), .val (.ref b1), .val (.int nx), .val (.int (own_len vv)), .val (.ref b9), .val (.long (Int64.ofInt ((vv.toInt.toNat % 128 ^ min (own_len vv).toInt.toNat (ee.toInt - (aa.toInt.toNat : Int)).toNat : Nat) : Int))), .second, .val (.int mm), .unset, .unset] [(.long (1 : Int64)), (.long vv)]))
        refine Gl.st (fun t k => XS.bipush Xj15.here hx rfl (hb hby at_178) k) ?_
        show Gl _ _ _ _ _ _ _ (Tj15.setTop (mkF m 180 #[.val (.long q1), .second, .val (.int p2), .val (.int p3), .val (.int p4), .val (.int p5), .val (.long vv), .second, .val (.int aa), .val (.int ee), .val (.ref b1), .val (.int nx), .val (.int (own_len vv)), .val (.ref b9), .val (.long (Int64.ofInt ((vv.toInt.toNat % 128 ^ min (own_len vv).toInt.toNat (ee.toInt - (aa.toInt.toNat : Int)).toNat : Nat) : Int))), .second, .val (.int mm), .unset, .unset] [(.int (7 : Int32)), (.long (1 : Int64)), (.long vv)]))
        refine Gl.st (fun t k => XS.iload Xj15.here hx rfl (hb hby at_180) rfl  k) ?_
        show Gl _ _ _ _ _ _ _ (Tj15.setTop (mkF m 182 #[.val (.long q1), .second, .val (.int p2), .val (.int p3), .val (.int p4), .val (.int p5), .val (.long vv), .second, .val (.int aa), .val (.int ee), .val (.ref b1), .val (.int nx), .val (.int (own_len vv)), .val (.ref b9), .val (.long (Int64.ofInt ((vv.toInt.toNat % 128 ^ min (own_len vv).toInt.toNat (ee.toInt - (aa.toInt.toNat : Int)).toNat : Nat) : Int))), .second, .val (.int mm), .unset, .unset] [(.int mm), (.int (7 : Int32)), (.long (1 : Int64)), (.long vv)]))
        refine Gl.st (fun t k => XS.imul Xj15.here hx rfl (hb hby at_182) rfl k) ?_
        show Gl _ _ _ _ _ _ _ (Tj15.setTop (mkF m 183 #[.val (.long q1), .second, .val (.int p2), .val (.int p3), .val (.int p4), .val (.int p5), .val (.long vv), .second, .val (.int aa), .val (.int ee), .val (.ref b1), .val (.int nx), .val (.int (own_len vv)), .val (.ref b9), .val (.long (Int64.ofInt ((vv.toInt.toNat % 128 ^ min (own_len vv).toInt.toNat (ee.toInt - (aa.toInt.toNat : Int)).toNat : Nat) : Int))), .second, .val (.int mm), .unset, .unset] [(.int ((7 : Int32) * mm)), (.long (1 : Int64)), (.long vv)]))
        refine Gl.st (fun t k => XS.lshl Xj15.here hx rfl (hb hby at_183) rfl k) ?_
        show Gl _ _ _ _ _ _ _ (Tj15.setTop (mkF m 184 #[.val (.long q1), .second, .val (.int p2), .val (.int p3), .val (.int p4), .val (.int p5), .val (.long vv), .second, .val (.int aa), .val (.int ee), .val (.ref b1), .val (.int nx), .val (.int (own_len vv)), .val (.ref b9), .val (.long (Int64.ofInt ((vv.toInt.toNat % 128 ^ min (own_len vv).toInt.toNat (ee.toInt - (aa.toInt.toNat : Int)).toNat : Nat) : Int))), .second, .val (.int mm), .unset, .unset] [(.long ((1 : Int64) <<< (((7 : Int32) * mm) &&& 0x3f).toInt64)), (.long vv)]))
        refine Gl.st (fun t k => XS.lconst Xj15.here hx rfl (hb hby at_184) k) ?_
        show Gl _ _ _ _ _ _ _ (Tj15.setTop (mkF m 185 #[.val (.long q1), .second, .val (.int p2), .val (.int p3), .val (.int p4), .val (.int p5), .val (.long vv), .second, .val (.int aa), .val (.int ee), .val (.ref b1), .val (.int nx), .val (.int (own_len vv)), .val (.ref b9), .val (.long (Int64.ofInt ((vv.toInt.toNat % 128 ^ min (own_len vv).toInt.toNat (ee.toInt - (aa.toInt.toNat : Int)).toNat : Nat) : Int))), .second, .val (.int mm), .unset, .unset] [(.long (1 : Int64)), (.long ((1 : Int64) <<< (((7 : Int32) * mm) &&& 0x3f).toInt64)), (.long vv)]))
        refine Gl.st (fun t k => XS.lsub Xj15.here hx rfl (hb hby at_185) rfl k) ?_
        show Gl _ _ _ _ _ _ _ (Tj15.setTop (mkF m 186 #[.val (.long q1), .second, .val (.int p2), .val (.int p3), .val (.int p4), .val (.int p5), .val (.long vv), .second, .val (.int aa), .val (.int ee), .val (.ref b1), .val (.int nx), .val (.int (own_len vv)), .val (.ref b9), .val (.long (Int64.ofInt ((vv.toInt.toNat % 128 ^ min (own_len vv).toInt.toNat (ee.toInt - (aa.toInt.toNat : Int)).toNat : Nat) : Int))), .second, .val (.int mm), .unset, .unset] [(.long (((1 : Int64) <<< (((7 : Int32) * mm) &&& 0x3f).toInt64) - (1 : Int64))), (.long vv)]))
        refine Gl.st (fun t k => XS.land Xj15.here hx rfl (hb hby at_186) rfl k) ?_
        show Gl _ _ _ _ _ _ _ (Tj15.setTop (mkF m 187 #[.val (.long q1), .second, .val (.int p2), .val (.int p3), .val (.int p4), .val (.int p5), .val (.long vv), .second, .val (.int aa), .val (.int ee), .val (.ref b1), .val (.int nx), .val (.int (own_len vv)), .val (.ref b9), .val (.long (Int64.ofInt ((vv.toInt.toNat % 128 ^ min (own_len vv).toInt.toNat (ee.toInt - (aa.toInt.toNat : Int)).toNat : Nat) : Int))), .second, .val (.int mm), .unset, .unset] [(.long (vv &&& (((1 : Int64) <<< (((7 : Int32) * mm) &&& 0x3f).toInt64) - (1 : Int64))))]))
        refine Gl.st (fun t k => XS.lstore Xj15.here hx rfl (hb hby at_187) rfl (l' := #[.val (.long q1), .second, .val (.int p2), .val (.int p3), .val (.int p4), .val (.int p5), .val (.long vv), .second, .val (.int aa), .val (.int ee), .val (.ref b1), .val (.int nx), .val (.int (own_len vv)), .val (.ref b9), .val (.long (Int64.ofInt ((vv.toInt.toNat % 128 ^ min (own_len vv).toInt.toNat (ee.toInt - (aa.toInt.toNat : Int)).toNat : Nat) : Int))), .second, .val (.int mm), .val (.long (vv &&& (((1 : Int64) <<< (((7 : Int32) * mm) &&& 0x3f).toInt64) - (1 : Int64)))), .second]) rfl k) ?_
        show Gl _ _ _ _ _ _ _ (Tj15.setTop (mkF m 189 #[.val (.long q1), .second, .val (.int p2), .val (.int p3), .val (.int p4), .val (.int p5), .val (.long vv), .second, .val (.int aa), .val (.int ee), .val (.ref b1), .val (.int nx), .val (.int (own_len vv)), .val (.ref b9), .val (.long (Int64.ofInt ((vv.toInt.toNat % 128 ^ min (own_len vv).toInt.toNat (ee.toInt - (aa.toInt.toNat : Int)).toNat : Nat) : Int))), .second, .val (.int mm), .val (.long (vv &&& (((1 : Int64) <<< (((7 : Int32) * mm) &&& 0x3f).toInt64) - (1 : Int64)))), .second] []))
        exact J16 _ _ Xj15 ej15 Nj15 _ (by simp only [if_neg hc152, if_pos hc165])
      · refine Gl.st (fun t k => XS.icmpNo Xj15.here hx rfl (hb hby at_165) rfl (flt hc165).1 k) ?_
        show Gl _ _ _ _ _ _ _ (Tj15.setTop (mkF m 168 #[.val (.long q1), .second, .val (.int p2), .val (.int p3), .val (.int p4), .val (.int p5), .val (.long vv), .second, .val (.int aa), .val (.int ee), .val (.ref b1), .val (.int nx), .val (.int (own_len vv)), .val (.ref b9), .val (.long (Int64.ofInt ((vv.toInt.toNat % 128 ^ min (own_len vv).toInt.toNat (ee.toInt - (aa.toInt.toNat : Int)).toNat : Nat) : Int))), .second, .val (.int mm), .unset, .unset] []))
        refine Gl.st (fun t k => XS.lload Xj15.here hx rfl (hb hby at_168) rfl  k) ?_
        show Gl _ _ _ _ _ _ _ (Tj15.setTop (mkF m 170 #[.val (.long q1), .second, .val (.int p2), .val (.int p3), .val (.int p4), .val (.int p5), .val (.long vv), .second, .val (.int aa), .val (.int ee), .val (.ref b1), .val (.int nx), .val (.int (own_len vv)), .val (.ref b9), .val (.long (Int64.ofInt ((vv.toInt.toNat % 128 ^ min (own_len vv).toInt.toNat (ee.toInt - (aa.toInt.toNat : Int)).toNat : Nat) : Int))), .second, .val (.int mm), .unset, .unset] [(.long vv)]))
        refine Gl.st (fun t k => XS.lstore Xj15.here hx rfl (hb hby at_170) rfl (l' := #[.val (.long q1), .second, .val (.int p2), .val (.int p3), .val (.int p4), .val (.int p5), .val (.long vv), .second, .val (.int aa), .val (.int ee), .val (.ref b1), .val (.int nx), .val (.int (own_len vv)), .val (.ref b9), .val (.long (Int64.ofInt ((vv.toInt.toNat % 128 ^ min (own_len vv).toInt.toNat (ee.toInt - (aa.toInt.toNat : Int)).toNat : Nat) : Int))), .second, .val (.int mm), .val (.long vv), .second]) rfl k) ?_
        show Gl _ _ _ _ _ _ _ (Tj15.setTop (mkF m 172 #[.val (.long q1), .second, .val (.int p2), .val (.int p3), .val (.int p4), .val (.int p5), .val (.long vv), .second, .val (.int aa), .val (.int ee), .val (.ref b1), .val (.int nx), .val (.int (own_len vv)), .val (.ref b9), .val (.long (Int64.ofInt ((vv.toInt.toNat % 128 ^ min (own_len vv).toInt.toNat (ee.toInt - (aa.toInt.toNat : Int)).toNat : Nat) : Int))), .second, .val (.int mm), .val (.long vv), .second] []))
        refine Gl.st (fun t k => XS.goto Xj15.here hx rfl (pc0 := 172) (pc' := 189) rfl (hb hby at_172) (by decide) (by decide) k) ?_
        show Gl _ _ _ _ _ _ _ (Tj15.setTop (mkF m 189 #[.val (.long q1), .second, .val (.int p2), .val (.int p3), .val (.int p4), .val (.int p5), .val (.long vv), .second, .val (.int aa), .val (.int ee), .val (.ref b1), .val (.int nx), .val (.int (own_len vv)), .val (.ref b9), .val (.long (Int64.ofInt ((vv.toInt.toNat % 128 ^ min (own_len vv).toInt.toNat (ee.toInt - (aa.toInt.toNat : Int)).toNat : Nat) : Int))), .second, .val (.int mm), .val (.long vv), .second] []))
        exact J16 _ _ Xj15 ej15 Nj15 _ (by simp only [if_neg hc152, if_neg hc165])
  by_cases hc131 : aa < ee
  · refine Gl.st (fun t k => XS.icmpNo X13.here hx rfl (hb hby at_131) rfl (tlt hc131).2.2.2 k) ?_
    show Gl _ _ _ _ _ _ _ (T13.setTop (mkF m 134 #[.val (.long q1), .second, .val (.int p2), .val (.int p3), .val (.int p4), .val (.int p5), .val (.long vv), .second, .val (.int aa), .val (.int ee), .val (.ref b1), .val (.int nx), .val (.int (own_len vv)), .val (.ref b9), .val (.long (Int64.ofInt ((vv.toInt.toNat % 128 ^ min (own_len vv).toInt.toNat (ee.toInt - (aa.toInt.toNat : Int)).toNat : Nat) : Int))), .second, .unset, .unset, .unset] []))
    refine Gl.st (fun t k => XS.iload X13.here hx rfl (hb hby at_134) rfl  k) ?_
    show Gl _ _ _ _ _ _ _ (T13.setTop (mkF m 136 #[.val (.long q1), .second, .val (.int p2), .val (.int p3), .val (.int p4), .val (.int p5), .val (.long vv), .second, .val (.int aa), .val (.int ee), .val (.ref b1), .val (.int nx), .val (.int (own_len vv)), .val (.ref b9), .val (.long (Int64.ofInt ((vv.toInt.toNat % 128 ^ min (own_len vv).toInt.toNat (ee.toInt - (aa.toInt.toNat : Int)).toNat : Nat) : Int))), .second, .unset, .unset, .unset] [(.int ee)]))
    refine Gl.st (fun t k => XS.iload X13.here hx rfl (hb hby at_136) rfl  k) ?_
    show Gl _ _ _ _ _ _ _ (T13.setTop (mkF m 138 #[.val (.long q1), .second, .val (.int p2), .val (.int p3), .val (.int p4), .val (.int p5), .val (.long vv), .second, .val (.int aa), .val (.int ee), .val (.ref b1), .val (.int nx), .val (.int (own_len vv)), .val (.ref b9), .val (.long (Int64.ofInt ((vv.toInt.toNat % 128 ^ min (own_len vv).toInt.toNat (ee.toInt - (aa.toInt.toNat : Int)).toNat : Nat) : Int))), .second, .unset, .unset, .unset] [(.int aa), (.int ee)]))
    refine Gl.st (fun t k => XS.isub X13.here hx rfl (hb hby at_138) rfl k) ?_
    show Gl _ _ _ _ _ _ _ (T13.setTop (mkF m 139 #[.val (.long q1), .second, .val (.int p2), .val (.int p3), .val (.int p4), .val (.int p5), .val (.long vv), .second, .val (.int aa), .val (.int ee), .val (.ref b1), .val (.int nx), .val (.int (own_len vv)), .val (.ref b9), .val (.long (Int64.ofInt ((vv.toInt.toNat % 128 ^ min (own_len vv).toInt.toNat (ee.toInt - (aa.toInt.toNat : Int)).toNat : Nat) : Int))), .second, .unset, .unset, .unset] [(.int (ee - aa))]))
    refine Gl.st (fun t k => XS.iload X13.here hx rfl (hb hby at_139) rfl  k) ?_
    show Gl _ _ _ _ _ _ _ (T13.setTop (mkF m 141 #[.val (.long q1), .second, .val (.int p2), .val (.int p3), .val (.int p4), .val (.int p5), .val (.long vv), .second, .val (.int aa), .val (.int ee), .val (.ref b1), .val (.int nx), .val (.int (own_len vv)), .val (.ref b9), .val (.long (Int64.ofInt ((vv.toInt.toNat % 128 ^ min (own_len vv).toInt.toNat (ee.toInt - (aa.toInt.toNat : Int)).toNat : Nat) : Int))), .second, .unset, .unset, .unset] [(.int (own_len vv)), (.int (ee - aa))]))
    obtain ⟨_, _, ⟨T20, L20, k20, n20⟩, -, X20, ⟨Lc20, hQ20, l20, y20, z20⟩, st20⟩ := Jvm.LawKit.callS X13 hx (y := (⟨"java/lang/Math", "min", "(II)I"⟩ : MethodName)) hown (mvT hZ (hw _ (List.mem_of_getElem? (i := 46) rfl))) (mvT hZ (hw _ (List.mem_of_getElem? (i := 47) rfl))) (mvT hZ (hw _ (List.mem_of_getElem? (i := 48) rfl))) (mvT hZ (hw _ (List.mem_of_getElem? (i := 49) rfl))) (by decide) (backOf (W := 0) (rm7 l Z a0 hw [] (ee - aa) (own_len vv) T13.heap n0) hZ (hw _ (List.mem_of_getElem? (i := 49) rfl)) (hw _ (List.mem_of_getElem? (i := 48) rfl)) (by decide) (by decide)) (g := (mkF m 141 #[.val (.long q1), .second, .val (.int p2), .val (.int p3), .val (.int p4), .val (.int p5), .val (.long vv), .second, .val (.int aa), .val (.int ee), .val (.ref b1), .val (.int nx), .val (.int (own_len vv)), .val (.ref b9), .val (.long (Int64.ofInt ((vv.toInt.toNat % 128 ^ min (own_len vv).toInt.toNat (ee.toInt - (aa.toInt.toNat : Int)).toNat : Nat) : Int))), .second, .unset, .unset, .unset] [(.int (own_len vv)), (.int (ee - aa))])) rfl (by rw [hml]; rfl) (argsL := [(.int (ee - aa)), (.int (own_len vv))]) (rest := []) (lenOf pd_4 rfl) rfl (by show 2 * 0 + _ ≤ _; exact Nat.le_of_eq rfl) (hb hby at_141) (fun _ _ => ⟨rfl, rfl, (by decide : 2 + 0 ≤ _), (by decide : 19 + 0 ≤ _)⟩)
    dsimp only [Pt.U, Pt.locs, Pt.cells, Pt.slots] at X20 l20 y20 z20 st20 hQ20
    rw [y20, z20] at X20
    obtain ⟨rfl, N20q, e20⟩ := hQ20
    have N20 : Fr n0 L20 := by rw [l20]; exact Fr.app N13 N20q
    refine Gl.st st20 ?_
    show Gl _ _ _ _ _ _ _ (T20.setTop (mkF m 144 #[.val (.long q1), .second, .val (.int p2), .val (.int p3), .val (.int p4), .val (.int p5), .val (.long vv), .second, .val (.int aa), .val (.int ee), .val (.ref b1), .val (.int nx), .val (.int (own_len vv)), .val (.ref b9), .val (.long (Int64.ofInt ((vv.toInt.toNat % 128 ^ min (own_len vv).toInt.toNat (ee.toInt - (aa.toInt.toNat : Int)).toNat : Nat) : Int))), .second, .unset, .unset, .unset] [(.int (own_min (ee - aa) (own_len vv)))]))
    refine Gl.st (fun t k => XS.goto X20.here hx rfl (pc0 := 144) (pc' := 148) rfl (hb hby at_144) (by decide) (by decide) k) ?_
    show Gl _ _ _ _ _ _ _ (T20.setTop (mkF m 148 #[.val (.long q1), .second, .val (.int p2), .val (.int p3), .val (.int p4), .val (.int p5), .val (.long vv), .second, .val (.int aa), .val (.int ee), .val (.ref b1), .val (.int nx), .val (.int (own_len vv)), .val (.ref b9), .val (.long (Int64.ofInt ((vv.toInt.toNat % 128 ^ min (own_len vv).toInt.toNat (ee.toInt - (aa.toInt.toNat : Int)).toNat : Nat) : Int))), .second, .unset, .unset, .unset] [(.int (own_min (ee - aa) (own_len vv)))]))
    exact J15 _ _ X20 e20 N20 _ (by simp only [if_pos hc131])
  · refine Gl.st (fun t k => XS.icmpYes X13.here hx rfl (pc0 := 131) (pc' := 147) rfl (hb hby at_131) rfl (flt hc131).2.2.2 (by decide) (by decide) k) ?_
    show Gl _ _ _ _ _ _ _ (T13.setTop (mkF m 147 #[.val (.long q1), .second, .val (.int p2), .val (.int p3), .val (.int p4), .val (.int p5), .val (.long vv), .second, .val (.int aa), .val (.int ee), .val (.ref b1), .val (.int nx), .val (.int (own_len vv)), .val (.ref b9), .val (.long (Int64.ofInt ((vv.toInt.toNat % 128 ^ min (own_len vv).toInt.toNat (ee.toInt - (aa.toInt.toNat : Int)).toNat : Nat) : Int))), .second, .unset, .unset, .unset] []))
    refine Gl.st (fun t k => XS.iconst X13.here hx rfl (hb hby at_147) k) ?_
    show Gl _ _ _ _ _ _ _ (T13.setTop (mkF m 148 #[.val (.long q1), .second, .val (.int p2), .val (.int p3), .val (.int p4), .val (.int p5), .val (.long vv), .second, .val (.int aa), .val (.int ee), .val (.ref b1), .val (.int nx), .val (.int (own_len vv)), .val (.ref b9), .val (.long (Int64.ofInt ((vv.toInt.toNat % 128 ^ min (own_len vv).toInt.toNat (ee.toInt - (aa.toInt.toNat : Int)).toNat : Nat) : Int))), .second, .unset, .unset, .unset] [(.int (0 : Int32))]))
    exact J15 _ _ X13 rfl N13 _ (by simp only [if_neg hc131])
set_option maxRecDepth 65536 in
set_option maxHeartbeats 40000000 in
theorem comes_1 {Post : Tables → Env → Array Value → State → Outcome → State → Prop} (hpost : ∀ tb e args s v u, (limb_1_1.after args s (.returned v) u = true ∧ limb_1_2.after args s (.returned v) u = true ∧ True) → FrameEnd s (.returned v) u (Jvm.fieldLocs frame_1_writes args s ++ Jvm.arrayLocs frame_1_arrays args s ++ Jvm.staticLocs frame_1_statics s) 16 128 → Post tb e args s (.returned v) u) :
    ArmFor flags0 classFile x code maxLocals ret World_1 tables_1 room_1 Calls_1 rest_1 Pre_1 Post := by
  intro l hfl _ _ p e ha hc hk s m args below hf hA hF happ hP
  obtain ⟨hcalls, hrest, hpre⟩ := hP
  obtain ⟨-, -, -, hnamed, -, -, -, hat⟩ := (Spec.applies_iff hf).mp happ
  obtain ⟨hg, hn⟩ := and_e (Cond.before_iff.mp (show (Jvm.Cond.and given_1 narrow_1).before args s = true from hpre))
  obtain ⟨hcnt, hr0⟩ := and_e hg
  obtain ⟨ha0, hr1⟩ := and_e hr0
  obtain ⟨ha1, hr2⟩ := and_e hr1
  obtain ⟨ha2, hr3⟩ := and_e hr2
  obtain ⟨ha3, hr4⟩ := and_e hr3
  have ha4 := hr4
  obtain ⟨w0, w1, w2, w3, w4, rfl⟩ : ∃ w0 w1 w2 w3 w4 : Value, args = #[w0, w1, w2, w3, w4] := by
    have hs : args.size = 5 := by simpa [Cond.value, given_1] using hcnt
    obtain ⟨L⟩ := args
    match L, hs with
    | [w0, w1, w2, w3, w4], _ => exact ⟨w0, w1, w2, w3, w4, rfl⟩
  have hw := fun d (hd : d ∈ tables_1) => atoms_spec (ws := Jvm.Cond.code x code maxLocals ret :: tables_1) hat d (List.mem_cons_of_mem _ hd)
  obtain ⟨i0, ei0⟩ := isL_v ha0
  obtain rfl : w0 = (.long i0) := Option.some.inj ei0
  obtain ⟨i1, ei1⟩ := is_v ha1
  obtain rfl : w1 = (.int i1) := Option.some.inj ei1
  obtain ⟨i2, ei2⟩ := is_v ha2
  obtain rfl : w2 = (.int i2) := Option.some.inj ei2
  obtain ⟨i3, ei3⟩ := is_v ha3
  obtain rfl : w3 = (.int i3) := Option.some.inj ei3
  obtain ⟨i4, ei4⟩ := is_v ha4
  obtain rfl : w4 = (.int i4) := Option.some.inj ei4
  obtain ⟨n, o, h1, h2, h3, _, L, rfl, ⟨rfl, N⟩, hq⟩ := rm0 l s _ hw tables_1 i0 i1 i2 i3 i4 s.heap s.heap.size (Nat.le_refl _) p e ha hc hk s m _ below hf ((Spec.applies_iff_loose hf).mp happ).1 ⟨rfl, State.Warmed39.refl s, rfl⟩ trivial
  refine ⟨n, _, h1, h2, h3, hpost _ _ _ _ _ _ ⟨Cond.after_iff.mpr rfl, Cond.after_iff.mpr (eq_i res_at (Term.int_eval (1)) rfl), trivial⟩ ⟨hq.1, hq.2.1, (hq.2.2.sift fun y hy => Or.inr (N y hy)).mono (by decide) (by decide)⟩⟩
theorem main_1_1 : Claimed_1_1 := comes_1 fun _ _ _ _ _ _ h hF => ⟨h.1, hF⟩
theorem main_1_2 : Claimed_1_2 := comes_1 fun _ _ _ _ _ _ h hF => ⟨h.2.1, hF⟩
end Jvm.Pilot.@@N@@
namespace Jvm.Pilot.@@N@@
open Jvm Jvm.ClassFile Sem Op Lib Jvm.Free Jvm.Stand Jvm.Pilot.@@N@@.Jvm.D
/-! MADE BY PROGRAM (witnessworld.py) out of the Statement's table words and the real class files: 11 classes; the members and pool entries that the words name. The judged class is class 1, her method 2. -/
namespace start1
open Jvm.ClassFile
def u (s : String) : CpInfo := .utf8 (stringToUtf16 s)
/-- a pool by its gaps: so many unusable entries, then the entry; so many at the end -/
def gap : Nat → List CpInfo → List CpInfo
  | 0, r => r
  | n + 1, r => .unusable :: gap n r
def poolList (es : List (Nat × CpInfo)) (last : Nat) : List CpInfo := es.foldr (fun e r => gap e.1 (e.2 :: r)) (gap last [])
def pool (es : List (Nat × CpInfo)) (last : Nat) : Array CpInfo := ⟨poolList es last⟩
def fileOf (pool : Array CpInfo) (this : Nat) (attrs : Array Attribute := #[]) (ms : Array MethodInfo := #[]) (fl : Nat := 33) (sup : Nat := 0) (ifs : Array Nat := #[]) (fds : Array FieldInfo := #[]) : ClassFile where
  minorVersion := 0
  majorVersion := 65
  constantPool := pool
  accessFlags := fl
  thisClass := this
  superClass := sup
  interfaces := ifs
  fields := fds
  methods := ms
  attributes := attrs
def plain (name : String) (sup : Option ClassId) : Class where
  name := name
  kind := .ordinary
  loader := none
  accessFlags := 33
  super := sup
  interfaces := #[]
  cf := none
  fields := #[]
  methods := #[]
  instanceTypes := #[]
  staticTypes := #[]
  resolved := #[]
  callSites := []
  init := .initialized
  statics := none
  mirror := none

def pool0 : Array CpInfo := pool [(5, u "<init>"), (0, u "()V"), (1, .class_ 10), (1, u "java/lang/Object")] 113

def k0c0 : Code := { maxStack := 0, maxLocals := 1, code := object_method_1_code, exceptionTable := #[], attributes := #[] }
def k0m0 : Method := { name := "<init>", desc := "()V", sig := { parameters := [], returnType := none }, accessFlags := 1, code := some k0c0 }
/-- java/lang/Object -/
def k0 : Class := { plain "java/lang/Object" none with
  accessFlags := 33
  interfaces := #[]
  cf := some (fileOf pool0 8 #[] #[{ accessFlags := 1, nameIndex := 5, descriptorIndex := 6, attributes := #[] }] 33 0 #[] #[])
  fields := #[]
  methods := #[k0m0]
  instanceTypes := #[]
  staticTypes := #[]
  resolved := Array.replicate 124 none
  statics := none }

def pool1 : Array CpInfo := pool [(2, .class_ 4), (1, u "java/lang/Object"), (0, u "<init>"), (0, u "()V"), (0, .long 128), (1, .long 16384), (1, .long 2097152), (1, .long 268435456), (1, .long 34359738368), (1, .long 4398046511104), (1, .long 562949953421312), (1, .long 72057594037927936), (3, .long 9223372036854775807), (1, .integer 2147483647), (0, .methodref 29 30), (0, .class_ 31), (0, .nameAndType 32 33), (0, u "com/example/millrace/millrace/storage/PackedGroups"), (0, u "put"), (0, u "([BIJ)I"), (0, .methodref 35 36), (0, .class_ 37), (0, .nameAndType 38 39), (0, u "com/example/millrace/millrace/storage/ReaderNumberPinLaw"), (0, u "length"), (0, u "(J)I"), (0, .class_ 41), (0, u "com/example/millrace/millrace/storage/PackedGroups$Reader"), (0, .methodref 40 43), (0, .nameAndType 5 44), (0, u "([BIIJJ)V"), (0, .methodref 40 46), (0, .nameAndType 47 48), (0, u "number"), (0, u "()J"), (0, .methodref 50 51), (0, .class_ 52), (0, .nameAndType 53 54), (0, u "java/lang/Math"), (0, u "min"), (0, u "(II)I"), (0, .methodref 40 56), (0, .nameAndType 57 58), (0, u "at"), (0, u "()I"), (3, u "law"), (0, u "(JIIII)Z")] 6

def k1m0 : Method := { name := "<init>", desc := "()V", sig := { parameters := [], returnType := none }, accessFlags := 1, code := none }
def k1c1 : Code := { maxStack := 4, maxLocals := 2, code := method_2_code, exceptionTable := #[], attributes := #[] }
def k1m1 : Method := { name := "length", desc := "(J)I", sig := { parameters := [.long], returnType := some .int }, accessFlags := 10, code := some k1c1 }
def k1c2 : Code := { maxStack := 9, maxLocals := 19, code := code, exceptionTable := #[], attributes := #[] }
def k1m2 : Method := { name := "law", desc := "(JIIII)Z", sig := { parameters := [.long, .int, .int, .int, .int], returnType := some .boolean }, accessFlags := 9, code := some k1c2 }
/-- com/example/millrace/millrace/storage/ReaderNumberPinLaw -/
def k1 : Class := { plain "com/example/millrace/millrace/storage/ReaderNumberPinLaw" (some 0) with
  accessFlags := 49
  interfaces := #[]
  cf := some (fileOf pool1 35 #[] #[{ accessFlags := 1, nameIndex := 5, descriptorIndex := 6, attributes := #[] }, { accessFlags := 10, nameIndex := 38, descriptorIndex := 39, attributes := #[] }, { accessFlags := 9, nameIndex := 62, descriptorIndex := 63, attributes := #[] }] 49 2 #[] #[])
  fields := #[]
  methods := #[k1m0, k1m1, k1m2]
  instanceTypes := #[]
  staticTypes := #[]
  resolved := Array.replicate 70 none
  statics := none }

def pool2 : Array CpInfo := pool [(2, .class_ 4), (1, u "java/lang/Object"), (0, u "<init>"), (0, u "()V"), (0, .long 128), (1, .class_ 10), (0, u "com/example/millrace/millrace/storage/PackedGroups"), (0, u "MAX_NUMBER_BYTES"), (0, u "I"), (4, u "put"), (0, u "([BIJ)I"), (4, .class_ 24), (0, u "com/example/millrace/millrace/storage/PackedGroups$Reader")] 2

def k2m0 : Method := { name := "<init>", desc := "()V", sig := { parameters := [], returnType := none }, accessFlags := 2, code := none }
def k2c1 : Code := { maxStack := 6, maxLocals := 7, code := prog_95_method_2_code, exceptionTable := #[], attributes := #[] }
def k2m1 : Method := { name := "put", desc := "([BIJ)I", sig := { parameters := [(.array .byte), .int, .long], returnType := some .int }, accessFlags := 8, code := some k2c1 }
/-- com/example/millrace/millrace/storage/PackedGroups -/
def k2 : Class := { plain "com/example/millrace/millrace/storage/PackedGroups" (some 0) with
  accessFlags := 48
  interfaces := #[]
  cf := some (fileOf pool2 9 #[.nestMembers #[23]] #[{ accessFlags := 2, nameIndex := 5, descriptorIndex := 6, attributes := #[] }, { accessFlags := 8, nameIndex := 17, descriptorIndex := 18, attributes := #[] }] 48 2 #[] #[{ accessFlags := 24, nameIndex := 11, descriptorIndex := 12, attributes := #[] }])
  fields := #[{ name := "MAX_NUMBER_BYTES", type := .int, accessFlags := 24, slot := 0, constantValue := 0 }]
  methods := #[k2m0, k2m1]
  instanceTypes := #[]
  staticTypes := #[.int]
  resolved := Array.replicate 27 none
  statics := none }

def pool3 : Array CpInfo := pool [(1, .methodref 2 3), (0, .class_ 4), (0, .nameAndType 5 6), (0, u "java/lang/Object"), (0, u "<init>"), (0, u "()V"), (0, .fieldref 8 9), (0, .class_ 10), (0, .nameAndType 11 12), (0, u "com/example/millrace/millrace/storage/PackedGroups$Reader"), (0, u "bytes"), (0, u "[B"), (0, .fieldref 8 14), (0, .nameAndType 15 16), (0, u "end"), (0, u "I"), (0, .fieldref 8 18), (0, .nameAndType 19 16), (0, u "at"), (0, .fieldref 8 21), (0, .nameAndType 22 23), (0, u "offset"), (0, u "J"), (0, .fieldref 8 25), (0, .nameAndType 26 23), (0, u "endOffset"), (0, .fieldref 8 28), (0, .nameAndType 29 23), (0, u "position"), (0, .fieldref 8 31), (0, .nameAndType 32 23), (0, u "endPosition"), (2, u "number"), (0, u "()J"), (5, u "([BIIJJ)V"), (5, u "()I"), (5, .class_ 55), (0, u "com/example/millrace/millrace/storage/PackedGroups")] 5

def k3c0 : Code := { maxStack := 3, maxLocals := 8, code := prog_96_method_1_code, exceptionTable := #[], attributes := #[] }
def k3m0 : Method := { name := "<init>", desc := "([BIIJJ)V", sig := { parameters := [(.array .byte), .int, .int, .long, .long], returnType := none }, accessFlags := 0, code := some k3c0 }
def k3c1 : Code := { maxStack := 5, maxLocals := 5, code := prog_96_method_3_code, exceptionTable := #[], attributes := #[] }
def k3m1 : Method := { name := "number", desc := "()J", sig := { parameters := [], returnType := some .long }, accessFlags := 0, code := some k3c1 }
def k3c2 : Code := { maxStack := 1, maxLocals := 1, code := prog_96_method_4_code, exceptionTable := #[], attributes := #[] }
def k3m2 : Method := { name := "at", desc := "()I", sig := { parameters := [], returnType := some .int }, accessFlags := 0, code := some k3c2 }
/-- com/example/millrace/millrace/storage/PackedGroups$Reader -/
def k3 : Class := { plain "com/example/millrace/millrace/storage/PackedGroups$Reader" (some 0) with
  accessFlags := 48
  interfaces := #[]
  cf := some (fileOf pool3 8 #[.nestHost 54] #[{ accessFlags := 0, nameIndex := 5, descriptorIndex := 42, attributes := #[] }, { accessFlags := 0, nameIndex := 35, descriptorIndex := 36, attributes := #[] }, { accessFlags := 0, nameIndex := 19, descriptorIndex := 48, attributes := #[] }] 48 2 #[] #[{ accessFlags := 18, nameIndex := 11, descriptorIndex := 12, attributes := #[] }, { accessFlags := 18, nameIndex := 15, descriptorIndex := 16, attributes := #[] }, { accessFlags := 2, nameIndex := 19, descriptorIndex := 16, attributes := #[] }, { accessFlags := 2, nameIndex := 22, descriptorIndex := 23, attributes := #[] }, { accessFlags := 2, nameIndex := 26, descriptorIndex := 23, attributes := #[] }, { accessFlags := 2, nameIndex := 29, descriptorIndex := 23, attributes := #[] }, { accessFlags := 2, nameIndex := 32, descriptorIndex := 23, attributes := #[] }])
  fields := #[{ name := "bytes", type := (.array .byte), accessFlags := 18, slot := 0, constantValue := 0 }, { name := "end", type := .int, accessFlags := 18, slot := 1, constantValue := 0 }, { name := "at", type := .int, accessFlags := 2, slot := 2, constantValue := 0 }, { name := "offset", type := .long, accessFlags := 2, slot := 3, constantValue := 0 }, { name := "endOffset", type := .long, accessFlags := 2, slot := 4, constantValue := 0 }, { name := "position", type := .long, accessFlags := 2, slot := 5, constantValue := 0 }, { name := "endPosition", type := .long, accessFlags := 2, slot := 6, constantValue := 0 }]
  methods := #[k3m0, k3m1, k3m2]
  instanceTypes := #[(.array .byte), .int, .int, .long, .long, .long, .long]
  staticTypes := #[]
  resolved := Array.replicate 61 none
  statics := none }

def pool4 : Array CpInfo := pool [(1, .class_ 2), (0, u "java/lang/Math"), (1, .class_ 6), (1, u "java/lang/Object"), (0, u "<init>"), (0, u "()V"), (89, .class_ 100), (1, u "java/lang/Math$RandomNumberGeneratorHolder"), (71, u "negativeZeroFloatBits"), (0, u "J"), (2, u "negativeZeroDoubleBits"), (24, u "min"), (43, u "$assertionsDisabled"), (0, u "Z"), (88, u "(II)I"), (2, u "twoToTheDoubleScaleDown"), (0, u "D"), (4, u "twoToTheDoubleScaleUp"), (9, u "E"), (3, u "PI"), (2, u "TAU"), (2, u "DEGREES_TO_RADIANS"), (0, u "RADIANS_TO_DEGREES")] 94

def k4m0 : Method := { name := "<init>", desc := "()V", sig := { parameters := [], returnType := none }, accessFlags := 2, code := none }
def k4c1 : Code := { maxStack := 2, maxLocals := 2, code := jdk_29_method_69_code, exceptionTable := #[], attributes := #[] }
def k4m1 : Method := { name := "min", desc := "(II)I", sig := { parameters := [.int, .int], returnType := some .int }, accessFlags := 9, code := some k4c1 }
/-- java/lang/Math -/
def k4 : Class := { plain "java/lang/Math" (some 0) with
  accessFlags := 49
  interfaces := #[]
  cf := some (fileOf pool4 1 #[.nestMembers #[98]] #[{ accessFlags := 2, nameIndex := 7, descriptorIndex := 8, attributes := #[] }, { accessFlags := 9, nameIndex := 201, descriptorIndex := 335, attributes := #[] }] 49 4 #[] #[{ accessFlags := 25, nameIndex := 354, descriptorIndex := 339, attributes := #[] }, { accessFlags := 25, nameIndex := 358, descriptorIndex := 339, attributes := #[] }, { accessFlags := 25, nameIndex := 361, descriptorIndex := 339, attributes := #[] }, { accessFlags := 26, nameIndex := 364, descriptorIndex := 339, attributes := #[] }, { accessFlags := 26, nameIndex := 365, descriptorIndex := 339, attributes := #[] }, { accessFlags := 26, nameIndex := 172, descriptorIndex := 173, attributes := #[] }, { accessFlags := 26, nameIndex := 176, descriptorIndex := 173, attributes := #[] }, { accessFlags := 8, nameIndex := 344, descriptorIndex := 339, attributes := #[] }, { accessFlags := 8, nameIndex := 338, descriptorIndex := 339, attributes := #[] }, { accessFlags := 4120, nameIndex := 245, descriptorIndex := 246, attributes := #[] }])
  fields := #[{ name := "E", type := .double, accessFlags := 25, slot := 0, constantValue := 0 }, { name := "PI", type := .double, accessFlags := 25, slot := 1, constantValue := 0 }, { name := "TAU", type := .double, accessFlags := 25, slot := 2, constantValue := 0 }, { name := "DEGREES_TO_RADIANS", type := .double, accessFlags := 26, slot := 3, constantValue := 0 }, { name := "RADIANS_TO_DEGREES", type := .double, accessFlags := 26, slot := 4, constantValue := 0 }, { name := "negativeZeroFloatBits", type := .long, accessFlags := 26, slot := 5, constantValue := 0 }, { name := "negativeZeroDoubleBits", type := .long, accessFlags := 26, slot := 6, constantValue := 0 }, { name := "twoToTheDoubleScaleUp", type := .double, accessFlags := 8, slot := 7, constantValue := 0 }, { name := "twoToTheDoubleScaleDown", type := .double, accessFlags := 8, slot := 8, constantValue := 0 }, { name := "$assertionsDisabled", type := .boolean, accessFlags := 4120, slot := 9, constantValue := 0 }]
  methods := #[k4m0, k4m1]
  instanceTypes := #[]
  staticTypes := #[.double, .double, .double, .double, .double, .long, .long, .double, .double, .boolean]
  resolved := Array.replicate 460 none
  statics := none }

def pool5 : Array CpInfo := pool [(1, u "java/lang/Cloneable"), (0, .class_ 1), (0, u "java/lang/Object"), (0, .class_ 3)] 3

/-- java/lang/Cloneable -/
def k5 : Class := { plain "java/lang/Cloneable" (some 0) with
  accessFlags := 1537
  interfaces := #[]
  cf := some (fileOf pool5 2 #[] #[] 1537 4 #[] #[])
  fields := #[]
  methods := #[]
  instanceTypes := #[]
  staticTypes := #[]
  resolved := Array.replicate 8 none
  statics := none }

def pool6 : Array CpInfo := pool [(1, u "java/io/Serializable"), (0, .class_ 1), (0, u "java/lang/Object"), (0, .class_ 3)] 3

/-- java/io/Serializable -/
def k6 : Class := { plain "java/io/Serializable" (some 0) with
  accessFlags := 1537
  interfaces := #[]
  cf := some (fileOf pool6 2 #[] #[] 1537 4 #[] #[])
  fields := #[]
  methods := #[]
  instanceTypes := #[]
  staticTypes := #[]
  resolved := Array.replicate 8 none
  statics := none }

/-- the primitive byte -/
def k7 : Class := { plain "byte" none with kind := .primitive 'B', accessFlags := 0x411 }
/-- [B -/
def k8 : Class := { plain "[B" (some 0) with kind := .array 7 .byte, interfaces := #[5, 6], accessFlags := 1041 }

/-- the primitive int -/
def k9 : Class := { plain "int" none with kind := .primitive 'I', accessFlags := 0x411 }
/-- [I -/
def k10 : Class := { plain "[I" (some 0) with kind := .array 9 .int, interfaces := #[5, 6], accessFlags := 1041 }

def heap : Heap := #[]
def classes : Array Class := #[k0, k1, k2, k3, k4, k5, k6, k7, k8, k9, k10]
def interned : List (Array UInt16 × Addr) := []
def slotsUsed : Nat := 0
def theMethod : MethodId := ⟨1, 2⟩
def args0 : Array Value := #[.long 500, .int 3, .int 1, .int 7, .int (-7)]
def aboutOver (below : List Frame) : State where
  vm := { classes := classes, interned := interned.toArray }
  heap := heap
  slotsUsed := slotsUsed
  threads := #[{ frames := .invoking theMethod args0 :: below }]
def below0 : List Frame := [.native { method := ⟨0, 0⟩, args := #[] }]
def about1 : State := aboutOver below0
def p0 : Program := .bare "" "" ""
def e0 : Env := launch0.env 0 0 0
theorem w_frames : about1.frames = Frame.invoking theMethod args0 :: below0 := rfl
set_option maxRecDepth 65536 in
theorem w_args : argsFit about1.vm theMethod args0 = true := by decide +kernel
set_option maxRecDepth 65536 in
theorem w_heap : heapFits about1 = true := by decide +kernel
set_option maxRecDepth 65536 in
theorem w_runnable : about1.curStatus? = some .runnable := by decide +kernel
set_option maxRecDepth 65536 in
theorem w_alone : about1.alone = true := by decide +kernel
set_option maxRecDepth 65536 in
theorem w_named : about1.methodNamed? x = some theMethod := by decide +kernel
set_option maxRecDepth 65536 in
theorem w_hears : about1.hears theMethod below0 = true := by decide +kernel
set_option maxRecDepth 65536 in
theorem w_ripe : about1.ripe theMethod args0 below0 = true := by decide +kernel
theorem w_running : about1.status = .running := rfl
set_option maxRecDepth 65536 in
theorem w_room : about1.hasRoom e0.platform room_1 = true :=
  launch0.hasRoom_least _ room_1 (by decide +kernel) (by decide +kernel) (by decide +kernel) (by decide +kernel) (by decide +kernel) (by decide +kernel)
theorem allAtoms_all (ts : List Jvm.Cond) (a : Array Jvm.Value) (st : Jvm.State) : (allAtoms ts).before a st = ts.all (fun c => c.before a st) := by
  induction ts with
  | nil => rfl
  | cons c t ih =>
    show (Jvm.Cond.and c (allAtoms t)).before a st = _
    rw [Jvm.Cond.before_and, ih, List.all_cons]
def words1 : List Jvm.Cond := Jvm.Cond.code x code maxLocals ret :: tables_1
/-- a 'code' word, met by the world's own term for the bytes: nothing is compared byte by byte -/
theorem code_word {y : MethodName} {bytes : ByteArray} {mx : Nat} {rt : Option FieldType} {a : Array Value} {s : State} {m : MethodId} {meth : Method} {c : Code} (h1 : s.methodNamed? y = some m) (h2 : s.vm.method? m = some meth) (h3 : meth.code = some c) (h4 : c.code = bytes)
    (h5 : (c.maxLocals == mx && c.exceptionTable.isEmpty && decide (c.maxStack ≤ mostOperands) && decide (meth.sig.returnType = rt) && !meth.locks && decide (parseMethodDescriptor y.desc = some meth.sig)) = true) : (Jvm.Cond.code y bytes mx rt).before a s = true := by
  simp only [Bool.and_eq_true, beq_iff_eq, Bool.not_eq_true', decide_eq_true_eq] at h5
  obtain ⟨⟨⟨⟨⟨g1, g2⟩, g3⟩, g4⟩, g5⟩, g6⟩ := h5
  simp [Cond.before, Cond.holds, Cond.value, h1, h2, h3, h4, g1, g2, g3, g4, g5, g6]
def isCode : Jvm.Cond → Bool
  | .code _ _ _ _ => true
  | _ => false
theorem all_split {L : List Jvm.Cond} {P : Jvm.Cond → Bool} (h1 : L.all (fun c => isCode c || P c) = true) (h2 : ∀ c ∈ L.filter isCode, P c = true) : L.all P = true := by
  refine List.all_eq_true.mpr fun c hc => ?_
  have h := List.all_eq_true.mp h1 c hc
  rcases Bool.eq_false_or_eq_true (isCode c) with hi | hi
  · exact h2 c (List.mem_filter.mpr ⟨hc, hi⟩)
  · simpa [hi] using h
set_option maxRecDepth 65536 in
theorem w_c0 : (Jvm.Cond.code x code maxLocals ret).before args0 about1 = true := code_word (m := ⟨1, 2⟩) (meth := k1m2) (c := k1c2) (by decide +kernel) rfl rfl rfl (by decide +kernel)
set_option maxRecDepth 65536 in
theorem w_c1 : (Jvm.Cond.code ({ cls := "com/example/millrace/millrace/storage/PackedGroups", name := "put", desc := "([BIJ)I" } : Jvm.MethodName) prog_95_method_2_code (7 : Nat) (Option.some Jvm.ClassFile.FieldType.int)).before args0 about1 = true := code_word (m := ⟨2, 1⟩) (meth := k2m1) (c := k2c1) (by decide +kernel) rfl rfl rfl (by decide +kernel)
set_option maxRecDepth 65536 in
theorem w_c2 : (Jvm.Cond.code ({ cls := "com/example/millrace/millrace/storage/ReaderNumberPinLaw", name := "length", desc := "(J)I" } : Jvm.MethodName) method_2_code (2 : Nat) (Option.some Jvm.ClassFile.FieldType.int)).before args0 about1 = true := code_word (m := ⟨1, 1⟩) (meth := k1m1) (c := k1c1) (by decide +kernel) rfl rfl rfl (by decide +kernel)
set_option maxRecDepth 65536 in
theorem w_c3 : (Jvm.Cond.code ({ cls := "com/example/millrace/millrace/storage/PackedGroups$Reader", name := "<init>", desc := "([BIIJJ)V" } : Jvm.MethodName) prog_96_method_1_code (8 : Nat) (Option.none : Option Jvm.ClassFile.FieldType)).before args0 about1 = true := code_word (m := ⟨3, 0⟩) (meth := k3m0) (c := k3c0) (by decide +kernel) rfl rfl rfl (by decide +kernel)
set_option maxRecDepth 65536 in
theorem w_c4 : (Jvm.Cond.code ({ cls := "java/lang/Object", name := "<init>", desc := "()V" } : Jvm.MethodName) object_method_1_code (1 : Nat) (Option.none : Option Jvm.ClassFile.FieldType)).before args0 about1 = true := code_word (m := ⟨0, 0⟩) (meth := k0m0) (c := k0c0) (by decide +kernel) rfl rfl rfl (by decide +kernel)
set_option maxRecDepth 65536 in
theorem w_c5 : (Jvm.Cond.code ({ cls := "com/example/millrace/millrace/storage/PackedGroups$Reader", name := "number", desc := "()J" } : Jvm.MethodName) prog_96_method_3_code (5 : Nat) (Option.some Jvm.ClassFile.FieldType.long)).before args0 about1 = true := code_word (m := ⟨3, 1⟩) (meth := k3m1) (c := k3c1) (by decide +kernel) rfl rfl rfl (by decide +kernel)
set_option maxRecDepth 65536 in
theorem w_c6 : (Jvm.Cond.code ({ cls := "com/example/millrace/millrace/storage/PackedGroups$Reader", name := "at", desc := "()I" } : Jvm.MethodName) prog_96_method_4_code (1 : Nat) (Option.some Jvm.ClassFile.FieldType.int)).before args0 about1 = true := code_word (m := ⟨3, 2⟩) (meth := k3m2) (c := k3c2) (by decide +kernel) rfl rfl rfl (by decide +kernel)
set_option maxRecDepth 65536 in
theorem w_c7 : (Jvm.Cond.code ({ cls := "java/lang/Math", name := "min", desc := "(II)I" } : Jvm.MethodName) jdk_29_method_69_code (2 : Nat) (Option.some Jvm.ClassFile.FieldType.int)).before args0 about1 = true := code_word (m := ⟨4, 1⟩) (meth := k4m1) (c := k4c1) (by decide +kernel) rfl rfl rfl (by decide +kernel)
def codes1 : List Jvm.Cond := [Jvm.Cond.code x code maxLocals ret, Jvm.Cond.code ({ cls := "com/example/millrace/millrace/storage/PackedGroups", name := "put", desc := "([BIJ)I" } : Jvm.MethodName) prog_95_method_2_code (7 : Nat) (Option.some Jvm.ClassFile.FieldType.int), Jvm.Cond.code ({ cls := "com/example/millrace/millrace/storage/ReaderNumberPinLaw", name := "length", desc := "(J)I" } : Jvm.MethodName) method_2_code (2 : Nat) (Option.some Jvm.ClassFile.FieldType.int), Jvm.Cond.code ({ cls := "com/example/millrace/millrace/storage/PackedGroups$Reader", name := "<init>", desc := "([BIIJJ)V" } : Jvm.MethodName) prog_96_method_1_code (8 : Nat) (Option.none : Option Jvm.ClassFile.FieldType), Jvm.Cond.code ({ cls := "java/lang/Object", name := "<init>", desc := "()V" } : Jvm.MethodName) object_method_1_code (1 : Nat) (Option.none : Option Jvm.ClassFile.FieldType), Jvm.Cond.code ({ cls := "com/example/millrace/millrace/storage/PackedGroups$Reader", name := "number", desc := "()J" } : Jvm.MethodName) prog_96_method_3_code (5 : Nat) (Option.some Jvm.ClassFile.FieldType.long), Jvm.Cond.code ({ cls := "com/example/millrace/millrace/storage/PackedGroups$Reader", name := "at", desc := "()I" } : Jvm.MethodName) prog_96_method_4_code (1 : Nat) (Option.some Jvm.ClassFile.FieldType.int), Jvm.Cond.code ({ cls := "java/lang/Math", name := "min", desc := "(II)I" } : Jvm.MethodName) jdk_29_method_69_code (2 : Nat) (Option.some Jvm.ClassFile.FieldType.int)]
set_option maxRecDepth 65536 in
theorem codes_eq : words1.filter isCode = codes1 := rfl
theorem w_codes : ∀ c ∈ words1.filter isCode, c.before args0 about1 = true := by
  rw [codes_eq]
  intro c hc
  simp only [codes1, List.mem_cons, List.not_mem_nil, or_false] at hc
  rcases hc with rfl | rfl | rfl | rfl | rfl | rfl | rfl | rfl
  · exact w_c0
  · exact w_c1
  · exact w_c2
  · exact w_c3
  · exact w_c4
  · exact w_c5
  · exact w_c6
  · exact w_c7
set_option maxRecDepth 65536 in
theorem w_t1 : (words1.take 24).all (fun c => isCode c || c.before args0 about1) = true := by decide +kernel
set_option maxRecDepth 65536 in
theorem w_t2 : ((words1.drop 24).take 24).all (fun c => isCode c || c.before args0 about1) = true := by decide +kernel
set_option maxRecDepth 65536 in
theorem w_t3 : ((words1.drop 24).drop 24).all (fun c => isCode c || c.before args0 about1) = true := by decide +kernel
theorem w_tables : (allAtoms (Jvm.Cond.code x code maxLocals ret :: tables_1)).before args0 about1 = true := by
  rw [allAtoms_all]
  show words1.all (fun c => c.before args0 about1) = true
  refine all_split ?_ w_codes
  rw [← List.take_append_drop 24 words1, List.all_append, w_t1, ← List.take_append_drop 24 (words1.drop 24), List.all_append, w_t2, w_t3]
  rfl
set_option maxRecDepth 65536 in
theorem w_case : (Jvm.Cond.and given_1 narrow_1).before args0 about1 = true := by decide +kernel
theorem w_applies : (headSpec (Jvm.Cond.code x code maxLocals ret :: tables_1) room_1).applies x e0.platform about1 = true :=
  (Spec.applies_iff w_frames).mpr ⟨w_running, w_runnable, w_alone, w_named, w_hears, w_ripe, w_room, w_tables⟩
theorem atStart : AtStart classFile x code maxLocals ret World_1 tables_1 room_1 Calls_1 rest_1 Pre_1 launch0 p0 e0 about1 theMethod args0 below0 :=
  ⟨lists_1, trivial, launch0.admits_env _ _ _, launch0.least_env, fairChoices_fair.cas, fairChoices_fair.clock, w_frames, w_args, w_heap, w_applies, trivial, trivial, w_case⟩
end start1
theorem witness_1 : WitnessClaimed_1 := ⟨start1.p0, start1.e0, start1.about1, start1.theMethod, start1.args0, start1.below0, start1.atStart⟩
end Jvm.Pilot.@@N@@
