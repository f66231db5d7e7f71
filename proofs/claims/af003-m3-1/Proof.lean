import JvmDerived
import JvmDerived.Pilot.@@N@@Statement
import JvmDerived.Pilot.@@N@@Code
set_option linter.unusedVariables false
set_option linter.unusedSimpArgs false
namespace Jvm.RoadKit
open Sem ClassFile Op Lib Jvm.Stand Jvm.Free Jvm.LawKit
section New
variable {p : Program} {l : Launch} {e : Env} {R : Room} {s : State} {m : MethodId} {args : Array Value} {below : List Frame} {meth : Method} {c : Code} {T T' : State} {locs : List Loc} {cells slots cs sl : Nat} {Q : Option Value → Heap → List Loc → Prop}
/-- from T the run ends, and Q holds at the end -/
def Gl (p : Program) (e : Env) (below : List Frame) (s : State) (Q : Option Value → Heap → List Loc → Prop) (cs sl : Nat) (T : State) : Prop :=
  ∃ s₂ o, Steps p.tables e below T s₂ ∧ s₂.status = .running ∧ Ended s₂ below o ∧ ∃ v L, o = .returned v ∧ Q v s₂.heap L ∧ FrameEnd s o s₂ L cs sl
theorem Gl.st (k : ∀ t, Steps p.tables e below T' t → Steps p.tables e below T t) (h : Gl p e below s Q cs sl T') : Gl p e below s Q cs sl T := by
  obtain ⟨a, o, h1, r⟩ := h
  exact ⟨a, o, k _ h1, r⟩
theorem Gl.to (k : Steps p.tables e below T T') (h : Gl p e below s Q cs sl T') : Gl p e below s Q cs sl T := Gl.st (fun _ q => k.trans q) h
theorem Gl.fin (X : Stand p l e R s m args below meth c T locs cells slots) {v : Option Value} (hv : meth.sig.returnType = none → v = none) (hlk : meth.locks = false) (hQ : Q v T.heap locs) (hc : cells ≤ cs) (hs : slots ≤ sl) {S0 : State}
    (k : ∀ fs, (∀ (f : JFrame) (acts : List Action), f.method = m → f.locked = none → f.entered = [] → (doReturn e (T.setTop f) acts v).1 = T.setFrames fs) → Steps p.tables e below S0 (T.setFrames fs)) : Gl p e below s Q cs sl S0 := by
  obtain ⟨fs, hr, hrun, hended, hW, hsame⟩ := X.leave hv hlk
  exact ⟨_, _, k fs hr, hrun, hended, v, locs, rfl, hQ, ⟨_, rfl⟩, hW, hsame.mono hc hs⟩
theorem Gl.retN (X : Stand p l e R s m args below meth c T locs cells slots) (hx : p.tables.exec = Jvm.exec) (hlk : meth.locks = false) {pc : Nat} {Ls : Array Slot} {z : Int32} {t : FieldType} {rest : List Value} (hret : meth.sig.returnType = some t) (ht : t = .boolean ∨ t = .byte ∨ t = .char ∨ t = .short)
    (hd : decode c.code pc = .ok (.ireturn, 1)) (hQ : Q (some (.int (nar t z))) T.heap locs) (hc : cells ≤ cs) (hs : slots ≤ sl) : Gl p e below s Q cs sl (T.setTop (mkF m pc Ls (.int z :: rest))) :=
  Gl.fin X (fun h => by rw [hret] at h; cases h) hlk hQ hc hs fun _ hr => Jvm.RoadKit.retN X hx hret ht hd hr
theorem Gl.retI (X : Stand p l e R s m args below meth c T locs cells slots) (hx : p.tables.exec = Jvm.exec) (hlk : meth.locks = false) {pc : Nat} {Ls : Array Slot} {z : Int32} {rest : List Value} (hret : meth.sig.returnType = some .int)
    (hd : decode c.code pc = .ok (.ireturn, 1)) (hQ : Q (some (.int z)) T.heap locs) (hc : cells ≤ cs) (hs : slots ≤ sl) : Gl p e below s Q cs sl (T.setTop (mkF m pc Ls (.int z :: rest))) :=
  Gl.fin X (fun h => by rw [hret] at h; cases h) hlk hQ hc hs fun _ hr => retOut X hx hret rfl (Or.inl ⟨rfl, Or.inl rfl, z, rfl⟩) hd hr
theorem Gl.retJ (X : Stand p l e R s m args below meth c T locs cells slots) (hx : p.tables.exec = Jvm.exec) (hlk : meth.locks = false) {pc : Nat} {Ls : Array Slot} {z : Int64} {rest : List Value} (hret : meth.sig.returnType = some .long)
    (hd : decode c.code pc = .ok (.lreturn, 1)) (hQ : Q (some (.long z)) T.heap locs) (hc : cells ≤ cs) (hs : slots ≤ sl) : Gl p e below s Q cs sl (T.setTop (mkF m pc Ls (.long z :: rest))) :=
  Gl.fin X (fun h => by rw [hret] at h; cases h) hlk hQ hc hs fun _ hr => retOut X hx hret rfl (Or.inr (Or.inl ⟨rfl, rfl, z, rfl⟩)) hd hr
theorem Gl.retV (X : Stand p l e R s m args below meth c T locs cells slots) (hx : p.tables.exec = Jvm.exec) (hlk : meth.locks = false) {pc : Nat} {Ls : Array Slot} (hret : meth.sig.returnType = none)
    (hd : decode c.code pc = .ok (.return_, 1)) (hQ : Q none T.heap locs) (hc : cells ≤ cs) (hs : slots ≤ sl) : Gl p e below s Q cs sl (T.setTop (mkF m pc Ls [])) :=
  Gl.fin X (fun _ => rfl) hlk hQ hc hs fun _ hr => X.returnOut hx hret hd hr
/-- .. where String constants may have been interned -/
def GlW (p : Program) (e : Env) (below : List Frame) (s : State) (Q : Option Value → Heap → List Loc → Prop) (cs sl : Nat) (T : State) : Prop :=
  ∃ s₂ o, Steps p.tables e below T s₂ ∧ s₂.status = .running ∧ Ended s₂ below o ∧ ∃ v L, o = .returned v ∧ Q v s₂.heap L ∧ ReturnedEndW s o s₂ L cs sl
theorem GlW.st (k : ∀ t, Steps p.tables e below T' t → Steps p.tables e below T t) (h : GlW p e below s Q cs sl T') : GlW p e below s Q cs sl T := by
  obtain ⟨a, o, h1, r⟩ := h
  exact ⟨a, o, k _ h1, r⟩
theorem GlW.to (k : Steps p.tables e below T T') (h : GlW p e below s Q cs sl T') : GlW p e below s Q cs sl T := GlW.st (fun _ q => k.trans q) h
theorem GlW.retN {vm₁ : Vm} (X : Stand p l e R (s.setVm vm₁) m args below meth c T locs cells slots) (hx : p.tables.exec = Jvm.exec) {n : Nat} (hS : s.Since vm₁ n) (hn : n ≤ T.heap.size) (hlk : meth.locks = false) {pc : Nat} {Ls : Array Slot} {z : Int32} {t : FieldType} {rest : List Value} (hret : meth.sig.returnType = some t) (ht : t = .boolean ∨ t = .byte ∨ t = .char ∨ t = .short)
    (hd : decode c.code pc = .ok (.ireturn, 1)) (hQ : Q (some (.int (nar t z))) T.heap locs) (hc : cells ≤ cs) (hs : slots ≤ sl) : GlW p e below s Q cs sl (T.setTop (mkF m pc Ls (.int z :: rest))) := by
  obtain ⟨fs, hr, hrun, hended, h1, h2, h3, h4⟩ := X.leaveW hS hn (v := some (.int (nar t z))) (fun h => by rw [hret] at h; cases h) hlk
  exact ⟨_, _, Jvm.RoadKit.retN X hx hret ht hd hr, hrun, hended, _, locs, rfl, hQ, h1, h2, h3, h4.mono hc hs⟩
theorem lc_t {x y : Int64} (h : x < y) : ifCond.holds .lt (lcmpW x y) = true ∧ ifCond.holds .ge (lcmpW x y) = false ∧ ifCond.holds .gt (lcmpW y x) = true ∧ ifCond.holds .le (lcmpW y x) = false :=
  have a := tlt ((lw_lt x y).mpr h)
  have b := tlt ((lw_gt y x).mpr h)
  ⟨(if0 _ _).trans a.1, (if0 _ _).trans a.2.1, (if0 _ _).trans b.2.2.1, (if0 _ _).trans b.2.2.2⟩
theorem lc_f {x y : Int64} (h : ¬ x < y) : ifCond.holds .lt (lcmpW x y) = false ∧ ifCond.holds .ge (lcmpW x y) = true ∧ ifCond.holds .gt (lcmpW y x) = false ∧ ifCond.holds .le (lcmpW y x) = true :=
  have a := flt (fun q => h ((lw_lt x y).mp q))
  have b := flt (fun q => h ((lw_gt y x).mp q))
  ⟨(if0 _ _).trans a.1, (if0 _ _).trans a.2.1, (if0 _ _).trans b.2.2.1, (if0 _ _).trans b.2.2.2⟩
theorem le_t {x y : Int64} (h : x = y) : ifCond.holds .eq (lcmpW x y) = true ∧ ifCond.holds .ne (lcmpW x y) = false :=
  have a := teq ((lw_eq x y).mpr h)
  ⟨(if0 _ _).trans a.1, (if0 _ _).trans a.2⟩
theorem le_f {x y : Int64} (h : ¬ x = y) : ifCond.holds .eq (lcmpW x y) = false ∧ ifCond.holds .ne (lcmpW x y) = true :=
  have a := feq (fun q => h ((lw_eq x y).mp q))
  ⟨(if0 _ _).trans a.1, (if0 _ _).trans a.2⟩
end New
end Jvm.RoadKit
namespace Jvm.Pilot.@@N@@
open Jvm Jvm.ClassFile Sem Op Lib Jvm.Free Jvm.Stand Jvm.LawKit Jvm.RoadKit Bundle Jvm.Pilot.@@N@@.Jvm.D
def own_len (q1 : Int64) : Int32 := (if q1 < (128 : Int64) then (1 : Int32) else (if q1 < (16384 : Int64) then (2 : Int32) else (if q1 < (2097152 : Int64) then (3 : Int32) else (if q1 < (268435456 : Int64) then (4 : Int32) else (if q1 < (34359738368 : Int64) then (5 : Int32) else (if q1 < (4398046511104 : Int64) then (6 : Int32) else (if q1 < (562949953421312 : Int64) then (7 : Int32) else (if q1 < (72057594037927936 : Int64) then (8 : Int32) else (9 : Int32)))))))))
theorem d2_0 : decode method_2_code 0 = .ok (.lload_n 0, 1) := by decide +kernel
theorem d2_1 : decode method_2_code 1 = .ok (.ldc2_w 7, 3) := by decide +kernel
theorem d2_4 : decode method_2_code 4 = .ok (.lcmp, 1) := by decide +kernel
theorem d2_5 : decode method_2_code 5 = .ok (.ifCond .ge 5, 3) := by decide +kernel
theorem d2_8 : decode method_2_code 8 = .ok (.iconst 1, 1) := by decide +kernel
theorem d2_9 : decode method_2_code 9 = .ok (.ireturn, 1) := by decide +kernel
theorem d2_10 : decode method_2_code 10 = .ok (.lload_n 0, 1) := by decide +kernel
theorem d2_11 : decode method_2_code 11 = .ok (.ldc2_w 9, 3) := by decide +kernel
theorem d2_14 : decode method_2_code 14 = .ok (.lcmp, 1) := by decide +kernel
theorem d2_15 : decode method_2_code 15 = .ok (.ifCond .ge 5, 3) := by decide +kernel
theorem d2_18 : decode method_2_code 18 = .ok (.iconst 2, 1) := by decide +kernel
theorem d2_19 : decode method_2_code 19 = .ok (.ireturn, 1) := by decide +kernel
theorem d2_20 : decode method_2_code 20 = .ok (.lload_n 0, 1) := by decide +kernel
theorem d2_21 : decode method_2_code 21 = .ok (.ldc2_w 11, 3) := by decide +kernel
theorem d2_24 : decode method_2_code 24 = .ok (.lcmp, 1) := by decide +kernel
theorem d2_25 : decode method_2_code 25 = .ok (.ifCond .ge 5, 3) := by decide +kernel
theorem d2_28 : decode method_2_code 28 = .ok (.iconst 3, 1) := by decide +kernel
theorem d2_29 : decode method_2_code 29 = .ok (.ireturn, 1) := by decide +kernel
theorem d2_30 : decode method_2_code 30 = .ok (.lload_n 0, 1) := by decide +kernel
theorem d2_31 : decode method_2_code 31 = .ok (.ldc2_w 13, 3) := by decide +kernel
theorem d2_34 : decode method_2_code 34 = .ok (.lcmp, 1) := by decide +kernel
theorem d2_35 : decode method_2_code 35 = .ok (.ifCond .ge 5, 3) := by decide +kernel
theorem d2_38 : decode method_2_code 38 = .ok (.iconst 4, 1) := by decide +kernel
theorem d2_39 : decode method_2_code 39 = .ok (.ireturn, 1) := by decide +kernel
theorem d2_40 : decode method_2_code 40 = .ok (.lload_n 0, 1) := by decide +kernel
theorem d2_41 : decode method_2_code 41 = .ok (.ldc2_w 15, 3) := by decide +kernel
theorem d2_44 : decode method_2_code 44 = .ok (.lcmp, 1) := by decide +kernel
theorem d2_45 : decode method_2_code 45 = .ok (.ifCond .ge 5, 3) := by decide +kernel
theorem d2_48 : decode method_2_code 48 = .ok (.iconst 5, 1) := by decide +kernel
theorem d2_49 : decode method_2_code 49 = .ok (.ireturn, 1) := by decide +kernel
theorem d2_50 : decode method_2_code 50 = .ok (.lload_n 0, 1) := by decide +kernel
theorem d2_51 : decode method_2_code 51 = .ok (.ldc2_w 17, 3) := by decide +kernel
theorem d2_54 : decode method_2_code 54 = .ok (.lcmp, 1) := by decide +kernel
theorem d2_55 : decode method_2_code 55 = .ok (.ifCond .ge 6, 3) := by decide +kernel
theorem d2_58 : decode method_2_code 58 = .ok (.bipush 6, 2) := by decide +kernel
theorem d2_60 : decode method_2_code 60 = .ok (.ireturn, 1) := by decide +kernel
theorem d2_61 : decode method_2_code 61 = .ok (.lload_n 0, 1) := by decide +kernel
theorem d2_62 : decode method_2_code 62 = .ok (.ldc2_w 19, 3) := by decide +kernel
theorem d2_65 : decode method_2_code 65 = .ok (.lcmp, 1) := by decide +kernel
theorem d2_66 : decode method_2_code 66 = .ok (.ifCond .ge 6, 3) := by decide +kernel
theorem d2_69 : decode method_2_code 69 = .ok (.bipush 7, 2) := by decide +kernel
theorem d2_71 : decode method_2_code 71 = .ok (.ireturn, 1) := by decide +kernel
theorem d2_72 : decode method_2_code 72 = .ok (.lload_n 0, 1) := by decide +kernel
theorem d2_73 : decode method_2_code 73 = .ok (.ldc2_w 21, 3) := by decide +kernel
theorem d2_76 : decode method_2_code 76 = .ok (.lcmp, 1) := by decide +kernel
theorem d2_77 : decode method_2_code 77 = .ok (.ifCond .ge 6, 3) := by decide +kernel
theorem d2_80 : decode method_2_code 80 = .ok (.bipush 8, 2) := by decide +kernel
theorem d2_82 : decode method_2_code 82 = .ok (.ireturn, 1) := by decide +kernel
theorem d2_83 : decode method_2_code 83 = .ok (.bipush 9, 2) := by decide +kernel
theorem d2_85 : decode method_2_code 85 = .ok (.ireturn, 1) := by decide +kernel
theorem pf_0 : plainFor (⟨"com/example/millrace/millrace/storage/PackedGroupsPutPinLaw", "len", "(J)I"⟩ : MethodName) = true := by decide +kernel
def Q2 (Z : State) (q1 : Int64) (h0 : Heap) (n0 : Nat) (v : Option Value) (h : Heap) (L : List Loc) : Prop := v = some (.int (own_len q1)) ∧ Fr n0 L ∧ h = h0
theorem ef_2 (m : MethodId) (q1 : Int64) : entryFrame m #[(.long q1)] 2 = mkF m 0 #[.val (.long q1), .second] [] := by first | (simp [entryFrame, mkF, argsToLocals, Value.category]; done) | rfl
set_option maxRecDepth 65536 in
set_option maxHeartbeats 40000000 in
theorem rm2 (l : Launch) (Z : State) (a0 : Array Value) (hw : ∀ d ∈ tables_1, d.before a0 Z = true) (ws : List Jvm.Cond) (q1 : Int64) (h0 : Heap) (n0 : Nat) :
    MetFree l (⟨"com/example/millrace/millrace/storage/PackedGroupsPutPinLaw", "len", "(J)I"⟩ : MethodName) (head1 (Jvm.Cond.code (⟨"com/example/millrace/millrace/storage/PackedGroupsPutPinLaw", "len", "(J)I"⟩ : MethodName) method_2_code 2 (some .int) :: ws) ({ frames := 0, cells := 0, slots := 0, locals := 0 } : Room)) (fun a U => a = #[(.long q1)] ∧ Z.Warmed39 U.vm ∧ U.heap = h0) (fun _ _ _ _ _ => True) (fun _ U o U' => ∃ v L, o = .returned v ∧ Q2 Z q1 h0 n0 v U'.heap L ∧ FrameEnd U o U' L ({ frames := 0, cells := 0, slots := 0, locals := 0 } : Room).cells ({ frames := 0, cells := 0, slots := 0, locals := 0 } : Room).slots) := by
  refine MetFree.of_bodySF pf_0 hisR ?_
  intro p e s m args below meth c s₁ Bd hml0 hP hK
  obtain ⟨rfl, hZ, hh⟩ := hP
  have hx := Bd.exec
  have hby := Bd.bytes
  have hlk : meth.locks = false := BodyLoose.notSynchronized Bd
  have hml : c.maxLocals = 2 := hml0
  have hown : s.vm.findClass "com/example/millrace/millrace/storage/PackedGroupsPutPinLaw" = some m.cls := findClass_of_methodNamed Bd.named
  have hnm := (name_of_methodNamed Bd.named Bd.method).1
  have X0 : Stand p l e ({ frames := 0, cells := 0, slots := 0, locals := 0 } : Room) s m #[(.long q1)] below meth c s₁ [] 0 0 := Stand.of_body Bd
  have e0 : s₁.heap = h0 := by rw [← hh, Bd.state]; rfl
  have N0 := Fr.nil n0
  show Gl p e below s (Q2 Z q1 h0 n0) ({ frames := 0, cells := 0, slots := 0, locals := 0 } : Room).cells ({ frames := 0, cells := 0, slots := 0, locals := 0 } : Room).slots (s₁.setTop (entryFrame m #[(.long q1)] 2))
  rw [ef_2]
  show Gl _ _ _ _ _ _ _ (s₁.setTop (mkF m 0 #[.val (.long q1), .second] []))
  refine Gl.st (fun t k => XS.lloadN X0.here hx rfl (hb hby d2_0) rfl  k) ?_
  show Gl _ _ _ _ _ _ _ (s₁.setTop (mkF m 1 #[.val (.long q1), .second] [(.long q1)]))
  refine Gl.st (X0.ldc2Long hx hown (mvT hZ (hw _ (List.mem_of_getElem? (i := 11) rfl))) (g := (mkF m 1 #[.val (.long q1), .second] [(.long q1)])) rfl (hb hby d2_1)) ?_
  show Gl _ _ _ _ _ _ _ (s₁.setTop (mkF m 4 #[.val (.long q1), .second] [(.long (128 : Int64)), (.long q1)]))
  refine Gl.st (fun t k => XS.lcmp X0.here hx rfl (hb hby d2_4) rfl k) ?_
  show Gl _ _ _ _ _ _ _ (s₁.setTop (mkF m 5 #[.val (.long q1), .second] [(.int (lcmpW q1 (128 : Int64)))]))
  by_cases hc5 : q1 < (128 : Int64)
  · refine Gl.st (fun t k => XS.ifNo X0.here hx rfl (hb hby d2_5) rfl (lc_t hc5).2.1 k) ?_
    show Gl _ _ _ _ _ _ _ (s₁.setTop (mkF m 8 #[.val (.long q1), .second] []))
    refine Gl.st (fun t k => XS.iconst X0.here hx rfl (hb hby d2_8) k) ?_
    show Gl _ _ _ _ _ _ _ (s₁.setTop (mkF m 9 #[.val (.long q1), .second] [(.int (1 : Int32))]))
    exact Gl.retI X0 hx hlk Bd.returns (hb hby d2_9) (⟨congrArg (fun z => some (Value.int z)) (show (1 : Int32) = own_len q1 from by simp only [own_len, if_pos hc5]), N0, e0⟩) (by decide) (by decide)
  · refine Gl.st (fun t k => XS.ifYes X0.here hx rfl (pc0 := 5) (pc' := 10) rfl (hb hby d2_5) rfl (lc_f hc5).2.1 (by decide) (by decide) k) ?_
    show Gl _ _ _ _ _ _ _ (s₁.setTop (mkF m 10 #[.val (.long q1), .second] []))
    refine Gl.st (fun t k => XS.lloadN X0.here hx rfl (hb hby d2_10) rfl  k) ?_
    show Gl _ _ _ _ _ _ _ (s₁.setTop (mkF m 11 #[.val (.long q1), .second] [(.long q1)]))
    refine Gl.st (X0.ldc2Long hx hown (mvT hZ (hw _ (List.mem_of_getElem? (i := 45) rfl))) (g := (mkF m 11 #[.val (.long q1), .second] [(.long q1)])) rfl (hb hby d2_11)) ?_
    show Gl _ _ _ _ _ _ _ (s₁.setTop (mkF m 14 #[.val (.long q1), .second] [(.long (16384 : Int64)), (.long q1)]))
    refine Gl.st (fun t k => XS.lcmp X0.here hx rfl (hb hby d2_14) rfl k) ?_
    show Gl _ _ _ _ _ _ _ (s₁.setTop (mkF m 15 #[.val (.long q1), .second] [(.int (lcmpW q1 (16384 : Int64)))]))
    by_cases hc15 : q1 < (16384 : Int64)
    · refine Gl.st (fun t k => XS.ifNo X0.here hx rfl (hb hby d2_15) rfl (lc_t hc15).2.1 k) ?_
      show Gl _ _ _ _ _ _ _ (s₁.setTop (mkF m 18 #[.val (.long q1), .second] []))
      refine Gl.st (fun t k => XS.iconst X0.here hx rfl (hb hby d2_18) k) ?_
      show Gl _ _ _ _ _ _ _ (s₁.setTop (mkF m 19 #[.val (.long q1), .second] [(.int (2 : Int32))]))
      exact Gl.retI X0 hx hlk Bd.returns (hb hby d2_19) (⟨congrArg (fun z => some (Value.int z)) (show (2 : Int32) = own_len q1 from by simp only [own_len, if_neg hc5, if_pos hc15]), N0, e0⟩) (by decide) (by decide)
    · refine Gl.st (fun t k => XS.ifYes X0.here hx rfl (pc0 := 15) (pc' := 20) rfl (hb hby d2_15) rfl (lc_f hc15).2.1 (by decide) (by decide) k) ?_
      show Gl _ _ _ _ _ _ _ (s₁.setTop (mkF m 20 #[.val (.long q1), .second] []))
      refine Gl.st (fun t k => XS.lloadN X0.here hx rfl (hb hby d2_20) rfl  k) ?_
      show Gl _ _ _ _ _ _ _ (s₁.setTop (mkF m 21 #[.val (.long q1), .second] [(.long q1)]))
      refine Gl.st (X0.ldc2Long hx hown (mvT hZ (hw _ (List.mem_of_getElem? (i := 46) rfl))) (g := (mkF m 21 #[.val (.long q1), .second] [(.long q1)])) rfl (hb hby d2_21)) ?_
      show Gl _ _ _ _ _ _ _ (s₁.setTop (mkF m 24 #[.val (.long q1), .second] [(.long (2097152 : Int64)), (.long q1)]))
      refine Gl.st (fun t k => XS.lcmp X0.here hx rfl (hb hby d2_24) rfl k) ?_
      show Gl _ _ _ _ _ _ _ (s₁.setTop (mkF m 25 #[.val (.long q1), .second] [(.int (lcmpW q1 (2097152 : Int64)))]))
      by_cases hc25 : q1 < (2097152 : Int64)
      · refine Gl.st (fun t k => XS.ifNo X0.here hx rfl (hb hby d2_25) rfl (lc_t hc25).2.1 k) ?_
        show Gl _ _ _ _ _ _ _ (s₁.setTop (mkF m 28 #[.val (.long q1), .second] []))
        refine Gl.st (fun t k => XS.iconst X0.here hx rfl (hb hby d2_28) k) ?_
        show Gl _ _ _ _ _ _ _ (s₁.setTop (mkF m 29 #[.val (.long q1), .second] [(.int (3 : Int32))]))
        exact Gl.retI X0 hx hlk Bd.returns (hb hby d2_29) (⟨congrArg (fun z => some (Value.int z)) (show (3 : Int32) = own_len q1 from by simp only [own_len, if_neg hc5, if_neg hc15, if_pos hc25]), N0, e0⟩) (by decide) (by decide)
      · refine Gl.st (fun t k => XS.ifYes X0.here hx rfl (pc0 := 25) (pc' := 30) rfl (hb hby d2_25) rfl (lc_f hc25).2.1 (by decide) (by decide) k) ?_
        show Gl _ _ _ _ _ _ _ (s₁.setTop (mkF m 30 #[.val (.long q1), .second] []))
        refine Gl.st (fun t k => XS.lloadN X0.here hx rfl (hb hby d2_30) rfl  k) ?_
        show Gl _ _ _ _ _ _ _ (s₁.setTop (mkF m 31 #[.val (.long q1), .second] [(.long q1)]))
        refine Gl.st (X0.ldc2Long hx hown (mvT hZ (hw _ (List.mem_of_getElem? (i := 47) rfl))) (g := (mkF m 31 #[.val (.long q1), .second] [(.long q1)])) rfl (hb hby d2_31)) ?_
        show Gl _ _ _ _ _ _ _ (s₁.setTop (mkF m 34 #[.val (.long q1), .second] [(.long (268435456 : Int64)), (.long q1)]))
        refine Gl.st (fun t k => XS.lcmp X0.here hx rfl (hb hby d2_34) rfl k) ?_
        show Gl _ _ _ _ _ _ _ (s₁.setTop (mkF m 35 #[.val (.long q1), .second] [(.int (lcmpW q1 (268435456 : Int64)))]))
        by_cases hc35 : q1 < (268435456 : Int64)
        · refine Gl.st (fun t k => XS.ifNo X0.here hx rfl (hb hby d2_35) rfl (lc_t hc35).2.1 k) ?_
          show Gl _ _ _ _ _ _ _ (s₁.setTop (mkF m 38 #[.val (.long q1), .second] []))
          refine Gl.st (fun t k => XS.iconst X0.here hx rfl (hb hby d2_38) k) ?_
          show Gl _ _ _ _ _ _ _ (s₁.setTop (mkF m 39 #[.val (.long q1), .second] [(.int (4 : Int32))]))
          exact Gl.retI X0 hx hlk Bd.returns (hb hby d2_39) (⟨congrArg (fun z => some (Value.int z)) (show (4 : Int32) = own_len q1 from by simp only [own_len, if_neg hc5, if_neg hc15, if_neg hc25, if_pos hc35]), N0, e0⟩) (by decide) (by decide)
        · refine Gl.st (fun t k => XS.ifYes X0.here hx rfl (pc0 := 35) (pc' := 40) rfl (hb hby d2_35) rfl (lc_f hc35).2.1 (by decide) (by decide) k) ?_
          show Gl _ _ _ _ _ _ _ (s₁.setTop (mkF m 40 #[.val (.long q1), .second] []))
          refine Gl.st (fun t k => XS.lloadN X0.here hx rfl (hb hby d2_40) rfl  k) ?_
          show Gl _ _ _ _ _ _ _ (s₁.setTop (mkF m 41 #[.val (.long q1), .second] [(.long q1)]))
          refine Gl.st (X0.ldc2Long hx hown (mvT hZ (hw _ (List.mem_of_getElem? (i := 48) rfl))) (g := (mkF m 41 #[.val (.long q1), .second] [(.long q1)])) rfl (hb hby d2_41)) ?_
          show Gl _ _ _ _ _ _ _ (s₁.setTop (mkF m 44 #[.val (.long q1), .second] [(.long (34359738368 : Int64)), (.long q1)]))
          refine Gl.st (fun t k => XS.lcmp X0.here hx rfl (hb hby d2_44) rfl k) ?_
          show Gl _ _ _ _ _ _ _ (s₁.setTop (mkF m 45 #[.val (.long q1), .second] [(.int (lcmpW q1 (34359738368 : Int64)))]))
          by_cases hc45 : q1 < (34359738368 : Int64)
          · refine Gl.st (fun t k => XS.ifNo X0.here hx rfl (hb hby d2_45) rfl (lc_t hc45).2.1 k) ?_
            show Gl _ _ _ _ _ _ _ (s₁.setTop (mkF m 48 #[.val (.long q1), .second] []))
            refine Gl.st (fun t k => XS.iconst X0.here hx rfl (hb hby d2_48) k) ?_
            show Gl _ _ _ _ _ _ _ (s₁.setTop (mkF m 49 #[.val (.long q1), .second] [(.int (5 : Int32))]))
            exact Gl.retI X0 hx hlk Bd.returns (hb hby d2_49) (⟨congrArg (fun z => some (Value.int z)) (show (5 : Int32) = own_len q1 from by simp only [own_len, if_neg hc5, if_neg hc15, if_neg hc25, if_neg hc35, if_pos hc45]), N0, e0⟩) (by decide) (by decide)
          · refine Gl.st (fun t k => XS.ifYes X0.here hx rfl (pc0 := 45) (pc' := 50) rfl (hb hby d2_45) rfl (lc_f hc45).2.1 (by decide) (by decide) k) ?_
            show Gl _ _ _ _ _ _ _ (s₁.setTop (mkF m 50 #[.val (.long q1), .second] []))
            refine Gl.st (fun t k => XS.lloadN X0.here hx rfl (hb hby d2_50) rfl  k) ?_
            show Gl _ _ _ _ _ _ _ (s₁.setTop (mkF m 51 #[.val (.long q1), .second] [(.long q1)]))
            refine Gl.st (X0.ldc2Long hx hown (mvT hZ (hw _ (List.mem_of_getElem? (i := 49) rfl))) (g := (mkF m 51 #[.val (.long q1), .second] [(.long q1)])) rfl (hb hby d2_51)) ?_
            show Gl _ _ _ _ _ _ _ (s₁.setTop (mkF m 54 #[.val (.long q1), .second] [(.long (4398046511104 : Int64)), (.long q1)]))
            refine Gl.st (fun t k => XS.lcmp X0.here hx rfl (hb hby d2_54) rfl k) ?_
            show Gl _ _ _ _ _ _ _ (s₁.setTop (mkF m 55 #[.val (.long q1), .second] [(.int (lcmpW q1 (4398046511104 : Int64)))]))
            by_cases hc55 : q1 < (4398046511104 : Int64)
            · refine Gl.st (fun t k => XS.ifNo X0.here hx rfl (hb hby d2_55) rfl (lc_t hc55).2.1 k) ?_
              show Gl _ _ _ _ _ _ _ (s₁.setTop (mkF m 58 #[.val (.long q1), .second] []))
              refine Gl.st (fun t k => XS.bipush X0.here hx rfl (hb hby d2_58) k) ?_
              show Gl _ _ _ _ _ _ _ (s₁.setTop (mkF m 60 #[.val (.long q1), .second] [(.int (6 : Int32))]))
              exact Gl.retI X0 hx hlk Bd.returns (hb hby d2_60) (⟨congrArg (fun z => some (Value.int z)) (show (6 : Int32) = own_len q1 from by simp only [own_len, if_neg hc5, if_neg hc15, if_neg hc25, if_neg hc35, if_neg hc45, if_pos hc55]), N0, e0⟩) (by decide) (by decide)
            · refine Gl.st (fun t k => XS.ifYes X0.here hx rfl (pc0 := 55) (pc' := 61) rfl (hb hby d2_55) rfl (lc_f hc55).2.1 (by decide) (by decide) k) ?_
              show Gl _ _ _ _ _ _ _ (s₁.setTop (mkF m 61 #[.val (.long q1), .second] []))
              refine Gl.st (fun t k => XS.lloadN X0.here hx rfl (hb hby d2_61) rfl  k) ?_
              show Gl _ _ _ _ _ _ _ (s₁.setTop (mkF m 62 #[.val (.long q1), .second] [(.long q1)]))
              refine Gl.st (X0.ldc2Long hx hown (mvT hZ (hw _ (List.mem_of_getElem? (i := 50) rfl))) (g := (mkF m 62 #[.val (.long q1), .second] [(.long q1)])) rfl (hb hby d2_62)) ?_
              show Gl _ _ _ _ _ _ _ (s₁.setTop (mkF m 65 #[.val (.long q1), .second] [(.long (562949953421312 : Int64)), (.long q1)]))
              refine Gl.st (fun t k => XS.lcmp X0.here hx rfl (hb hby d2_65) rfl k) ?_
              show Gl _ _ _ _ _ _ _ (s₁.setTop (mkF m 66 #[.val (.long q1), .second] [(.int (lcmpW q1 (562949953421312 : Int64)))]))
              by_cases hc66 : q1 < (562949953421312 : Int64)
              · refine Gl.st (fun t k => XS.ifNo X0.here hx rfl (hb hby d2_66) rfl (lc_t hc66).2.1 k) ?_
                show Gl _ _ _ _ _ _ _ (s₁.setTop (mkF m 69 #[.val (.long q1), .second] []))
                refine Gl.st (fun t k => XS.bipush X0.here hx rfl (hb hby d2_69) k) ?_
                show Gl _ _ _ _ _ _ _ (s₁.setTop (mkF m 71 #[.val (.long q1), .second] [(.int (7 : Int32))]))
                exact Gl.retI X0 hx hlk Bd.returns (hb hby d2_71) (⟨congrArg (fun z => some (Value.int z)) (show (7 : Int32) = own_len q1 from by simp only [own_len, if_neg hc5, if_neg hc15, if_neg hc25, if_neg hc35, if_neg hc45, if_neg hc55, if_pos hc66]), N0, e0⟩) (by decide) (by decide)
              · refine Gl.st (fun t k => XS.ifYes X0.here hx rfl (pc0 := 66) (pc' := 72) rfl (hb hby d2_66) rfl (lc_f hc66).2.1 (by decide) (by decide) k) ?_
                show Gl _ _ _ _ _ _ _ (s₁.setTop (mkF m 72 #[.val (.long q1), .second] []))
                refine Gl.st (fun t k => XS.lloadN X0.here hx rfl (hb hby d2_72) rfl  k) ?_
                show Gl _ _ _ _ _ _ _ (s₁.setTop (mkF m 73 #[.val (.long q1), .second] [(.long q1)]))
                refine Gl.st (X0.ldc2Long hx hown (mvT hZ (hw _ (List.mem_of_getElem? (i := 51) rfl))) (g := (mkF m 73 #[.val (.long q1), .second] [(.long q1)])) rfl (hb hby d2_73)) ?_
                show Gl _ _ _ _ _ _ _ (s₁.setTop (mkF m 76 #[.val (.long q1), .second] [(.long (72057594037927936 : Int64)), (.long q1)]))
                refine Gl.st (fun t k => XS.lcmp X0.here hx rfl (hb hby d2_76) rfl k) ?_
                show Gl _ _ _ _ _ _ _ (s₁.setTop (mkF m 77 #[.val (.long q1), .second] [(.int (lcmpW q1 (72057594037927936 : Int64)))]))
                by_cases hc77 : q1 < (72057594037927936 : Int64)
                · refine Gl.st (fun t k => XS.ifNo X0.here hx rfl (hb hby d2_77) rfl (lc_t hc77).2.1 k) ?_
                  show Gl _ _ _ _ _ _ _ (s₁.setTop (mkF m 80 #[.val (.long q1), .second] []))
                  refine Gl.st (fun t k => XS.bipush X0.here hx rfl (hb hby d2_80) k) ?_
                  show Gl _ _ _ _ _ _ _ (s₁.setTop (mkF m 82 #[.val (.long q1), .second] [(.int (8 : Int32))]))
                  exact Gl.retI X0 hx hlk Bd.returns (hb hby d2_82) (⟨congrArg (fun z => some (Value.int z)) (show (8 : Int32) = own_len q1 from by simp only [own_len, if_neg hc5, if_neg hc15, if_neg hc25, if_neg hc35, if_neg hc45, if_neg hc55, if_neg hc66, if_pos hc77]), N0, e0⟩) (by decide) (by decide)
                · refine Gl.st (fun t k => XS.ifYes X0.here hx rfl (pc0 := 77) (pc' := 83) rfl (hb hby d2_77) rfl (lc_f hc77).2.1 (by decide) (by decide) k) ?_
                  show Gl _ _ _ _ _ _ _ (s₁.setTop (mkF m 83 #[.val (.long q1), .second] []))
                  refine Gl.st (fun t k => XS.bipush X0.here hx rfl (hb hby d2_83) k) ?_
                  show Gl _ _ _ _ _ _ _ (s₁.setTop (mkF m 85 #[.val (.long q1), .second] [(.int (9 : Int32))]))
                  exact Gl.retI X0 hx hlk Bd.returns (hb hby d2_85) (⟨congrArg (fun z => some (Value.int z)) (show (9 : Int32) = own_len q1 from by simp only [own_len, if_neg hc5, if_neg hc15, if_neg hc25, if_neg hc35, if_neg hc45, if_neg hc55, if_neg hc66, if_neg hc77]), N0, e0⟩) (by decide) (by decide)
theorem own_getD (bs : List Int32) (n : Nat) : (bs.map Value.int).getD n (.int 0) = .int (bs.getD n 0) := by
  simp only [List.getD_eq_getElem?_getD, List.getElem?_map]
  cases bs[n]? <;> rfl
theorem own_succ {i : Int32} (h : i.toInt < 2147483647) : (i + 1).toInt = i.toInt + 1 := by
  have a := c_iadd i 1
  have b := rng32 i
  have d := rng32 (i + 1)
  have e : (1 : Int32).toInt = 1 := by decide
  omega
theorem own_nn {i : Int32} (h : 0 ≤ i.toInt) : ¬ i < 0 := by
  rw [Int32.lt_iff_toInt_lt, show (0 : Int32).toInt = 0 from by decide]; omega
theorem own_lit {i j : Int32} {n : Int} (hj : j.toInt = n) (h : i.toInt < n) : i < j := by
  rw [Int32.lt_iff_toInt_lt, hj]; exact h
theorem own_clamp {i : Int32} {k : Nat} (h : i.toInt = (k : Int)) : i.toNatClampNeg = k := by
  show i.toInt.toNat = k
  omega
theorem own_of {x : Int32} {k : Nat} (h : x.toInt = (k : Int)) : x = Int32.ofInt (k : Int) := by
  rw [← h]; exact (Int32.ofInt_toInt x).symm
theorem own_ofL {x : Int64} {k : Nat} (h : x.toInt = (k : Int)) : x = Int64.ofInt (k : Int) := by
  rw [← h]; exact (Int64.ofInt_toInt x).symm
theorem own_toOf {k : Nat} (h : k < 2147483648) : (Int32.ofInt (k : Int)).toInt = (k : Int) := by
  exact Int32.toInt_ofInt_of_le (by omega) (by omega)
theorem own_nat64 {a : Int64} {A : Nat} (h : a.toInt = (A : Int)) : a.toBitVec.toNat = A := by
  have e : a.toInt = a.toBitVec.toInt := rfl
  have q := BitVec.toInt_eq_toNat_cond a.toBitVec
  have l := a.toBitVec.isLt
  rw [← e, h] at q
  split at q <;> omega
theorem own_int64 {a : Int64} {A : Nat} (h : a.toBitVec.toNat = A) (hA : A < 9223372036854775808) : a.toInt = (A : Int) := by
  have e : a.toInt = a.toBitVec.toInt := rfl
  have q := BitVec.toInt_eq_toNat_cond a.toBitVec
  rw [e, q, h]
  split <;> omega
theorem own_lor {a y : Int64} {A G k : Nat} (ha : a.toInt = (A : Int)) (hA : A < 2 ^ k) (hy : y.toInt = ((G * 2 ^ k : Nat) : Int)) (hb : A + G * 2 ^ k < 9223372036854775808) : (a ||| y).toInt = ((A + G * 2 ^ k : Nat) : Int) := by
  refine own_int64 ?_ hb
  show (a.toBitVec ||| y.toBitVec).toNat = _
  rw [BitVec.toNat_or, own_nat64 ha, own_nat64 hy, Nat.or_comm, ← Nat.shiftLeft_eq, ← Nat.shiftLeft_add_eq_or_of_lt hA]
  omega
theorem own_getset (us : List Int32) (a x : Nat) (b : Int32) (h : a < us.length) : (us.set a b).getD x 0 = if x = a then b else us.getD x 0 := by
  simp only [List.getD_eq_getElem?_getD, List.getElem?_set]
  by_cases e : a = x
  · subst e; simp [h]
  · rw [if_neg e, if_neg (fun q => e q.symm)]
theorem own_mapset (us : List Int32) (a : Nat) (b : Int32) : (us.set a b).map Value.int = (us.map Value.int).set a (Value.int b) := List.map_set
theorem own_lastg {V n t : Nat} (hV : V < 128 ^ n) (h : t + 1 = n) : V / 128 ^ t < 128 := by
  subst h
  rw [Nat.pow_succ] at hV
  exact Nat.div_lt_of_lt_mul hV
theorem own_moreg {V n t k : Nat} (h2 : n = 1 ∨ 128 ^ (n - 1) ≤ V) (h : t + (k + 1) + 1 = n) : 128 ≤ V / 128 ^ t := by
  have h3 : 128 ^ (n - 1) ≤ V := h2.resolve_left (by omega)
  have h4 : 128 ^ (t + 1) ≤ 128 ^ (n - 1) := Nat.pow_le_pow_right (by decide) (by omega)
  rw [Nat.pow_succ] at h4
  rw [Nat.le_div_iff_mul_le (Nat.pow_pos (by decide))]
  rw [Nat.mul_comm] at h4
  omega
theorem own_or128 : ∀ a, a < 256 → (a ||| 128) = a % 128 + 128 := by decide +kernel
theorem own_mid {w : Int64} {A : Nat} (h : w.toInt = (A : Int)) : (nar .byte ((w ||| (128 : Int64)).toInt32.toInt8.toInt32)).toInt = ((A % 128 : Nat) : Int) - 128 := by
  have e : (w ||| (128 : Int64)).toBitVec.toNat = A ||| 128 := by
    show (w.toBitVec ||| (128 : Int64).toBitVec).toNat = _
    rw [BitVec.toNat_or, own_nat64 h]; rfl
  have m : (A ||| 128) % 256 = A % 128 + 128 := by
    have q := Nat.or_mod_two_pow (a := A) (b := 128) (n := 8)
    rw [show (2 : Nat) ^ 8 = 256 from rfl] at q
    rw [q, show 128 % 256 = 128 from rfl, own_or128 _ (Nat.mod_lt _ (by decide))]
    omega
  have e2 : (w ||| (128 : Int64)).toInt = (w ||| (128 : Int64)).toBitVec.toInt := rfl
  have q := BitVec.toInt_eq_toNat_cond (w ||| (128 : Int64)).toBitVec
  have a1 := c_l2i (w ||| (128 : Int64))
  have a2 := c_i2b ((w ||| (128 : Int64)).toInt32)
  have a3 := c_i2b ((w ||| (128 : Int64)).toInt32.toInt8.toInt32)
  show ((w ||| (128 : Int64)).toInt32.toInt8.toInt32.toInt8.toInt32).toInt = _
  rw [e] at q
  split at q <;> omega
theorem own_fin {w : Int64} {A : Nat} (h : w.toInt = (A : Int)) (hA : A < 128) : (nar .byte (w.toInt32.toInt8.toInt32)).toInt = (A : Int) := by
  have a1 := c_l2i w
  have a2 := c_i2b (w.toInt32)
  have a3 := c_i2b (w.toInt32.toInt8.toInt32)
  show (w.toInt32.toInt8.toInt32.toInt8.toInt32).toInt = _
  omega
theorem own_sh7 {w : Int64} {V t : Nat} (h : w.toInt = ((V / 128 ^ t : Nat) : Int)) : ((w.toUInt64 >>> ((7 : Int32) &&& 0x3f).toInt64.toUInt64).toInt64).toInt = ((V / 128 ^ (t + 1) : Nat) : Int) := by
  have a := c_lushr w 7 7 (by decide) (by decide)
  have b := rng64 w
  have e7 : ((2 ^ 7 : Nat) : Int) = 128 := by decide
  rw [e7] at a
  rw [a, Nat.pow_succ, ← Nat.div_div_eq_div_mul]
  generalize V / 128 ^ t = z at *
  omega
/-- the u-th of the n bytes of V: seven bits of V; below 0 where more follow -/
def Byt (V n u : Nat) (b : Int32) : Prop := b.toInt % 128 = ((V / 128 ^ u % 128 : Nat) : Int) ∧ (b.toInt < 0 ↔ u + 1 < n)
theorem own_bmid {w : Int64} {V n t k : Nat} (h : w.toInt = ((V / 128 ^ t : Nat) : Int)) (hk : t + (k + 1) + 1 = n) : Byt V n t (nar .byte ((w ||| (128 : Int64)).toInt32.toInt8.toInt32)) := by
  have a := own_mid h
  unfold Byt
  generalize V / 128 ^ t = z at *
  omega
theorem own_bfin {w : Int64} {V n t : Nat} (h : w.toInt = ((V / 128 ^ t : Nat) : Int)) (hV : V < 128 ^ n) (hk : t + 1 = n) : Byt V n t (nar .byte (w.toInt32.toInt8.toInt32)) := by
  have l := own_lastg hV hk
  have a := own_fin h l
  clear hV
  unfold Byt
  generalize V / 128 ^ t = z at *
  omega
theorem own_stepB {V n t j : Nat} {us : List Int32} {b : Int32} (hl : j + t < us.length) (hB : ∀ u, u < t → Byt V n u (us.getD (j + u) 0)) (hb : Byt V n t b) : ∀ u, u < t + 1 → Byt V n u ((us.set (j + t) b).getD (j + u) 0) := fun u hu => by
  rw [own_getset _ _ _ _ hl]
  by_cases e : u = t
  · subst e; rw [if_pos rfl]; exact hb
  · rw [if_neg (by omega)]; exact hB u (by omega)
theorem own_stepO {t j : Nat} {us vs : List Int32} {b : Int32} (hl : j + t < us.length) (hO : ∀ x, (x < j ∨ j + t ≤ x) → us.getD x 0 = vs.getD x 0) : ∀ x, (x < j ∨ j + (t + 1) ≤ x) → (us.set (j + t) b).getD x 0 = vs.getD x 0 := fun x hx => by
  rw [own_getset _ _ _ _ hl, if_neg (by omega)]
  exact hO x (by omega)
theorem own_pow9 {n : Nat} (h : n ≤ 9) : 128 ^ n ≤ 9223372036854775808 := Nat.le_trans (Nat.pow_le_pow_right (by decide) h) (by decide)
theorem own_acc {acc : Int64} {b sh : Int32} {V n t : Nat} (ha : acc.toInt = ((V % 128 ^ t : Nat) : Int)) (hb : b.toInt % 128 = ((V / 128 ^ t % 128 : Nat) : Int)) (hs : sh.toInt = ((7 * t : Nat) : Int)) (ht : t < n) (hn : n ≤ 9) :
    (acc ||| ((b &&& (127 : Int32)).toInt64 <<< (sh &&& 0x3f).toInt64)).toInt = ((V % 128 ^ (t + 1) : Nat) : Int) := by
  have m := c_mask b 127 7 (by decide) (by decide)
  have sn : sh.toBitVec.toNat % 64 = 7 * t := by
    have e : sh.toInt = sh.toBitVec.toInt := rfl
    have q := BitVec.toInt_eq_toNat_cond sh.toBitVec
    rw [← e, hs] at q
    split at q <;> omega
  have l := c_lshl (b &&& (127 : Int32)).toInt64 sh (7 * t) sn
  rw [c_i2l, m] at l
  have e7 : ((2 ^ 7 : Nat) : Int) = 128 := by decide
  rw [e7, hb] at l
  have p : (2 : Nat) ^ (7 * t) = 128 ^ t := by rw [Nat.pow_mul]
  rw [p] at l
  have g : V / 128 ^ t % 128 < 128 := Nat.mod_lt _ (by decide)
  have s8 : V / 128 ^ t % 128 * 128 ^ t + 128 ^ t ≤ 128 ^ (t + 1) := by
    rw [Nat.pow_succ, ← Nat.succ_mul, Nat.mul_comm (128 ^ t) 128]
    exact Nat.mul_le_mul_right _ g
  have p9 := own_pow9 (n := t + 1) (by omega)
  have r0 : V % 128 ^ t < 128 ^ t := Nat.mod_lt _ (Nat.pow_pos (by decide))
  have hy : ((b &&& (127 : Int32)).toInt64 <<< (sh &&& 0x3f).toInt64).toInt = ((V / 128 ^ t % 128 * 2 ^ (7 * t) : Nat) : Int) := by
    have r := rng64 ((b &&& (127 : Int32)).toInt64 <<< (sh &&& 0x3f).toInt64)
    rw [p]
    have c : (((V / 128 ^ t % 128 * 128 ^ t : Nat)) : Int) = ((V / 128 ^ t % 128 : Nat) : Int) * ((128 ^ t : Nat) : Int) := Int.natCast_mul _ _
    rw [← c] at l
    generalize V / 128 ^ t % 128 * 128 ^ t = X at *
    omega
  rw [own_lor ha (by rw [p]; exact r0) hy (by rw [p]; omega), p]
  have q := Nat.mod_pow_succ (x := V) (b := 128) (k := t)
  rw [q, Nat.mul_comm (128 ^ t)]
theorem d1_0 : decode prog_95_method_2_code 0 = .ok (.iload_n 1, 1) := by decide +kernel
theorem d1_1 : decode prog_95_method_2_code 1 = .ok (.istore 4, 2) := by decide +kernel
theorem d1_3 : decode prog_95_method_2_code 3 = .ok (.lload_n 2, 1) := by decide +kernel
theorem d1_4 : decode prog_95_method_2_code 4 = .ok (.lstore 5, 2) := by decide +kernel
theorem d1_6 : decode prog_95_method_2_code 6 = .ok (.lload 5, 2) := by decide +kernel
theorem d1_8 : decode prog_95_method_2_code 8 = .ok (.ldc2_w 7, 3) := by decide +kernel
theorem d1_11 : decode prog_95_method_2_code 11 = .ok (.lcmp, 1) := by decide +kernel
theorem d1_12 : decode prog_95_method_2_code 12 = .ok (.ifCond .lt 28, 3) := by decide +kernel
theorem d1_15 : decode prog_95_method_2_code 15 = .ok (.aload_n 0, 1) := by decide +kernel
theorem d1_16 : decode prog_95_method_2_code 16 = .ok (.iload 4, 2) := by decide +kernel
theorem d1_18 : decode prog_95_method_2_code 18 = .ok (.iinc 4 1, 3) := by decide +kernel
theorem d1_21 : decode prog_95_method_2_code 21 = .ok (.lload 5, 2) := by decide +kernel
theorem d1_23 : decode prog_95_method_2_code 23 = .ok (.ldc2_w 7, 3) := by decide +kernel
theorem d1_26 : decode prog_95_method_2_code 26 = .ok (.lor, 1) := by decide +kernel
theorem d1_27 : decode prog_95_method_2_code 27 = .ok (.l2i, 1) := by decide +kernel
theorem d1_28 : decode prog_95_method_2_code 28 = .ok (.i2b, 1) := by decide +kernel
theorem d1_29 : decode prog_95_method_2_code 29 = .ok (.bastore, 1) := by decide +kernel
theorem d1_30 : decode prog_95_method_2_code 30 = .ok (.lload 5, 2) := by decide +kernel
theorem d1_32 : decode prog_95_method_2_code 32 = .ok (.bipush 7, 2) := by decide +kernel
theorem d1_34 : decode prog_95_method_2_code 34 = .ok (.lushr, 1) := by decide +kernel
theorem d1_35 : decode prog_95_method_2_code 35 = .ok (.lstore 5, 2) := by decide +kernel
theorem d1_37 : decode prog_95_method_2_code 37 = .ok (.goto (-31), 3) := by decide +kernel
theorem d1_40 : decode prog_95_method_2_code 40 = .ok (.aload_n 0, 1) := by decide +kernel
theorem d1_41 : decode prog_95_method_2_code 41 = .ok (.iload 4, 2) := by decide +kernel
theorem d1_43 : decode prog_95_method_2_code 43 = .ok (.iinc 4 1, 3) := by decide +kernel
theorem d1_46 : decode prog_95_method_2_code 46 = .ok (.lload 5, 2) := by decide +kernel
theorem d1_48 : decode prog_95_method_2_code 48 = .ok (.l2i, 1) := by decide +kernel
theorem d1_49 : decode prog_95_method_2_code 49 = .ok (.i2b, 1) := by decide +kernel
theorem d1_50 : decode prog_95_method_2_code 50 = .ok (.bastore, 1) := by decide +kernel
theorem d1_51 : decode prog_95_method_2_code 51 = .ok (.iload 4, 2) := by decide +kernel
theorem d1_53 : decode prog_95_method_2_code 53 = .ok (.ireturn, 1) := by decide +kernel
theorem pf_1 : plainFor (⟨"com/example/millrace/millrace/storage/PackedGroups", "put", "([BIJ)I"⟩ : MethodName) = true := by decide +kernel
def Q1 (Z : State) (a1 : Addr) (p2 : Int32) (q3 : Int64) (ck : ClassId) (vs : List Int32) (j : Nat) (n : Nat) (V : Nat) (h0 : Heap) (n0 : Nat) (v : Option Value) (h : Heap) (L : List Loc) : Prop := v = some (.int (Int32.ofInt ((j + n : Nat) : Int))) ∧ Fr n0 L ∧ Keep h0 h [a1] ∧ ∃ vo : List Int32, Arv Z h a1 ck .byte (18 : Int32) (vo.map Value.int) (.int (0 : Int32)) ∧ vo.length = vs.length ∧ (∀ u, u < n → Byt V n u (vo.getD (j + u) 0)) ∧ (∀ x, (x < j ∨ j + n ≤ x) → vo.getD x 0 = vs.getD x 0)
theorem ef_1 (m : MethodId) (a1 : Addr) (p2 : Int32) (q3 : Int64) : entryFrame m #[(.ref a1), (.int p2), (.long q3)] 7 = mkF m 0 #[.val (.ref a1), .val (.int p2), .val (.long q3), .second, .unset, .unset, .unset] [] := by first | (simp [entryFrame, mkF, argsToLocals, Value.category]; done) | rfl
set_option maxRecDepth 65536 in
set_option maxHeartbeats 40000000 in
theorem rm1 (l : Launch) (Z : State) (a0 : Array Value) (hw : ∀ d ∈ tables_1, d.before a0 Z = true) (ws : List Jvm.Cond) (a1 : Addr) (p2 : Int32) (q3 : Int64) (ck : ClassId) (vs : List Int32) (j : Nat) (n : Nat) (V : Nat) (h0 : Heap) (n0 : Nat) (Z0 : n0 ≤ h0.size) (Va : Arv Z h0 a1 ck .byte (18 : Int32) (vs.map Value.int) (.int (0 : Int32))) (g_a1 : n0 ≤ a1) (hj : p2.toInt = (j : Int)) (hv : q3.toInt = (V : Int)) (hV : V < 128 ^ n) (hn1 : 1 ≤ n) (hn2 : n = 1 ∨ 128 ^ (n - 1) ≤ V) (hjn : j + n ≤ 18) (hlen : vs.length = 18) :
    MetFree l (⟨"com/example/millrace/millrace/storage/PackedGroups", "put", "([BIJ)I"⟩ : MethodName) (head1 (Jvm.Cond.code (⟨"com/example/millrace/millrace/storage/PackedGroups", "put", "([BIJ)I"⟩ : MethodName) prog_95_method_2_code 7 (some .int) :: ws) ({ frames := 0, cells := 0, slots := 0, locals := 0 } : Room)) (fun a U => a = #[(.ref a1), (.int p2), (.long q3)] ∧ Z.Warmed39 U.vm ∧ U.heap = h0) (fun _ _ _ _ _ => True) (fun _ U o U' => ∃ v L, o = .returned v ∧ Q1 Z a1 p2 q3 ck vs j n V h0 n0 v U'.heap L ∧ FrameEnd U o U' L ({ frames := 0, cells := 0, slots := 0, locals := 0 } : Room).cells ({ frames := 0, cells := 0, slots := 0, locals := 0 } : Room).slots) := by
  refine MetFree.of_bodySF pf_1 hisR ?_
  intro p e s m args below meth c s₁ Bd hml0 hP hK
  obtain ⟨rfl, hZ, hh⟩ := hP
  have hx := Bd.exec
  have hby := Bd.bytes
  have hlk : meth.locks = false := BodyLoose.notSynchronized Bd
  have hml : c.maxLocals = 7 := hml0
  have hown : s.vm.findClass "com/example/millrace/millrace/storage/PackedGroups" = some m.cls := findClass_of_methodNamed Bd.named
  have hnm := (name_of_methodNamed Bd.named Bd.method).1
  have X0 : Stand p l e ({ frames := 0, cells := 0, slots := 0, locals := 0 } : Room) s m #[(.ref a1), (.int p2), (.long q3)] below meth c s₁ [] 0 0 := Stand.of_body Bd
  have e0 : s₁.heap = h0 := by rw [← hh, Bd.state]; rfl
  have N0 := Fr.nil n0
  have K0 : Keep h0 h0 [a1] := Keep.refl h0 _
  show Gl p e below s (Q1 Z a1 p2 q3 ck vs j n V h0 n0) ({ frames := 0, cells := 0, slots := 0, locals := 0 } : Room).cells ({ frames := 0, cells := 0, slots := 0, locals := 0 } : Room).slots (s₁.setTop (entryFrame m #[(.ref a1), (.int p2), (.long q3)] 7))
  rw [ef_1]
  show Gl _ _ _ _ _ _ _ (s₁.setTop (mkF m 0 #[.val (.ref a1), .val (.int p2), .val (.long q3), .second, .unset, .unset, .unset] []))
  refine Gl.st (fun t k => XS.iloadN X0.here hx rfl (hb hby d1_0) rfl  k) ?_
  show Gl _ _ _ _ _ _ _ (s₁.setTop (mkF m 1 #[.val (.ref a1), .val (.int p2), .val (.long q3), .second, .unset, .unset, .unset] [(.int p2)]))
  refine Gl.st (fun t k => XS.istore X0.here hx rfl (hb hby d1_1) rfl (l' := #[.val (.ref a1), .val (.int p2), .val (.long q3), .second, .val (.int p2), .unset, .unset]) rfl k) ?_
  show Gl _ _ _ _ _ _ _ (s₁.setTop (mkF m 3 #[.val (.ref a1), .val (.int p2), .val (.long q3), .second, .val (.int p2), .unset, .unset] []))
  refine Gl.st (fun t k => XS.lloadN X0.here hx rfl (hb hby d1_3) rfl  k) ?_
  show Gl _ _ _ _ _ _ _ (s₁.setTop (mkF m 4 #[.val (.ref a1), .val (.int p2), .val (.long q3), .second, .val (.int p2), .unset, .unset] [(.long q3)]))
  refine Gl.st (fun t k => XS.lstore X0.here hx rfl (hb hby d1_4) rfl (l' := #[.val (.ref a1), .val (.int p2), .val (.long q3), .second, .val (.int p2), .val (.long q3), .second]) rfl k) ?_
  have LP1 : ∀ (k : Nat) (Tl1 : State) (Ll1 : List Loc) (hl1 : Heap) (Xl1 : Stand p l e ({ frames := 0, cells := 0, slots := 0, locals := 0 } : Room) s m #[(.ref a1), (.int p2), (.long q3)] below meth c Tl1 Ll1 0 0) (el1 : Tl1.heap = hl1) (Nl1 : Fr n0 Ll1) (Zl1 : n0 ≤ hl1.size) (Kl1 : Keep h0 hl1 [a1]) (t : Nat) (us : List Int32) (i : Int32) (w : Int64) (Gf1_0 : Arv Z hl1 a1 ck .byte (18 : Int32) (us.map Value.int) (.int (0 : Int32))) (hi : i.toInt = ((j + t : Nat) : Int)) (hw' : w.toInt = ((V / 128 ^ t : Nat) : Int)) (hk : t + k + 1 = n) (hl : us.length = vs.length) (hB : ∀ u, u < t → Byt V n u (us.getD (j + u) 0)) (hO : ∀ x, (x < j ∨ j + t ≤ x) → us.getD x 0 = vs.getD x 0), Gl p e below s (Q1 Z a1 p2 q3 ck vs j n V h0 n0) ({ frames := 0, cells := 0, slots := 0, locals := 0 } : Room).cells ({ frames := 0, cells := 0, slots := 0, locals := 0 } : Room).slots (Tl1.setTop (mkF m 6 #[.val (.ref a1), .val (.int p2), .val (.long q3), .second, .val (.int i), .val (.long w), .second] [])) := by
    intro k
    induction k with
    | zero =>
      intro Tl1 Ll1 hl1 Xl1 el1 Nl1 Zl1 Kl1 t us i w Gf1_0 hi hw' hk hl hB hO
      show Gl _ _ _ _ _ _ _ (Tl1.setTop (mkF m 6 #[.val (.ref a1), .val (.int p2), .val (.long q3), .second, .val (.int i), .val (.long w), .second] []))
      refine Gl.st (fun t k => XS.lload Xl1.here hx rfl (hb hby d1_6) rfl  k) ?_
      show Gl _ _ _ _ _ _ _ (Tl1.setTop (mkF m 8 #[.val (.ref a1), .val (.int p2), .val (.long q3), .second, .val (.int i), .val (.long w), .second] [(.long w)]))
      refine Gl.st (Xl1.ldc2Long hx hown (mvT hZ (hw _ (List.mem_of_getElem? (i := 6) rfl))) (g := (mkF m 8 #[.val (.ref a1), .val (.int p2), .val (.long q3), .second, .val (.int i), .val (.long w), .second] [(.long w)])) rfl (hb hby d1_8)) ?_
      show Gl _ _ _ _ _ _ _ (Tl1.setTop (mkF m 11 #[.val (.ref a1), .val (.int p2), .val (.long q3), .second, .val (.int i), .val (.long w), .second] [(.long (128 : Int64)), (.long w)]))
      refine Gl.st (fun t k => XS.lcmp Xl1.here hx rfl (hb hby d1_11) rfl k) ?_
      show Gl _ _ _ _ _ _ _ (Tl1.setTop (mkF m 12 #[.val (.ref a1), .val (.int p2), .val (.long q3), .second, .val (.int i), .val (.long w), .second] [(.int (lcmpW w (128 : Int64)))]))
      have hc12_2 : w < (128 : Int64) := by rw [Int64.lt_iff_toInt_lt, hw', show (128 : Int64).toInt = 128 from by decide]; have q := own_lastg hV (show t + 1 = n from by omega); omega
      refine Gl.st (fun t k => XS.ifYes Xl1.here hx rfl (pc0 := 12) (pc' := 40) rfl (hb hby d1_12) rfl (lc_t hc12_2).1 (by decide) (by decide) k) ?_
      show Gl _ _ _ _ _ _ _ (Tl1.setTop (mkF m 40 #[.val (.ref a1), .val (.int p2), .val (.long q3), .second, .val (.int i), .val (.long w), .second] []))
      refine Gl.st (fun t k => XS.aloadN Xl1.here hx rfl (hb hby d1_40) rfl rfl k) ?_
      show Gl _ _ _ _ _ _ _ (Tl1.setTop (mkF m 41 #[.val (.ref a1), .val (.int p2), .val (.long q3), .second, .val (.int i), .val (.long w), .second] [(.ref a1)]))
      refine Gl.st (fun t k => XS.iload Xl1.here hx rfl (hb hby d1_41) rfl  k) ?_
      show Gl _ _ _ _ _ _ _ (Tl1.setTop (mkF m 43 #[.val (.ref a1), .val (.int p2), .val (.long q3), .second, .val (.int i), .val (.long w), .second] [(.int i), (.ref a1)]))
      refine Gl.st (fun t k => XS.iinc Xl1.here hx rfl (hb hby d1_43) rfl (l' := #[.val (.ref a1), .val (.int p2), .val (.long q3), .second, .val (.int (i + (1 : Int32))), .val (.long w), .second]) rfl k) ?_
      show Gl _ _ _ _ _ _ _ (Tl1.setTop (mkF m 46 #[.val (.ref a1), .val (.int p2), .val (.long q3), .second, .val (.int (i + (1 : Int32))), .val (.long w), .second] [(.int i), (.ref a1)]))
      refine Gl.st (fun t k => XS.lload Xl1.here hx rfl (hb hby d1_46) rfl  k) ?_
      show Gl _ _ _ _ _ _ _ (Tl1.setTop (mkF m 48 #[.val (.ref a1), .val (.int p2), .val (.long q3), .second, .val (.int (i + (1 : Int32))), .val (.long w), .second] [(.long w), (.int i), (.ref a1)]))
      refine Gl.st (fun t k => XS.l2i Xl1.here hx rfl (hb hby d1_48) rfl k) ?_
      show Gl _ _ _ _ _ _ _ (Tl1.setTop (mkF m 49 #[.val (.ref a1), .val (.int p2), .val (.long q3), .second, .val (.int (i + (1 : Int32))), .val (.long w), .second] [(.int (w.toInt32)), (.int i), (.ref a1)]))
      refine Gl.st (fun t k => XS.i2b Xl1.here hx rfl (hb hby d1_49) rfl k) ?_
      show Gl _ _ _ _ _ _ _ (Tl1.setTop (mkF m 50 #[.val (.ref a1), .val (.int p2), .val (.long q3), .second, .val (.int (i + (1 : Int32))), .val (.long w), .second] [(.int ((w.toInt32).toInt8.toInt32)), (.int i), (.ref a1)]))
      have Vx3 := Gf1_0
      obtain ⟨cl3, Ar3, qk3, S3, M3, H3, G3⟩ := Vx3
      have hin3 : ¬ (i < 0 ∨ cl3.slots.size ≤ (i).toNatClampNeg) := inb_of S3 ⟨own_nn (by omega), own_lit (n := 18) (by decide) (by omega)⟩
      obtain ⟨T3, h3, X3, e3, W3, st3⟩ := stB Xl1 hx hZ el1 Ar3 (j := i) hin3 (g := (mkF m 50 #[.val (.ref a1), .val (.int p2), .val (.long q3), .second, .val (.int (i + (1 : Int32))), .val (.long w), .second] [(.int ((w.toInt32).toInt8.toInt32)), (.int i), (.ref a1)])) rfl rfl (hb hby d1_50)
      refine Gl.st st3 ?_
      have Z3 : n0 ≤ h3.size := Nat.le_trans Zl1 (Keep.of_wr W3).1
      have N3 := Fr.snoc X3 Nl1 g_a1
      have K3 : Keep h0 h3 [a1] := Kl1.wr W3 (Or.inl (List.mem_of_getElem? (i := 0) rfl))
      have V3 : Arv Z h3 a1 ck .byte (18 : Int32) ((us.set i.toNatClampNeg (nar .byte ((w.toInt32).toInt8.toInt32))).map Value.int) (.int (0 : Int32)) := by rw [own_mapset]; exact Arv.set Ar3 qk3 S3 M3 H3 G3 (fits_nar_byte _) W3 _ rfl (by rw [List.length_map, own_clamp hi, hl, hlen]; omega)
      show Gl _ _ _ _ _ _ _ (T3.setTop (mkF m 51 #[.val (.ref a1), .val (.int p2), .val (.long q3), .second, .val (.int (i + (1 : Int32))), .val (.long w), .second] []))
      refine Gl.st (fun t k => XS.iload X3.here hx rfl (hb hby d1_51) rfl  k) ?_
      show Gl _ _ _ _ _ _ _ (T3.setTop (mkF m 53 #[.val (.ref a1), .val (.int p2), .val (.long q3), .second, .val (.int (i + (1 : Int32))), .val (.long w), .second] [(.int (i + (1 : Int32)))]))
      exact Gl.retI X3 hx hlk Bd.returns (hb hby d1_53) (by
            rw [e3]
            refine ⟨congrArg (fun z => some (Value.int z)) (show (i + (1 : Int32)) = Int32.ofInt ((j + n : Nat) : Int) from own_of (by rw [own_succ (by omega)]; omega)), N3, K3, (us.set i.toNatClampNeg (nar .byte ((w.toInt32).toInt8.toInt32))), V3, by rw [List.length_set]; exact hl, ?_, ?_⟩
            · rw [own_clamp hi]; have q := own_stepB (by rw [hl, hlen]; omega) hB (own_bfin hw' hV (by omega)); rw [show t + 1 = n from by omega] at q; exact q
            · rw [own_clamp hi]; have q := own_stepO (b := (nar .byte ((w.toInt32).toInt8.toInt32))) (by rw [hl, hlen]; omega) hO; rw [show t + 1 = n from by omega] at q; exact q) (by decide) (by decide)
    | succ k ih =>
      intro Tl1 Ll1 hl1 Xl1 el1 Nl1 Zl1 Kl1 t us i w Gf1_0 hi hw' hk hl hB hO
      show Gl _ _ _ _ _ _ _ (Tl1.setTop (mkF m 6 #[.val (.ref a1), .val (.int p2), .val (.long q3), .second, .val (.int i), .val (.long w), .second] []))
      refine Gl.st (fun t k => XS.lload Xl1.here hx rfl (hb hby d1_6) rfl  k) ?_
      show Gl _ _ _ _ _ _ _ (Tl1.setTop (mkF m 8 #[.val (.ref a1), .val (.int p2), .val (.long q3), .second, .val (.int i), .val (.long w), .second] [(.long w)]))
      refine Gl.st (Xl1.ldc2Long hx hown (mvT hZ (hw _ (List.mem_of_getElem? (i := 6) rfl))) (g := (mkF m 8 #[.val (.ref a1), .val (.int p2), .val (.long q3), .second, .val (.int i), .val (.long w), .second] [(.long w)])) rfl (hb hby d1_8)) ?_
      show Gl _ _ _ _ _ _ _ (Tl1.setTop (mkF m 11 #[.val (.ref a1), .val (.int p2), .val (.long q3), .second, .val (.int i), .val (.long w), .second] [(.long (128 : Int64)), (.long w)]))
      refine Gl.st (fun t k => XS.lcmp Xl1.here hx rfl (hb hby d1_11) rfl k) ?_
      show Gl _ _ _ _ _ _ _ (Tl1.setTop (mkF m 12 #[.val (.ref a1), .val (.int p2), .val (.long q3), .second, .val (.int i), .val (.long w), .second] [(.int (lcmpW w (128 : Int64)))]))
      have hc12_4 : ¬ (w < (128 : Int64)) := by rw [Int64.lt_iff_toInt_lt, hw', show (128 : Int64).toInt = 128 from by decide]; have q := own_moreg hn2 hk; omega
      refine Gl.st (fun t k => XS.ifNo Xl1.here hx rfl (hb hby d1_12) rfl (lc_f hc12_4).1 k) ?_
      show Gl _ _ _ _ _ _ _ (Tl1.setTop (mkF m 15 #[.val (.ref a1), .val (.int p2), .val (.long q3), .second, .val (.int i), .val (.long w), .second] []))
      refine Gl.st (fun t k => XS.aloadN Xl1.here hx rfl (hb hby d1_15) rfl rfl k) ?_
      show Gl _ _ _ _ _ _ _ (Tl1.setTop (mkF m 16 #[.val (.ref a1), .val (.int p2), .val (.long q3), .second, .val (.int i), .val (.long w), .second] [(.ref a1)]))
      refine Gl.st (fun t k => XS.iload Xl1.here hx rfl (hb hby d1_16) rfl  k) ?_
      show Gl _ _ _ _ _ _ _ (Tl1.setTop (mkF m 18 #[.val (.ref a1), .val (.int p2), .val (.long q3), .second, .val (.int i), .val (.long w), .second] [(.int i), (.ref a1)]))
      refine Gl.st (fun t k => XS.iinc Xl1.here hx rfl (hb hby d1_18) rfl (l' := #[.val (.ref a1), .val (.int p2), .val (.long q3), .second, .val (.int (i + (1 : Int32))), .val (.long w), .second]) rfl k) ?_
      show Gl _ _ _ _ _ _ _ (Tl1.setTop (mkF m 21 #[.val (.ref a1), .val (.int p2), .val (.long q3), .second, .val (.int (i + (1 : Int32))), .val (.long w), .second] [(.int i), (.ref a1)]))
      refine Gl.st (fun t k => XS.lload Xl1.here hx rfl (hb hby d1_21) rfl  k) ?_
      show Gl _ _ _ _ _ _ _ (Tl1.setTop (mkF m 23 #[.val (.ref a1), .val (.int p2), .val (.long q3), .second, .val (.int (i + (1 : Int32))), .val (.long w), .second] [(.long w), (.int i), (.ref a1)]))
      refine Gl.st (Xl1.ldc2Long hx hown (mvT hZ (hw _ (List.mem_of_getElem? (i := 6) rfl))) (g := (mkF m 23 #[.val (.ref a1), .val (.int p2), .val (.long q3), .second, .val (.int (i + (1 : Int32))), .val (.long w), .second] [(.long w), (.int i), (.ref a1)])) rfl (hb hby d1_23)) ?_
      show Gl _ _ _ _ _ _ _ (Tl1.setTop (mkF m 26 #[.val (.ref a1), .val (.int p2), .val (.long q3), .second, .val (.int (i + (1 : Int32))), .val (.long w), .second] [(.long (128 : Int64)), (.long w), (.int i), (.ref a1)]))
      refine Gl.st (fun t k => XS.lor Xl1.here hx rfl (hb hby d1_26) rfl k) ?_
      show Gl _ _ _ _ _ _ _ (Tl1.setTop (mkF m 27 #[.val (.ref a1), .val (.int p2), .val (.long q3), .second, .val (.int (i + (1 : Int32))), .val (.long w), .second] [(.long (w ||| (128 : Int64))), (.int i), (.ref a1)]))
      refine Gl.st (fun t k => XS.l2i Xl1.here hx rfl (hb hby d1_27) rfl k) ?_
      show Gl _ _ _ _ _ _ _ (Tl1.setTop (mkF m 28 #[.val (.ref a1), .val (.int p2), .val (.long q3), .second, .val (.int (i + (1 : Int32))), .val (.long w), .second] [(.int ((w ||| (128 : Int64)).toInt32)), (.int i), (.ref a1)]))
      refine Gl.st (fun t k => XS.i2b Xl1.here hx rfl (hb hby d1_28) rfl k) ?_
      show Gl _ _ _ _ _ _ _ (Tl1.setTop (mkF m 29 #[.val (.ref a1), .val (.int p2), .val (.long q3), .second, .val (.int (i + (1 : Int32))), .val (.long w), .second] [(.int (((w ||| (128 : Int64)).toInt32).toInt8.toInt32)), (.int i), (.ref a1)]))
      have Vx5 := Gf1_0
      obtain ⟨cl5, Ar5, qk5, S5, M5, H5, G5⟩ := Vx5
      have hin5 : ¬ (i < 0 ∨ cl5.slots.size ≤ (i).toNatClampNeg) := inb_of S5 ⟨own_nn (by omega), own_lit (n := 18) (by decide) (by omega)⟩
      obtain ⟨T5, h5, X5, e5, W5, st5⟩ := stB Xl1 hx hZ el1 Ar5 (j := i) hin5 (g := (mkF m 29 #[.val (.ref a1), .val (.int p2), .val (.long q3), .second, .val (.int (i + (1 : Int32))), .val (.long w), .second] [(.int (((w ||| (128 : Int64)).toInt32).toInt8.toInt32)), (.int i), (.ref a1)])) rfl rfl (hb hby d1_29)
      refine Gl.st st5 ?_
      have Z5 : n0 ≤ h5.size := Nat.le_trans Zl1 (Keep.of_wr W5).1
      have N5 := Fr.snoc X5 Nl1 g_a1
      have K5 : Keep h0 h5 [a1] := Kl1.wr W5 (Or.inl (List.mem_of_getElem? (i := 0) rfl))
      have V5 : Arv Z h5 a1 ck .byte (18 : Int32) ((us.set i.toNatClampNeg (nar .byte (((w ||| (128 : Int64)).toInt32).toInt8.toInt32))).map Value.int) (.int (0 : Int32)) := by rw [own_mapset]; exact Arv.set Ar5 qk5 S5 M5 H5 G5 (fits_nar_byte _) W5 _ rfl (by rw [List.length_map, own_clamp hi, hl, hlen]; omega)
      show Gl _ _ _ _ _ _ _ (T5.setTop (mkF m 30 #[.val (.ref a1), .val (.int p2), .val (.long q3), .second, .val (.int (i + (1 : Int32))), .val (.long w), .second] []))
      refine Gl.st (fun t k => XS.lload X5.here hx rfl (hb hby d1_30) rfl  k) ?_
      show Gl _ _ _ _ _ _ _ (T5.setTop (mkF m 32 #[.val (.ref a1), .val (.int p2), .val (.long q3), .second, .val (.int (i + (1 : Int32))), .val (.long w), .second] [(.long w)]))
      refine Gl.st (fun t k => XS.bipush X5.here hx rfl (hb hby d1_32) k) ?_
      show Gl _ _ _ _ _ _ _ (T5.setTop (mkF m 34 #[.val (.ref a1), .val (.int p2), .val (.long q3), .second, .val (.int (i + (1 : Int32))), .val (.long w), .second] [(.int (7 : Int32)), (.long w)]))
      refine Gl.st (fun t k => XS.lushr X5.here hx rfl (hb hby d1_34) rfl k) ?_
      show Gl _ _ _ _ _ _ _ (T5.setTop (mkF m 35 #[.val (.ref a1), .val (.int p2), .val (.long q3), .second, .val (.int (i + (1 : Int32))), .val (.long w), .second] [(.long ((w.toUInt64 >>> ((7 : Int32) &&& 0x3f).toInt64.toUInt64).toInt64))]))
      refine Gl.st (fun t k => XS.lstore X5.here hx rfl (hb hby d1_35) rfl (l' := #[.val (.ref a1), .val (.int p2), .val (.long q3), .second, .val (.int (i + (1 : Int32))), .val (.long ((w.toUInt64 >>> ((7 : Int32) &&& 0x3f).toInt64.toUInt64).toInt64)), .second]) rfl k) ?_
      show Gl _ _ _ _ _ _ _ (T5.setTop (mkF m 37 #[.val (.ref a1), .val (.int p2), .val (.long q3), .second, .val (.int (i + (1 : Int32))), .val (.long ((w.toUInt64 >>> ((7 : Int32) &&& 0x3f).toInt64.toUInt64).toInt64)), .second] []))
      refine Gl.st (fun t k => XS.goto X5.here hx rfl (pc0 := 37) (pc' := 6) rfl (hb hby d1_37) (by decide) (by decide) k) ?_
      show Gl _ _ _ _ _ _ _ (T5.setTop (mkF m 6 #[.val (.ref a1), .val (.int p2), .val (.long q3), .second, .val (.int (i + (1 : Int32))), .val (.long ((w.toUInt64 >>> ((7 : Int32) &&& 0x3f).toInt64.toUInt64).toInt64)), .second] []))
      exact ih _ _ _ X5 e5 N5 Z5 K5 (t + 1) ((us.set i.toNatClampNeg (nar .byte (((w ||| (128 : Int64)).toInt32).toInt8.toInt32)))) _ _ V5 (by rw [own_succ (by omega)]; omega) (own_sh7 hw') (by omega) (by rw [List.length_set]; exact hl) (by rw [own_clamp hi]; exact own_stepB (by rw [hl, hlen]; omega) hB (own_bmid hw' hk)) (by rw [own_clamp hi]; exact own_stepO (by rw [hl, hlen]; omega) hO)
  exact LP1 (n - 1) _ _ _ X0 e0 N0 Z0 K0 (0) (vs) _ _ Va (by omega) (by rw [hv, Nat.pow_zero, Nat.div_one]) (by omega) (rfl) (fun u hu => absurd hu (Nat.not_lt_zero u)) (fun x _ => rfl)
theorem d3_0 : decode prog_96_method_1_code 0 = .ok (.aload_n 0, 1) := by decide +kernel
theorem d3_1 : decode prog_96_method_1_code 1 = .ok (.invokespecial 1, 3) := by decide +kernel
theorem d3_4 : decode prog_96_method_1_code 4 = .ok (.aload_n 0, 1) := by decide +kernel
theorem d3_5 : decode prog_96_method_1_code 5 = .ok (.aload_n 1, 1) := by decide +kernel
theorem d3_6 : decode prog_96_method_1_code 6 = .ok (.putfield 7, 3) := by decide +kernel
theorem d3_9 : decode prog_96_method_1_code 9 = .ok (.aload_n 0, 1) := by decide +kernel
theorem d3_10 : decode prog_96_method_1_code 10 = .ok (.iload_n 3, 1) := by decide +kernel
theorem d3_11 : decode prog_96_method_1_code 11 = .ok (.putfield 13, 3) := by decide +kernel
theorem d3_14 : decode prog_96_method_1_code 14 = .ok (.aload_n 0, 1) := by decide +kernel
theorem d3_15 : decode prog_96_method_1_code 15 = .ok (.iload_n 2, 1) := by decide +kernel
theorem d3_16 : decode prog_96_method_1_code 16 = .ok (.putfield 17, 3) := by decide +kernel
theorem d3_19 : decode prog_96_method_1_code 19 = .ok (.aload_n 0, 1) := by decide +kernel
theorem d3_20 : decode prog_96_method_1_code 20 = .ok (.lload 4, 2) := by decide +kernel
theorem d3_22 : decode prog_96_method_1_code 22 = .ok (.putfield 20, 3) := by decide +kernel
theorem d3_25 : decode prog_96_method_1_code 25 = .ok (.aload_n 0, 1) := by decide +kernel
theorem d3_26 : decode prog_96_method_1_code 26 = .ok (.lload 4, 2) := by decide +kernel
theorem d3_28 : decode prog_96_method_1_code 28 = .ok (.putfield 24, 3) := by decide +kernel
theorem d3_31 : decode prog_96_method_1_code 31 = .ok (.aload_n 0, 1) := by decide +kernel
theorem d3_32 : decode prog_96_method_1_code 32 = .ok (.lload 6, 2) := by decide +kernel
theorem d3_34 : decode prog_96_method_1_code 34 = .ok (.putfield 27, 3) := by decide +kernel
theorem d3_37 : decode prog_96_method_1_code 37 = .ok (.aload_n 0, 1) := by decide +kernel
theorem d3_38 : decode prog_96_method_1_code 38 = .ok (.lload 6, 2) := by decide +kernel
theorem d3_40 : decode prog_96_method_1_code 40 = .ok (.putfield 30, 3) := by decide +kernel
theorem d3_43 : decode prog_96_method_1_code 43 = .ok (.return_, 1) := by decide +kernel
theorem pf_2 : plainFor (⟨"com/example/millrace/millrace/storage/PackedGroups$Reader", "<init>", "([BIIJJ)V"⟩ : MethodName) = true := by decide +kernel
def Q3 (Z : State) (a1 : Addr) (a2 : Addr) (p3 : Int32) (p4 : Int32) (q5 : Int64) (q6 : Int64) (u_bytes : Value) (u_end : Value) (u_at : Value) (u_offset : Value) (u_endOffset : Value) (u_position : Value) (u_endPosition : Value) (h0 : Heap) (n0 : Nat) (v : Option Value) (h : Heap) (L : List Loc) : Prop := v = none ∧ Fr n0 L ∧ Keep h0 h [a1] ∧ Exa Z h a1 "com/example/millrace/millrace/storage/PackedGroups$Reader" ∧ Fld Z h a1 "com/example/millrace/millrace/storage/PackedGroups$Reader" "bytes" "[B" (.ref a2) ∧ Fld Z h a1 "com/example/millrace/millrace/storage/PackedGroups$Reader" "end" "I" (.int p4) ∧ Fld Z h a1 "com/example/millrace/millrace/storage/PackedGroups$Reader" "at" "I" (.int p3) ∧ Fld Z h a1 "com/example/millrace/millrace/storage/PackedGroups$Reader" "offset" "J" (.long q5) ∧ Fld Z h a1 "com/example/millrace/millrace/storage/PackedGroups$Reader" "endOffset" "J" (.long q5) ∧ Fld Z h a1 "com/example/millrace/millrace/storage/PackedGroups$Reader" "position" "J" (.long q6) ∧ Fld Z h a1 "com/example/millrace/millrace/storage/PackedGroups$Reader" "endPosition" "J" (.long q6)
theorem ef_3 (m : MethodId) (a1 : Addr) (a2 : Addr) (p3 : Int32) (p4 : Int32) (q5 : Int64) (q6 : Int64) : entryFrame m #[(.ref a1), (.ref a2), (.int p3), (.int p4), (.long q5), (.long q6)] 8 = mkF m 0 #[.val (.ref a1), .val (.ref a2), .val (.int p3), .val (.int p4), .val (.long q5), .second, .val (.long q6), .second] [] := by first | (simp [entryFrame, mkF, argsToLocals, Value.category]; done) | rfl
set_option maxRecDepth 65536 in
set_option maxHeartbeats 40000000 in
theorem rm3 (l : Launch) (Z : State) (a0 : Array Value) (hw : ∀ d ∈ tables_1, d.before a0 Z = true) (ws : List Jvm.Cond) (a1 : Addr) (a2 : Addr) (p3 : Int32) (p4 : Int32) (q5 : Int64) (q6 : Int64) (u_bytes : Value) (u_end : Value) (u_at : Value) (u_offset : Value) (u_endOffset : Value) (u_position : Value) (u_endPosition : Value) (h0 : Heap) (n0 : Nat) (Z0 : n0 ≤ h0.size) (E_a1 : Exa Z h0 a1 "com/example/millrace/millrace/storage/PackedGroups$Reader") (F_bytes : Fld Z h0 a1 "com/example/millrace/millrace/storage/PackedGroups$Reader" "bytes" "[B" u_bytes) (F_end : Fld Z h0 a1 "com/example/millrace/millrace/storage/PackedGroups$Reader" "end" "I" u_end) (F_at : Fld Z h0 a1 "com/example/millrace/millrace/storage/PackedGroups$Reader" "at" "I" u_at) (F_offset : Fld Z h0 a1 "com/example/millrace/millrace/storage/PackedGroups$Reader" "offset" "J" u_offset) (F_endOffset : Fld Z h0 a1 "com/example/millrace/millrace/storage/PackedGroups$Reader" "endOffset" "J" u_endOffset) (F_position : Fld Z h0 a1 "com/example/millrace/millrace/storage/PackedGroups$Reader" "position" "J" u_position) (F_endPosition : Fld Z h0 a1 "com/example/millrace/millrace/storage/PackedGroups$Reader" "endPosition" "J" u_endPosition) (g_a1 : n0 ≤ a1) :
    MetFree l (⟨"com/example/millrace/millrace/storage/PackedGroups$Reader", "<init>", "([BIIJJ)V"⟩ : MethodName) (head1 (Jvm.Cond.code (⟨"com/example/millrace/millrace/storage/PackedGroups$Reader", "<init>", "([BIIJJ)V"⟩ : MethodName) prog_96_method_1_code 8 none :: ws) ({ frames := 1, cells := 0, slots := 0, locals := 12 } : Room)) (fun a U => a = #[(.ref a1), (.ref a2), (.int p3), (.int p4), (.long q5), (.long q6)] ∧ Z.Warmed39 U.vm ∧ U.heap = h0) (fun _ _ _ _ _ => True) (fun _ U o U' => ∃ v L, o = .returned v ∧ Q3 Z a1 a2 p3 p4 q5 q6 u_bytes u_end u_at u_offset u_endOffset u_position u_endPosition h0 n0 v U'.heap L ∧ FrameEnd U o U' L ({ frames := 1, cells := 0, slots := 0, locals := 12 } : Room).cells ({ frames := 1, cells := 0, slots := 0, locals := 12 } : Room).slots) := by
  refine MetFree.of_bodySF pf_2 hisR ?_
  intro p e s m args below meth c s₁ Bd hml0 hP hK
  obtain ⟨rfl, hZ, hh⟩ := hP
  have hx := Bd.exec
  have hby := Bd.bytes
  have hlk : meth.locks = false := BodyLoose.notSynchronized Bd
  have hml : c.maxLocals = 8 := hml0
  have hown : s.vm.findClass "com/example/millrace/millrace/storage/PackedGroups$Reader" = some m.cls := findClass_of_methodNamed Bd.named
  have hnm := (name_of_methodNamed Bd.named Bd.method).1
  have X0 : Stand p l e ({ frames := 1, cells := 0, slots := 0, locals := 12 } : Room) s m #[(.ref a1), (.ref a2), (.int p3), (.int p4), (.long q5), (.long q6)] below meth c s₁ [] 0 0 := Stand.of_body Bd
  have e0 : s₁.heap = h0 := by rw [← hh, Bd.state]; rfl
  have N0 := Fr.nil n0
  have K0 : Keep h0 h0 [a1] := Keep.refl h0 _
  show Gl p e below s (Q3 Z a1 a2 p3 p4 q5 q6 u_bytes u_end u_at u_offset u_endOffset u_position u_endPosition h0 n0) ({ frames := 1, cells := 0, slots := 0, locals := 12 } : Room).cells ({ frames := 1, cells := 0, slots := 0, locals := 12 } : Room).slots (s₁.setTop (entryFrame m #[(.ref a1), (.ref a2), (.int p3), (.int p4), (.long q5), (.long q6)] 8))
  rw [ef_3]
  show Gl _ _ _ _ _ _ _ (s₁.setTop (mkF m 0 #[.val (.ref a1), .val (.ref a2), .val (.int p3), .val (.int p4), .val (.long q5), .second, .val (.long q6), .second] []))
  refine Gl.st (fun t k => XS.aloadN X0.here hx rfl (hb hby d3_0) rfl rfl k) ?_
  show Gl _ _ _ _ _ _ _ (s₁.setTop (mkF m 1 #[.val (.ref a1), .val (.ref a2), .val (.int p3), .val (.int p4), .val (.long q5), .second, .val (.long q6), .second] [(.ref a1)]))
  obtain ⟨T1, X1, e1, st1⟩ := initO X0 hx hZ hown (hw _ (List.mem_of_getElem? (i := 18) rfl)) (hw _ (List.mem_of_getElem? (i := 19) rfl)) (hw _ (List.mem_of_getElem? (i := 20) rfl)) e0 (g := (mkF m 1 #[.val (.ref a1), .val (.ref a2), .val (.int p3), .val (.int p4), .val (.long q5), .second, .val (.long q6), .second] [(.ref a1)])) rfl (by rw [hml]; rfl) rfl (hb hby d3_1) (by decide) (W := 0) (by show 2 * 0 + _ ≤ _; exact Nat.le_of_eq rfl) (by decide)
  refine Gl.st st1 ?_
  show Gl _ _ _ _ _ _ _ (T1.setTop (mkF m 4 #[.val (.ref a1), .val (.ref a2), .val (.int p3), .val (.int p4), .val (.long q5), .second, .val (.long q6), .second] []))
  refine Gl.st (fun t k => XS.aloadN X1.here hx rfl (hb hby d3_4) rfl rfl k) ?_
  show Gl _ _ _ _ _ _ _ (T1.setTop (mkF m 5 #[.val (.ref a1), .val (.ref a2), .val (.int p3), .val (.int p4), .val (.long q5), .second, .val (.long q6), .second] [(.ref a1)]))
  refine Gl.st (fun t k => XS.aloadN X1.here hx rfl (hb hby d3_5) rfl rfl k) ?_
  show Gl _ _ _ _ _ _ _ (T1.setTop (mkF m 6 #[.val (.ref a1), .val (.ref a2), .val (.int p3), .val (.int p4), .val (.long q5), .second, .val (.long q6), .second] [(.ref a2), (.ref a1)]))
  obtain ⟨T2, h2, X2, e2, W2, st2⟩ := putF X1 hx hZ hown (host := "") (Or.inl (hw _ (List.mem_of_getElem? (i := 21) rfl))) Via.refl e1 F_bytes E_a1 (Or.inr ⟨(hw _ (List.mem_of_getElem? (i := 22) rfl)), rfl, hnm⟩) (hw _ (List.mem_of_getElem? (i := 13) rfl)) (ty := (.array .byte)) (by decide) rfl rfl (g := (mkF m 6 #[.val (.ref a1), .val (.ref a2), .val (.int p3), .val (.int p4), .val (.long q5), .second, .val (.long q6), .second] [(.ref a2), (.ref a1)])) rfl rfl (hb hby d3_6)
  refine Gl.st st2 ?_
  have Z2 : n0 ≤ h2.size := Nat.le_trans Z0 (Keep.of_wr W2).1
  have N2 := Fr.snoc X2 N0 g_a1
  have K2 : Keep h0 h2 [a1] := K0.wr W2 (Or.inl (List.mem_of_getElem? (i := 0) rfl))
  have E_a1'3 : Exa Z h2 a1 "com/example/millrace/millrace/storage/PackedGroups$Reader" := E_a1.wr W2
  have F_end'4 : Fld Z h2 a1 "com/example/millrace/millrace/storage/PackedGroups$Reader" "end" "I" u_end := F_end.other W2 (Or.inr (slot_ne (Or.inr (hw _ (List.mem_of_getElem? (i := 24) rfl))) (Or.inr (hw _ (List.mem_of_getElem? (i := 22) rfl))) (by decide) (t := .int) (t' := (.array .byte)) (by decide) (by decide)))
  have F_at'5 : Fld Z h2 a1 "com/example/millrace/millrace/storage/PackedGroups$Reader" "at" "I" u_at := F_at.other W2 (Or.inr (slot_ne (Or.inl (hw _ (List.mem_of_getElem? (i := 26) rfl))) (Or.inr (hw _ (List.mem_of_getElem? (i := 22) rfl))) (by decide) (t := .int) (t' := (.array .byte)) (by decide) (by decide)))
  have F_offset'6 : Fld Z h2 a1 "com/example/millrace/millrace/storage/PackedGroups$Reader" "offset" "J" u_offset := F_offset.other W2 (Or.inr (slot_ne (Or.inl (hw _ (List.mem_of_getElem? (i := 28) rfl))) (Or.inr (hw _ (List.mem_of_getElem? (i := 22) rfl))) (by decide) (t := .long) (t' := (.array .byte)) (by decide) (by decide)))
  have F_endOffset'7 : Fld Z h2 a1 "com/example/millrace/millrace/storage/PackedGroups$Reader" "endOffset" "J" u_endOffset := F_endOffset.other W2 (Or.inr (slot_ne (Or.inl (hw _ (List.mem_of_getElem? (i := 30) rfl))) (Or.inr (hw _ (List.mem_of_getElem? (i := 22) rfl))) (by decide) (t := .long) (t' := (.array .byte)) (by decide) (by decide)))
  have F_position'8 : Fld Z h2 a1 "com/example/millrace/millrace/storage/PackedGroups$Reader" "position" "J" u_position := F_position.other W2 (Or.inr (slot_ne (Or.inl (hw _ (List.mem_of_getElem? (i := 32) rfl))) (Or.inr (hw _ (List.mem_of_getElem? (i := 22) rfl))) (by decide) (t := .long) (t' := (.array .byte)) (by decide) (by decide)))
  have F_endPosition'9 : Fld Z h2 a1 "com/example/millrace/millrace/storage/PackedGroups$Reader" "endPosition" "J" u_endPosition := F_endPosition.other W2 (Or.inr (slot_ne (Or.inl (hw _ (List.mem_of_getElem? (i := 34) rfl))) (Or.inr (hw _ (List.mem_of_getElem? (i := 22) rfl))) (by decide) (t := .long) (t' := (.array .byte)) (by decide) (by decide)))
  have Fw2 : Fld Z h2 a1 "com/example/millrace/millrace/storage/PackedGroups$Reader" "bytes" "[B" (.ref a2) := F_bytes.same W2
  show Gl _ _ _ _ _ _ _ (T2.setTop (mkF m 9 #[.val (.ref a1), .val (.ref a2), .val (.int p3), .val (.int p4), .val (.long q5), .second, .val (.long q6), .second] []))
  refine Gl.st (fun t k => XS.aloadN X2.here hx rfl (hb hby d3_9) rfl rfl k) ?_
  show Gl _ _ _ _ _ _ _ (T2.setTop (mkF m 10 #[.val (.ref a1), .val (.ref a2), .val (.int p3), .val (.int p4), .val (.long q5), .second, .val (.long q6), .second] [(.ref a1)]))
  refine Gl.st (fun t k => XS.iloadN X2.here hx rfl (hb hby d3_10) rfl  k) ?_
  show Gl _ _ _ _ _ _ _ (T2.setTop (mkF m 11 #[.val (.ref a1), .val (.ref a2), .val (.int p3), .val (.int p4), .val (.long q5), .second, .val (.long q6), .second] [(.int p4), (.ref a1)]))
  obtain ⟨T10, h10, X10, e10, W10, st10⟩ := putF X2 hx hZ hown (host := "") (Or.inl (hw _ (List.mem_of_getElem? (i := 23) rfl))) Via.refl e2 F_end'4 E_a1'3 (Or.inr ⟨(hw _ (List.mem_of_getElem? (i := 24) rfl)), rfl, hnm⟩) (hw _ (List.mem_of_getElem? (i := 13) rfl)) (ty := .int) (by decide) rfl rfl (g := (mkF m 11 #[.val (.ref a1), .val (.ref a2), .val (.int p3), .val (.int p4), .val (.long q5), .second, .val (.long q6), .second] [(.int p4), (.ref a1)])) rfl rfl (hb hby d3_11)
  refine Gl.st st10 ?_
  have Z10 : n0 ≤ h10.size := Nat.le_trans Z2 (Keep.of_wr W10).1
  have N10 := Fr.snoc X10 N2 g_a1
  have K10 : Keep h0 h10 [a1] := K2.wr W10 (Or.inl (List.mem_of_getElem? (i := 0) rfl))
  have E_a1'11 : Exa Z h10 a1 "com/example/millrace/millrace/storage/PackedGroups$Reader" := E_a1'3.wr W10
  have Fw2'12 : Fld Z h10 a1 "com/example/millrace/millrace/storage/PackedGroups$Reader" "bytes" "[B" (.ref a2) := Fw2.other W10 (Or.inr (slot_ne (Or.inr (hw _ (List.mem_of_getElem? (i := 22) rfl))) (Or.inr (hw _ (List.mem_of_getElem? (i := 24) rfl))) (by decide) (t := (.array .byte)) (t' := .int) (by decide) (by decide)))
  have F_at'13 : Fld Z h10 a1 "com/example/millrace/millrace/storage/PackedGroups$Reader" "at" "I" u_at := F_at'5.other W10 (Or.inr (slot_ne (Or.inl (hw _ (List.mem_of_getElem? (i := 26) rfl))) (Or.inr (hw _ (List.mem_of_getElem? (i := 24) rfl))) (by decide) (t := .int) (t' := .int) (by decide) (by decide)))
  have F_offset'14 : Fld Z h10 a1 "com/example/millrace/millrace/storage/PackedGroups$Reader" "offset" "J" u_offset := F_offset'6.other W10 (Or.inr (slot_ne (Or.inl (hw _ (List.mem_of_getElem? (i := 28) rfl))) (Or.inr (hw _ (List.mem_of_getElem? (i := 24) rfl))) (by decide) (t := .long) (t' := .int) (by decide) (by decide)))
  have F_endOffset'15 : Fld Z h10 a1 "com/example/millrace/millrace/storage/PackedGroups$Reader" "endOffset" "J" u_endOffset := F_endOffset'7.other W10 (Or.inr (slot_ne (Or.inl (hw _ (List.mem_of_getElem? (i := 30) rfl))) (Or.inr (hw _ (List.mem_of_getElem? (i := 24) rfl))) (by decide) (t := .long) (t' := .int) (by decide) (by decide)))
  have F_position'16 : Fld Z h10 a1 "com/example/millrace/millrace/storage/PackedGroups$Reader" "position" "J" u_position := F_position'8.other W10 (Or.inr (slot_ne (Or.inl (hw _ (List.mem_of_getElem? (i := 32) rfl))) (Or.inr (hw _ (List.mem_of_getElem? (i := 24) rfl))) (by decide) (t := .long) (t' := .int) (by decide) (by decide)))
  have F_endPosition'17 : Fld Z h10 a1 "com/example/millrace/millrace/storage/PackedGroups$Reader" "endPosition" "J" u_endPosition := F_endPosition'9.other W10 (Or.inr (slot_ne (Or.inl (hw _ (List.mem_of_getElem? (i := 34) rfl))) (Or.inr (hw _ (List.mem_of_getElem? (i := 24) rfl))) (by decide) (t := .long) (t' := .int) (by decide) (by decide)))
  have Fw10 : Fld Z h10 a1 "com/example/millrace/millrace/storage/PackedGroups$Reader" "end" "I" (.int p4) := F_end'4.same W10
  show Gl _ _ _ _ _ _ _ (T10.setTop (mkF m 14 #[.val (.ref a1), .val (.ref a2), .val (.int p3), .val (.int p4), .val (.long q5), .second, .val (.long q6), .second] []))
  refine Gl.st (fun t k => XS.aloadN X10.here hx rfl (hb hby d3_14) rfl rfl k) ?_
  show Gl _ _ _ _ _ _ _ (T10.setTop (mkF m 15 #[.val (.ref a1), .val (.ref a2), .val (.int p3), .val (.int p4), .val (.long q5), .second, .val (.long q6), .second] [(.ref a1)]))
  refine Gl.st (fun t k => XS.iloadN X10.here hx rfl (hb hby d3_15) rfl  k) ?_
  show Gl _ _ _ _ _ _ _ (T10.setTop (mkF m 16 #[.val (.ref a1), .val (.ref a2), .val (.int p3), .val (.int p4), .val (.long q5), .second, .val (.long q6), .second] [(.int p3), (.ref a1)]))
  obtain ⟨T18, h18, X18, e18, W18, st18⟩ := putF X10 hx hZ hown (host := "") (Or.inl (hw _ (List.mem_of_getElem? (i := 25) rfl))) Via.refl e10 F_at'13 E_a1'11 (Or.inl (hw _ (List.mem_of_getElem? (i := 26) rfl))) (hw _ (List.mem_of_getElem? (i := 13) rfl)) (ty := .int) (by decide) rfl rfl (g := (mkF m 16 #[.val (.ref a1), .val (.ref a2), .val (.int p3), .val (.int p4), .val (.long q5), .second, .val (.long q6), .second] [(.int p3), (.ref a1)])) rfl rfl (hb hby d3_16)
  refine Gl.st st18 ?_
  have Z18 : n0 ≤ h18.size := Nat.le_trans Z10 (Keep.of_wr W18).1
  have N18 := Fr.snoc X18 N10 g_a1
  have K18 : Keep h0 h18 [a1] := K10.wr W18 (Or.inl (List.mem_of_getElem? (i := 0) rfl))
  have E_a1'19 : Exa Z h18 a1 "com/example/millrace/millrace/storage/PackedGroups$Reader" := E_a1'11.wr W18
  have Fw2'20 : Fld Z h18 a1 "com/example/millrace/millrace/storage/PackedGroups$Reader" "bytes" "[B" (.ref a2) := Fw2'12.other W18 (Or.inr (slot_ne (Or.inr (hw _ (List.mem_of_getElem? (i := 22) rfl))) (Or.inl (hw _ (List.mem_of_getElem? (i := 26) rfl))) (by decide) (t := (.array .byte)) (t' := .int) (by decide) (by decide)))
  have Fw10'21 : Fld Z h18 a1 "com/example/millrace/millrace/storage/PackedGroups$Reader" "end" "I" (.int p4) := Fw10.other W18 (Or.inr (slot_ne (Or.inr (hw _ (List.mem_of_getElem? (i := 24) rfl))) (Or.inl (hw _ (List.mem_of_getElem? (i := 26) rfl))) (by decide) (t := .int) (t' := .int) (by decide) (by decide)))
  have F_offset'22 : Fld Z h18 a1 "com/example/millrace/millrace/storage/PackedGroups$Reader" "offset" "J" u_offset := F_offset'14.other W18 (Or.inr (slot_ne (Or.inl (hw _ (List.mem_of_getElem? (i := 28) rfl))) (Or.inl (hw _ (List.mem_of_getElem? (i := 26) rfl))) (by decide) (t := .long) (t' := .int) (by decide) (by decide)))
  have F_endOffset'23 : Fld Z h18 a1 "com/example/millrace/millrace/storage/PackedGroups$Reader" "endOffset" "J" u_endOffset := F_endOffset'15.other W18 (Or.inr (slot_ne (Or.inl (hw _ (List.mem_of_getElem? (i := 30) rfl))) (Or.inl (hw _ (List.mem_of_getElem? (i := 26) rfl))) (by decide) (t := .long) (t' := .int) (by decide) (by decide)))
  have F_position'24 : Fld Z h18 a1 "com/example/millrace/millrace/storage/PackedGroups$Reader" "position" "J" u_position := F_position'16.other W18 (Or.inr (slot_ne (Or.inl (hw _ (List.mem_of_getElem? (i := 32) rfl))) (Or.inl (hw _ (List.mem_of_getElem? (i := 26) rfl))) (by decide) (t := .long) (t' := .int) (by decide) (by decide)))
  have F_endPosition'25 : Fld Z h18 a1 "com/example/millrace/millrace/storage/PackedGroups$Reader" "endPosition" "J" u_endPosition := F_endPosition'17.other W18 (Or.inr (slot_ne (Or.inl (hw _ (List.mem_of_getElem? (i := 34) rfl))) (Or.inl (hw _ (List.mem_of_getElem? (i := 26) rfl))) (by decide) (t := .long) (t' := .int) (by decide) (by decide)))
  have Fw18 : Fld Z h18 a1 "com/example/millrace/millrace/storage/PackedGroups$Reader" "at" "I" (.int p3) := F_at'13.same W18
  show Gl _ _ _ _ _ _ _ (T18.setTop (mkF m 19 #[.val (.ref a1), .val (.ref a2), .val (.int p3), .val (.int p4), .val (.long q5), .second, .val (.long q6), .second] []))
  refine Gl.st (fun t k => XS.aloadN X18.here hx rfl (hb hby d3_19) rfl rfl k) ?_
  show Gl _ _ _ _ _ _ _ (T18.setTop (mkF m 20 #[.val (.ref a1), .val (.ref a2), .val (.int p3), .val (.int p4), .val (.long q5), .second, .val (.long q6), .second] [(.ref a1)]))
  refine Gl.st (fun t k => XS.lload X18.here hx rfl (hb hby d3_20) rfl  k) ?_
  show Gl _ _ _ _ _ _ _ (T18.setTop (mkF m 22 #[.val (.ref a1), .val (.ref a2), .val (.int p3), .val (.int p4), .val (.long q5), .second, .val (.long q6), .second] [(.long q5), (.ref a1)]))
  obtain ⟨T26, h26, X26, e26, W26, st26⟩ := putF X18 hx hZ hown (host := "") (Or.inl (hw _ (List.mem_of_getElem? (i := 27) rfl))) Via.refl e18 F_offset'22 E_a1'19 (Or.inl (hw _ (List.mem_of_getElem? (i := 28) rfl))) (hw _ (List.mem_of_getElem? (i := 13) rfl)) (ty := .long) (by decide) rfl rfl (g := (mkF m 22 #[.val (.ref a1), .val (.ref a2), .val (.int p3), .val (.int p4), .val (.long q5), .second, .val (.long q6), .second] [(.long q5), (.ref a1)])) rfl rfl (hb hby d3_22)
  refine Gl.st st26 ?_
  have Z26 : n0 ≤ h26.size := Nat.le_trans Z18 (Keep.of_wr W26).1
  have N26 := Fr.snoc X26 N18 g_a1
  have K26 : Keep h0 h26 [a1] := K18.wr W26 (Or.inl (List.mem_of_getElem? (i := 0) rfl))
  have E_a1'27 : Exa Z h26 a1 "com/example/millrace/millrace/storage/PackedGroups$Reader" := E_a1'19.wr W26
  have Fw2'28 : Fld Z h26 a1 "com/example/millrace/millrace/storage/PackedGroups$Reader" "bytes" "[B" (.ref a2) := Fw2'20.other W26 (Or.inr (slot_ne (Or.inr (hw _ (List.mem_of_getElem? (i := 22) rfl))) (Or.inl (hw _ (List.mem_of_getElem? (i := 28) rfl))) (by decide) (t := (.array .byte)) (t' := .long) (by decide) (by decide)))
  have Fw10'29 : Fld Z h26 a1 "com/example/millrace/millrace/storage/PackedGroups$Reader" "end" "I" (.int p4) := Fw10'21.other W26 (Or.inr (slot_ne (Or.inr (hw _ (List.mem_of_getElem? (i := 24) rfl))) (Or.inl (hw _ (List.mem_of_getElem? (i := 28) rfl))) (by decide) (t := .int) (t' := .long) (by decide) (by decide)))
  have Fw18'30 : Fld Z h26 a1 "com/example/millrace/millrace/storage/PackedGroups$Reader" "at" "I" (.int p3) := Fw18.other W26 (Or.inr (slot_ne (Or.inl (hw _ (List.mem_of_getElem? (i := 26) rfl))) (Or.inl (hw _ (List.mem_of_getElem? (i := 28) rfl))) (by decide) (t := .int) (t' := .long) (by decide) (by decide)))
  have F_endOffset'31 : Fld Z h26 a1 "com/example/millrace/millrace/storage/PackedGroups$Reader" "endOffset" "J" u_endOffset := F_endOffset'23.other W26 (Or.inr (slot_ne (Or.inl (hw _ (List.mem_of_getElem? (i := 30) rfl))) (Or.inl (hw _ (List.mem_of_getElem? (i := 28) rfl))) (by decide) (t := .long) (t' := .long) (by decide) (by decide)))
  have F_position'32 : Fld Z h26 a1 "com/example/millrace/millrace/storage/PackedGroups$Reader" "position" "J" u_position := F_position'24.other W26 (Or.inr (slot_ne (Or.inl (hw _ (List.mem_of_getElem? (i := 32) rfl))) (Or.inl (hw _ (List.mem_of_getElem? (i := 28) rfl))) (by decide) (t := .long) (t' := .long) (by decide) (by decide)))
  have F_endPosition'33 : Fld Z h26 a1 "com/example/millrace/millrace/storage/PackedGroups$Reader" "endPosition" "J" u_endPosition := F_endPosition'25.other W26 (Or.inr (slot_ne (Or.inl (hw _ (List.mem_of_getElem? (i := 34) rfl))) (Or.inl (hw _ (List.mem_of_getElem? (i := 28) rfl))) (by decide) (t := .long) (t' := .long) (by decide) (by decide)))
  have Fw26 : Fld Z h26 a1 "com/example/millrace/millrace/storage/PackedGroups$Reader" "offset" "J" (.long q5) := F_offset'22.same W26
  show Gl _ _ _ _ _ _ _ (T26.setTop (mkF m 25 #[.val (.ref a1), .val (.ref a2), .val (.int p3), .val (.int p4), .val (.long q5), .second, .val (.long q6), .second] []))
  refine Gl.st (fun t k => XS.aloadN X26.here hx rfl (hb hby d3_25) rfl rfl k) ?_
  show Gl _ _ _ _ _ _ _ (T26.setTop (mkF m 26 #[.val (.ref a1), .val (.ref a2), .val (.int p3), .val (.int p4), .val (.long q5), .second, .val (.long q6), .second] [(.ref a1)]))
  refine Gl.st (fun t k => XS.lload X26.here hx rfl (hb hby d3_26) rfl  k) ?_
  show Gl _ _ _ _ _ _ _ (T26.setTop (mkF m 28 #[.val (.ref a1), .val (.ref a2), .val (.int p3), .val (.int p4), .val (.long q5), .second, .val (.long q6), .second] [(.long q5), (.ref a1)]))
  obtain ⟨T34, h34, X34, e34, W34, st34⟩ := putF X26 hx hZ hown (host := "") (Or.inl (hw _ (List.mem_of_getElem? (i := 29) rfl))) Via.refl e26 F_endOffset'31 E_a1'27 (Or.inl (hw _ (List.mem_of_getElem? (i := 30) rfl))) (hw _ (List.mem_of_getElem? (i := 13) rfl)) (ty := .long) (by decide) rfl rfl (g := (mkF m 28 #[.val (.ref a1), .val (.ref a2), .val (.int p3), .val (.int p4), .val (.long q5), .second, .val (.long q6), .second] [(.long q5), (.ref a1)])) rfl rfl (hb hby d3_28)
  refine Gl.st st34 ?_
  have Z34 : n0 ≤ h34.size := Nat.le_trans Z26 (Keep.of_wr W34).1
  have N34 := Fr.snoc X34 N26 g_a1
  have K34 : Keep h0 h34 [a1] := K26.wr W34 (Or.inl (List.mem_of_getElem? (i := 0) rfl))
  have E_a1'35 : Exa Z h34 a1 "com/example/millrace/millrace/storage/PackedGroups$Reader" := E_a1'27.wr W34
  have Fw2'36 : Fld Z h34 a1 "com/example/millrace/millrace/storage/PackedGroups$Reader" "bytes" "[B" (.ref a2) := Fw2'28.other W34 (Or.inr (slot_ne (Or.inr (hw _ (List.mem_of_getElem? (i := 22) rfl))) (Or.inl (hw _ (List.mem_of_getElem? (i := 30) rfl))) (by decide) (t := (.array .byte)) (t' := .long) (by decide) (by decide)))
  have Fw10'37 : Fld Z h34 a1 "com/example/millrace/millrace/storage/PackedGroups$Reader" "end" "I" (.int p4) := Fw10'29.other W34 (Or.inr (slot_ne (Or.inr (hw _ (List.mem_of_getElem? (i := 24) rfl))) (Or.inl (hw _ (List.mem_of_getElem? (i := 30) rfl))) (by decide) (t := .int) (t' := .long) (by decide) (by decide)))
  have Fw18'38 : Fld Z h34 a1 "com/example/millrace/millrace/storage/PackedGroups$Reader" "at" "I" (.int p3) := Fw18'30.other W34 (Or.inr (slot_ne (Or.inl (hw _ (List.mem_of_getElem? (i := 26) rfl))) (Or.inl (hw _ (List.mem_of_getElem? (i := 30) rfl))) (by decide) (t := .int) (t' := .long) (by decide) (by decide)))
  have Fw26'39 : Fld Z h34 a1 "com/example/millrace/millrace/storage/PackedGroups$Reader" "offset" "J" (.long q5) := Fw26.other W34 (Or.inr (slot_ne (Or.inl (hw _ (List.mem_of_getElem? (i := 28) rfl))) (Or.inl (hw _ (List.mem_of_getElem? (i := 30) rfl))) (by decide) (t := .long) (t' := .long) (by decide) (by decide)))
  have F_position'40 : Fld Z h34 a1 "com/example/millrace/millrace/storage/PackedGroups$Reader" "position" "J" u_position := F_position'32.other W34 (Or.inr (slot_ne (Or.inl (hw _ (List.mem_of_getElem? (i := 32) rfl))) (Or.inl (hw _ (List.mem_of_getElem? (i := 30) rfl))) (by decide) (t := .long) (t' := .long) (by decide) (by decide)))
  have F_endPosition'41 : Fld Z h34 a1 "com/example/millrace/millrace/storage/PackedGroups$Reader" "endPosition" "J" u_endPosition := F_endPosition'33.other W34 (Or.inr (slot_ne (Or.inl (hw _ (List.mem_of_getElem? (i := 34) rfl))) (Or.inl (hw _ (List.mem_of_getElem? (i := 30) rfl))) (by decide) (t := .long) (t' := .long) (by decide) (by decide)))
  have Fw34 : Fld Z h34 a1 "com/example/millrace/millrace/storage/PackedGroups$Reader" "endOffset" "J" (.long q5) := F_endOffset'31.same W34
  show Gl _ _ _ _ _ _ _ (T34.setTop (mkF m 31 #[.val (.ref a1), .val (.ref a2), .val (.int p3), .val (.int p4), .val (.long q5), .second, .val (.long q6), .second] []))
  refine Gl.st (fun t k => XS.aloadN X34.here hx rfl (hb hby d3_31) rfl rfl k) ?_
  show Gl _ _ _ _ _ _ _ (T34.setTop (mkF m 32 #[.val (.ref a1), .val (.ref a2), .val (.int p3), .val (.int p4), .val (.long q5), .second, .val (.long q6), .second] [(.ref a1)]))
  refine Gl.st (fun t k => XS.lload X34.here hx rfl (hb hby d3_32) rfl  k) ?_
  show Gl _ _ _ _ _ _ _ (T34.setTop (mkF m 34 #[.val (.ref a1), .val (.ref a2), .val (.int p3), .val (.int p4), .val (.long q5), .second, .val (.long q6), .second] [(.long q6), (.ref a1)]))
  obtain ⟨T42, h42, X42, e42, W42, st42⟩ := putF X34 hx hZ hown (host := "") (Or.inl (hw _ (List.mem_of_getElem? (i := 31) rfl))) Via.refl e34 F_position'40 E_a1'35 (Or.inl (hw _ (List.mem_of_getElem? (i := 32) rfl))) (hw _ (List.mem_of_getElem? (i := 13) rfl)) (ty := .long) (by decide) rfl rfl (g := (mkF m 34 #[.val (.ref a1), .val (.ref a2), .val (.int p3), .val (.int p4), .val (.long q5), .second, .val (.long q6), .second] [(.long q6), (.ref a1)])) rfl rfl (hb hby d3_34)
  refine Gl.st st42 ?_
  have Z42 : n0 ≤ h42.size := Nat.le_trans Z34 (Keep.of_wr W42).1
  have N42 := Fr.snoc X42 N34 g_a1
  have K42 : Keep h0 h42 [a1] := K34.wr W42 (Or.inl (List.mem_of_getElem? (i := 0) rfl))
  have E_a1'43 : Exa Z h42 a1 "com/example/millrace/millrace/storage/PackedGroups$Reader" := E_a1'35.wr W42
  have Fw2'44 : Fld Z h42 a1 "com/example/millrace/millrace/storage/PackedGroups$Reader" "bytes" "[B" (.ref a2) := Fw2'36.other W42 (Or.inr (slot_ne (Or.inr (hw _ (List.mem_of_getElem? (i := 22) rfl))) (Or.inl (hw _ (List.mem_of_getElem? (i := 32) rfl))) (by decide) (t := (.array .byte)) (t' := .long) (by decide) (by decide)))
  have Fw10'45 : Fld Z h42 a1 "com/example/millrace/millrace/storage/PackedGroups$Reader" "end" "I" (.int p4) := Fw10'37.other W42 (Or.inr (slot_ne (Or.inr (hw _ (List.mem_of_getElem? (i := 24) rfl))) (Or.inl (hw _ (List.mem_of_getElem? (i := 32) rfl))) (by decide) (t := .int) (t' := .long) (by decide) (by decide)))
  have Fw18'46 : Fld Z h42 a1 "com/example/millrace/millrace/storage/PackedGroups$Reader" "at" "I" (.int p3) := Fw18'38.other W42 (Or.inr (slot_ne (Or.inl (hw _ (List.mem_of_getElem? (i := 26) rfl))) (Or.inl (hw _ (List.mem_of_getElem? (i := 32) rfl))) (by decide) (t := .int) (t' := .long) (by decide) (by decide)))
  have Fw26'47 : Fld Z h42 a1 "com/example/millrace/millrace/storage/PackedGroups$Reader" "offset" "J" (.long q5) := Fw26'39.other W42 (Or.inr (slot_ne (Or.inl (hw _ (List.mem_of_getElem? (i := 28) rfl))) (Or.inl (hw _ (List.mem_of_getElem? (i := 32) rfl))) (by decide) (t := .long) (t' := .long) (by decide) (by decide)))
  have Fw34'48 : Fld Z h42 a1 "com/example/millrace/millrace/storage/PackedGroups$Reader" "endOffset" "J" (.long q5) := Fw34.other W42 (Or.inr (slot_ne (Or.inl (hw _ (List.mem_of_getElem? (i := 30) rfl))) (Or.inl (hw _ (List.mem_of_getElem? (i := 32) rfl))) (by decide) (t := .long) (t' := .long) (by decide) (by decide)))
  have F_endPosition'49 : Fld Z h42 a1 "com/example/millrace/millrace/storage/PackedGroups$Reader" "endPosition" "J" u_endPosition := F_endPosition'41.other W42 (Or.inr (slot_ne (Or.inl (hw _ (List.mem_of_getElem? (i := 34) rfl))) (Or.inl (hw _ (List.mem_of_getElem? (i := 32) rfl))) (by decide) (t := .long) (t' := .long) (by decide) (by decide)))
  have Fw42 : Fld Z h42 a1 "com/example/millrace/millrace/storage/PackedGroups$Reader" "position" "J" (.long q6) := F_position'40.same W42
  show Gl _ _ _ _ _ _ _ (T42.setTop (mkF m 37 #[.val (.ref a1), .val (.ref a2), .val (.int p3), .val (.int p4), .val (.long q5), .second, .val (.long q6), .second] []))
  refine Gl.st (fun t k => XS.aloadN X42.here hx rfl (hb hby d3_37) rfl rfl k) ?_
  show Gl _ _ _ _ _ _ _ (T42.setTop (mkF m 38 #[.val (.ref a1), .val (.ref a2), .val (.int p3), .val (.int p4), .val (.long q5), .second, .val (.long q6), .second] [(.ref a1)]))
  refine Gl.st (fun t k => XS.lload X42.here hx rfl (hb hby d3_38) rfl  k) ?_
  show Gl _ _ _ _ _ _ _ (T42.setTop (mkF m 40 #[.val (.ref a1), .val (.ref a2), .val (.int p3), .val (.int p4), .val (.long q5), .second, .val (.long q6), .second] [(.long q6), (.ref a1)]))
  obtain ⟨T50, h50, X50, e50, W50, st50⟩ := putF X42 hx hZ hown (host := "") (Or.inl (hw _ (List.mem_of_getElem? (i := 33) rfl))) Via.refl e42 F_endPosition'49 E_a1'43 (Or.inl (hw _ (List.mem_of_getElem? (i := 34) rfl))) (hw _ (List.mem_of_getElem? (i := 13) rfl)) (ty := .long) (by decide) rfl rfl (g := (mkF m 40 #[.val (.ref a1), .val (.ref a2), .val (.int p3), .val (.int p4), .val (.long q5), .second, .val (.long q6), .second] [(.long q6), (.ref a1)])) rfl rfl (hb hby d3_40)
  refine Gl.st st50 ?_
  have Z50 : n0 ≤ h50.size := Nat.le_trans Z42 (Keep.of_wr W50).1
  have N50 := Fr.snoc X50 N42 g_a1
  have K50 : Keep h0 h50 [a1] := K42.wr W50 (Or.inl (List.mem_of_getElem? (i := 0) rfl))
  have E_a1'51 : Exa Z h50 a1 "com/example/millrace/millrace/storage/PackedGroups$Reader" := E_a1'43.wr W50
  have Fw2'52 : Fld Z h50 a1 "com/example/millrace/millrace/storage/PackedGroups$Reader" "bytes" "[B" (.ref a2) := Fw2'44.other W50 (Or.inr (slot_ne (Or.inr (hw _ (List.mem_of_getElem? (i := 22) rfl))) (Or.inl (hw _ (List.mem_of_getElem? (i := 34) rfl))) (by decide) (t := (.array .byte)) (t' := .long) (by decide) (by decide)))
  have Fw10'53 : Fld Z h50 a1 "com/example/millrace/millrace/storage/PackedGroups$Reader" "end" "I" (.int p4) := Fw10'45.other W50 (Or.inr (slot_ne (Or.inr (hw _ (List.mem_of_getElem? (i := 24) rfl))) (Or.inl (hw _ (List.mem_of_getElem? (i := 34) rfl))) (by decide) (t := .int) (t' := .long) (by decide) (by decide)))
  have Fw18'54 : Fld Z h50 a1 "com/example/millrace/millrace/storage/PackedGroups$Reader" "at" "I" (.int p3) := Fw18'46.other W50 (Or.inr (slot_ne (Or.inl (hw _ (List.mem_of_getElem? (i := 26) rfl))) (Or.inl (hw _ (List.mem_of_getElem? (i := 34) rfl))) (by decide) (t := .int) (t' := .long) (by decide) (by decide)))
  have Fw26'55 : Fld Z h50 a1 "com/example/millrace/millrace/storage/PackedGroups$Reader" "offset" "J" (.long q5) := Fw26'47.other W50 (Or.inr (slot_ne (Or.inl (hw _ (List.mem_of_getElem? (i := 28) rfl))) (Or.inl (hw _ (List.mem_of_getElem? (i := 34) rfl))) (by decide) (t := .long) (t' := .long) (by decide) (by decide)))
  have Fw34'56 : Fld Z h50 a1 "com/example/millrace/millrace/storage/PackedGroups$Reader" "endOffset" "J" (.long q5) := Fw34'48.other W50 (Or.inr (slot_ne (Or.inl (hw _ (List.mem_of_getElem? (i := 30) rfl))) (Or.inl (hw _ (List.mem_of_getElem? (i := 34) rfl))) (by decide) (t := .long) (t' := .long) (by decide) (by decide)))
  have Fw42'57 : Fld Z h50 a1 "com/example/millrace/millrace/storage/PackedGroups$Reader" "position" "J" (.long q6) := Fw42.other W50 (Or.inr (slot_ne (Or.inl (hw _ (List.mem_of_getElem? (i := 32) rfl))) (Or.inl (hw _ (List.mem_of_getElem? (i := 34) rfl))) (by decide) (t := .long) (t' := .long) (by decide) (by decide)))
  have Fw50 : Fld Z h50 a1 "com/example/millrace/millrace/storage/PackedGroups$Reader" "endPosition" "J" (.long q6) := F_endPosition'49.same W50
  show Gl _ _ _ _ _ _ _ (T50.setTop (mkF m 43 #[.val (.ref a1), .val (.ref a2), .val (.int p3), .val (.int p4), .val (.long q5), .second, .val (.long q6), .second] []))
  exact Gl.retV X50 hx hlk Bd.returns (hb hby d3_43) (by
        rw [e50]
        exact ⟨rfl, N50, K50, E_a1'51, Fw2'52, Fw10'53, Fw18'54, Fw26'55, Fw34'56, Fw42'57, Fw50⟩) (by decide) (by decide)
theorem own_plus7 {sh : Int32} {t : Nat} (h : sh.toInt = ((7 * t : Nat) : Int)) (ht : t < 100) : (sh + (7 : Int32)).toInt = ((7 * (t + 1) : Nat) : Int) := by
  have a := c_iadd sh 7
  have b := rng32 (sh + 7)
  have e : (7 : Int32).toInt = 7 := by decide
  omega
theorem own_zero {sh : Int32} {t : Nat} (h : sh.toInt = ((7 * t : Nat) : Int)) (ht : t = 0) : sh = (0 : Int32) := by
  rw [← Int32.toInt_inj, h, ht]; decide
theorem d5_0 : decode prog_96_method_3_code 0 = .ok (.lconst 0, 1) := by decide +kernel
theorem d5_1 : decode prog_96_method_3_code 1 = .ok (.lstore_n 1, 1) := by decide +kernel
theorem d5_2 : decode prog_96_method_3_code 2 = .ok (.iconst 0, 1) := by decide +kernel
theorem d5_3 : decode prog_96_method_3_code 3 = .ok (.istore_n 3, 1) := by decide +kernel
theorem d5_4 : decode prog_96_method_3_code 4 = .ok (.iconst 0, 1) := by decide +kernel
theorem d5_5 : decode prog_96_method_3_code 5 = .ok (.istore 4, 2) := by decide +kernel
theorem d5_7 : decode prog_96_method_3_code 7 = .ok (.aload_n 0, 1) := by decide +kernel
theorem d5_8 : decode prog_96_method_3_code 8 = .ok (.getfield 17, 3) := by decide +kernel
theorem d5_11 : decode prog_96_method_3_code 11 = .ok (.aload_n 0, 1) := by decide +kernel
theorem d5_12 : decode prog_96_method_3_code 12 = .ok (.getfield 13, 3) := by decide +kernel
theorem d5_15 : decode prog_96_method_3_code 15 = .ok (.if_icmp .ge 47, 3) := by decide +kernel
theorem d5_18 : decode prog_96_method_3_code 18 = .ok (.iload_n 3, 1) := by decide +kernel
theorem d5_19 : decode prog_96_method_3_code 19 = .ok (.ifCond .eq 8, 3) := by decide +kernel
theorem d5_22 : decode prog_96_method_3_code 22 = .ok (.iload 4, 2) := by decide +kernel
theorem d5_24 : decode prog_96_method_3_code 24 = .ok (.ifCond .ge 38, 3) := by decide +kernel
theorem d5_27 : decode prog_96_method_3_code 27 = .ok (.aload_n 0, 1) := by decide +kernel
theorem d5_28 : decode prog_96_method_3_code 28 = .ok (.getfield 7, 3) := by decide +kernel
theorem d5_31 : decode prog_96_method_3_code 31 = .ok (.aload_n 0, 1) := by decide +kernel
theorem d5_32 : decode prog_96_method_3_code 32 = .ok (.dup, 1) := by decide +kernel
theorem d5_33 : decode prog_96_method_3_code 33 = .ok (.getfield 17, 3) := by decide +kernel
theorem d5_36 : decode prog_96_method_3_code 36 = .ok (.dup_x1, 1) := by decide +kernel
theorem d5_37 : decode prog_96_method_3_code 37 = .ok (.iconst 1, 1) := by decide +kernel
theorem d5_38 : decode prog_96_method_3_code 38 = .ok (.iadd, 1) := by decide +kernel
theorem d5_39 : decode prog_96_method_3_code 39 = .ok (.putfield 17, 3) := by decide +kernel
theorem d5_42 : decode prog_96_method_3_code 42 = .ok (.baload, 1) := by decide +kernel
theorem d5_43 : decode prog_96_method_3_code 43 = .ok (.istore 4, 2) := by decide +kernel
theorem d5_45 : decode prog_96_method_3_code 45 = .ok (.lload_n 1, 1) := by decide +kernel
theorem d5_46 : decode prog_96_method_3_code 46 = .ok (.iload 4, 2) := by decide +kernel
theorem d5_48 : decode prog_96_method_3_code 48 = .ok (.bipush 127, 2) := by decide +kernel
theorem d5_50 : decode prog_96_method_3_code 50 = .ok (.iand, 1) := by decide +kernel
theorem d5_51 : decode prog_96_method_3_code 51 = .ok (.i2l, 1) := by decide +kernel
theorem d5_52 : decode prog_96_method_3_code 52 = .ok (.iload_n 3, 1) := by decide +kernel
theorem d5_53 : decode prog_96_method_3_code 53 = .ok (.lshl, 1) := by decide +kernel
theorem d5_54 : decode prog_96_method_3_code 54 = .ok (.lor, 1) := by decide +kernel
theorem d5_55 : decode prog_96_method_3_code 55 = .ok (.lstore_n 1, 1) := by decide +kernel
theorem d5_56 : decode prog_96_method_3_code 56 = .ok (.iinc 3 7, 3) := by decide +kernel
theorem d5_59 : decode prog_96_method_3_code 59 = .ok (.goto (-52), 3) := by decide +kernel
theorem d5_62 : decode prog_96_method_3_code 62 = .ok (.lload_n 1, 1) := by decide +kernel
theorem d5_63 : decode prog_96_method_3_code 63 = .ok (.lreturn, 1) := by decide +kernel
theorem pf_3 : plainFor (⟨"com/example/millrace/millrace/storage/PackedGroups$Reader", "number", "()J"⟩ : MethodName) = true := by decide +kernel
def Q5 (Z : State) (a1 : Addr) (ba : Addr) (ia : Int32) (en : Int32) (ck : ClassId) (vs : List Int32) (j : Nat) (n : Nat) (V : Nat) (mc : Nat) (h0 : Heap) (n0 : Nat) (v : Option Value) (h : Heap) (L : List Loc) : Prop := v = some (.long (Int64.ofInt ((V % 128 ^ mc : Nat) : Int))) ∧ Fr n0 L ∧ Keep h0 h [a1] ∧ Exa Z h a1 "com/example/millrace/millrace/storage/PackedGroups$Reader" ∧ Fld Z h a1 "com/example/millrace/millrace/storage/PackedGroups$Reader" "bytes" "[B" (.ref ba) ∧ Fld Z h a1 "com/example/millrace/millrace/storage/PackedGroups$Reader" "at" "I" (.int (Int32.ofInt ((j + mc : Nat) : Int))) ∧ Fld Z h a1 "com/example/millrace/millrace/storage/PackedGroups$Reader" "end" "I" (.int en)
theorem ef_5 (m : MethodId) (a1 : Addr) : entryFrame m #[(.ref a1)] 5 = mkF m 0 #[.val (.ref a1), .unset, .unset, .unset, .unset] [] := by first | (simp [entryFrame, mkF, argsToLocals, Value.category]; done) | rfl
set_option maxRecDepth 65536 in
set_option maxHeartbeats 40000000 in
theorem rm5 (l : Launch) (Z : State) (a0 : Array Value) (hw : ∀ d ∈ tables_1, d.before a0 Z = true) (ws : List Jvm.Cond) (a1 : Addr) (ba : Addr) (ia : Int32) (en : Int32) (ck : ClassId) (vs : List Int32) (j : Nat) (n : Nat) (V : Nat) (mc : Nat) (h0 : Heap) (n0 : Nat) (Z0 : n0 ≤ h0.size) (E_a1 : Exa Z h0 a1 "com/example/millrace/millrace/storage/PackedGroups$Reader") (Fby : Fld Z h0 a1 "com/example/millrace/millrace/storage/PackedGroups$Reader" "bytes" "[B" (.ref ba)) (Fat : Fld Z h0 a1 "com/example/millrace/millrace/storage/PackedGroups$Reader" "at" "I" (.int ia)) (Fen : Fld Z h0 a1 "com/example/millrace/millrace/storage/PackedGroups$Reader" "end" "I" (.int en)) (Vb : Arv Z h0 ba ck .byte (18 : Int32) (vs.map Value.int) (.int (0 : Int32))) (g_a1 : n0 ≤ a1) (hne : ba ≠ a1) (hj : ia.toInt = (j : Int)) (hm : mc = min n (en.toInt - (j : Int)).toNat) (hE : en.toInt ≤ 18) (hn1 : 1 ≤ n) (hn9 : n ≤ 9) (hB : ∀ u, u < n → Byt V n u (vs.getD (j + u) 0)) :
    MetFree l (⟨"com/example/millrace/millrace/storage/PackedGroups$Reader", "number", "()J"⟩ : MethodName) (head1 (Jvm.Cond.code (⟨"com/example/millrace/millrace/storage/PackedGroups$Reader", "number", "()J"⟩ : MethodName) prog_96_method_3_code 5 (some .long) :: ws) ({ frames := 0, cells := 0, slots := 0, locals := 0 } : Room)) (fun a U => a = #[(.ref a1)] ∧ Z.Warmed39 U.vm ∧ U.heap = h0) (fun _ _ _ _ _ => True) (fun _ U o U' => ∃ v L, o = .returned v ∧ Q5 Z a1 ba ia en ck vs j n V mc h0 n0 v U'.heap L ∧ FrameEnd U o U' L ({ frames := 0, cells := 0, slots := 0, locals := 0 } : Room).cells ({ frames := 0, cells := 0, slots := 0, locals := 0 } : Room).slots) := by
  refine MetFree.of_bodySF pf_3 hisR ?_
  intro p e s m args below meth c s₁ Bd hml0 hP hK
  obtain ⟨rfl, hZ, hh⟩ := hP
  have hx := Bd.exec
  have hby := Bd.bytes
  have hlk : meth.locks = false := BodyLoose.notSynchronized Bd
  have hml : c.maxLocals = 5 := hml0
  have hown : s.vm.findClass "com/example/millrace/millrace/storage/PackedGroups$Reader" = some m.cls := findClass_of_methodNamed Bd.named
  have hnm := (name_of_methodNamed Bd.named Bd.method).1
  have X0 : Stand p l e ({ frames := 0, cells := 0, slots := 0, locals := 0 } : Room) s m #[(.ref a1)] below meth c s₁ [] 0 0 := Stand.of_body Bd
  have e0 : s₁.heap = h0 := by rw [← hh, Bd.state]; rfl
  have N0 := Fr.nil n0
  have K0 : Keep h0 h0 [a1] := Keep.refl h0 _
  show Gl p e below s (Q5 Z a1 ba ia en ck vs j n V mc h0 n0) ({ frames := 0, cells := 0, slots := 0, locals := 0 } : Room).cells ({ frames := 0, cells := 0, slots := 0, locals := 0 } : Room).slots (s₁.setTop (entryFrame m #[(.ref a1)] 5))
  rw [ef_5]
  show Gl _ _ _ _ _ _ _ (s₁.setTop (mkF m 0 #[.val (.ref a1), .unset, .unset, .unset, .unset] []))
  refine Gl.st (fun t k => XS.lconst X0.here hx rfl (hb hby d5_0) k) ?_
  show Gl _ _ _ _ _ _ _ (s₁.setTop (mkF m 1 #[.val (.ref a1), .unset, .unset, .unset, .unset] [(.long (0 : Int64))]))
  refine Gl.st (fun t k => XS.lstoreN X0.here hx rfl (hb hby d5_1) rfl (l' := #[.val (.ref a1), .val (.long (0 : Int64)), .second, .unset, .unset]) rfl k) ?_
  show Gl _ _ _ _ _ _ _ (s₁.setTop (mkF m 2 #[.val (.ref a1), .val (.long (0 : Int64)), .second, .unset, .unset] []))
  refine Gl.st (fun t k => XS.iconst X0.here hx rfl (hb hby d5_2) k) ?_
  show Gl _ _ _ _ _ _ _ (s₁.setTop (mkF m 3 #[.val (.ref a1), .val (.long (0 : Int64)), .second, .unset, .unset] [(.int (0 : Int32))]))
  refine Gl.st (fun t k => XS.istoreN X0.here hx rfl (hb hby d5_3) rfl (l' := #[.val (.ref a1), .val (.long (0 : Int64)), .second, .val (.int (0 : Int32)), .unset]) rfl k) ?_
  show Gl _ _ _ _ _ _ _ (s₁.setTop (mkF m 4 #[.val (.ref a1), .val (.long (0 : Int64)), .second, .val (.int (0 : Int32)), .unset] []))
  refine Gl.st (fun t k => XS.iconst X0.here hx rfl (hb hby d5_4) k) ?_
  show Gl _ _ _ _ _ _ _ (s₁.setTop (mkF m 5 #[.val (.ref a1), .val (.long (0 : Int64)), .second, .val (.int (0 : Int32)), .unset] [(.int (0 : Int32))]))
  refine Gl.st (fun t k => XS.istore X0.here hx rfl (hb hby d5_5) rfl (l' := #[.val (.ref a1), .val (.long (0 : Int64)), .second, .val (.int (0 : Int32)), .val (.int (0 : Int32))]) rfl k) ?_
  have LP1 : ∀ (k : Nat) (Tl1 : State) (Ll1 : List Loc) (hl1 : Heap) (Xl1 : Stand p l e ({ frames := 0, cells := 0, slots := 0, locals := 0 } : Room) s m #[(.ref a1)] below meth c Tl1 Ll1 0 0) (el1 : Tl1.heap = hl1) (Nl1 : Fr n0 Ll1) (Zl1 : n0 ≤ hl1.size) (Kl1 : Keep h0 hl1 [a1]) (t : Nat) (i : Int32) (acc : Int64) (sh : Int32) (bb : Int32) (Gf1_0 : Exa Z hl1 a1 "com/example/millrace/millrace/storage/PackedGroups$Reader") (Gf1_1 : Fld Z hl1 a1 "com/example/millrace/millrace/storage/PackedGroups$Reader" "bytes" "[B" (.ref ba)) (Gf1_2 : Fld Z hl1 a1 "com/example/millrace/millrace/storage/PackedGroups$Reader" "at" "I" (.int i)) (Gf1_3 : Fld Z hl1 a1 "com/example/millrace/millrace/storage/PackedGroups$Reader" "end" "I" (.int en)) (Gf1_4 : Arv Z hl1 ba ck .byte (18 : Int32) (vs.map Value.int) (.int (0 : Int32))) (hi : i.toInt = ((j + t : Nat) : Int)) (hacc : acc.toInt = ((V % 128 ^ t : Nat) : Int)) (hsh : sh.toInt = ((7 * t : Nat) : Int)) (hk : t + k = mc) (hbb : t = 0 ∨ (1 ≤ t ∧ Byt V n (t - 1) bb)), Gl p e below s (Q5 Z a1 ba ia en ck vs j n V mc h0 n0) ({ frames := 0, cells := 0, slots := 0, locals := 0 } : Room).cells ({ frames := 0, cells := 0, slots := 0, locals := 0 } : Room).slots (Tl1.setTop (mkF m 7 #[.val (.ref a1), .val (.long acc), .second, .val (.int sh), .val (.int bb)] [])) := by
    intro k
    induction k with
    | zero =>
      intro Tl1 Ll1 hl1 Xl1 el1 Nl1 Zl1 Kl1 t i acc sh bb Gf1_0 Gf1_1 Gf1_2 Gf1_3 Gf1_4 hi hacc hsh hk hbb
      show Gl _ _ _ _ _ _ _ (Tl1.setTop (mkF m 7 #[.val (.ref a1), .val (.long acc), .second, .val (.int sh), .val (.int bb)] []))
      refine Gl.st (fun t k => XS.aloadN Xl1.here hx rfl (hb hby d5_7) rfl rfl k) ?_
      show Gl _ _ _ _ _ _ _ (Tl1.setTop (mkF m 8 #[.val (.ref a1), .val (.long acc), .second, .val (.int sh), .val (.int bb)] [(.ref a1)]))
      obtain ⟨T2, X2, e2, st2⟩ := getF Xl1 hx hZ hown (host := "") (Or.inl (hw _ (List.mem_of_getElem? (i := 25) rfl))) Via.refl el1 Gf1_2 (g := (mkF m 8 #[.val (.ref a1), .val (.long acc), .second, .val (.int sh), .val (.int bb)] [(.ref a1)])) rfl rfl (hb hby d5_8)
      refine Gl.st st2 ?_
      show Gl _ _ _ _ _ _ _ (T2.setTop (mkF m 11 #[.val (.ref a1), .val (.long acc), .second, .val (.int sh), .val (.int bb)] [(.int i)]))
      refine Gl.st (fun t k => XS.aloadN X2.here hx rfl (hb hby d5_11) rfl rfl k) ?_
      show Gl _ _ _ _ _ _ _ (T2.setTop (mkF m 12 #[.val (.ref a1), .val (.long acc), .second, .val (.int sh), .val (.int bb)] [(.ref a1), (.int i)]))
      obtain ⟨T3, X3, e3, st3⟩ := getF X2 hx hZ hown (host := "") (Or.inl (hw _ (List.mem_of_getElem? (i := 23) rfl))) Via.refl e2 Gf1_3 (g := (mkF m 12 #[.val (.ref a1), .val (.long acc), .second, .val (.int sh), .val (.int bb)] [(.ref a1), (.int i)])) rfl rfl (hb hby d5_12)
      refine Gl.st st3 ?_
      show Gl _ _ _ _ _ _ _ (T3.setTop (mkF m 15 #[.val (.ref a1), .val (.long acc), .second, .val (.int sh), .val (.int bb)] [(.int en), (.int i)]))
      by_cases hc15 : i < en
      · refine Gl.st (fun t k => XS.icmpNo X3.here hx rfl (hb hby d5_15) rfl (tlt hc15).2.1 k) ?_
        show Gl _ _ _ _ _ _ _ (T3.setTop (mkF m 18 #[.val (.ref a1), .val (.long acc), .second, .val (.int sh), .val (.int bb)] []))
        refine Gl.st (fun t k => XS.iloadN X3.here hx rfl (hb hby d5_18) rfl  k) ?_
        show Gl _ _ _ _ _ _ _ (T3.setTop (mkF m 19 #[.val (.ref a1), .val (.long acc), .second, .val (.int sh), .val (.int bb)] [(.int sh)]))
        have hc19_4 : ¬ (sh = (0 : Int32)) := by intro q; rw [q, show (0 : Int32).toInt = 0 from by decide] at hsh; rw [Int32.lt_iff_toInt_lt] at hc15; omega
        refine Gl.st (fun t k => XS.ifNo X3.here hx rfl (hb hby d5_19) rfl ((if0 _ _).trans (feq hc19_4).1) k) ?_
        show Gl _ _ _ _ _ _ _ (T3.setTop (mkF m 22 #[.val (.ref a1), .val (.long acc), .second, .val (.int sh), .val (.int bb)] []))
        refine Gl.st (fun t k => XS.iload X3.here hx rfl (hb hby d5_22) rfl  k) ?_
        show Gl _ _ _ _ _ _ _ (T3.setTop (mkF m 24 #[.val (.ref a1), .val (.long acc), .second, .val (.int sh), .val (.int bb)] [(.int bb)]))
        have hc24_5 : ¬ (bb < (0 : Int32)) := by 
          rw [Int32.lt_iff_toInt_lt, show (0 : Int32).toInt = 0 from by decide]; rw [Int32.lt_iff_toInt_lt] at hc15; rcases hbb with q | ⟨q1, q2⟩
          · omega
          · have q3 := q2.2; omega
        refine Gl.st (fun t k => XS.ifYes X3.here hx rfl (pc0 := 24) (pc' := 62) rfl (hb hby d5_24) rfl ((if0 _ _).trans (flt hc24_5).2.1) (by decide) (by decide) k) ?_
        show Gl _ _ _ _ _ _ _ (T3.setTop (mkF m 62 #[.val (.ref a1), .val (.long acc), .second, .val (.int sh), .val (.int bb)] []))
        refine Gl.st (fun t k => XS.lloadN X3.here hx rfl (hb hby d5_62) rfl  k) ?_
        show Gl _ _ _ _ _ _ _ (T3.setTop (mkF m 63 #[.val (.ref a1), .val (.long acc), .second, .val (.int sh), .val (.int bb)] [(.long acc)]))
        exact Gl.retJ X3 hx hlk Bd.returns (hb hby d5_63) (by
              rw [e3]
              have ht : t = mc := by omega
              subst ht
              exact ⟨congrArg (fun z => some (Value.long z)) (own_ofL hacc), Nl1, Kl1, Gf1_0, Gf1_1, by rw [← own_of hi]; exact Gf1_2, Gf1_3⟩) (by decide) (by decide)
      · refine Gl.st (fun t k => XS.icmpYes X3.here hx rfl (pc0 := 15) (pc' := 62) rfl (hb hby d5_15) rfl (flt hc15).2.1 (by decide) (by decide) k) ?_
        show Gl _ _ _ _ _ _ _ (T3.setTop (mkF m 62 #[.val (.ref a1), .val (.long acc), .second, .val (.int sh), .val (.int bb)] []))
        refine Gl.st (fun t k => XS.lloadN X3.here hx rfl (hb hby d5_62) rfl  k) ?_
        show Gl _ _ _ _ _ _ _ (T3.setTop (mkF m 63 #[.val (.ref a1), .val (.long acc), .second, .val (.int sh), .val (.int bb)] [(.long acc)]))
        exact Gl.retJ X3 hx hlk Bd.returns (hb hby d5_63) (by
              rw [e3]
              have ht : t = mc := by omega
              subst ht
              exact ⟨congrArg (fun z => some (Value.long z)) (own_ofL hacc), Nl1, Kl1, Gf1_0, Gf1_1, by rw [← own_of hi]; exact Gf1_2, Gf1_3⟩) (by decide) (by decide)
    | succ k ih =>
      intro Tl1 Ll1 hl1 Xl1 el1 Nl1 Zl1 Kl1 t i acc sh bb Gf1_0 Gf1_1 Gf1_2 Gf1_3 Gf1_4 hi hacc hsh hk hbb
      show Gl _ _ _ _ _ _ _ (Tl1.setTop (mkF m 7 #[.val (.ref a1), .val (.long acc), .second, .val (.int sh), .val (.int bb)] []))
      refine Gl.st (fun t k => XS.aloadN Xl1.here hx rfl (hb hby d5_7) rfl rfl k) ?_
      show Gl _ _ _ _ _ _ _ (Tl1.setTop (mkF m 8 #[.val (.ref a1), .val (.long acc), .second, .val (.int sh), .val (.int bb)] [(.ref a1)]))
      obtain ⟨T6, X6, e6, st6⟩ := getF Xl1 hx hZ hown (host := "") (Or.inl (hw _ (List.mem_of_getElem? (i := 25) rfl))) Via.refl el1 Gf1_2 (g := (mkF m 8 #[.val (.ref a1), .val (.long acc), .second, .val (.int sh), .val (.int bb)] [(.ref a1)])) rfl rfl (hb hby d5_8)
      refine Gl.st st6 ?_
      show Gl _ _ _ _ _ _ _ (T6.setTop (mkF m 11 #[.val (.ref a1), .val (.long acc), .second, .val (.int sh), .val (.int bb)] [(.int i)]))
      refine Gl.st (fun t k => XS.aloadN X6.here hx rfl (hb hby d5_11) rfl rfl k) ?_
      show Gl _ _ _ _ _ _ _ (T6.setTop (mkF m 12 #[.val (.ref a1), .val (.long acc), .second, .val (.int sh), .val (.int bb)] [(.ref a1), (.int i)]))
      obtain ⟨T7, X7, e7, st7⟩ := getF X6 hx hZ hown (host := "") (Or.inl (hw _ (List.mem_of_getElem? (i := 23) rfl))) Via.refl e6 Gf1_3 (g := (mkF m 12 #[.val (.ref a1), .val (.long acc), .second, .val (.int sh), .val (.int bb)] [(.ref a1), (.int i)])) rfl rfl (hb hby d5_12)
      refine Gl.st st7 ?_
      show Gl _ _ _ _ _ _ _ (T7.setTop (mkF m 15 #[.val (.ref a1), .val (.long acc), .second, .val (.int sh), .val (.int bb)] [(.int en), (.int i)]))
      have hc15_8 : i < en := by rw [Int32.lt_iff_toInt_lt]; omega
      refine Gl.st (fun t k => XS.icmpNo X7.here hx rfl (hb hby d5_15) rfl (tlt hc15_8).2.1 k) ?_
      show Gl _ _ _ _ _ _ _ (T7.setTop (mkF m 18 #[.val (.ref a1), .val (.long acc), .second, .val (.int sh), .val (.int bb)] []))
      refine Gl.st (fun t k => XS.iloadN X7.here hx rfl (hb hby d5_18) rfl  k) ?_
      show Gl _ _ _ _ _ _ _ (T7.setTop (mkF m 19 #[.val (.ref a1), .val (.long acc), .second, .val (.int sh), .val (.int bb)] [(.int sh)]))
      by_cases hc19 : sh = (0 : Int32)
      · refine Gl.st (fun t k => XS.ifYes X7.here hx rfl (pc0 := 19) (pc' := 27) rfl (hb hby d5_19) rfl ((if0 _ _).trans (teq hc19).1) (by decide) (by decide) k) ?_
        show Gl _ _ _ _ _ _ _ (T7.setTop (mkF m 27 #[.val (.ref a1), .val (.long acc), .second, .val (.int sh), .val (.int bb)] []))
        refine Gl.st (fun t k => XS.aloadN X7.here hx rfl (hb hby d5_27) rfl rfl k) ?_
        show Gl _ _ _ _ _ _ _ (T7.setTop (mkF m 28 #[.val (.ref a1), .val (.long acc), .second, .val (.int sh), .val (.int bb)] [(.ref a1)]))
        obtain ⟨T9, X9, e9, st9⟩ := getF X7 hx hZ hown (host := "") (Or.inl (hw _ (List.mem_of_getElem? (i := 21) rfl))) Via.refl e7 Gf1_1 (g := (mkF m 28 #[.val (.ref a1), .val (.long acc), .second, .val (.int sh), .val (.int bb)] [(.ref a1)])) rfl rfl (hb hby d5_28)
        refine Gl.st st9 ?_
        show Gl _ _ _ _ _ _ _ (T9.setTop (mkF m 31 #[.val (.ref a1), .val (.long acc), .second, .val (.int sh), .val (.int bb)] [(.ref ba)]))
        refine Gl.st (fun t k => XS.aloadN X9.here hx rfl (hb hby d5_31) rfl rfl k) ?_
        show Gl _ _ _ _ _ _ _ (T9.setTop (mkF m 32 #[.val (.ref a1), .val (.long acc), .second, .val (.int sh), .val (.int bb)] [(.ref a1), (.ref ba)]))
        refine Gl.st (fun t k => XS.dup X9.here hx rfl (hb hby d5_32) rfl rfl k) ?_
        show Gl _ _ _ _ _ _ _ (T9.setTop (mkF m 33 #[.val (.ref a1), .val (.long acc), .second, .val (.int sh), .val (.int bb)] [(.ref a1), (.ref a1), (.ref ba)]))
        obtain ⟨T10, X10, e10, st10⟩ := getF X9 hx hZ hown (host := "") (Or.inl (hw _ (List.mem_of_getElem? (i := 25) rfl))) Via.refl e9 Gf1_2 (g := (mkF m 33 #[.val (.ref a1), .val (.long acc), .second, .val (.int sh), .val (.int bb)] [(.ref a1), (.ref a1), (.ref ba)])) rfl rfl (hb hby d5_33)
        refine Gl.st st10 ?_
        show Gl _ _ _ _ _ _ _ (T10.setTop (mkF m 36 #[.val (.ref a1), .val (.long acc), .second, .val (.int sh), .val (.int bb)] [(.int i), (.ref a1), (.ref ba)]))
        refine Gl.st (fun t k => XS.dupX1 X10.here hx rfl (hb hby d5_36) rfl rfl rfl k) ?_
        show Gl _ _ _ _ _ _ _ (T10.setTop (mkF m 37 #[.val (.ref a1), .val (.long acc), .second, .val (.int sh), .val (.int bb)] [(.int i), (.ref a1), (.int i), (.ref ba)]))
        refine Gl.st (fun t k => XS.iconst X10.here hx rfl (hb hby d5_37) k) ?_
        show Gl _ _ _ _ _ _ _ (T10.setTop (mkF m 38 #[.val (.ref a1), .val (.long acc), .second, .val (.int sh), .val (.int bb)] [(.int (1 : Int32)), (.int i), (.ref a1), (.int i), (.ref ba)]))
        refine Gl.st (fun t k => XS.iadd X10.here hx rfl (hb hby d5_38) rfl k) ?_
        show Gl _ _ _ _ _ _ _ (T10.setTop (mkF m 39 #[.val (.ref a1), .val (.long acc), .second, .val (.int sh), .val (.int bb)] [(.int (i + (1 : Int32))), (.ref a1), (.int i), (.ref ba)]))
        obtain ⟨T11, h11, X11, e11, W11, st11⟩ := putF X10 hx hZ hown (host := "") (Or.inl (hw _ (List.mem_of_getElem? (i := 25) rfl))) Via.refl e10 Gf1_2 Gf1_0 (Or.inl (hw _ (List.mem_of_getElem? (i := 26) rfl))) (hw _ (List.mem_of_getElem? (i := 13) rfl)) (ty := .int) (by decide) rfl rfl (g := (mkF m 39 #[.val (.ref a1), .val (.long acc), .second, .val (.int sh), .val (.int bb)] [(.int (i + (1 : Int32))), (.ref a1), (.int i), (.ref ba)])) rfl rfl (hb hby d5_39)
        refine Gl.st st11 ?_
        have Z11 : n0 ≤ h11.size := Nat.le_trans Zl1 (Keep.of_wr W11).1
        have N11 := Fr.snoc X11 Nl1 g_a1
        have K11 : Keep h0 h11 [a1] := Kl1.wr W11 (Or.inl (List.mem_of_getElem? (i := 0) rfl))
        have Gf1_0'12 : Exa Z h11 a1 "com/example/millrace/millrace/storage/PackedGroups$Reader" := Gf1_0.wr W11
        have Gf1_1'13 : Fld Z h11 a1 "com/example/millrace/millrace/storage/PackedGroups$Reader" "bytes" "[B" (.ref ba) := Gf1_1.other W11 (Or.inr (slot_ne (Or.inr (hw _ (List.mem_of_getElem? (i := 22) rfl))) (Or.inl (hw _ (List.mem_of_getElem? (i := 26) rfl))) (by decide) (t := (.array .byte)) (t' := .int) (by decide) (by decide)))
        have Gf1_3'14 : Fld Z h11 a1 "com/example/millrace/millrace/storage/PackedGroups$Reader" "end" "I" (.int en) := Gf1_3.other W11 (Or.inr (slot_ne (Or.inr (hw _ (List.mem_of_getElem? (i := 24) rfl))) (Or.inl (hw _ (List.mem_of_getElem? (i := 26) rfl))) (by decide) (t := .int) (t' := .int) (by decide) (by decide)))
        have Gf1_4'15 : Arv Z h11 ba ck .byte (18 : Int32) (vs.map Value.int) (.int (0 : Int32)) := Gf1_4.other W11 hne
        have Fw11 : Fld Z h11 a1 "com/example/millrace/millrace/storage/PackedGroups$Reader" "at" "I" (.int (i + (1 : Int32))) := Gf1_2.same W11
        show Gl _ _ _ _ _ _ _ (T11.setTop (mkF m 42 #[.val (.ref a1), .val (.long acc), .second, .val (.int sh), .val (.int bb)] [(.int i), (.ref ba)]))
        have hbyt : Byt V n t (vs.getD i.toNatClampNeg 0) := by rw [own_clamp hi]; exact hB t (by omega)
        have Vx16 := Gf1_4'15
        obtain ⟨cl16, Ar16, qk16, S16, M16, H16, G16⟩ := Vx16
        have hin16 : ¬ (i < 0 ∨ cl16.slots.size ≤ (i).toNatClampNeg) := by
            have hbyt : Byt V n t (vs.getD (j + t) 0) := hB t (by omega)
            exact inb_of S16 ⟨own_nn (by omega), own_lit (n := 18) (by decide) (by omega)⟩
        have hat16 : cl16.slots[(i).toNatClampNeg]? = some (.int (vs.getD i.toNatClampNeg 0)) := H16.at hin16 (own_getD vs _)
        refine Gl.st (X11.baloadBytes hx (j := i) (v := (.int (vs.getD i.toNatClampNeg 0))) (by rw [e11]; exact Ar16.1) (State.isArrayOf_alike hZ.alike Ar16.2.1) Ar16.2.2 hin16 hat16 (g := (mkF m 42 #[.val (.ref a1), .val (.long acc), .second, .val (.int sh), .val (.int bb)] [(.int i), (.ref ba)])) rfl rfl (hb hby d5_42)) ?_
        show Gl _ _ _ _ _ _ _ (T11.setTop (mkF m 43 #[.val (.ref a1), .val (.long acc), .second, .val (.int sh), .val (.int bb)] [(.int (vs.getD i.toNatClampNeg 0))]))
        refine Gl.st (fun t k => XS.istore X11.here hx rfl (hb hby d5_43) rfl (l' := #[.val (.ref a1), .val (.long acc), .second, .val (.int sh), .val (.int (vs.getD i.toNatClampNeg 0))]) rfl k) ?_
        show Gl _ _ _ _ _ _ _ (T11.setTop (mkF m 45 #[.val (.ref a1), .val (.long acc), .second, .val (.int sh), .val (.int (vs.getD i.toNatClampNeg 0))] []))
        refine Gl.st (fun t k => XS.lloadN X11.here hx rfl (hb hby d5_45) rfl  k) ?_
        show Gl _ _ _ _ _ _ _ (T11.setTop (mkF m 46 #[.val (.ref a1), .val (.long acc), .second, .val (.int sh), .val (.int (vs.getD i.toNatClampNeg 0))] [(.long acc)]))
        refine Gl.st (fun t k => XS.iload X11.here hx rfl (hb hby d5_46) rfl  k) ?_
        show Gl _ _ _ _ _ _ _ (T11.setTop (mkF m 48 #[.val (.ref a1), .val (.long acc), .second, .val (.int sh), .val (.int (vs.getD i.toNatClampNeg 0))] [(.int (vs.getD i.toNatClampNeg 0)), (.long acc)]))
        refine Gl.st (fun t k => XS.bipush X11.here hx rfl (hb hby d5_48) k) ?_
        show Gl _ _ _ _ _ _ _ (T11.setTop (mkF m 50 #[.val (.ref a1), .val (.long acc), .second, .val (.int sh), .val (.int (vs.getD i.toNatClampNeg 0))] [(.int (127 : Int32)), (.int (vs.getD i.toNatClampNeg 0)), (.long acc)]))
        refine Gl.st (fun t k => XS.iand X11.here hx rfl (hb hby d5_50) rfl k) ?_
        show Gl _ _ _ _ _ _ _ (T11.setTop (mkF m 51 #[.val (.ref a1), .val (.long acc), .second, .val (.int sh), .val (.int (vs.getD i.toNatClampNeg 0))] [(.int ((vs.getD i.toNatClampNeg 0) &&& (127 : Int32))), (.long acc)]))
        refine Gl.st (fun t k => XS.i2l X11.here hx rfl (hb hby d5_51) rfl k) ?_
        show Gl _ _ _ _ _ _ _ (T11.setTop (mkF m 52 #[.val (.ref a1), .val (.long acc), .second, .val (.int sh), .val (.int (vs.getD i.toNatClampNeg 0))] [(.long (((vs.getD i.toNatClampNeg 0) &&& (127 : Int32)).toInt64)), (.long acc)]))
        refine Gl.st (fun t k => XS.iloadN X11.here hx rfl (hb hby d5_52) rfl  k) ?_
        show Gl _ _ _ _ _ _ _ (T11.setTop (mkF m 53 #[.val (.ref a1), .val (.long acc), .second, .val (.int sh), .val (.int (vs.getD i.toNatClampNeg 0))] [(.int sh), (.long (((vs.getD i.toNatClampNeg 0) &&& (127 : Int32)).toInt64)), (.long acc)]))
        refine Gl.st (fun t k => XS.lshl X11.here hx rfl (hb hby d5_53) rfl k) ?_
        show Gl _ _ _ _ _ _ _ (T11.setTop (mkF m 54 #[.val (.ref a1), .val (.long acc), .second, .val (.int sh), .val (.int (vs.getD i.toNatClampNeg 0))] [(.long ((((vs.getD i.toNatClampNeg 0) &&& (127 : Int32)).toInt64) <<< (sh &&& 0x3f).toInt64)), (.long acc)]))
        refine Gl.st (fun t k => XS.lor X11.here hx rfl (hb hby d5_54) rfl k) ?_
        show Gl _ _ _ _ _ _ _ (T11.setTop (mkF m 55 #[.val (.ref a1), .val (.long acc), .second, .val (.int sh), .val (.int (vs.getD i.toNatClampNeg 0))] [(.long (acc ||| ((((vs.getD i.toNatClampNeg 0) &&& (127 : Int32)).toInt64) <<< (sh &&& 0x3f).toInt64)))]))
        refine Gl.st (fun t k => XS.lstoreN X11.here hx rfl (hb hby d5_55) rfl (l' := #[.val (.ref a1), .val (.long (acc ||| ((((vs.getD i.toNatClampNeg 0) &&& (127 : Int32)).toInt64) <<< (sh &&& 0x3f).toInt64))), .second, .val (.int sh), .val (.int (vs.getD i.toNatClampNeg 0))]) rfl k) ?_
        show Gl _ _ _ _ _ _ _ (T11.setTop (mkF m 56 #[.val (.ref a1), .val (.long (acc ||| ((((vs.getD i.toNatClampNeg 0) &&& (127 : Int32)).toInt64) <<< (sh &&& 0x3f).toInt64))), .second, .val (.int sh), .val (.int (vs.getD i.toNatClampNeg 0))] []))
        refine Gl.st (fun t k => XS.iinc X11.here hx rfl (hb hby d5_56) rfl (l' := #[.val (.ref a1), .val (.long (acc ||| ((((vs.getD i.toNatClampNeg 0) &&& (127 : Int32)).toInt64) <<< (sh &&& 0x3f).toInt64))), .second, .val (.int (sh + (7 : Int32))), .val (.int (vs.getD i.toNatClampNeg 0))]) rfl k) ?_
        show Gl _ _ _ _ _ _ _ (T11.setTop (mkF m 59 #[.val (.ref a1), .val (.long (acc ||| ((((vs.getD i.toNatClampNeg 0) &&& (127 : Int32)).toInt64) <<< (sh &&& 0x3f).toInt64))), .second, .val (.int (sh + (7 : Int32))), .val (.int (vs.getD i.toNatClampNeg 0))] []))
        refine Gl.st (fun t k => XS.goto X11.here hx rfl (pc0 := 59) (pc' := 7) rfl (hb hby d5_59) (by decide) (by decide) k) ?_
        show Gl _ _ _ _ _ _ _ (T11.setTop (mkF m 7 #[.val (.ref a1), .val (.long (acc ||| ((((vs.getD i.toNatClampNeg 0) &&& (127 : Int32)).toInt64) <<< (sh &&& 0x3f).toInt64))), .second, .val (.int (sh + (7 : Int32))), .val (.int (vs.getD i.toNatClampNeg 0))] []))
        exact ih _ _ _ X11 e11 N11 Z11 K11 (t + 1) (_) _ _ _ Gf1_0'12 Gf1_1'13 Fw11 Gf1_3'14 Gf1_4'15 (by rw [own_succ (by omega)]; omega) (own_acc hacc hbyt.1 hsh (by omega : t < n) hn9) (own_plus7 hsh (by omega)) (by omega) (Or.inr ⟨by omega, by rw [show t + 1 - 1 = t from rfl]; exact hbyt⟩)
      · refine Gl.st (fun t k => XS.ifNo X7.here hx rfl (hb hby d5_19) rfl ((if0 _ _).trans (feq hc19).1) k) ?_
        show Gl _ _ _ _ _ _ _ (T7.setTop (mkF m 22 #[.val (.ref a1), .val (.long acc), .second, .val (.int sh), .val (.int bb)] []))
        refine Gl.st (fun t k => XS.iload X7.here hx rfl (hb hby d5_22) rfl  k) ?_
        show Gl _ _ _ _ _ _ _ (T7.setTop (mkF m 24 #[.val (.ref a1), .val (.long acc), .second, .val (.int sh), .val (.int bb)] [(.int bb)]))
        have hc24_17 : bb < (0 : Int32) := by 
          rw [Int32.lt_iff_toInt_lt, show (0 : Int32).toInt = 0 from by decide]; rcases hbb with q | ⟨q1, q2⟩
          · exact absurd (own_zero hsh q) hc19
          · have q3 := q2.2; omega
        refine Gl.st (fun t k => XS.ifNo X7.here hx rfl (hb hby d5_24) rfl ((if0 _ _).trans (tlt hc24_17).2.1) k) ?_
        show Gl _ _ _ _ _ _ _ (T7.setTop (mkF m 27 #[.val (.ref a1), .val (.long acc), .second, .val (.int sh), .val (.int bb)] []))
        refine Gl.st (fun t k => XS.aloadN X7.here hx rfl (hb hby d5_27) rfl rfl k) ?_
        show Gl _ _ _ _ _ _ _ (T7.setTop (mkF m 28 #[.val (.ref a1), .val (.long acc), .second, .val (.int sh), .val (.int bb)] [(.ref a1)]))
        obtain ⟨T18, X18, e18, st18⟩ := getF X7 hx hZ hown (host := "") (Or.inl (hw _ (List.mem_of_getElem? (i := 21) rfl))) Via.refl e7 Gf1_1 (g := (mkF m 28 #[.val (.ref a1), .val (.long acc), .second, .val (.int sh), .val (.int bb)] [(.ref a1)])) rfl rfl (hb hby d5_28)
        refine Gl.st st18 ?_
        show Gl _ _ _ _ _ _ _ (T18.setTop (mkF m 31 #[.val (.ref a1), .val (.long acc), .second, .val (.int sh), .val (.int bb)] [(.ref ba)]))
        refine Gl.st (fun t k => XS.aloadN X18.here hx rfl (hb hby d5_31) rfl rfl k) ?_
        show Gl _ _ _ _ _ _ _ (T18.setTop (mkF m 32 #[.val (.ref a1), .val (.long acc), .second, .val (.int sh), .val (.int bb)] [(.ref a1), (.ref ba)]))
        refine Gl.st (fun t k => XS.dup X18.here hx rfl (hb hby d5_32) rfl rfl k) ?_
        show Gl _ _ _ _ _ _ _ (T18.setTop (mkF m 33 #[.val (.ref a1), .val (.long acc), .second, .val (.int sh), .val (.int bb)] [(.ref a1), (.ref a1), (.ref ba)]))
        obtain ⟨T19, X19, e19, st19⟩ := getF X18 hx hZ hown (host := "") (Or.inl (hw _ (List.mem_of_getElem? (i := 25) rfl))) Via.refl e18 Gf1_2 (g := (mkF m 33 #[.val (.ref a1), .val (.long acc), .second, .val (.int sh), .val (.int bb)] [(.ref a1), (.ref a1), (.ref ba)])) rfl rfl (hb hby d5_33)
        refine Gl.st st19 ?_
        show Gl _ _ _ _ _ _ _ (T19.setTop (mkF m 36 #[.val (.ref a1), .val (.long acc), .second, .val (.int sh), .val (.int bb)] [(.int i), (.ref a1), (.ref ba)]))
        refine Gl.st (fun t k => XS.dupX1 X19.here hx rfl (hb hby d5_36) rfl rfl rfl k) ?_
        show Gl _ _ _ _ _ _ _ (T19.setTop (mkF m 37 #[.val (.ref a1), .val (.long acc), .second, .val (.int sh), .val (.int bb)] [(.int i), (.ref a1), (.int i), (.ref ba)]))
        refine Gl.st (fun t k => XS.iconst X19.here hx rfl (hb hby d5_37) k) ?_
        show Gl _ _ _ _ _ _ _ (T19.setTop (mkF m 38 #[.val (.ref a1), .val (.long acc), .second, .val (.int sh), .val (.int bb)] [(.int (1 : Int32)), (.int i), (.ref a1), (.int i), (.ref ba)]))
        refine Gl.st (fun t k => XS.iadd X19.here hx rfl (hb hby d5_38) rfl k) ?_
        show Gl _ _ _ _ _ _ _ (T19.setTop (mkF m 39 #[.val (.ref a1), .val (.long acc), .second, .val (.int sh), .val (.int bb)] [(.int (i + (1 : Int32))), (.ref a1), (.int i), (.ref ba)]))
        obtain ⟨T20, h20, X20, e20, W20, st20⟩ := putF X19 hx hZ hown (host := "") (Or.inl (hw _ (List.mem_of_getElem? (i := 25) rfl))) Via.refl e19 Gf1_2 Gf1_0 (Or.inl (hw _ (List.mem_of_getElem? (i := 26) rfl))) (hw _ (List.mem_of_getElem? (i := 13) rfl)) (ty := .int) (by decide) rfl rfl (g := (mkF m 39 #[.val (.ref a1), .val (.long acc), .second, .val (.int sh), .val (.int bb)] [(.int (i + (1 : Int32))), (.ref a1), (.int i), (.ref ba)])) rfl rfl (hb hby d5_39)
        refine Gl.st st20 ?_
        have Z20 : n0 ≤ h20.size := Nat.le_trans Zl1 (Keep.of_wr W20).1
        have N20 := Fr.snoc X20 Nl1 g_a1
        have K20 : Keep h0 h20 [a1] := Kl1.wr W20 (Or.inl (List.mem_of_getElem? (i := 0) rfl))
        have Gf1_0'21 : Exa Z h20 a1 "com/example/millrace/millrace/storage/PackedGroups$Reader" := Gf1_0.wr W20
        have Gf1_1'22 : Fld Z h20 a1 "com/example/millrace/millrace/storage/PackedGroups$Reader" "bytes" "[B" (.ref ba) := Gf1_1.other W20 (Or.inr (slot_ne (Or.inr (hw _ (List.mem_of_getElem? (i := 22) rfl))) (Or.inl (hw _ (List.mem_of_getElem? (i := 26) rfl))) (by decide) (t := (.array .byte)) (t' := .int) (by decide) (by decide)))
        have Gf1_3'23 : Fld Z h20 a1 "com/example/millrace/millrace/storage/PackedGroups$Reader" "end" "I" (.int en) := Gf1_3.other W20 (Or.inr (slot_ne (Or.inr (hw _ (List.mem_of_getElem? (i := 24) rfl))) (Or.inl (hw _ (List.mem_of_getElem? (i := 26) rfl))) (by decide) (t := .int) (t' := .int) (by decide) (by decide)))
        have Gf1_4'24 : Arv Z h20 ba ck .byte (18 : Int32) (vs.map Value.int) (.int (0 : Int32)) := Gf1_4.other W20 hne
        have Fw20 : Fld Z h20 a1 "com/example/millrace/millrace/storage/PackedGroups$Reader" "at" "I" (.int (i + (1 : Int32))) := Gf1_2.same W20
        show Gl _ _ _ _ _ _ _ (T20.setTop (mkF m 42 #[.val (.ref a1), .val (.long acc), .second, .val (.int sh), .val (.int bb)] [(.int i), (.ref ba)]))
        have hbyt : Byt V n t (vs.getD i.toNatClampNeg 0) := by rw [own_clamp hi]; exact hB t (by omega)
        have Vx25 := Gf1_4'24
        obtain ⟨cl25, Ar25, qk25, S25, M25, H25, G25⟩ := Vx25
        have hin25 : ¬ (i < 0 ∨ cl25.slots.size ≤ (i).toNatClampNeg) := by
            have hbyt : Byt V n t (vs.getD (j + t) 0) := hB t (by omega)
            exact inb_of S25 ⟨own_nn (by omega), own_lit (n := 18) (by decide) (by omega)⟩
        have hat25 : cl25.slots[(i).toNatClampNeg]? = some (.int (vs.getD i.toNatClampNeg 0)) := H25.at hin25 (own_getD vs _)
        refine Gl.st (X20.baloadBytes hx (j := i) (v := (.int (vs.getD i.toNatClampNeg 0))) (by rw [e20]; exact Ar25.1) (State.isArrayOf_alike hZ.alike Ar25.2.1) Ar25.2.2 hin25 hat25 (g := (mkF m 42 #[.val (.ref a1), .val (.long acc), .second, .val (.int sh), .val (.int bb)] [(.int i), (.ref ba)])) rfl rfl (hb hby d5_42)) ?_
        show Gl _ _ _ _ _ _ _ (T20.setTop (mkF m 43 #[.val (.ref a1), .val (.long acc), .second, .val (.int sh), .val (.int bb)] [(.int (vs.getD i.toNatClampNeg 0))]))
        refine Gl.st (fun t k => XS.istore X20.here hx rfl (hb hby d5_43) rfl (l' := #[.val (.ref a1), .val (.long acc), .second, .val (.int sh), .val (.int (vs.getD i.toNatClampNeg 0))]) rfl k) ?_
        show Gl _ _ _ _ _ _ _ (T20.setTop (mkF m 45 #[.val (.ref a1), .val (.long acc), .second, .val (.int sh), .val (.int (vs.getD i.toNatClampNeg 0))] []))
        refine Gl.st (fun t k => XS.lloadN X20.here hx rfl (hb hby d5_45) rfl  k) ?_
        show Gl _ _ _ _ _ _ _ (T20.setTop (mkF m 46 #[.val (.ref a1), .val (.long acc), .second, .val (.int sh), .val (.int (vs.getD i.toNatClampNeg 0))] [(.long acc)]))
        refine Gl.st (fun t k => XS.iload X20.here hx rfl (hb hby d5_46) rfl  k) ?_
        show Gl _ _ _ _ _ _ _ (T20.setTop (mkF m 48 #[.val (.ref a1), .val (.long acc), .second, .val (.int sh), .val (.int (vs.getD i.toNatClampNeg 0))] [(.int (vs.getD i.toNatClampNeg 0)), (.long acc)]))
        refine Gl.st (fun t k => XS.bipush X20.here hx rfl (hb hby d5_48) k) ?_
        show Gl _ _ _ _ _ _ _ (T20.setTop (mkF m 50 #[.val (.ref a1), .val (.long acc), .second, .val (.int sh), .val (.int (vs.getD i.toNatClampNeg 0))] [(.int (127 : Int32)), (.int (vs.getD i.toNatClampNeg 0)), (.long acc)]))
        refine Gl.st (fun t k => XS.iand X20.here hx rfl (hb hby d5_50) rfl k) ?_
        show Gl _ _ _ _ _ _ _ (T20.setTop (mkF m 51 #[.val (.ref a1), .val (.long acc), .second, .val (.int sh), .val (.int (vs.getD i.toNatClampNeg 0))] [(.int ((vs.getD i.toNatClampNeg 0) &&& (127 : Int32))), (.long acc)]))
        refine Gl.st (fun t k => XS.i2l X20.here hx rfl (hb hby d5_51) rfl k) ?_
        show Gl _ _ _ _ _ _ _ (T20.setTop (mkF m 52 #[.val (.ref a1), .val (.long acc), .second, .val (.int sh), .val (.int (vs.getD i.toNatClampNeg 0))] [(.long (((vs.getD i.toNatClampNeg 0) &&& (127 : Int32)).toInt64)), (.long acc)]))
        refine Gl.st (fun t k => XS.iloadN X20.here hx rfl (hb hby d5_52) rfl  k) ?_
        show Gl _ _ _ _ _ _ _ (T20.setTop (mkF m 53 #[.val (.ref a1), .val (.long acc), .second, .val (.int sh), .val (.int (vs.getD i.toNatClampNeg 0))] [(.int sh), (.long (((vs.getD i.toNatClampNeg 0) &&& (127 : Int32)).toInt64)), (.long acc)]))
        refine Gl.st (fun t k => XS.lshl X20.here hx rfl (hb hby d5_53) rfl k) ?_
        show Gl _ _ _ _ _ _ _ (T20.setTop (mkF m 54 #[.val (.ref a1), .val (.long acc), .second, .val (.int sh), .val (.int (vs.getD i.toNatClampNeg 0))] [(.long ((((vs.getD i.toNatClampNeg 0) &&& (127 : Int32)).toInt64) <<< (sh &&& 0x3f).toInt64)), (.long acc)]))
        refine Gl.st (fun t k => XS.lor X20.here hx rfl (hb hby d5_54) rfl k) ?_
        show Gl _ _ _ _ _ _ _ (T20.setTop (mkF m 55 #[.val (.ref a1), .val (.long acc), .second, .val (.int sh), .val (.int (vs.getD i.toNatClampNeg 0))] [(.long (acc ||| ((((vs.getD i.toNatClampNeg 0) &&& (127 : Int32)).toInt64) <<< (sh &&& 0x3f).toInt64)))]))
        refine Gl.st (fun t k => XS.lstoreN X20.here hx rfl (hb hby d5_55) rfl (l' := #[.val (.ref a1), .val (.long (acc ||| ((((vs.getD i.toNatClampNeg 0) &&& (127 : Int32)).toInt64) <<< (sh &&& 0x3f).toInt64))), .second, .val (.int sh), .val (.int (vs.getD i.toNatClampNeg 0))]) rfl k) ?_
        show Gl _ _ _ _ _ _ _ (T20.setTop (mkF m 56 #[.val (.ref a1), .val (.long (acc ||| ((((vs.getD i.toNatClampNeg 0) &&& (127 : Int32)).toInt64) <<< (sh &&& 0x3f).toInt64))), .second, .val (.int sh), .val (.int (vs.getD i.toNatClampNeg 0))] []))
        refine Gl.st (fun t k => XS.iinc X20.here hx rfl (hb hby d5_56) rfl (l' := #[.val (.ref a1), .val (.long (acc ||| ((((vs.getD i.toNatClampNeg 0) &&& (127 : Int32)).toInt64) <<< (sh &&& 0x3f).toInt64))), .second, .val (.int (sh + (7 : Int32))), .val (.int (vs.getD i.toNatClampNeg 0))]) rfl k) ?_
        show Gl _ _ _ _ _ _ _ (T20.setTop (mkF m 59 #[.val (.ref a1), .val (.long (acc ||| ((((vs.getD i.toNatClampNeg 0) &&& (127 : Int32)).toInt64) <<< (sh &&& 0x3f).toInt64))), .second, .val (.int (sh + (7 : Int32))), .val (.int (vs.getD i.toNatClampNeg 0))] []))
        refine Gl.st (fun t k => XS.goto X20.here hx rfl (pc0 := 59) (pc' := 7) rfl (hb hby d5_59) (by decide) (by decide) k) ?_
        show Gl _ _ _ _ _ _ _ (T20.setTop (mkF m 7 #[.val (.ref a1), .val (.long (acc ||| ((((vs.getD i.toNatClampNeg 0) &&& (127 : Int32)).toInt64) <<< (sh &&& 0x3f).toInt64))), .second, .val (.int (sh + (7 : Int32))), .val (.int (vs.getD i.toNatClampNeg 0))] []))
        exact ih _ _ _ X20 e20 N20 Z20 K20 (t + 1) (_) _ _ _ Gf1_0'21 Gf1_1'22 Fw20 Gf1_3'23 Gf1_4'24 (by rw [own_succ (by omega)]; omega) (own_acc hacc hbyt.1 hsh (by omega : t < n) hn9) (own_plus7 hsh (by omega)) (by omega) (Or.inr ⟨by omega, by rw [show t + 1 - 1 = t from rfl]; exact hbyt⟩)
  exact LP1 (mc) _ _ _ X0 e0 N0 Z0 K0 (0) (ia) _ _ _ E_a1 Fby Fat Fen Vb (by omega) (by rw [Nat.pow_zero, Nat.mod_one]; decide) (by decide) (by omega) (Or.inl rfl)
def own_at (ia : Int32) : Int32 := ia
theorem d6_0 : decode prog_96_method_4_code 0 = .ok (.aload_n 0, 1) := by decide +kernel
theorem d6_1 : decode prog_96_method_4_code 1 = .ok (.getfield 17, 3) := by decide +kernel
theorem d6_4 : decode prog_96_method_4_code 4 = .ok (.ireturn, 1) := by decide +kernel
theorem pf_4 : plainFor (⟨"com/example/millrace/millrace/storage/PackedGroups$Reader", "at", "()I"⟩ : MethodName) = true := by decide +kernel
def Q6 (Z : State) (a1 : Addr) (ia : Int32) (h0 : Heap) (n0 : Nat) (v : Option Value) (h : Heap) (L : List Loc) : Prop := v = some (.int (own_at ia)) ∧ Fr n0 L ∧ h = h0
theorem ef_6 (m : MethodId) (a1 : Addr) : entryFrame m #[(.ref a1)] 1 = mkF m 0 #[.val (.ref a1)] [] := by first | (simp [entryFrame, mkF, argsToLocals, Value.category]; done) | rfl
set_option maxRecDepth 65536 in
set_option maxHeartbeats 40000000 in
theorem rm6 (l : Launch) (Z : State) (a0 : Array Value) (hw : ∀ d ∈ tables_1, d.before a0 Z = true) (ws : List Jvm.Cond) (a1 : Addr) (ia : Int32) (h0 : Heap) (n0 : Nat) (Fa : Fld Z h0 a1 "com/example/millrace/millrace/storage/PackedGroups$Reader" "at" "I" (.int ia)) :
    MetFree l (⟨"com/example/millrace/millrace/storage/PackedGroups$Reader", "at", "()I"⟩ : MethodName) (head1 (Jvm.Cond.code (⟨"com/example/millrace/millrace/storage/PackedGroups$Reader", "at", "()I"⟩ : MethodName) prog_96_method_4_code 1 (some .int) :: ws) ({ frames := 0, cells := 0, slots := 0, locals := 0 } : Room)) (fun a U => a = #[(.ref a1)] ∧ Z.Warmed39 U.vm ∧ U.heap = h0) (fun _ _ _ _ _ => True) (fun _ U o U' => ∃ v L, o = .returned v ∧ Q6 Z a1 ia h0 n0 v U'.heap L ∧ FrameEnd U o U' L ({ frames := 0, cells := 0, slots := 0, locals := 0 } : Room).cells ({ frames := 0, cells := 0, slots := 0, locals := 0 } : Room).slots) := by
  refine MetFree.of_bodySF pf_4 hisR ?_
  intro p e s m args below meth c s₁ Bd hml0 hP hK
  obtain ⟨rfl, hZ, hh⟩ := hP
  have hx := Bd.exec
  have hby := Bd.bytes
  have hlk : meth.locks = false := BodyLoose.notSynchronized Bd
  have hml : c.maxLocals = 1 := hml0
  have hown : s.vm.findClass "com/example/millrace/millrace/storage/PackedGroups$Reader" = some m.cls := findClass_of_methodNamed Bd.named
  have hnm := (name_of_methodNamed Bd.named Bd.method).1
  have X0 : Stand p l e ({ frames := 0, cells := 0, slots := 0, locals := 0 } : Room) s m #[(.ref a1)] below meth c s₁ [] 0 0 := Stand.of_body Bd
  have e0 : s₁.heap = h0 := by rw [← hh, Bd.state]; rfl
  have N0 := Fr.nil n0
  show Gl p e below s (Q6 Z a1 ia h0 n0) ({ frames := 0, cells := 0, slots := 0, locals := 0 } : Room).cells ({ frames := 0, cells := 0, slots := 0, locals := 0 } : Room).slots (s₁.setTop (entryFrame m #[(.ref a1)] 1))
  rw [ef_6]
  show Gl _ _ _ _ _ _ _ (s₁.setTop (mkF m 0 #[.val (.ref a1)] []))
  refine Gl.st (fun t k => XS.aloadN X0.here hx rfl (hb hby d6_0) rfl rfl k) ?_
  show Gl _ _ _ _ _ _ _ (s₁.setTop (mkF m 1 #[.val (.ref a1)] [(.ref a1)]))
  obtain ⟨T1, X1, e1, st1⟩ := getF X0 hx hZ hown (host := "") (Or.inl (hw _ (List.mem_of_getElem? (i := 25) rfl))) Via.refl e0 Fa (g := (mkF m 1 #[.val (.ref a1)] [(.ref a1)])) rfl rfl (hb hby d6_1)
  refine Gl.st st1 ?_
  show Gl _ _ _ _ _ _ _ (T1.setTop (mkF m 4 #[.val (.ref a1)] [(.int ia)]))
  exact Gl.retI X1 hx hlk Bd.returns (hb hby d6_4) (⟨congrArg (fun z => some (Value.int z)) (show ia = (own_at ia) from by simp only [own_at]), N0, e1⟩) (by decide) (by decide)
theorem own_len_spec (v : Int64) (h : 0 ≤ v.toInt) : 1 ≤ (own_len v).toInt ∧ (own_len v).toInt ≤ 9 ∧ v.toInt.toNat < 128 ^ (own_len v).toInt.toNat ∧ ((own_len v).toInt.toNat = 1 ∨ 128 ^ ((own_len v).toInt.toNat - 1) ≤ v.toInt.toNat) := by
  have r := rng64 v
  have e1 : (128 : Int64).toInt = 128 := by decide
  have e2 : (16384 : Int64).toInt = 16384 := by decide
  have e3 : (2097152 : Int64).toInt = 2097152 := by decide
  have e4 : (268435456 : Int64).toInt = 268435456 := by decide
  have e5 : (34359738368 : Int64).toInt = 34359738368 := by decide
  have e6 : (4398046511104 : Int64).toInt = 4398046511104 := by decide
  have e7 : (562949953421312 : Int64).toInt = 562949953421312 := by decide
  have e8 : (72057594037927936 : Int64).toInt = 72057594037927936 := by decide
  unfold own_len
  simp only [Int64.lt_iff_toInt_lt, e1, e2, e3, e4, e5, e6, e7, e8]
  generalize v.toInt = n at *
  have d : ∀ k : Int32, 1 ≤ k.toInt ∧ k.toInt ≤ 9 → True := fun _ _ => trivial
  split
  · exact ⟨by decide, by decide, by rw [show (1 : Int32).toInt.toNat = 1 from by decide]; omega, Or.inl (by decide)⟩
  split
  · exact ⟨by decide, by decide, by rw [show (2 : Int32).toInt.toNat = 2 from by decide]; omega, Or.inr (by rw [show (2 : Int32).toInt.toNat = 2 from by decide]; omega)⟩
  split
  · exact ⟨by decide, by decide, by rw [show (3 : Int32).toInt.toNat = 3 from by decide]; omega, Or.inr (by rw [show (3 : Int32).toInt.toNat = 3 from by decide]; omega)⟩
  split
  · exact ⟨by decide, by decide, by rw [show (4 : Int32).toInt.toNat = 4 from by decide]; omega, Or.inr (by rw [show (4 : Int32).toInt.toNat = 4 from by decide]; omega)⟩
  split
  · exact ⟨by decide, by decide, by rw [show (5 : Int32).toInt.toNat = 5 from by decide]; omega, Or.inr (by rw [show (5 : Int32).toInt.toNat = 5 from by decide]; omega)⟩
  split
  · exact ⟨by decide, by decide, by rw [show (6 : Int32).toInt.toNat = 6 from by decide]; omega, Or.inr (by rw [show (6 : Int32).toInt.toNat = 6 from by decide]; omega)⟩
  split
  · exact ⟨by decide, by decide, by rw [show (7 : Int32).toInt.toNat = 7 from by decide]; omega, Or.inr (by rw [show (7 : Int32).toInt.toNat = 7 from by decide]; omega)⟩
  split
  · exact ⟨by decide, by decide, by rw [show (8 : Int32).toInt.toNat = 8 from by decide]; omega, Or.inr (by rw [show (8 : Int32).toInt.toNat = 8 from by decide]; omega)⟩
  · exact ⟨by decide, by decide, by rw [show (9 : Int32).toInt.toNat = 9 from by decide]; omega, Or.inr (by rw [show (9 : Int32).toInt.toNat = 9 from by decide]; omega)⟩
theorem own_value (x : Int64) (s : Int32) : 0 ≤ (((x &&& (9223372036854775807 : Int64)).toUInt64 >>> ((s &&& (63 : Int32)) &&& 0x3f).toInt64.toUInt64).toInt64).toInt := by
  have a := c_maskL x 9223372036854775807 63 (by decide) (by decide)
  have a0 : 0 ≤ (x &&& (9223372036854775807 : Int64)).toInt := by rw [a]; exact Int.emod_nonneg _ (by decide)
  generalize x &&& (9223372036854775807 : Int64) = y at *
  obtain ⟨A, hA⟩ : ∃ A : Nat, y.toInt = (A : Int) := ⟨y.toInt.toNat, by omega⟩
  have r := rng64 y
  have e : ((y.toUInt64 >>> ((s &&& (63 : Int32)) &&& 0x3f).toInt64.toUInt64).toInt64).toBitVec.toNat ≤ A := by
    show (y.toUInt64 >>> ((s &&& (63 : Int32)) &&& 0x3f).toInt64.toUInt64).toNat ≤ A
    rw [UInt64.toNat_shiftRight, show y.toUInt64.toNat = A from own_nat64 hA, Nat.shiftRight_eq_div_pow]
    exact Nat.div_le_self _ _
  rw [own_int64 rfl (by omega)]
  omega
theorem own_at8 (a : Int32) : 0 ≤ (a &&& (7 : Int32)).toInt ∧ (a &&& (7 : Int32)).toInt ≤ 7 := by
  have q := c_mask a 7 3 (by decide) (by decide)
  omega
theorem own_byte8 (x : Int32) : nar .byte (x.toInt8.toInt32) = x.toInt8.toInt32 := by
  have a := c_i2b x
  have b := c_i2b (x.toInt8.toInt32)
  show x.toInt8.toInt32.toInt8.toInt32 = _
  rw [← Int32.toInt_inj]
  omega
theorem own_fill (b : Int32) : ∀ x, x < 18 → [b, b, b, b, b, b, b, b, b, b, b, b, b, b, b, b, b, b].getD x 0 = b := by
  intro x hx
  match x, hx with
  | 0, _ | 1, _ | 2, _ | 3, _ | 4, _ | 5, _ | 6, _ | 7, _ | 8, _ | 9, _ | 10, _ | 11, _ | 12, _ | 13, _ | 14, _ | 15, _ | 16, _ | 17, _ => rfl
  | x + 18, h => exact absurd h (by omega)
theorem pf_5 : plainFor (⟨"com/example/millrace/millrace/storage/PackedGroupsPutPinLaw", "law", "(JIII)Z"⟩ : MethodName) = true := by decide +kernel
def Q0 (Z : State) (q1 : Int64) (p2 : Int32) (p3 : Int32) (p4 : Int32) (h0 : Heap) (n0 : Nat) (v : Option Value) (h : Heap) (L : List Loc) : Prop := v = some (.int 1) ∧ Fr n0 L
theorem ef_0 (m : MethodId) (q1 : Int64) (p2 : Int32) (p3 : Int32) (p4 : Int32) : entryFrame m #[(.long q1), (.int p2), (.int p3), (.int p4)] maxLocals = mkF m 0 #[.val (.long q1), .second, .val (.int p2), .val (.int p3), .val (.int p4), .unset, .unset, .unset, .unset, .unset, .unset, .unset, .unset, .unset] [] := by first | (simp [entryFrame, mkF, argsToLocals, Value.category, maxLocals]; done) | rfl
theorem pd_0 : parseMethodDescriptor "([BIJ)I" = some ⟨[(.array .byte), .int, .long], some .int⟩ := by decide +kernel
theorem pd_1 : parseMethodDescriptor "(J)I" = some ⟨[.long], some .int⟩ := by decide +kernel
theorem pd_2 : parseMethodDescriptor "([BIIJJ)V" = some ⟨[(.array .byte), .int, .int, .long, .long], none⟩ := by decide +kernel
theorem pd_3 : parseMethodDescriptor "()J" = some ⟨[], some .long⟩ := by decide +kernel
theorem pd_4 : parseMethodDescriptor "()I" = some ⟨[], some .int⟩ := by decide +kernel
set_option maxRecDepth 65536 in
set_option maxHeartbeats 40000000 in
theorem rm0 (l : Launch) (Z : State) (a0 : Array Value) (hw : ∀ d ∈ tables_1, d.before a0 Z = true) (ws : List Jvm.Cond) (q1 : Int64) (p2 : Int32) (p3 : Int32) (p4 : Int32) (h0 : Heap) (n0 : Nat) (Z0 : n0 ≤ h0.size) :
    MetFree l x (head1 (Jvm.Cond.code x code maxLocals ret :: ws) room_1) (fun a U => a = #[(.long q1), (.int p2), (.int p3), (.int p4)] ∧ Z.Warmed39 U.vm ∧ U.heap = h0) (fun _ _ _ _ _ => True) (fun _ U o U' => ∃ v L, o = .returned v ∧ Q0 Z q1 p2 p3 p4 h0 n0 v U'.heap L ∧ FrameEnd U o U' L room_1.cells room_1.slots) := by
  refine MetFree.of_bodySF pf_5 hisR ?_
  intro p e s m args below meth c s₁ Bd hml0 hP hK
  obtain ⟨rfl, hZ, hh⟩ := hP
  have hx := Bd.exec
  have hby := Bd.bytes
  have hlk : meth.locks = false := BodyLoose.notSynchronized Bd
  have hml : c.maxLocals = 14 := hml0
  have hown : s.vm.findClass "com/example/millrace/millrace/storage/PackedGroupsPutPinLaw" = some m.cls := findClass_of_methodNamed Bd.named
  have hnm := (name_of_methodNamed Bd.named Bd.method).1
  have X0 : Stand p l e room_1 s m #[(.long q1), (.int p2), (.int p3), (.int p4)] below meth c s₁ [] 0 0 := Stand.of_body Bd
  have e0 : s₁.heap = h0 := by rw [← hh, Bd.state]; rfl
  have N0 := Fr.nil n0
  show Gl p e below s (Q0 Z q1 p2 p3 p4 h0 n0) room_1.cells room_1.slots (s₁.setTop (entryFrame m #[(.long q1), (.int p2), (.int p3), (.int p4)] maxLocals))
  rw [ef_0]
  show Gl _ _ _ _ _ _ _ (s₁.setTop (mkF m 0 #[.val (.long q1), .second, .val (.int p2), .val (.int p3), .val (.int p4), .unset, .unset, .unset, .unset, .unset, .unset, .unset, .unset, .unset] []))
  refine Gl.st (fun t k => XS.lloadN X0.here hx rfl (hb hby at_0) rfl  k) ?_
  show Gl _ _ _ _ _ _ _ (s₁.setTop (mkF m 1 #[.val (.long q1), .second, .val (.int p2), .val (.int p3), .val (.int p4), .unset, .unset, .unset, .unset, .unset, .unset, .unset, .unset, .unset] [(.long q1)]))
  refine Gl.st (X0.ldc2Long hx hown (mvT hZ (hw _ (List.mem_of_getElem? (i := 0) rfl))) (g := (mkF m 1 #[.val (.long q1), .second, .val (.int p2), .val (.int p3), .val (.int p4), .unset, .unset, .unset, .unset, .unset, .unset, .unset, .unset, .unset] [(.long q1)])) rfl (hb hby at_1)) ?_
  show Gl _ _ _ _ _ _ _ (s₁.setTop (mkF m 4 #[.val (.long q1), .second, .val (.int p2), .val (.int p3), .val (.int p4), .unset, .unset, .unset, .unset, .unset, .unset, .unset, .unset, .unset] [(.long (9223372036854775807 : Int64)), (.long q1)]))
  refine Gl.st (fun t k => XS.land X0.here hx rfl (hb hby at_4) rfl k) ?_
  show Gl _ _ _ _ _ _ _ (s₁.setTop (mkF m 5 #[.val (.long q1), .second, .val (.int p2), .val (.int p3), .val (.int p4), .unset, .unset, .unset, .unset, .unset, .unset, .unset, .unset, .unset] [(.long (q1 &&& (9223372036854775807 : Int64)))]))
  refine Gl.st (fun t k => XS.iloadN X0.here hx rfl (hb hby at_5) rfl  k) ?_
  show Gl _ _ _ _ _ _ _ (s₁.setTop (mkF m 6 #[.val (.long q1), .second, .val (.int p2), .val (.int p3), .val (.int p4), .unset, .unset, .unset, .unset, .unset, .unset, .unset, .unset, .unset] [(.int p2), (.long (q1 &&& (9223372036854775807 : Int64)))]))
  refine Gl.st (fun t k => XS.bipush X0.here hx rfl (hb hby at_6) k) ?_
  show Gl _ _ _ _ _ _ _ (s₁.setTop (mkF m 8 #[.val (.long q1), .second, .val (.int p2), .val (.int p3), .val (.int p4), .unset, .unset, .unset, .unset, .unset, .unset, .unset, .unset, .unset] [(.int (63 : Int32)), (.int p2), (.long (q1 &&& (9223372036854775807 : Int64)))]))
  refine Gl.st (fun t k => XS.iand X0.here hx rfl (hb hby at_8) rfl k) ?_
  show Gl _ _ _ _ _ _ _ (s₁.setTop (mkF m 9 #[.val (.long q1), .second, .val (.int p2), .val (.int p3), .val (.int p4), .unset, .unset, .unset, .unset, .unset, .unset, .unset, .unset, .unset] [(.int (p2 &&& (63 : Int32))), (.long (q1 &&& (9223372036854775807 : Int64)))]))
  refine Gl.st (fun t k => XS.lushr X0.here hx rfl (hb hby at_9) rfl k) ?_
  show Gl _ _ _ _ _ _ _ (s₁.setTop (mkF m 10 #[.val (.long q1), .second, .val (.int p2), .val (.int p3), .val (.int p4), .unset, .unset, .unset, .unset, .unset, .unset, .unset, .unset, .unset] [(.long (((q1 &&& (9223372036854775807 : Int64)).toUInt64 >>> ((p2 &&& (63 : Int32)) &&& 0x3f).toInt64.toUInt64).toInt64))]))
  refine Gl.st (fun t k => XS.lstore X0.here hx rfl (hb hby at_10) rfl (l' := #[.val (.long q1), .second, .val (.int p2), .val (.int p3), .val (.int p4), .val (.long (((q1 &&& (9223372036854775807 : Int64)).toUInt64 >>> ((p2 &&& (63 : Int32)) &&& 0x3f).toInt64.toUInt64).toInt64)), .second, .unset, .unset, .unset, .unset, .unset, .unset, .unset]) rfl k) ?_
  show Gl _ _ _ _ _ _ _ (s₁.setTop (mkF m 12 #[.val (.long q1), .second, .val (.int p2), .val (.int p3), .val (.int p4), .val (.long (((q1 &&& (9223372036854775807 : Int64)).toUInt64 >>> ((p2 &&& (63 : Int32)) &&& 0x3f).toInt64.toUInt64).toInt64)), .second, .unset, .unset, .unset, .unset, .unset, .unset, .unset] []))
  obtain ⟨vv, hvv⟩ : ∃ z : Int64, z = (((q1 &&& (9223372036854775807 : Int64)).toUInt64 >>> ((p2 &&& (63 : Int32)) &&& 0x3f).toInt64.toUInt64).toInt64) := ⟨_, rfl⟩
  rw [← hvv]
  show Gl _ _ _ _ _ _ _ (s₁.setTop (mkF m 12 #[.val (.long q1), .second, .val (.int p2), .val (.int p3), .val (.int p4), .val (.long vv), .second, .unset, .unset, .unset, .unset, .unset, .unset, .unset] []))
  refine Gl.st (fun t k => XS.iloadN X0.here hx rfl (hb hby at_12) rfl  k) ?_
  show Gl _ _ _ _ _ _ _ (s₁.setTop (mkF m 13 #[.val (.long q1), .second, .val (.int p2), .val (.int p3), .val (.int p4), .val (.long vv), .second, .unset, .unset, .unset, .unset, .unset, .unset, .unset] [(.int p3)]))
  refine Gl.st (fun t k => XS.bipush X0.here hx rfl (hb hby at_13) k) ?_
  show Gl _ _ _ _ _ _ _ (s₁.setTop (mkF m 15 #[.val (.long q1), .second, .val (.int p2), .val (.int p3), .val (.int p4), .val (.long vv), .second, .unset, .unset, .unset, .unset, .unset, .unset, .unset] [(.int (7 : Int32)), (.int p3)]))
  refine Gl.st (fun t k => XS.iand X0.here hx rfl (hb hby at_15) rfl k) ?_
  show Gl _ _ _ _ _ _ _ (s₁.setTop (mkF m 16 #[.val (.long q1), .second, .val (.int p2), .val (.int p3), .val (.int p4), .val (.long vv), .second, .unset, .unset, .unset, .unset, .unset, .unset, .unset] [(.int (p3 &&& (7 : Int32)))]))
  refine Gl.st (fun t k => XS.istore X0.here hx rfl (hb hby at_16) rfl (l' := #[.val (.long q1), .second, .val (.int p2), .val (.int p3), .val (.int p4), .val (.long vv), .second, .val (.int (p3 &&& (7 : Int32))), .unset, .unset, .unset, .unset, .unset, .unset]) rfl k) ?_
  show Gl _ _ _ _ _ _ _ (s₁.setTop (mkF m 18 #[.val (.long q1), .second, .val (.int p2), .val (.int p3), .val (.int p4), .val (.long vv), .second, .val (.int (p3 &&& (7 : Int32))), .unset, .unset, .unset, .unset, .unset, .unset] []))
  obtain ⟨aa, haa⟩ : ∃ z : Int32, z = (p3 &&& (7 : Int32)) := ⟨_, rfl⟩
  rw [← haa]
  show Gl _ _ _ _ _ _ _ (s₁.setTop (mkF m 18 #[.val (.long q1), .second, .val (.int p2), .val (.int p3), .val (.int p4), .val (.long vv), .second, .val (.int aa), .unset, .unset, .unset, .unset, .unset, .unset] []))
  refine Gl.st (fun t k => XS.iload X0.here hx rfl (hb hby at_18) rfl  k) ?_
  show Gl _ _ _ _ _ _ _ (s₁.setTop (mkF m 20 #[.val (.long q1), .second, .val (.int p2), .val (.int p3), .val (.int p4), .val (.long vv), .second, .val (.int aa), .unset, .unset, .unset, .unset, .unset, .unset] [(.int p4)]))
  refine Gl.st (fun t k => XS.i2b X0.here hx rfl (hb hby at_20) rfl k) ?_
  show Gl _ _ _ _ _ _ _ (s₁.setTop (mkF m 21 #[.val (.long q1), .second, .val (.int p2), .val (.int p3), .val (.int p4), .val (.long vv), .second, .val (.int aa), .unset, .unset, .unset, .unset, .unset, .unset] [(.int (p4.toInt8.toInt32))]))
  refine Gl.st (fun t k => XS.istore X0.here hx rfl (hb hby at_21) rfl (l' := #[.val (.long q1), .second, .val (.int p2), .val (.int p3), .val (.int p4), .val (.long vv), .second, .val (.int aa), .val (.int (p4.toInt8.toInt32)), .unset, .unset, .unset, .unset, .unset]) rfl k) ?_
  show Gl _ _ _ _ _ _ _ (s₁.setTop (mkF m 23 #[.val (.long q1), .second, .val (.int p2), .val (.int p3), .val (.int p4), .val (.long vv), .second, .val (.int aa), .val (.int (p4.toInt8.toInt32)), .unset, .unset, .unset, .unset, .unset] []))
  refine Gl.st (fun t k => XS.bipush X0.here hx rfl (hb hby at_23) k) ?_
  show Gl _ _ _ _ _ _ _ (s₁.setTop (mkF m 25 #[.val (.long q1), .second, .val (.int p2), .val (.int p3), .val (.int p4), .val (.long vv), .second, .val (.int aa), .val (.int (p4.toInt8.toInt32)), .unset, .unset, .unset, .unset, .unset] [(.int (18 : Int32))]))
  obtain ⟨T1, h1, k1, X1, e1, E1, A1, st1⟩ := newP X0 hx hZ (hw _ (List.mem_of_getElem? (i := 1) rfl)) e0 (g := (mkF m 25 #[.val (.long q1), .second, .val (.int p2), .val (.int p3), .val (.int p4), .val (.long vv), .second, .val (.int aa), .val (.int (p4.toInt8.toInt32)), .unset, .unset, .unset, .unset, .unset] [(.int (18 : Int32))])) rfl (hb hby at_25) rfl (by decide) (cap := 18) (by decide) (by decide) (by decide) (by decide)
  obtain ⟨b1, g1⟩ : ∃ z, z = h0.size := ⟨_, rfl⟩
  rw [← g1] at A1 st1
  refine Gl.st st1 ?_
  have gzb1 : n0 ≤ b1 := Nat.le_trans Z0 (Nat.le_of_eq g1.symm)
  have Z1 : n0 ≤ h1.size := Nat.le_trans Z0 E1.1
  have V1 : Arv Z h1 b1 k1 .byte (18 : Int32) [(.int (0 : Int32)), (.int (0 : Int32)), (.int (0 : Int32)), (.int (0 : Int32)), (.int (0 : Int32)), (.int (0 : Int32)), (.int (0 : Int32)), (.int (0 : Int32)), (.int (0 : Int32)), (.int (0 : Int32)), (.int (0 : Int32)), (.int (0 : Int32)), (.int (0 : Int32)), (.int (0 : Int32)), (.int (0 : Int32)), (.int (0 : Int32)), (.int (0 : Int32)), (.int (0 : Int32))] (.int (0 : Int32)) := (Arv.new A1 (by decide)).pad (pad_rep [] (.int (0 : Int32)) 18)
  show Gl _ _ _ _ _ _ _ (T1.setTop (mkF m 27 #[.val (.long q1), .second, .val (.int p2), .val (.int p3), .val (.int p4), .val (.long vv), .second, .val (.int aa), .val (.int (p4.toInt8.toInt32)), .unset, .unset, .unset, .unset, .unset] [(.ref b1)]))
  refine Gl.st (fun t k => XS.dup X1.here hx rfl (hb hby at_27) rfl rfl k) ?_
  show Gl _ _ _ _ _ _ _ (T1.setTop (mkF m 28 #[.val (.long q1), .second, .val (.int p2), .val (.int p3), .val (.int p4), .val (.long vv), .second, .val (.int aa), .val (.int (p4.toInt8.toInt32)), .unset, .unset, .unset, .unset, .unset] [(.ref b1), (.ref b1)]))
  refine Gl.st (fun t k => XS.iconst X1.here hx rfl (hb hby at_28) k) ?_
  show Gl _ _ _ _ _ _ _ (T1.setTop (mkF m 29 #[.val (.long q1), .second, .val (.int p2), .val (.int p3), .val (.int p4), .val (.long vv), .second, .val (.int aa), .val (.int (p4.toInt8.toInt32)), .unset, .unset, .unset, .unset, .unset] [(.int (0 : Int32)), (.ref b1), (.ref b1)]))
  refine Gl.st (fun t k => XS.iload X1.here hx rfl (hb hby at_29) rfl  k) ?_
  show Gl _ _ _ _ _ _ _ (T1.setTop (mkF m 31 #[.val (.long q1), .second, .val (.int p2), .val (.int p3), .val (.int p4), .val (.long vv), .second, .val (.int aa), .val (.int (p4.toInt8.toInt32)), .unset, .unset, .unset, .unset, .unset] [(.int (p4.toInt8.toInt32)), (.int (0 : Int32)), (.ref b1), (.ref b1)]))
  have Vx2 := V1
  obtain ⟨cl2, Ar2, qk2, S2, M2, H2, G2⟩ := Vx2
  have hin2 : ¬ ((0 : Int32) < 0 ∨ cl2.slots.size ≤ ((0 : Int32)).toNatClampNeg) := inb_of S2 ⟨by decide, by decide⟩
  obtain ⟨T2, h2, X2, e2, W2, st2⟩ := stB X1 hx hZ e1 Ar2 (j := (0 : Int32)) hin2 (g := (mkF m 31 #[.val (.long q1), .second, .val (.int p2), .val (.int p3), .val (.int p4), .val (.long vv), .second, .val (.int aa), .val (.int (p4.toInt8.toInt32)), .unset, .unset, .unset, .unset, .unset] [(.int (p4.toInt8.toInt32)), (.int (0 : Int32)), (.ref b1), (.ref b1)])) rfl rfl (hb hby at_31)
  refine Gl.st st2 ?_
  have Z2 : n0 ≤ h2.size := Nat.le_trans Z1 (Keep.of_wr W2).1
  have N2 := Fr.snoc X2 N0 gzb1
  have V2 : Arv Z h2 b1 k1 .byte (18 : Int32) [(.int (nar .byte (p4.toInt8.toInt32))), (.int (0 : Int32)), (.int (0 : Int32)), (.int (0 : Int32)), (.int (0 : Int32)), (.int (0 : Int32)), (.int (0 : Int32)), (.int (0 : Int32)), (.int (0 : Int32)), (.int (0 : Int32)), (.int (0 : Int32)), (.int (0 : Int32)), (.int (0 : Int32)), (.int (0 : Int32)), (.int (0 : Int32)), (.int (0 : Int32)), (.int (0 : Int32)), (.int (0 : Int32))] (.int (0 : Int32)) := Arv.set Ar2 qk2 S2 M2 H2 G2 (fits_nar_byte _) W2 0 rfl (Nat.le_of_ble_eq_true rfl)
  show Gl _ _ _ _ _ _ _ (T2.setTop (mkF m 32 #[.val (.long q1), .second, .val (.int p2), .val (.int p3), .val (.int p4), .val (.long vv), .second, .val (.int aa), .val (.int (p4.toInt8.toInt32)), .unset, .unset, .unset, .unset, .unset] [(.ref b1)]))
  refine Gl.st (fun t k => XS.dup X2.here hx rfl (hb hby at_32) rfl rfl k) ?_
  show Gl _ _ _ _ _ _ _ (T2.setTop (mkF m 33 #[.val (.long q1), .second, .val (.int p2), .val (.int p3), .val (.int p4), .val (.long vv), .second, .val (.int aa), .val (.int (p4.toInt8.toInt32)), .unset, .unset, .unset, .unset, .unset] [(.ref b1), (.ref b1)]))
  refine Gl.st (fun t k => XS.iconst X2.here hx rfl (hb hby at_33) k) ?_
  show Gl _ _ _ _ _ _ _ (T2.setTop (mkF m 34 #[.val (.long q1), .second, .val (.int p2), .val (.int p3), .val (.int p4), .val (.long vv), .second, .val (.int aa), .val (.int (p4.toInt8.toInt32)), .unset, .unset, .unset, .unset, .unset] [(.int (1 : Int32)), (.ref b1), (.ref b1)]))
  refine Gl.st (fun t k => XS.iload X2.here hx rfl (hb hby at_34) rfl  k) ?_
  show Gl _ _ _ _ _ _ _ (T2.setTop (mkF m 36 #[.val (.long q1), .second, .val (.int p2), .val (.int p3), .val (.int p4), .val (.long vv), .second, .val (.int aa), .val (.int (p4.toInt8.toInt32)), .unset, .unset, .unset, .unset, .unset] [(.int (p4.toInt8.toInt32)), (.int (1 : Int32)), (.ref b1), (.ref b1)]))
  have Vx3 := V2
  obtain ⟨cl3, Ar3, qk3, S3, M3, H3, G3⟩ := Vx3
  have hin3 : ¬ ((1 : Int32) < 0 ∨ cl3.slots.size ≤ ((1 : Int32)).toNatClampNeg) := inb_of S3 ⟨by decide, by decide⟩
  obtain ⟨T3, h3, X3, e3, W3, st3⟩ := stB X2 hx hZ e2 Ar3 (j := (1 : Int32)) hin3 (g := (mkF m 36 #[.val (.long q1), .second, .val (.int p2), .val (.int p3), .val (.int p4), .val (.long vv), .second, .val (.int aa), .val (.int (p4.toInt8.toInt32)), .unset, .unset, .unset, .unset, .unset] [(.int (p4.toInt8.toInt32)), (.int (1 : Int32)), (.ref b1), (.ref b1)])) rfl rfl (hb hby at_36)
  refine Gl.st st3 ?_
  have Z3 : n0 ≤ h3.size := Nat.le_trans Z2 (Keep.of_wr W3).1
  have N3 := Fr.snoc X3 N2 gzb1
  have V3 : Arv Z h3 b1 k1 .byte (18 : Int32) [(.int (nar .byte (p4.toInt8.toInt32))), (.int (nar .byte (p4.toInt8.toInt32))), (.int (0 : Int32)), (.int (0 : Int32)), (.int (0 : Int32)), (.int (0 : Int32)), (.int (0 : Int32)), (.int (0 : Int32)), (.int (0 : Int32)), (.int (0 : Int32)), (.int (0 : Int32)), (.int (0 : Int32)), (.int (0 : Int32)), (.int (0 : Int32)), (.int (0 : Int32)), (.int (0 : Int32)), (.int (0 : Int32)), (.int (0 : Int32))] (.int (0 : Int32)) := Arv.set Ar3 qk3 S3 M3 H3 G3 (fits_nar_byte _) W3 1 rfl (Nat.le_of_ble_eq_true rfl)
  show Gl _ _ _ _ _ _ _ (T3.setTop (mkF m 37 #[.val (.long q1), .second, .val (.int p2), .val (.int p3), .val (.int p4), .val (.long vv), .second, .val (.int aa), .val (.int (p4.toInt8.toInt32)), .unset, .unset, .unset, .unset, .unset] [(.ref b1)]))
  refine Gl.st (fun t k => XS.dup X3.here hx rfl (hb hby at_37) rfl rfl k) ?_
  show Gl _ _ _ _ _ _ _ (T3.setTop (mkF m 38 #[.val (.long q1), .second, .val (.int p2), .val (.int p3), .val (.int p4), .val (.long vv), .second, .val (.int aa), .val (.int (p4.toInt8.toInt32)), .unset, .unset, .unset, .unset, .unset] [(.ref b1), (.ref b1)]))
  refine Gl.st (fun t k => XS.iconst X3.here hx rfl (hb hby at_38) k) ?_
  show Gl _ _ _ _ _ _ _ (T3.setTop (mkF m 39 #[.val (.long q1), .second, .val (.int p2), .val (.int p3), .val (.int p4), .val (.long vv), .second, .val (.int aa), .val (.int (p4.toInt8.toInt32)), .unset, .unset, .unset, .unset, .unset] [(.int (2 : Int32)), (.ref b1), (.ref b1)]))
  refine Gl.st (fun t k => XS.iload X3.here hx rfl (hb hby at_39) rfl  k) ?_
  show Gl _ _ _ _ _ _ _ (T3.setTop (mkF m 41 #[.val (.long q1), .second, .val (.int p2), .val (.int p3), .val (.int p4), .val (.long vv), .second, .val (.int aa), .val (.int (p4.toInt8.toInt32)), .unset, .unset, .unset, .unset, .unset] [(.int (p4.toInt8.toInt32)), (.int (2 : Int32)), (.ref b1), (.ref b1)]))
  have Vx4 := V3
  obtain ⟨cl4, Ar4, qk4, S4, M4, H4, G4⟩ := Vx4
  have hin4 : ¬ ((2 : Int32) < 0 ∨ cl4.slots.size ≤ ((2 : Int32)).toNatClampNeg) := inb_of S4 ⟨by decide, by decide⟩
  obtain ⟨T4, h4, X4, e4, W4, st4⟩ := stB X3 hx hZ e3 Ar4 (j := (2 : Int32)) hin4 (g := (mkF m 41 #[.val (.long q1), .second, .val (.int p2), .val (.int p3), .val (.int p4), .val (.long vv), .second, .val (.int aa), .val (.int (p4.toInt8.toInt32)), .unset, .unset, .unset, .unset, .unset] [(.int (p4.toInt8.toInt32)), (.int (2 : Int32)), (.ref b1), (.ref b1)])) rfl rfl (hb hby at_41)
  refine Gl.st st4 ?_
  have Z4 : n0 ≤ h4.size := Nat.le_trans Z3 (Keep.of_wr W4).1
  have N4 := Fr.snoc X4 N3 gzb1
  have V4 : Arv Z h4 b1 k1 .byte (18 : Int32) [(.int (nar .byte (p4.toInt8.toInt32))), (.int (nar .byte (p4.toInt8.toInt32))), (.int (nar .byte (p4.toInt8.toInt32))), (.int (0 : Int32)), (.int (0 : Int32)), (.int (0 : Int32)), (.int (0 : Int32)), (.int (0 : Int32)), (.int (0 : Int32)), (.int (0 : Int32)), (.int (0 : Int32)), (.int (0 : Int32)), (.int (0 : Int32)), (.int (0 : Int32)), (.int (0 : Int32)), (.int (0 : Int32)), (.int (0 : Int32)), (.int (0 : Int32))] (.int (0 : Int32)) := Arv.set Ar4 qk4 S4 M4 H4 G4 (fits_nar_byte _) W4 2 rfl (Nat.le_of_ble_eq_true rfl)
  show Gl _ _ _ _ _ _ _ (T4.setTop (mkF m 42 #[.val (.long q1), .second, .val (.int p2), .val (.int p3), .val (.int p4), .val (.long vv), .second, .val (.int aa), .val (.int (p4.toInt8.toInt32)), .unset, .unset, .unset, .unset, .unset] [(.ref b1)]))
  refine Gl.st (fun t k => XS.dup X4.here hx rfl (hb hby at_42) rfl rfl k) ?_
  show Gl _ _ _ _ _ _ _ (T4.setTop (mkF m 43 #[.val (.long q1), .second, .val (.int p2), .val (.int p3), .val (.int p4), .val (.long vv), .second, .val (.int aa), .val (.int (p4.toInt8.toInt32)), .unset, .unset, .unset, .unset, .unset] [(.ref b1), (.ref b1)]))
  refine Gl.st (fun t k => XS.iconst X4.here hx rfl (hb hby at_43) k) ?_
  show Gl _ _ _ _ _ _ _ (T4.setTop (mkF m 44 #[.val (.long q1), .second, .val (.int p2), .val (.int p3), .val (.int p4), .val (.long vv), .second, .val (.int aa), .val (.int (p4.toInt8.toInt32)), .unset, .unset, .unset, .unset, .unset] [(.int (3 : Int32)), (.ref b1), (.ref b1)]))
  refine Gl.st (fun t k => XS.iload X4.here hx rfl (hb hby at_44) rfl  k) ?_
  show Gl _ _ _ _ _ _ _ (T4.setTop (mkF m 46 #[.val (.long q1), .second, .val (.int p2), .val (.int p3), .val (.int p4), .val (.long vv), .second, .val (.int aa), .val (.int (p4.toInt8.toInt32)), .unset, .unset, .unset, .unset, .unset] [(.int (p4.toInt8.toInt32)), (.int (3 : Int32)), (.ref b1), (.ref b1)]))
  have Vx5 := V4
  obtain ⟨cl5, Ar5, qk5, S5, M5, H5, G5⟩ := Vx5
  have hin5 : ¬ ((3 : Int32) < 0 ∨ cl5.slots.size ≤ ((3 : Int32)).toNatClampNeg) := inb_of S5 ⟨by decide, by decide⟩
  obtain ⟨T5, h5, X5, e5, W5, st5⟩ := stB X4 hx hZ e4 Ar5 (j := (3 : Int32)) hin5 (g := (mkF m 46 #[.val (.long q1), .second, .val (.int p2), .val (.int p3), .val (.int p4), .val (.long vv), .second, .val (.int aa), .val (.int (p4.toInt8.toInt32)), .unset, .unset, .unset, .unset, .unset] [(.int (p4.toInt8.toInt32)), (.int (3 : Int32)), (.ref b1), (.ref b1)])) rfl rfl (hb hby at_46)
  refine Gl.st st5 ?_
  have Z5 : n0 ≤ h5.size := Nat.le_trans Z4 (Keep.of_wr W5).1
  have N5 := Fr.snoc X5 N4 gzb1
  have V5 : Arv Z h5 b1 k1 .byte (18 : Int32) [(.int (nar .byte (p4.toInt8.toInt32))), (.int (nar .byte (p4.toInt8.toInt32))), (.int (nar .byte (p4.toInt8.toInt32))), (.int (nar .byte (p4.toInt8.toInt32))), (.int (0 : Int32)), (.int (0 : Int32)), (.int (0 : Int32)), (.int (0 : Int32)), (.int (0 : Int32)), (.int (0 : Int32)), (.int (0 : Int32)), (.int (0 : Int32)), (.int (0 : Int32)), (.int (0 : Int32)), (.int (0 : Int32)), (.int (0 : Int32)), (.int (0 : Int32)), (.int (0 : Int32))] (.int (0 : Int32)) := Arv.set Ar5 qk5 S5 M5 H5 G5 (fits_nar_byte _) W5 3 rfl (Nat.le_of_ble_eq_true rfl)
  show Gl _ _ _ _ _ _ _ (T5.setTop (mkF m 47 #[.val (.long q1), .second, .val (.int p2), .val (.int p3), .val (.int p4), .val (.long vv), .second, .val (.int aa), .val (.int (p4.toInt8.toInt32)), .unset, .unset, .unset, .unset, .unset] [(.ref b1)]))
  refine Gl.st (fun t k => XS.dup X5.here hx rfl (hb hby at_47) rfl rfl k) ?_
  show Gl _ _ _ _ _ _ _ (T5.setTop (mkF m 48 #[.val (.long q1), .second, .val (.int p2), .val (.int p3), .val (.int p4), .val (.long vv), .second, .val (.int aa), .val (.int (p4.toInt8.toInt32)), .unset, .unset, .unset, .unset, .unset] [(.ref b1), (.ref b1)]))
  refine Gl.st (fun t k => XS.iconst X5.here hx rfl (hb hby at_48) k) ?_
  show Gl _ _ _ _ _ _ _ (T5.setTop (mkF m 49 #[.val (.long q1), .second, .val (.int p2), .val (.int p3), .val (.int p4), .val (.long vv), .second, .val (.int aa), .val (.int (p4.toInt8.toInt32)), .unset, .unset, .unset, .unset, .unset] [(.int (4 : Int32)), (.ref b1), (.ref b1)]))
  refine Gl.st (fun t k => XS.iload X5.here hx rfl (hb hby at_49) rfl  k) ?_
  show Gl _ _ _ _ _ _ _ (T5.setTop (mkF m 51 #[.val (.long q1), .second, .val (.int p2), .val (.int p3), .val (.int p4), .val (.long vv), .second, .val (.int aa), .val (.int (p4.toInt8.toInt32)), .unset, .unset, .unset, .unset, .unset] [(.int (p4.toInt8.toInt32)), (.int (4 : Int32)), (.ref b1), (.ref b1)]))
  have Vx6 := V5
  obtain ⟨cl6, Ar6, qk6, S6, M6, H6, G6⟩ := Vx6
  have hin6 : ¬ ((4 : Int32) < 0 ∨ cl6.slots.size ≤ ((4 : Int32)).toNatClampNeg) := inb_of S6 ⟨by decide, by decide⟩
  obtain ⟨T6, h6, X6, e6, W6, st6⟩ := stB X5 hx hZ e5 Ar6 (j := (4 : Int32)) hin6 (g := (mkF m 51 #[.val (.long q1), .second, .val (.int p2), .val (.int p3), .val (.int p4), .val (.long vv), .second, .val (.int aa), .val (.int (p4.toInt8.toInt32)), .unset, .unset, .unset, .unset, .unset] [(.int (p4.toInt8.toInt32)), (.int (4 : Int32)), (.ref b1), (.ref b1)])) rfl rfl (hb hby at_51)
  refine Gl.st st6 ?_
  have Z6 : n0 ≤ h6.size := Nat.le_trans Z5 (Keep.of_wr W6).1
  have N6 := Fr.snoc X6 N5 gzb1
  have V6 : Arv Z h6 b1 k1 .byte (18 : Int32) [(.int (nar .byte (p4.toInt8.toInt32))), (.int (nar .byte (p4.toInt8.toInt32))), (.int (nar .byte (p4.toInt8.toInt32))), (.int (nar .byte (p4.toInt8.toInt32))), (.int (nar .byte (p4.toInt8.toInt32))), (.int (0 : Int32)), (.int (0 : Int32)), (.int (0 : Int32)), (.int (0 : Int32)), (.int (0 : Int32)), (.int (0 : Int32)), (.int (0 : Int32)), (.int (0 : Int32)), (.int (0 : Int32)), (.int (0 : Int32)), (.int (0 : Int32)), (.int (0 : Int32)), (.int (0 : Int32))] (.int (0 : Int32)) := Arv.set Ar6 qk6 S6 M6 H6 G6 (fits_nar_byte _) W6 4 rfl (Nat.le_of_ble_eq_true rfl)
  show Gl _ _ _ _ _ _ _ (T6.setTop (mkF m 52 #[.val (.long q1), .second, .val (.int p2), .val (.int p3), .val (.int p4), .val (.long vv), .second, .val (.int aa), .val (.int (p4.toInt8.toInt32)), .unset, .unset, .unset, .unset, .unset] [(.ref b1)]))
  refine Gl.st (fun t k => XS.dup X6.here hx rfl (hb hby at_52) rfl rfl k) ?_
  show Gl _ _ _ _ _ _ _ (T6.setTop (mkF m 53 #[.val (.long q1), .second, .val (.int p2), .val (.int p3), .val (.int p4), .val (.long vv), .second, .val (.int aa), .val (.int (p4.toInt8.toInt32)), .unset, .unset, .unset, .unset, .unset] [(.ref b1), (.ref b1)]))
  refine Gl.st (fun t k => XS.iconst X6.here hx rfl (hb hby at_53) k) ?_
  show Gl _ _ _ _ _ _ _ (T6.setTop (mkF m 54 #[.val (.long q1), .second, .val (.int p2), .val (.int p3), .val (.int p4), .val (.long vv), .second, .val (.int aa), .val (.int (p4.toInt8.toInt32)), .unset, .unset, .unset, .unset, .unset] [(.int (5 : Int32)), (.ref b1), (.ref b1)]))
  refine Gl.st (fun t k => XS.iload X6.here hx rfl (hb hby at_54) rfl  k) ?_
  show Gl _ _ _ _ _ _ _ (T6.setTop (mkF m 56 #[.val (.long q1), .second, .val (.int p2), .val (.int p3), .val (.int p4), .val (.long vv), .second, .val (.int aa), .val (.int (p4.toInt8.toInt32)), .unset, .unset, .unset, .unset, .unset] [(.int (p4.toInt8.toInt32)), (.int (5 : Int32)), (.ref b1), (.ref b1)]))
  have Vx7 := V6
  obtain ⟨cl7, Ar7, qk7, S7, M7, H7, G7⟩ := Vx7
  have hin7 : ¬ ((5 : Int32) < 0 ∨ cl7.slots.size ≤ ((5 : Int32)).toNatClampNeg) := inb_of S7 ⟨by decide, by decide⟩
  obtain ⟨T7, h7, X7, e7, W7, st7⟩ := stB X6 hx hZ e6 Ar7 (j := (5 : Int32)) hin7 (g := (mkF m 56 #[.val (.long q1), .second, .val (.int p2), .val (.int p3), .val (.int p4), .val (.long vv), .second, .val (.int aa), .val (.int (p4.toInt8.toInt32)), .unset, .unset, .unset, .unset, .unset] [(.int (p4.toInt8.toInt32)), (.int (5 : Int32)), (.ref b1), (.ref b1)])) rfl rfl (hb hby at_56)
  refine Gl.st st7 ?_
  have Z7 : n0 ≤ h7.size := Nat.le_trans Z6 (Keep.of_wr W7).1
  have N7 := Fr.snoc X7 N6 gzb1
  have V7 : Arv Z h7 b1 k1 .byte (18 : Int32) [(.int (nar .byte (p4.toInt8.toInt32))), (.int (nar .byte (p4.toInt8.toInt32))), (.int (nar .byte (p4.toInt8.toInt32))), (.int (nar .byte (p4.toInt8.toInt32))), (.int (nar .byte (p4.toInt8.toInt32))), (.int (nar .byte (p4.toInt8.toInt32))), (.int (0 : Int32)), (.int (0 : Int32)), (.int (0 : Int32)), (.int (0 : Int32)), (.int (0 : Int32)), (.int (0 : Int32)), (.int (0 : Int32)), (.int (0 : Int32)), (.int (0 : Int32)), (.int (0 : Int32)), (.int (0 : Int32)), (.int (0 : Int32))] (.int (0 : Int32)) := Arv.set Ar7 qk7 S7 M7 H7 G7 (fits_nar_byte _) W7 5 rfl (Nat.le_of_ble_eq_true rfl)
  show Gl _ _ _ _ _ _ _ (T7.setTop (mkF m 57 #[.val (.long q1), .second, .val (.int p2), .val (.int p3), .val (.int p4), .val (.long vv), .second, .val (.int aa), .val (.int (p4.toInt8.toInt32)), .unset, .unset, .unset, .unset, .unset] [(.ref b1)]))
  refine Gl.st (fun t k => XS.dup X7.here hx rfl (hb hby at_57) rfl rfl k) ?_
  show Gl _ _ _ _ _ _ _ (T7.setTop (mkF m 58 #[.val (.long q1), .second, .val (.int p2), .val (.int p3), .val (.int p4), .val (.long vv), .second, .val (.int aa), .val (.int (p4.toInt8.toInt32)), .unset, .unset, .unset, .unset, .unset] [(.ref b1), (.ref b1)]))
  refine Gl.st (fun t k => XS.bipush X7.here hx rfl (hb hby at_58) k) ?_
  show Gl _ _ _ _ _ _ _ (T7.setTop (mkF m 60 #[.val (.long q1), .second, .val (.int p2), .val (.int p3), .val (.int p4), .val (.long vv), .second, .val (.int aa), .val (.int (p4.toInt8.toInt32)), .unset, .unset, .unset, .unset, .unset] [(.int (6 : Int32)), (.ref b1), (.ref b1)]))
  refine Gl.st (fun t k => XS.iload X7.here hx rfl (hb hby at_60) rfl  k) ?_
  show Gl _ _ _ _ _ _ _ (T7.setTop (mkF m 62 #[.val (.long q1), .second, .val (.int p2), .val (.int p3), .val (.int p4), .val (.long vv), .second, .val (.int aa), .val (.int (p4.toInt8.toInt32)), .unset, .unset, .unset, .unset, .unset] [(.int (p4.toInt8.toInt32)), (.int (6 : Int32)), (.ref b1), (.ref b1)]))
  have Vx8 := V7
  obtain ⟨cl8, Ar8, qk8, S8, M8, H8, G8⟩ := Vx8
  have hin8 : ¬ ((6 : Int32) < 0 ∨ cl8.slots.size ≤ ((6 : Int32)).toNatClampNeg) := inb_of S8 ⟨by decide, by decide⟩
  obtain ⟨T8, h8, X8, e8, W8, st8⟩ := stB X7 hx hZ e7 Ar8 (j := (6 : Int32)) hin8 (g := (mkF m 62 #[.val (.long q1), .second, .val (.int p2), .val (.int p3), .val (.int p4), .val (.long vv), .second, .val (.int aa), .val (.int (p4.toInt8.toInt32)), .unset, .unset, .unset, .unset, .unset] [(.int (p4.toInt8.toInt32)), (.int (6 : Int32)), (.ref b1), (.ref b1)])) rfl rfl (hb hby at_62)
  refine Gl.st st8 ?_
  have Z8 : n0 ≤ h8.size := Nat.le_trans Z7 (Keep.of_wr W8).1
  have N8 := Fr.snoc X8 N7 gzb1
  have V8 : Arv Z h8 b1 k1 .byte (18 : Int32) [(.int (nar .byte (p4.toInt8.toInt32))), (.int (nar .byte (p4.toInt8.toInt32))), (.int (nar .byte (p4.toInt8.toInt32))), (.int (nar .byte (p4.toInt8.toInt32))), (.int (nar .byte (p4.toInt8.toInt32))), (.int (nar .byte (p4.toInt8.toInt32))), (.int (nar .byte (p4.toInt8.toInt32))), (.int (0 : Int32)), (.int (0 : Int32)), (.int (0 : Int32)), (.int (0 : Int32)), (.int (0 : Int32)), (.int (0 : Int32)), (.int (0 : Int32)), (.int (0 : Int32)), (.int (0 : Int32)), (.int (0 : Int32)), (.int (0 : Int32))] (.int (0 : Int32)) := Arv.set Ar8 qk8 S8 M8 H8 G8 (fits_nar_byte _) W8 6 rfl (Nat.le_of_ble_eq_true rfl)
  show Gl _ _ _ _ _ _ _ (T8.setTop (mkF m 63 #[.val (.long q1), .second, .val (.int p2), .val (.int p3), .val (.int p4), .val (.long vv), .second, .val (.int aa), .val (.int (p4.toInt8.toInt32)), .unset, .unset, .unset, .unset, .unset] [(.ref b1)]))
  refine Gl.st (fun t k => XS.dup X8.here hx rfl (hb hby at_63) rfl rfl k) ?_
  show Gl _ _ _ _ _ _ _ (T8.setTop (mkF m 64 #[.val (.long q1), .second, .val (.int p2), .val (.int p3), .val (.int p4), .val (.long vv), .second, .val (.int aa), .val (.int (p4.toInt8.toInt32)), .unset, .unset, .unset, .unset, .unset] [(.ref b1), (.ref b1)]))
  refine Gl.st (fun t k => XS.bipush X8.here hx rfl (hb hby at_64) k) ?_
  show Gl _ _ _ _ _ _ _ (T8.setTop (mkF m 66 #[.val (.long q1), .second, .val (.int p2), .val (.int p3), .val (.int p4), .val (.long vv), .second, .val (.int aa), .val (.int (p4.toInt8.toInt32)), .unset, .unset, .unset, .unset, .unset] [(.int (7 : Int32)), (.ref b1), (.ref b1)]))
  refine Gl.st (fun t k => XS.iload X8.here hx rfl (hb hby at_66) rfl  k) ?_
  show Gl _ _ _ _ _ _ _ (T8.setTop (mkF m 68 #[.val (.long q1), .second, .val (.int p2), .val (.int p3), .val (.int p4), .val (.long vv), .second, .val (.int aa), .val (.int (p4.toInt8.toInt32)), .unset, .unset, .unset, .unset, .unset] [(.int (p4.toInt8.toInt32)), (.int (7 : Int32)), (.ref b1), (.ref b1)]))
  have Vx9 := V8
  obtain ⟨cl9, Ar9, qk9, S9, M9, H9, G9⟩ := Vx9
  have hin9 : ¬ ((7 : Int32) < 0 ∨ cl9.slots.size ≤ ((7 : Int32)).toNatClampNeg) := inb_of S9 ⟨by decide, by decide⟩
  obtain ⟨T9, h9, X9, e9, W9, st9⟩ := stB X8 hx hZ e8 Ar9 (j := (7 : Int32)) hin9 (g := (mkF m 68 #[.val (.long q1), .second, .val (.int p2), .val (.int p3), .val (.int p4), .val (.long vv), .second, .val (.int aa), .val (.int (p4.toInt8.toInt32)), .unset, .unset, .unset, .unset, .unset] [(.int (p4.toInt8.toInt32)), (.int (7 : Int32)), (.ref b1), (.ref b1)])) rfl rfl (hb hby at_68)
  refine Gl.st st9 ?_
  have Z9 : n0 ≤ h9.size := Nat.le_trans Z8 (Keep.of_wr W9).1
  have N9 := Fr.snoc X9 N8 gzb1
  have V9 : Arv Z h9 b1 k1 .byte (18 : Int32) [(.int (nar .byte (p4.toInt8.toInt32))), (.int (nar .byte (p4.toInt8.toInt32))), (.int (nar .byte (p4.toInt8.toInt32))), (.int (nar .byte (p4.toInt8.toInt32))), (.int (nar .byte (p4.toInt8.toInt32))), (.int (nar .byte (p4.toInt8.toInt32))), (.int (nar .byte (p4.toInt8.toInt32))), (.int (nar .byte (p4.toInt8.toInt32))), (.int (0 : Int32)), (.int (0 : Int32)), (.int (0 : Int32)), (.int (0 : Int32)), (.int (0 : Int32)), (.int (0 : Int32)), (.int (0 : Int32)), (.int (0 : Int32)), (.int (0 : Int32)), (.int (0 : Int32))] (.int (0 : Int32)) := Arv.set Ar9 qk9 S9 M9 H9 G9 (fits_nar_byte _) W9 7 rfl (Nat.le_of_ble_eq_true rfl)
  show Gl _ _ _ _ _ _ _ (T9.setTop (mkF m 69 #[.val (.long q1), .second, .val (.int p2), .val (.int p3), .val (.int p4), .val (.long vv), .second, .val (.int aa), .val (.int (p4.toInt8.toInt32)), .unset, .unset, .unset, .unset, .unset] [(.ref b1)]))
  refine Gl.st (fun t k => XS.dup X9.here hx rfl (hb hby at_69) rfl rfl k) ?_
  show Gl _ _ _ _ _ _ _ (T9.setTop (mkF m 70 #[.val (.long q1), .second, .val (.int p2), .val (.int p3), .val (.int p4), .val (.long vv), .second, .val (.int aa), .val (.int (p4.toInt8.toInt32)), .unset, .unset, .unset, .unset, .unset] [(.ref b1), (.ref b1)]))
  refine Gl.st (fun t k => XS.bipush X9.here hx rfl (hb hby at_70) k) ?_
  show Gl _ _ _ _ _ _ _ (T9.setTop (mkF m 72 #[.val (.long q1), .second, .val (.int p2), .val (.int p3), .val (.int p4), .val (.long vv), .second, .val (.int aa), .val (.int (p4.toInt8.toInt32)), .unset, .unset, .unset, .unset, .unset] [(.int (8 : Int32)), (.ref b1), (.ref b1)]))
  refine Gl.st (fun t k => XS.iload X9.here hx rfl (hb hby at_72) rfl  k) ?_
  show Gl _ _ _ _ _ _ _ (T9.setTop (mkF m 74 #[.val (.long q1), .second, .val (.int p2), .val (.int p3), .val (.int p4), .val (.long vv), .second, .val (.int aa), .val (.int (p4.toInt8.toInt32)), .unset, .unset, .unset, .unset, .unset] [(.int (p4.toInt8.toInt32)), (.int (8 : Int32)), (.ref b1), (.ref b1)]))
  have Vx10 := V9
  obtain ⟨cl10, Ar10, qk10, S10, M10, H10, G10⟩ := Vx10
  have hin10 : ¬ ((8 : Int32) < 0 ∨ cl10.slots.size ≤ ((8 : Int32)).toNatClampNeg) := inb_of S10 ⟨by decide, by decide⟩
  obtain ⟨T10, h10, X10, e10, W10, st10⟩ := stB X9 hx hZ e9 Ar10 (j := (8 : Int32)) hin10 (g := (mkF m 74 #[.val (.long q1), .second, .val (.int p2), .val (.int p3), .val (.int p4), .val (.long vv), .second, .val (.int aa), .val (.int (p4.toInt8.toInt32)), .unset, .unset, .unset, .unset, .unset] [(.int (p4.toInt8.toInt32)), (.int (8 : Int32)), (.ref b1), (.ref b1)])) rfl rfl (hb hby at_74)
  refine Gl.st st10 ?_
  have Z10 : n0 ≤ h10.size := Nat.le_trans Z9 (Keep.of_wr W10).1
  have N10 := Fr.snoc X10 N9 gzb1
  have V10 : Arv Z h10 b1 k1 .byte (18 : Int32) [(.int (nar .byte (p4.toInt8.toInt32))), (.int (nar .byte (p4.toInt8.toInt32))), (.int (nar .byte (p4.toInt8.toInt32))), (.int (nar .byte (p4.toInt8.toInt32))), (.int (nar .byte (p4.toInt8.toInt32))), (.int (nar .byte (p4.toInt8.toInt32))), (.int (nar .byte (p4.toInt8.toInt32))), (.int (nar .byte (p4.toInt8.toInt32))), (.int (nar .byte (p4.toInt8.toInt32))), (.int (0 : Int32)), (.int (0 : Int32)), (.int (0 : Int32)), (.int (0 : Int32)), (.int (0 : Int32)), (.int (0 : Int32)), (.int (0 : Int32)), (.int (0 : Int32)), (.int (0 : Int32))] (.int (0 : Int32)) := Arv.set Ar10 qk10 S10 M10 H10 G10 (fits_nar_byte _) W10 8 rfl (Nat.le_of_ble_eq_true rfl)
  show Gl _ _ _ _ _ _ _ (T10.setTop (mkF m 75 #[.val (.long q1), .second, .val (.int p2), .val (.int p3), .val (.int p4), .val (.long vv), .second, .val (.int aa), .val (.int (p4.toInt8.toInt32)), .unset, .unset, .unset, .unset, .unset] [(.ref b1)]))
  refine Gl.st (fun t k => XS.dup X10.here hx rfl (hb hby at_75) rfl rfl k) ?_
  show Gl _ _ _ _ _ _ _ (T10.setTop (mkF m 76 #[.val (.long q1), .second, .val (.int p2), .val (.int p3), .val (.int p4), .val (.long vv), .second, .val (.int aa), .val (.int (p4.toInt8.toInt32)), .unset, .unset, .unset, .unset, .unset] [(.ref b1), (.ref b1)]))
  refine Gl.st (fun t k => XS.bipush X10.here hx rfl (hb hby at_76) k) ?_
  show Gl _ _ _ _ _ _ _ (T10.setTop (mkF m 78 #[.val (.long q1), .second, .val (.int p2), .val (.int p3), .val (.int p4), .val (.long vv), .second, .val (.int aa), .val (.int (p4.toInt8.toInt32)), .unset, .unset, .unset, .unset, .unset] [(.int (9 : Int32)), (.ref b1), (.ref b1)]))
  refine Gl.st (fun t k => XS.iload X10.here hx rfl (hb hby at_78) rfl  k) ?_
  show Gl _ _ _ _ _ _ _ (T10.setTop (mkF m 80 #[.val (.long q1), .second, .val (.int p2), .val (.int p3), .val (.int p4), .val (.long vv), .second, .val (.int aa), .val (.int (p4.toInt8.toInt32)), .unset, .unset, .unset, .unset, .unset] [(.int (p4.toInt8.toInt32)), (.int (9 : Int32)), (.ref b1), (.ref b1)]))
  have Vx11 := V10
  obtain ⟨cl11, Ar11, qk11, S11, M11, H11, G11⟩ := Vx11
  have hin11 : ¬ ((9 : Int32) < 0 ∨ cl11.slots.size ≤ ((9 : Int32)).toNatClampNeg) := inb_of S11 ⟨by decide, by decide⟩
  obtain ⟨T11, h11, X11, e11, W11, st11⟩ := stB X10 hx hZ e10 Ar11 (j := (9 : Int32)) hin11 (g := (mkF m 80 #[.val (.long q1), .second, .val (.int p2), .val (.int p3), .val (.int p4), .val (.long vv), .second, .val (.int aa), .val (.int (p4.toInt8.toInt32)), .unset, .unset, .unset, .unset, .unset] [(.int (p4.toInt8.toInt32)), (.int (9 : Int32)), (.ref b1), (.ref b1)])) rfl rfl (hb hby at_80)
  refine Gl.st st11 ?_
  have Z11 : n0 ≤ h11.size := Nat.le_trans Z10 (Keep.of_wr W11).1
  have N11 := Fr.snoc X11 N10 gzb1
  have V11 : Arv Z h11 b1 k1 .byte (18 : Int32) [(.int (nar .byte (p4.toInt8.toInt32))), (.int (nar .byte (p4.toInt8.toInt32))), (.int (nar .byte (p4.toInt8.toInt32))), (.int (nar .byte (p4.toInt8.toInt32))), (.int (nar .byte (p4.toInt8.toInt32))), (.int (nar .byte (p4.toInt8.toInt32))), (.int (nar .byte (p4.toInt8.toInt32))), (.int (nar .byte (p4.toInt8.toInt32))), (.int (nar .byte (p4.toInt8.toInt32))), (.int (nar .byte (p4.toInt8.toInt32))), (.int (0 : Int32)), (.int (0 : Int32)), (.int (0 : Int32)), (.int (0 : Int32)), (.int (0 : Int32)), (.int (0 : Int32)), (.int (0 : Int32)), (.int (0 : Int32))] (.int (0 : Int32)) := Arv.set Ar11 qk11 S11 M11 H11 G11 (fits_nar_byte _) W11 9 rfl (Nat.le_of_ble_eq_true rfl)
  show Gl _ _ _ _ _ _ _ (T11.setTop (mkF m 81 #[.val (.long q1), .second, .val (.int p2), .val (.int p3), .val (.int p4), .val (.long vv), .second, .val (.int aa), .val (.int (p4.toInt8.toInt32)), .unset, .unset, .unset, .unset, .unset] [(.ref b1)]))
  refine Gl.st (fun t k => XS.dup X11.here hx rfl (hb hby at_81) rfl rfl k) ?_
  show Gl _ _ _ _ _ _ _ (T11.setTop (mkF m 82 #[.val (.long q1), .second, .val (.int p2), .val (.int p3), .val (.int p4), .val (.long vv), .second, .val (.int aa), .val (.int (p4.toInt8.toInt32)), .unset, .unset, .unset, .unset, .unset] [(.ref b1), (.ref b1)]))
  refine Gl.st (fun t k => XS.bipush X11.here hx rfl (hb hby at_82) k) ?_
  show Gl _ _ _ _ _ _ _ (T11.setTop (mkF m 84 #[.val (.long q1), .second, .val (.int p2), .val (.int p3), .val (.int p4), .val (.long vv), .second, .val (.int aa), .val (.int (p4.toInt8.toInt32)), .unset, .unset, .unset, .unset, .unset] [(.int (10 : Int32)), (.ref b1), (.ref b1)]))
  refine Gl.st (fun t k => XS.iload X11.here hx rfl (hb hby at_84) rfl  k) ?_
  show Gl _ _ _ _ _ _ _ (T11.setTop (mkF m 86 #[.val (.long q1), .second, .val (.int p2), .val (.int p3), .val (.int p4), .val (.long vv), .second, .val (.int aa), .val (.int (p4.toInt8.toInt32)), .unset, .unset, .unset, .unset, .unset] [(.int (p4.toInt8.toInt32)), (.int (10 : Int32)), (.ref b1), (.ref b1)]))
  have Vx12 := V11
  obtain ⟨cl12, Ar12, qk12, S12, M12, H12, G12⟩ := Vx12
  have hin12 : ¬ ((10 : Int32) < 0 ∨ cl12.slots.size ≤ ((10 : Int32)).toNatClampNeg) := inb_of S12 ⟨by decide, by decide⟩
  obtain ⟨T12, h12, X12, e12, W12, st12⟩ := stB X11 hx hZ e11 Ar12 (j := (10 : Int32)) hin12 (g := (mkF m 86 #[.val (.long q1), .second, .val (.int p2), .val (.int p3), .val (.int p4), .val (.long vv), .second, .val (.int aa), .val (.int (p4.toInt8.toInt32)), .unset, .unset, .unset, .unset, .unset] [(.int (p4.toInt8.toInt32)), (.int (10 : Int32)), (.ref b1), (.ref b1)])) rfl rfl (hb hby at_86)
  refine Gl.st st12 ?_
  have Z12 : n0 ≤ h12.size := Nat.le_trans Z11 (Keep.of_wr W12).1
  have N12 := Fr.snoc X12 N11 gzb1
  have V12 : Arv Z h12 b1 k1 .byte (18 : Int32) [(.int (nar .byte (p4.toInt8.toInt32))), (.int (nar .byte (p4.toInt8.toInt32))), (.int (nar .byte (p4.toInt8.toInt32))), (.int (nar .byte (p4.toInt8.toInt32))), (.int (nar .byte (p4.toInt8.toInt32))), (.int (nar .byte (p4.toInt8.toInt32))), (.int (nar .byte (p4.toInt8.toInt32))), (.int (nar .byte (p4.toInt8.toInt32))), (.int (nar .byte (p4.toInt8.toInt32))), (.int (nar .byte (p4.toInt8.toInt32))), (.int (nar .byte (p4.toInt8.toInt32))), (.int (0 : Int32)), (.int (0 : Int32)), (.int (0 : Int32)), (.int (0 : Int32)), (.int (0 : Int32)), (.int (0 : Int32)), (.int (0 : Int32))] (.int (0 : Int32)) := Arv.set Ar12 qk12 S12 M12 H12 G12 (fits_nar_byte _) W12 10 rfl (Nat.le_of_ble_eq_true rfl)
  show Gl _ _ _ _ _ _ _ (T12.setTop (mkF m 87 #[.val (.long q1), .second, .val (.int p2), .val (.int p3), .val (.int p4), .val (.long vv), .second, .val (.int aa), .val (.int (p4.toInt8.toInt32)), .unset, .unset, .unset, .unset, .unset] [(.ref b1)]))
  refine Gl.st (fun t k => XS.dup X12.here hx rfl (hb hby at_87) rfl rfl k) ?_
  show Gl _ _ _ _ _ _ _ (T12.setTop (mkF m 88 #[.val (.long q1), .second, .val (.int p2), .val (.int p3), .val (.int p4), .val (.long vv), .second, .val (.int aa), .val (.int (p4.toInt8.toInt32)), .unset, .unset, .unset, .unset, .unset] [(.ref b1), (.ref b1)]))
  refine Gl.st (fun t k => XS.bipush X12.here hx rfl (hb hby at_88) k) ?_
  show Gl _ _ _ _ _ _ _ (T12.setTop (mkF m 90 #[.val (.long q1), .second, .val (.int p2), .val (.int p3), .val (.int p4), .val (.long vv), .second, .val (.int aa), .val (.int (p4.toInt8.toInt32)), .unset, .unset, .unset, .unset, .unset] [(.int (11 : Int32)), (.ref b1), (.ref b1)]))
  refine Gl.st (fun t k => XS.iload X12.here hx rfl (hb hby at_90) rfl  k) ?_
  show Gl _ _ _ _ _ _ _ (T12.setTop (mkF m 92 #[.val (.long q1), .second, .val (.int p2), .val (.int p3), .val (.int p4), .val (.long vv), .second, .val (.int aa), .val (.int (p4.toInt8.toInt32)), .unset, .unset, .unset, .unset, .unset] [(.int (p4.toInt8.toInt32)), (.int (11 : Int32)), (.ref b1), (.ref b1)]))
  have Vx13 := V12
  obtain ⟨cl13, Ar13, qk13, S13, M13, H13, G13⟩ := Vx13
  have hin13 : ¬ ((11 : Int32) < 0 ∨ cl13.slots.size ≤ ((11 : Int32)).toNatClampNeg) := inb_of S13 ⟨by decide, by decide⟩
  obtain ⟨T13, h13, X13, e13, W13, st13⟩ := stB X12 hx hZ e12 Ar13 (j := (11 : Int32)) hin13 (g := (mkF m 92 #[.val (.long q1), .second, .val (.int p2), .val (.int p3), .val (.int p4), .val (.long vv), .second, .val (.int aa), .val (.int (p4.toInt8.toInt32)), .unset, .unset, .unset, .unset, .unset] [(.int (p4.toInt8.toInt32)), (.int (11 : Int32)), (.ref b1), (.ref b1)])) rfl rfl (hb hby at_92)
  refine Gl.st st13 ?_
  have Z13 : n0 ≤ h13.size := Nat.le_trans Z12 (Keep.of_wr W13).1
  have N13 := Fr.snoc X13 N12 gzb1
  have V13 : Arv Z h13 b1 k1 .byte (18 : Int32) [(.int (nar .byte (p4.toInt8.toInt32))), (.int (nar .byte (p4.toInt8.toInt32))), (.int (nar .byte (p4.toInt8.toInt32))), (.int (nar .byte (p4.toInt8.toInt32))), (.int (nar .byte (p4.toInt8.toInt32))), (.int (nar .byte (p4.toInt8.toInt32))), (.int (nar .byte (p4.toInt8.toInt32))), (.int (nar .byte (p4.toInt8.toInt32))), (.int (nar .byte (p4.toInt8.toInt32))), (.int (nar .byte (p4.toInt8.toInt32))), (.int (nar .byte (p4.toInt8.toInt32))), (.int (nar .byte (p4.toInt8.toInt32))), (.int (0 : Int32)), (.int (0 : Int32)), (.int (0 : Int32)), (.int (0 : Int32)), (.int (0 : Int32)), (.int (0 : Int32))] (.int (0 : Int32)) := Arv.set Ar13 qk13 S13 M13 H13 G13 (fits_nar_byte _) W13 11 rfl (Nat.le_of_ble_eq_true rfl)
  show Gl _ _ _ _ _ _ _ (T13.setTop (mkF m 93 #[.val (.long q1), .second, .val (.int p2), .val (.int p3), .val (.int p4), .val (.long vv), .second, .val (.int aa), .val (.int (p4.toInt8.toInt32)), .unset, .unset, .unset, .unset, .unset] [(.ref b1)]))
  refine Gl.st (fun t k => XS.dup X13.here hx rfl (hb hby at_93) rfl rfl k) ?_
  show Gl _ _ _ _ _ _ _ (T13.setTop (mkF m 94 #[.val (.long q1), .second, .val (.int p2), .val (.int p3), .val (.int p4), .val (.long vv), .second, .val (.int aa), .val (.int (p4.toInt8.toInt32)), .unset, .unset, .unset, .unset, .unset] [(.ref b1), (.ref b1)]))
  refine Gl.st (fun t k => XS.bipush X13.here hx rfl (hb hby at_94) k) ?_
  show Gl _ _ _ _ _ _ _ (T13.setTop (mkF m 96 #[.val (.long q1), .second, .val (.int p2), .val (.int p3), .val (.int p4), .val (.long vv), .second, .val (.int aa), .val (.int (p4.toInt8.toInt32)), .unset, .unset, .unset, .unset, .unset] [(.int (12 : Int32)), (.ref b1), (.ref b1)]))
  refine Gl.st (fun t k => XS.iload X13.here hx rfl (hb hby at_96) rfl  k) ?_
  show Gl _ _ _ _ _ _ _ (T13.setTop (mkF m 98 #[.val (.long q1), .second, .val (.int p2), .val (.int p3), .val (.int p4), .val (.long vv), .second, .val (.int aa), .val (.int (p4.toInt8.toInt32)), .unset, .unset, .unset, .unset, .unset] [(.int (p4.toInt8.toInt32)), (.int (12 : Int32)), (.ref b1), (.ref b1)]))
  have Vx14 := V13
  obtain ⟨cl14, Ar14, qk14, S14, M14, H14, G14⟩ := Vx14
  have hin14 : ¬ ((12 : Int32) < 0 ∨ cl14.slots.size ≤ ((12 : Int32)).toNatClampNeg) := inb_of S14 ⟨by decide, by decide⟩
  obtain ⟨T14, h14, X14, e14, W14, st14⟩ := stB X13 hx hZ e13 Ar14 (j := (12 : Int32)) hin14 (g := (mkF m 98 #[.val (.long q1), .second, .val (.int p2), .val (.int p3), .val (.int p4), .val (.long vv), .second, .val (.int aa), .val (.int (p4.toInt8.toInt32)), .unset, .unset, .unset, .unset, .unset] [(.int (p4.toInt8.toInt32)), (.int (12 : Int32)), (.ref b1), (.ref b1)])) rfl rfl (hb hby at_98)
  refine Gl.st st14 ?_
  have Z14 : n0 ≤ h14.size := Nat.le_trans Z13 (Keep.of_wr W14).1
  have N14 := Fr.snoc X14 N13 gzb1
  have V14 : Arv Z h14 b1 k1 .byte (18 : Int32) [(.int (nar .byte (p4.toInt8.toInt32))), (.int (nar .byte (p4.toInt8.toInt32))), (.int (nar .byte (p4.toInt8.toInt32))), (.int (nar .byte (p4.toInt8.toInt32))), (.int (nar .byte (p4.toInt8.toInt32))), (.int (nar .byte (p4.toInt8.toInt32))), (.int (nar .byte (p4.toInt8.toInt32))), (.int (nar .byte (p4.toInt8.toInt32))), (.int (nar .byte (p4.toInt8.toInt32))), (.int (nar .byte (p4.toInt8.toInt32))), (.int (nar .byte (p4.toInt8.toInt32))), (.int (nar .byte (p4.toInt8.toInt32))), (.int (nar .byte (p4.toInt8.toInt32))), (.int (0 : Int32)), (.int (0 : Int32)), (.int (0 : Int32)), (.int (0 : Int32)), (.int (0 : Int32))] (.int (0 : Int32)) := Arv.set Ar14 qk14 S14 M14 H14 G14 (fits_nar_byte _) W14 12 rfl (Nat.le_of_ble_eq_true rfl)
  show Gl _ _ _ _ _ _ _ (T14.setTop (mkF m 99 #[.val (.long q1), .second, .val (.int p2), .val (.int p3), .val (.int p4), .val (.long vv), .second, .val (.int aa), .val (.int (p4.toInt8.toInt32)), .unset, .unset, .unset, .unset, .unset] [(.ref b1)]))
  refine Gl.st (fun t k => XS.dup X14.here hx rfl (hb hby at_99) rfl rfl k) ?_
  show Gl _ _ _ _ _ _ _ (T14.setTop (mkF m 100 #[.val (.long q1), .second, .val (.int p2), .val (.int p3), .val (.int p4), .val (.long vv), .second, .val (.int aa), .val (.int (p4.toInt8.toInt32)), .unset, .unset, .unset, .unset, .unset] [(.ref b1), (.ref b1)]))
  refine Gl.st (fun t k => XS.bipush X14.here hx rfl (hb hby at_100) k) ?_
  show Gl _ _ _ _ _ _ _ (T14.setTop (mkF m 102 #[.val (.long q1), .second, .val (.int p2), .val (.int p3), .val (.int p4), .val (.long vv), .second, .val (.int aa), .val (.int (p4.toInt8.toInt32)), .unset, .unset, .unset, .unset, .unset] [(.int (13 : Int32)), (.ref b1), (.ref b1)]))
  refine Gl.st (fun t k => XS.iload X14.here hx rfl (hb hby at_102) rfl  k) ?_
  show Gl _ _ _ _ _ _ _ (T14.setTop (mkF m 104 #[.val (.long q1), .second, .val (.int p2), .val (.int p3), .val (.int p4), .val (.long vv), .second, .val (.int aa), .val (.int (p4.toInt8.toInt32)), .unset, .unset, .unset, .unset, .unset] [(.int (p4.toInt8.toInt32)), (.int (13 : Int32)), (.ref b1), (.ref b1)]))
  have Vx15 := V14
  obtain ⟨cl15, Ar15, qk15, S15, M15, H15, G15⟩ := Vx15
  have hin15 : ¬ ((13 : Int32) < 0 ∨ cl15.slots.size ≤ ((13 : Int32)).toNatClampNeg) := inb_of S15 ⟨by decide, by decide⟩
  obtain ⟨T15, h15, X15, e15, W15, st15⟩ := stB X14 hx hZ e14 Ar15 (j := (13 : Int32)) hin15 (g := (mkF m 104 #[.val (.long q1), .second, .val (.int p2), .val (.int p3), .val (.int p4), .val (.long vv), .second, .val (.int aa), .val (.int (p4.toInt8.toInt32)), .unset, .unset, .unset, .unset, .unset] [(.int (p4.toInt8.toInt32)), (.int (13 : Int32)), (.ref b1), (.ref b1)])) rfl rfl (hb hby at_104)
  refine Gl.st st15 ?_
  have Z15 : n0 ≤ h15.size := Nat.le_trans Z14 (Keep.of_wr W15).1
  have N15 := Fr.snoc X15 N14 gzb1
  have V15 : Arv Z h15 b1 k1 .byte (18 : Int32) [(.int (nar .byte (p4.toInt8.toInt32))), (.int (nar .byte (p4.toInt8.toInt32))), (.int (nar .byte (p4.toInt8.toInt32))), (.int (nar .byte (p4.toInt8.toInt32))), (.int (nar .byte (p4.toInt8.toInt32))), (.int (nar .byte (p4.toInt8.toInt32))), (.int (nar .byte (p4.toInt8.toInt32))), (.int (nar .byte (p4.toInt8.toInt32))), (.int (nar .byte (p4.toInt8.toInt32))), (.int (nar .byte (p4.toInt8.toInt32))), (.int (nar .byte (p4.toInt8.toInt32))), (.int (nar .byte (p4.toInt8.toInt32))), (.int (nar .byte (p4.toInt8.toInt32))), (.int (nar .byte (p4.toInt8.toInt32))), (.int (0 : Int32)), (.int (0 : Int32)), (.int (0 : Int32)), (.int (0 : Int32))] (.int (0 : Int32)) := Arv.set Ar15 qk15 S15 M15 H15 G15 (fits_nar_byte _) W15 13 rfl (Nat.le_of_ble_eq_true rfl)
  show Gl _ _ _ _ _ _ _ (T15.setTop (mkF m 105 #[.val (.long q1), .second, .val (.int p2), .val (.int p3), .val (.int p4), .val (.long vv), .second, .val (.int aa), .val (.int (p4.toInt8.toInt32)), .unset, .unset, .unset, .unset, .unset] [(.ref b1)]))
  refine Gl.st (fun t k => XS.dup X15.here hx rfl (hb hby at_105) rfl rfl k) ?_
  show Gl _ _ _ _ _ _ _ (T15.setTop (mkF m 106 #[.val (.long q1), .second, .val (.int p2), .val (.int p3), .val (.int p4), .val (.long vv), .second, .val (.int aa), .val (.int (p4.toInt8.toInt32)), .unset, .unset, .unset, .unset, .unset] [(.ref b1), (.ref b1)]))
  refine Gl.st (fun t k => XS.bipush X15.here hx rfl (hb hby at_106) k) ?_
  show Gl _ _ _ _ _ _ _ (T15.setTop (mkF m 108 #[.val (.long q1), .second, .val (.int p2), .val (.int p3), .val (.int p4), .val (.long vv), .second, .val (.int aa), .val (.int (p4.toInt8.toInt32)), .unset, .unset, .unset, .unset, .unset] [(.int (14 : Int32)), (.ref b1), (.ref b1)]))
  refine Gl.st (fun t k => XS.iload X15.here hx rfl (hb hby at_108) rfl  k) ?_
  show Gl _ _ _ _ _ _ _ (T15.setTop (mkF m 110 #[.val (.long q1), .second, .val (.int p2), .val (.int p3), .val (.int p4), .val (.long vv), .second, .val (.int aa), .val (.int (p4.toInt8.toInt32)), .unset, .unset, .unset, .unset, .unset] [(.int (p4.toInt8.toInt32)), (.int (14 : Int32)), (.ref b1), (.ref b1)]))
  have Vx16 := V15
  obtain ⟨cl16, Ar16, qk16, S16, M16, H16, G16⟩ := Vx16
  have hin16 : ¬ ((14 : Int32) < 0 ∨ cl16.slots.size ≤ ((14 : Int32)).toNatClampNeg) := inb_of S16 ⟨by decide, by decide⟩
  obtain ⟨T16, h16, X16, e16, W16, st16⟩ := stB X15 hx hZ e15 Ar16 (j := (14 : Int32)) hin16 (g := (mkF m 110 #[.val (.long q1), .second, .val (.int p2), .val (.int p3), .val (.int p4), .val (.long vv), .second, .val (.int aa), .val (.int (p4.toInt8.toInt32)), .unset, .unset, .unset, .unset, .unset] [(.int (p4.toInt8.toInt32)), (.int (14 : Int32)), (.ref b1), (.ref b1)])) rfl rfl (hb hby at_110)
  refine Gl.st st16 ?_
  have Z16 : n0 ≤ h16.size := Nat.le_trans Z15 (Keep.of_wr W16).1
  have N16 := Fr.snoc X16 N15 gzb1
  have V16 : Arv Z h16 b1 k1 .byte (18 : Int32) [(.int (nar .byte (p4.toInt8.toInt32))), (.int (nar .byte (p4.toInt8.toInt32))), (.int (nar .byte (p4.toInt8.toInt32))), (.int (nar .byte (p4.toInt8.toInt32))), (.int (nar .byte (p4.toInt8.toInt32))), (.int (nar .byte (p4.toInt8.toInt32))), (.int (nar .byte (p4.toInt8.toInt32))), (.int (nar .byte (p4.toInt8.toInt32))), (.int (nar .byte (p4.toInt8.toInt32))), (.int (nar .byte (p4.toInt8.toInt32))), (.int (nar .byte (p4.toInt8.toInt32))), (.int (nar .byte (p4.toInt8.toInt32))), (.int (nar .byte (p4.toInt8.toInt32))), (.int (nar .byte (p4.toInt8.toInt32))), (.int (nar .byte (p4.toInt8.toInt32))), (.int (0 : Int32)), (.int (0 : Int32)), (.int (0 : Int32))] (.int (0 : Int32)) := Arv.set Ar16 qk16 S16 M16 H16 G16 (fits_nar_byte _) W16 14 rfl (Nat.le_of_ble_eq_true rfl)
  show Gl _ _ _ _ _ _ _ (T16.setTop (mkF m 111 #[.val (.long q1), .second, .val (.int p2), .val (.int p3), .val (.int p4), .val (.long vv), .second, .val (.int aa), .val (.int (p4.toInt8.toInt32)), .unset, .unset, .unset, .unset, .unset] [(.ref b1)]))
  refine Gl.st (fun t k => XS.dup X16.here hx rfl (hb hby at_111) rfl rfl k) ?_
  show Gl _ _ _ _ _ _ _ (T16.setTop (mkF m 112 #[.val (.long q1), .second, .val (.int p2), .val (.int p3), .val (.int p4), .val (.long vv), .second, .val (.int aa), .val (.int (p4.toInt8.toInt32)), .unset, .unset, .unset, .unset, .unset] [(.ref b1), (.ref b1)]))
  refine Gl.st (fun t k => XS.bipush X16.here hx rfl (hb hby at_112) k) ?_
  show Gl _ _ _ _ _ _ _ (T16.setTop (mkF m 114 #[.val (.long q1), .second, .val (.int p2), .val (.int p3), .val (.int p4), .val (.long vv), .second, .val (.int aa), .val (.int (p4.toInt8.toInt32)), .unset, .unset, .unset, .unset, .unset] [(.int (15 : Int32)), (.ref b1), (.ref b1)]))
  refine Gl.st (fun t k => XS.iload X16.here hx rfl (hb hby at_114) rfl  k) ?_
  show Gl _ _ _ _ _ _ _ (T16.setTop (mkF m 116 #[.val (.long q1), .second, .val (.int p2), .val (.int p3), .val (.int p4), .val (.long vv), .second, .val (.int aa), .val (.int (p4.toInt8.toInt32)), .unset, .unset, .unset, .unset, .unset] [(.int (p4.toInt8.toInt32)), (.int (15 : Int32)), (.ref b1), (.ref b1)]))
  have Vx17 := V16
  obtain ⟨cl17, Ar17, qk17, S17, M17, H17, G17⟩ := Vx17
  have hin17 : ¬ ((15 : Int32) < 0 ∨ cl17.slots.size ≤ ((15 : Int32)).toNatClampNeg) := inb_of S17 ⟨by decide, by decide⟩
  obtain ⟨T17, h17, X17, e17, W17, st17⟩ := stB X16 hx hZ e16 Ar17 (j := (15 : Int32)) hin17 (g := (mkF m 116 #[.val (.long q1), .second, .val (.int p2), .val (.int p3), .val (.int p4), .val (.long vv), .second, .val (.int aa), .val (.int (p4.toInt8.toInt32)), .unset, .unset, .unset, .unset, .unset] [(.int (p4.toInt8.toInt32)), (.int (15 : Int32)), (.ref b1), (.ref b1)])) rfl rfl (hb hby at_116)
  refine Gl.st st17 ?_
  have Z17 : n0 ≤ h17.size := Nat.le_trans Z16 (Keep.of_wr W17).1
  have N17 := Fr.snoc X17 N16 gzb1
  have V17 : Arv Z h17 b1 k1 .byte (18 : Int32) [(.int (nar .byte (p4.toInt8.toInt32))), (.int (nar .byte (p4.toInt8.toInt32))), (.int (nar .byte (p4.toInt8.toInt32))), (.int (nar .byte (p4.toInt8.toInt32))), (.int (nar .byte (p4.toInt8.toInt32))), (.int (nar .byte (p4.toInt8.toInt32))), (.int (nar .byte (p4.toInt8.toInt32))), (.int (nar .byte (p4.toInt8.toInt32))), (.int (nar .byte (p4.toInt8.toInt32))), (.int (nar .byte (p4.toInt8.toInt32))), (.int (nar .byte (p4.toInt8.toInt32))), (.int (nar .byte (p4.toInt8.toInt32))), (.int (nar .byte (p4.toInt8.toInt32))), (.int (nar .byte (p4.toInt8.toInt32))), (.int (nar .byte (p4.toInt8.toInt32))), (.int (nar .byte (p4.toInt8.toInt32))), (.int (0 : Int32)), (.int (0 : Int32))] (.int (0 : Int32)) := Arv.set Ar17 qk17 S17 M17 H17 G17 (fits_nar_byte _) W17 15 rfl (Nat.le_of_ble_eq_true rfl)
  show Gl _ _ _ _ _ _ _ (T17.setTop (mkF m 117 #[.val (.long q1), .second, .val (.int p2), .val (.int p3), .val (.int p4), .val (.long vv), .second, .val (.int aa), .val (.int (p4.toInt8.toInt32)), .unset, .unset, .unset, .unset, .unset] [(.ref b1)]))
  refine Gl.st (fun t k => XS.dup X17.here hx rfl (hb hby at_117) rfl rfl k) ?_
  show Gl _ _ _ _ _ _ _ (T17.setTop (mkF m 118 #[.val (.long q1), .second, .val (.int p2), .val (.int p3), .val (.int p4), .val (.long vv), .second, .val (.int aa), .val (.int (p4.toInt8.toInt32)), .unset, .unset, .unset, .unset, .unset] [(.ref b1), (.ref b1)]))
  refine Gl.st (fun t k => XS.bipush X17.here hx rfl (hb hby at_118) k) ?_
  show Gl _ _ _ _ _ _ _ (T17.setTop (mkF m 120 #[.val (.long q1), .second, .val (.int p2), .val (.int p3), .val (.int p4), .val (.long vv), .second, .val (.int aa), .val (.int (p4.toInt8.toInt32)), .unset, .unset, .unset, .unset, .unset] [(.int (16 : Int32)), (.ref b1), (.ref b1)]))
  refine Gl.st (fun t k => XS.iload X17.here hx rfl (hb hby at_120) rfl  k) ?_
  show Gl _ _ _ _ _ _ _ (T17.setTop (mkF m 122 #[.val (.long q1), .second, .val (.int p2), .val (.int p3), .val (.int p4), .val (.long vv), .second, .val (.int aa), .val (.int (p4.toInt8.toInt32)), .unset, .unset, .unset, .unset, .unset] [(.int (p4.toInt8.toInt32)), (.int (16 : Int32)), (.ref b1), (.ref b1)]))
  have Vx18 := V17
  obtain ⟨cl18, Ar18, qk18, S18, M18, H18, G18⟩ := Vx18
  have hin18 : ¬ ((16 : Int32) < 0 ∨ cl18.slots.size ≤ ((16 : Int32)).toNatClampNeg) := inb_of S18 ⟨by decide, by decide⟩
  obtain ⟨T18, h18, X18, e18, W18, st18⟩ := stB X17 hx hZ e17 Ar18 (j := (16 : Int32)) hin18 (g := (mkF m 122 #[.val (.long q1), .second, .val (.int p2), .val (.int p3), .val (.int p4), .val (.long vv), .second, .val (.int aa), .val (.int (p4.toInt8.toInt32)), .unset, .unset, .unset, .unset, .unset] [(.int (p4.toInt8.toInt32)), (.int (16 : Int32)), (.ref b1), (.ref b1)])) rfl rfl (hb hby at_122)
  refine Gl.st st18 ?_
  have Z18 : n0 ≤ h18.size := Nat.le_trans Z17 (Keep.of_wr W18).1
  have N18 := Fr.snoc X18 N17 gzb1
  have V18 : Arv Z h18 b1 k1 .byte (18 : Int32) [(.int (nar .byte (p4.toInt8.toInt32))), (.int (nar .byte (p4.toInt8.toInt32))), (.int (nar .byte (p4.toInt8.toInt32))), (.int (nar .byte (p4.toInt8.toInt32))), (.int (nar .byte (p4.toInt8.toInt32))), (.int (nar .byte (p4.toInt8.toInt32))), (.int (nar .byte (p4.toInt8.toInt32))), (.int (nar .byte (p4.toInt8.toInt32))), (.int (nar .byte (p4.toInt8.toInt32))), (.int (nar .byte (p4.toInt8.toInt32))), (.int (nar .byte (p4.toInt8.toInt32))), (.int (nar .byte (p4.toInt8.toInt32))), (.int (nar .byte (p4.toInt8.toInt32))), (.int (nar .byte (p4.toInt8.toInt32))), (.int (nar .byte (p4.toInt8.toInt32))), (.int (nar .byte (p4.toInt8.toInt32))), (.int (nar .byte (p4.toInt8.toInt32))), (.int (0 : Int32))] (.int (0 : Int32)) := Arv.set Ar18 qk18 S18 M18 H18 G18 (fits_nar_byte _) W18 16 rfl (Nat.le_of_ble_eq_true rfl)
  show Gl _ _ _ _ _ _ _ (T18.setTop (mkF m 123 #[.val (.long q1), .second, .val (.int p2), .val (.int p3), .val (.int p4), .val (.long vv), .second, .val (.int aa), .val (.int (p4.toInt8.toInt32)), .unset, .unset, .unset, .unset, .unset] [(.ref b1)]))
  refine Gl.st (fun t k => XS.dup X18.here hx rfl (hb hby at_123) rfl rfl k) ?_
  show Gl _ _ _ _ _ _ _ (T18.setTop (mkF m 124 #[.val (.long q1), .second, .val (.int p2), .val (.int p3), .val (.int p4), .val (.long vv), .second, .val (.int aa), .val (.int (p4.toInt8.toInt32)), .unset, .unset, .unset, .unset, .unset] [(.ref b1), (.ref b1)]))
  refine Gl.st (fun t k => XS.bipush X18.here hx rfl (hb hby at_124) k) ?_
  show Gl _ _ _ _ _ _ _ (T18.setTop (mkF m 126 #[.val (.long q1), .second, .val (.int p2), .val (.int p3), .val (.int p4), .val (.long vv), .second, .val (.int aa), .val (.int (p4.toInt8.toInt32)), .unset, .unset, .unset, .unset, .unset] [(.int (17 : Int32)), (.ref b1), (.ref b1)]))
  refine Gl.st (fun t k => XS.iload X18.here hx rfl (hb hby at_126) rfl  k) ?_
  show Gl _ _ _ _ _ _ _ (T18.setTop (mkF m 128 #[.val (.long q1), .second, .val (.int p2), .val (.int p3), .val (.int p4), .val (.long vv), .second, .val (.int aa), .val (.int (p4.toInt8.toInt32)), .unset, .unset, .unset, .unset, .unset] [(.int (p4.toInt8.toInt32)), (.int (17 : Int32)), (.ref b1), (.ref b1)]))
  have Vx19 := V18
  obtain ⟨cl19, Ar19, qk19, S19, M19, H19, G19⟩ := Vx19
  have hin19 : ¬ ((17 : Int32) < 0 ∨ cl19.slots.size ≤ ((17 : Int32)).toNatClampNeg) := inb_of S19 ⟨by decide, by decide⟩
  obtain ⟨T19, h19, X19, e19, W19, st19⟩ := stB X18 hx hZ e18 Ar19 (j := (17 : Int32)) hin19 (g := (mkF m 128 #[.val (.long q1), .second, .val (.int p2), .val (.int p3), .val (.int p4), .val (.long vv), .second, .val (.int aa), .val (.int (p4.toInt8.toInt32)), .unset, .unset, .unset, .unset, .unset] [(.int (p4.toInt8.toInt32)), (.int (17 : Int32)), (.ref b1), (.ref b1)])) rfl rfl (hb hby at_128)
  refine Gl.st st19 ?_
  have Z19 : n0 ≤ h19.size := Nat.le_trans Z18 (Keep.of_wr W19).1
  have N19 := Fr.snoc X19 N18 gzb1
  have V19 : Arv Z h19 b1 k1 .byte (18 : Int32) [(.int (nar .byte (p4.toInt8.toInt32))), (.int (nar .byte (p4.toInt8.toInt32))), (.int (nar .byte (p4.toInt8.toInt32))), (.int (nar .byte (p4.toInt8.toInt32))), (.int (nar .byte (p4.toInt8.toInt32))), (.int (nar .byte (p4.toInt8.toInt32))), (.int (nar .byte (p4.toInt8.toInt32))), (.int (nar .byte (p4.toInt8.toInt32))), (.int (nar .byte (p4.toInt8.toInt32))), (.int (nar .byte (p4.toInt8.toInt32))), (.int (nar .byte (p4.toInt8.toInt32))), (.int (nar .byte (p4.toInt8.toInt32))), (.int (nar .byte (p4.toInt8.toInt32))), (.int (nar .byte (p4.toInt8.toInt32))), (.int (nar .byte (p4.toInt8.toInt32))), (.int (nar .byte (p4.toInt8.toInt32))), (.int (nar .byte (p4.toInt8.toInt32))), (.int (nar .byte (p4.toInt8.toInt32)))] (.int (0 : Int32)) := Arv.set Ar19 qk19 S19 M19 H19 G19 (fits_nar_byte _) W19 17 rfl (Nat.le_of_ble_eq_true rfl)
  show Gl _ _ _ _ _ _ _ (T19.setTop (mkF m 129 #[.val (.long q1), .second, .val (.int p2), .val (.int p3), .val (.int p4), .val (.long vv), .second, .val (.int aa), .val (.int (p4.toInt8.toInt32)), .unset, .unset, .unset, .unset, .unset] [(.ref b1)]))
  refine Gl.st (fun t k => XS.astore X19.here hx rfl (hb hby at_129) rfl rfl (l' := #[.val (.long q1), .second, .val (.int p2), .val (.int p3), .val (.int p4), .val (.long vv), .second, .val (.int aa), .val (.int (p4.toInt8.toInt32)), .val (.ref b1), .unset, .unset, .unset, .unset]) rfl k) ?_
  have hvv2 : 0 ≤ vv.toInt := by rw [hvv]; exact own_value _ _
  have haa2 : 0 ≤ aa.toInt ∧ aa.toInt ≤ 7 := by rw [haa]; exact own_at8 _
  have hls := own_len_spec vv hvv2
  have hpj : aa.toInt = (aa.toInt.toNat : Int) := (Int.toNat_of_nonneg haa2.1).symm
  have hpv : vv.toInt = (vv.toInt.toNat : Int) := (Int.toNat_of_nonneg hvv2).symm
  have hpV := hls.2.2.1
  have hpn1 : 1 ≤ (own_len vv).toInt.toNat := by omega
  have hpn2 := hls.2.2.2
  have hpjn : aa.toInt.toNat + (own_len vv).toInt.toNat ≤ 18 := by omega
  have hpn9 : (own_len vv).toInt.toNat ≤ 9 := by omega
  have hpE : (18 : Int32).toInt ≤ 18 := by decide
  show Gl _ _ _ _ _ _ _ (T19.setTop (mkF m 131 #[.val (.long q1), .second, .val (.int p2), .val (.int p3), .val (.int p4), .val (.long vv), .second, .val (.int aa), .val (.int (p4.toInt8.toInt32)), .val (.ref b1), .unset, .unset, .unset, .unset] []))
  refine Gl.st (fun t k => XS.aload X19.here hx rfl (hb hby at_131) rfl rfl k) ?_
  show Gl _ _ _ _ _ _ _ (T19.setTop (mkF m 133 #[.val (.long q1), .second, .val (.int p2), .val (.int p3), .val (.int p4), .val (.long vv), .second, .val (.int aa), .val (.int (p4.toInt8.toInt32)), .val (.ref b1), .unset, .unset, .unset, .unset] [(.ref b1)]))
  refine Gl.st (fun t k => XS.iload X19.here hx rfl (hb hby at_133) rfl  k) ?_
  show Gl _ _ _ _ _ _ _ (T19.setTop (mkF m 135 #[.val (.long q1), .second, .val (.int p2), .val (.int p3), .val (.int p4), .val (.long vv), .second, .val (.int aa), .val (.int (p4.toInt8.toInt32)), .val (.ref b1), .unset, .unset, .unset, .unset] [(.int aa), (.ref b1)]))
  refine Gl.st (fun t k => XS.lload X19.here hx rfl (hb hby at_135) rfl  k) ?_
  show Gl _ _ _ _ _ _ _ (T19.setTop (mkF m 137 #[.val (.long q1), .second, .val (.int p2), .val (.int p3), .val (.int p4), .val (.long vv), .second, .val (.int aa), .val (.int (p4.toInt8.toInt32)), .val (.ref b1), .unset, .unset, .unset, .unset] [(.long vv), (.int aa), (.ref b1)]))
  obtain ⟨_, _, ⟨T20, L20, k20, n20⟩, -, X20, ⟨Lc20, hQ20, l20, y20, z20⟩, st20⟩ := Jvm.LawKit.callS X19 hx (y := (⟨"com/example/millrace/millrace/storage/PackedGroups", "put", "([BIJ)I"⟩ : MethodName)) hown (mvT hZ (hw _ (List.mem_of_getElem? (i := 2) rfl))) (mvT hZ (hw _ (List.mem_of_getElem? (i := 3) rfl))) (mvT hZ (hw _ (List.mem_of_getElem? (i := 4) rfl))) (mvT hZ (hw _ (List.mem_of_getElem? (i := 5) rfl))) (by decide) (backOf (W := 0) (rm1 l Z a0 hw [] b1 aa vv (k1) ([(nar .byte (p4.toInt8.toInt32)), (nar .byte (p4.toInt8.toInt32)), (nar .byte (p4.toInt8.toInt32)), (nar .byte (p4.toInt8.toInt32)), (nar .byte (p4.toInt8.toInt32)), (nar .byte (p4.toInt8.toInt32)), (nar .byte (p4.toInt8.toInt32)), (nar .byte (p4.toInt8.toInt32)), (nar .byte (p4.toInt8.toInt32)), (nar .byte (p4.toInt8.toInt32)), (nar .byte (p4.toInt8.toInt32)), (nar .byte (p4.toInt8.toInt32)), (nar .byte (p4.toInt8.toInt32)), (nar .byte (p4.toInt8.toInt32)), (nar .byte (p4.toInt8.toInt32)), (nar .byte (p4.toInt8.toInt32)), (nar .byte (p4.toInt8.toInt32)), (nar .byte (p4.toInt8.toInt32))]) (aa.toInt.toNat) ((own_len vv).toInt.toNat) (vv.toInt.toNat) h19 n0 Z19 V19 gzb1 hpj hpv hpV hpn1 hpn2 hpjn rfl) hZ (hw _ (List.mem_of_getElem? (i := 5) rfl)) (hw _ (List.mem_of_getElem? (i := 4) rfl)) (by decide) (by decide)) (g := (mkF m 137 #[.val (.long q1), .second, .val (.int p2), .val (.int p3), .val (.int p4), .val (.long vv), .second, .val (.int aa), .val (.int (p4.toInt8.toInt32)), .val (.ref b1), .unset, .unset, .unset, .unset] [(.long vv), (.int aa), (.ref b1)])) rfl (by rw [hml]; rfl) (argsL := [(.ref b1), (.int aa), (.long vv)]) (rest := []) (lenOf pd_0 rfl) rfl (by show 2 * 0 + _ ≤ _; exact Nat.le_of_eq rfl) (hb hby at_137) (fun _ _ => ⟨rfl, e19, (by decide : 1 + 0 ≤ _), (by decide : 18 + 0 ≤ _)⟩)
  dsimp only [Pt.U, Pt.locs, Pt.cells, Pt.slots] at X20 l20 y20 z20 st20 hQ20
  rw [y20, z20] at X20
  obtain ⟨rfl, N20q, Kq20, vo_20, Fq20_0, Pq20_0, Pq20_1, Pq20_2⟩ := hQ20
  have N20 : Fr n0 L20 := by rw [l20]; exact Fr.app N19 N20q
  have Z20 : n0 ≤ T20.heap.size := Nat.le_trans Z19 Kq20.1
  refine Gl.st st20 ?_
  show Gl _ _ _ _ _ _ _ (T20.setTop (mkF m 140 #[.val (.long q1), .second, .val (.int p2), .val (.int p3), .val (.int p4), .val (.long vv), .second, .val (.int aa), .val (.int (p4.toInt8.toInt32)), .val (.ref b1), .unset, .unset, .unset, .unset] [(.int (Int32.ofInt ((aa.toInt.toNat + (own_len vv).toInt.toNat : Nat) : Int)))]))
  refine Gl.st (fun t k => XS.istore X20.here hx rfl (hb hby at_140) rfl (l' := #[.val (.long q1), .second, .val (.int p2), .val (.int p3), .val (.int p4), .val (.long vv), .second, .val (.int aa), .val (.int (p4.toInt8.toInt32)), .val (.ref b1), .val (.int (Int32.ofInt ((aa.toInt.toNat + (own_len vv).toInt.toNat : Nat) : Int))), .unset, .unset, .unset]) rfl k) ?_
  show Gl _ _ _ _ _ _ _ (T20.setTop (mkF m 142 #[.val (.long q1), .second, .val (.int p2), .val (.int p3), .val (.int p4), .val (.long vv), .second, .val (.int aa), .val (.int (p4.toInt8.toInt32)), .val (.ref b1), .val (.int (Int32.ofInt ((aa.toInt.toNat + (own_len vv).toInt.toNat : Nat) : Int))), .unset, .unset, .unset] []))
  obtain ⟨nx, hnx⟩ : ∃ z : Int32, z = (Int32.ofInt ((aa.toInt.toNat + (own_len vv).toInt.toNat : Nat) : Int)) := ⟨_, rfl⟩
  rw [← hnx]
  have hpB := Pq20_1
  have hpO := Pq20_2
  have hnx2 : nx.toInt = ((aa.toInt.toNat + (own_len vv).toInt.toNat : Nat) : Int) := by rw [hnx]; exact own_toOf (by omega)
  show Gl _ _ _ _ _ _ _ (T20.setTop (mkF m 142 #[.val (.long q1), .second, .val (.int p2), .val (.int p3), .val (.int p4), .val (.long vv), .second, .val (.int aa), .val (.int (p4.toInt8.toInt32)), .val (.ref b1), .val (.int nx), .unset, .unset, .unset] []))
  refine Gl.st (fun t k => XS.iload X20.here hx rfl (hb hby at_142) rfl  k) ?_
  show Gl _ _ _ _ _ _ _ (T20.setTop (mkF m 144 #[.val (.long q1), .second, .val (.int p2), .val (.int p3), .val (.int p4), .val (.long vv), .second, .val (.int aa), .val (.int (p4.toInt8.toInt32)), .val (.ref b1), .val (.int nx), .unset, .unset, .unset] [(.int nx)]))
  refine Gl.st (fun t k => XS.iload X20.here hx rfl (hb hby at_144) rfl  k) ?_
  show Gl _ _ _ _ _ _ _ (T20.setTop (mkF m 146 #[.val (.long q1), .second, .val (.int p2), .val (.int p3), .val (.int p4), .val (.long vv), .second, .val (.int aa), .val (.int (p4.toInt8.toInt32)), .val (.ref b1), .val (.int nx), .unset, .unset, .unset] [(.int aa), (.int nx)]))
  refine Gl.st (fun t k => XS.lload X20.here hx rfl (hb hby at_146) rfl  k) ?_
  show Gl _ _ _ _ _ _ _ (T20.setTop (mkF m 148 #[.val (.long q1), .second, .val (.int p2), .val (.int p3), .val (.int p4), .val (.long vv), .second, .val (.int aa), .val (.int (p4.toInt8.toInt32)), .val (.ref b1), .val (.int nx), .unset, .unset, .unset] [(.long vv), (.int aa), (.int nx)]))
  obtain ⟨_, _, ⟨T21, L21, k21, n21⟩, -, X21, ⟨Lc21, hQ21, l21, y21, z21⟩, st21⟩ := Jvm.LawKit.callS X20 hx (y := (⟨"com/example/millrace/millrace/storage/PackedGroupsPutPinLaw", "len", "(J)I"⟩ : MethodName)) hown (mvT hZ (hw _ (List.mem_of_getElem? (i := 7) rfl))) (mvT hZ (hw _ (List.mem_of_getElem? (i := 8) rfl))) (mvT hZ (hw _ (List.mem_of_getElem? (i := 9) rfl))) (mvT hZ (hw _ (List.mem_of_getElem? (i := 10) rfl))) (by decide) (backOf (W := 2) (rm2 l Z a0 hw [] vv T20.heap n0) hZ (hw _ (List.mem_of_getElem? (i := 10) rfl)) (hw _ (List.mem_of_getElem? (i := 9) rfl)) (by decide) (by decide)) (g := (mkF m 148 #[.val (.long q1), .second, .val (.int p2), .val (.int p3), .val (.int p4), .val (.long vv), .second, .val (.int aa), .val (.int (p4.toInt8.toInt32)), .val (.ref b1), .val (.int nx), .unset, .unset, .unset] [(.long vv), (.int aa), (.int nx)])) rfl (by rw [hml]; rfl) (argsL := [(.long vv)]) (rest := [(.int aa), (.int nx)]) (lenOf pd_1 rfl) rfl (by show 2 * 0 + _ ≤ _; exact Nat.le_of_eq rfl) (hb hby at_148) (fun _ _ => ⟨rfl, rfl, (by decide : 1 + 0 ≤ _), (by decide : 18 + 0 ≤ _)⟩)
  dsimp only [Pt.U, Pt.locs, Pt.cells, Pt.slots] at X21 l21 y21 z21 st21 hQ21
  rw [y21, z21] at X21
  obtain ⟨rfl, N21q, e21⟩ := hQ21
  have N21 : Fr n0 L21 := by rw [l21]; exact Fr.app N20 N21q
  refine Gl.st st21 ?_
  show Gl _ _ _ _ _ _ _ (T21.setTop (mkF m 151 #[.val (.long q1), .second, .val (.int p2), .val (.int p3), .val (.int p4), .val (.long vv), .second, .val (.int aa), .val (.int (p4.toInt8.toInt32)), .val (.ref b1), .val (.int nx), .unset, .unset, .unset] [(.int (own_len vv)), (.int aa), (.int nx)]))
  refine Gl.st (fun t k => XS.iadd X21.here hx rfl (hb hby at_151) rfl k) ?_
  show Gl _ _ _ _ _ _ _ (T21.setTop (mkF m 152 #[.val (.long q1), .second, .val (.int p2), .val (.int p3), .val (.int p4), .val (.long vv), .second, .val (.int aa), .val (.int (p4.toInt8.toInt32)), .val (.ref b1), .val (.int nx), .unset, .unset, .unset] [(.int (aa + (own_len vv))), (.int nx)]))
  have hc152_22 : nx = (aa + (own_len vv)) := by rw [← Int32.toInt_inj, hnx2]; have q := c_iadd aa (own_len vv); have q2 := rng32 (aa + own_len vv); omega
  refine Gl.st (fun t k => XS.icmpYes X21.here hx rfl (pc0 := 152) (pc' := 157) rfl (hb hby at_152) rfl (teq hc152_22).1 (by decide) (by decide) k) ?_
  show Gl _ _ _ _ _ _ _ (T21.setTop (mkF m 157 #[.val (.long q1), .second, .val (.int p2), .val (.int p3), .val (.int p4), .val (.long vv), .second, .val (.int aa), .val (.int (p4.toInt8.toInt32)), .val (.ref b1), .val (.int nx), .unset, .unset, .unset] []))
  refine Gl.st (fun t k => XS.iload X21.here hx rfl (hb hby at_157) rfl  k) ?_
  show Gl _ _ _ _ _ _ _ (T21.setTop (mkF m 159 #[.val (.long q1), .second, .val (.int p2), .val (.int p3), .val (.int p4), .val (.long vv), .second, .val (.int aa), .val (.int (p4.toInt8.toInt32)), .val (.ref b1), .val (.int nx), .unset, .unset, .unset] [(.int aa)]))
  by_cases hc159 : (0 : Int32) < aa
  · refine Gl.st (fun t k => XS.ifNo X21.here hx rfl (hb hby at_159) rfl ((if0 _ _).trans (tlt hc159).2.2.2) k) ?_
    show Gl _ _ _ _ _ _ _ (T21.setTop (mkF m 162 #[.val (.long q1), .second, .val (.int p2), .val (.int p3), .val (.int p4), .val (.long vv), .second, .val (.int aa), .val (.int (p4.toInt8.toInt32)), .val (.ref b1), .val (.int nx), .unset, .unset, .unset] []))
    refine Gl.st (fun t k => XS.aload X21.here hx rfl (hb hby at_162) rfl rfl k) ?_
    show Gl _ _ _ _ _ _ _ (T21.setTop (mkF m 164 #[.val (.long q1), .second, .val (.int p2), .val (.int p3), .val (.int p4), .val (.long vv), .second, .val (.int aa), .val (.int (p4.toInt8.toInt32)), .val (.ref b1), .val (.int nx), .unset, .unset, .unset] [(.ref b1)]))
    refine Gl.st (fun t k => XS.iload X21.here hx rfl (hb hby at_164) rfl  k) ?_
    show Gl _ _ _ _ _ _ _ (T21.setTop (mkF m 166 #[.val (.long q1), .second, .val (.int p2), .val (.int p3), .val (.int p4), .val (.long vv), .second, .val (.int aa), .val (.int (p4.toInt8.toInt32)), .val (.ref b1), .val (.int nx), .unset, .unset, .unset] [(.int aa), (.ref b1)]))
    refine Gl.st (fun t k => XS.iconst X21.here hx rfl (hb hby at_166) k) ?_
    show Gl _ _ _ _ _ _ _ (T21.setTop (mkF m 167 #[.val (.long q1), .second, .val (.int p2), .val (.int p3), .val (.int p4), .val (.long vv), .second, .val (.int aa), .val (.int (p4.toInt8.toInt32)), .val (.ref b1), .val (.int nx), .unset, .unset, .unset] [(.int (1 : Int32)), (.int aa), (.ref b1)]))
    refine Gl.st (fun t k => XS.isub X21.here hx rfl (hb hby at_167) rfl k) ?_
    show Gl _ _ _ _ _ _ _ (T21.setTop (mkF m 168 #[.val (.long q1), .second, .val (.int p2), .val (.int p3), .val (.int p4), .val (.long vv), .second, .val (.int aa), .val (.int (p4.toInt8.toInt32)), .val (.ref b1), .val (.int nx), .unset, .unset, .unset] [(.int (aa - (1 : Int32))), (.ref b1)]))
    have Vx23 := Fq20_0
    obtain ⟨cl23, Ar23, qk23, S23, M23, H23, G23⟩ := Vx23
    have hin23 : ¬ ((aa - (1 : Int32)) < 0 ∨ cl23.slots.size ≤ ((aa - (1 : Int32))).toNatClampNeg) := inb_of S23 ⟨own_nn (by have q := c_isub aa 1; have q2 := rng32 (aa - 1); have q3 : (1 : Int32).toInt = 1 := (by decide); rw [Int32.lt_iff_toInt_lt, show (0 : Int32).toInt = 0 from by decide] at hc159; omega), own_lit (n := 18) (by decide) (by have q := c_isub aa 1; have q2 := rng32 (aa - 1); have q3 : (1 : Int32).toInt = 1 := (by decide); rw [Int32.lt_iff_toInt_lt, show (0 : Int32).toInt = 0 from by decide] at hc159; omega)⟩
    have hat23 : cl23.slots[((aa - (1 : Int32))).toNatClampNeg]? = some (.int (vo_20.getD (aa - (1 : Int32)).toNatClampNeg 0)) := H23.at hin23 (own_getD vo_20 _)
    refine Gl.st (X21.baloadBytes hx (j := (aa - (1 : Int32))) (v := (.int (vo_20.getD (aa - (1 : Int32)).toNatClampNeg 0))) (by rw [e21]; exact Ar23.1) (State.isArrayOf_alike hZ.alike Ar23.2.1) Ar23.2.2 hin23 hat23 (g := (mkF m 168 #[.val (.long q1), .second, .val (.int p2), .val (.int p3), .val (.int p4), .val (.long vv), .second, .val (.int aa), .val (.int (p4.toInt8.toInt32)), .val (.ref b1), .val (.int nx), .unset, .unset, .unset] [(.int (aa - (1 : Int32))), (.ref b1)])) rfl rfl (hb hby at_168)) ?_
    show Gl _ _ _ _ _ _ _ (T21.setTop (mkF m 169 #[.val (.long q1), .second, .val (.int p2), .val (.int p3), .val (.int p4), .val (.long vv), .second, .val (.int aa), .val (.int (p4.toInt8.toInt32)), .val (.ref b1), .val (.int nx), .unset, .unset, .unset] [(.int (vo_20.getD (aa - (1 : Int32)).toNatClampNeg 0))]))
    refine Gl.st (fun t k => XS.iload X21.here hx rfl (hb hby at_169) rfl  k) ?_
    show Gl _ _ _ _ _ _ _ (T21.setTop (mkF m 171 #[.val (.long q1), .second, .val (.int p2), .val (.int p3), .val (.int p4), .val (.long vv), .second, .val (.int aa), .val (.int (p4.toInt8.toInt32)), .val (.ref b1), .val (.int nx), .unset, .unset, .unset] [(.int (p4.toInt8.toInt32)), (.int (vo_20.getD (aa - (1 : Int32)).toNatClampNeg 0))]))
    have hc171_24 : (vo_20.getD (aa - (1 : Int32)).toNatClampNeg 0) = (p4.toInt8.toInt32) := by have q := c_isub aa 1; have q2 := rng32 (aa - 1); have q3 : (1 : Int32).toInt = 1 := (by decide); rw [Int32.lt_iff_toInt_lt, show (0 : Int32).toInt = 0 from by decide] at hc159; have hx : (aa - (1 : Int32)).toNatClampNeg = aa.toInt.toNat - 1 := own_clamp (by omega); rw [hx, hpO _ (Or.inl (by omega)), own_fill _ _ (by omega)]; exact own_byte8 _
    refine Gl.st (fun t k => XS.icmpYes X21.here hx rfl (pc0 := 171) (pc' := 176) rfl (hb hby at_171) rfl (teq hc171_24).1 (by decide) (by decide) k) ?_
    show Gl _ _ _ _ _ _ _ (T21.setTop (mkF m 176 #[.val (.long q1), .second, .val (.int p2), .val (.int p3), .val (.int p4), .val (.long vv), .second, .val (.int aa), .val (.int (p4.toInt8.toInt32)), .val (.ref b1), .val (.int nx), .unset, .unset, .unset] []))
    refine Gl.st (fun t k => XS.aload X21.here hx rfl (hb hby at_176) rfl rfl k) ?_
    show Gl _ _ _ _ _ _ _ (T21.setTop (mkF m 178 #[.val (.long q1), .second, .val (.int p2), .val (.int p3), .val (.int p4), .val (.long vv), .second, .val (.int aa), .val (.int (p4.toInt8.toInt32)), .val (.ref b1), .val (.int nx), .unset, .unset, .unset] [(.ref b1)]))
    refine Gl.st (fun t k => XS.iload X21.here hx rfl (hb hby at_178) rfl  k) ?_
    show Gl _ _ _ _ _ _ _ (T21.setTop (mkF m 180 #[.val (.long q1), .second, .val (.int p2), .val (.int p3), .val (.int p4), .val (.long vv), .second, .val (.int aa), .val (.int (p4.toInt8.toInt32)), .val (.ref b1), .val (.int nx), .unset, .unset, .unset] [(.int nx), (.ref b1)]))
    have Vx25 := Fq20_0
    obtain ⟨cl25, Ar25, qk25, S25, M25, H25, G25⟩ := Vx25
    have hin25 : ¬ (nx < 0 ∨ cl25.slots.size ≤ (nx).toNatClampNeg) := inb_of S25 ⟨own_nn (by omega), own_lit (n := 18) (by decide) (by omega)⟩
    have hat25 : cl25.slots[(nx).toNatClampNeg]? = some (.int (vo_20.getD nx.toNatClampNeg 0)) := H25.at hin25 (own_getD vo_20 _)
    refine Gl.st (X21.baloadBytes hx (j := nx) (v := (.int (vo_20.getD nx.toNatClampNeg 0))) (by rw [e21]; exact Ar25.1) (State.isArrayOf_alike hZ.alike Ar25.2.1) Ar25.2.2 hin25 hat25 (g := (mkF m 180 #[.val (.long q1), .second, .val (.int p2), .val (.int p3), .val (.int p4), .val (.long vv), .second, .val (.int aa), .val (.int (p4.toInt8.toInt32)), .val (.ref b1), .val (.int nx), .unset, .unset, .unset] [(.int nx), (.ref b1)])) rfl rfl (hb hby at_180)) ?_
    show Gl _ _ _ _ _ _ _ (T21.setTop (mkF m 181 #[.val (.long q1), .second, .val (.int p2), .val (.int p3), .val (.int p4), .val (.long vv), .second, .val (.int aa), .val (.int (p4.toInt8.toInt32)), .val (.ref b1), .val (.int nx), .unset, .unset, .unset] [(.int (vo_20.getD nx.toNatClampNeg 0))]))
    refine Gl.st (fun t k => XS.iload X21.here hx rfl (hb hby at_181) rfl  k) ?_
    show Gl _ _ _ _ _ _ _ (T21.setTop (mkF m 183 #[.val (.long q1), .second, .val (.int p2), .val (.int p3), .val (.int p4), .val (.long vv), .second, .val (.int aa), .val (.int (p4.toInt8.toInt32)), .val (.ref b1), .val (.int nx), .unset, .unset, .unset] [(.int (p4.toInt8.toInt32)), (.int (vo_20.getD nx.toNatClampNeg 0))]))
    have hc183_26 : (vo_20.getD nx.toNatClampNeg 0) = (p4.toInt8.toInt32) := by rw [own_clamp hnx2, hpO _ (Or.inr (by omega)), own_fill _ _ (by omega)]; exact own_byte8 _
    refine Gl.st (fun t k => XS.icmpYes X21.here hx rfl (pc0 := 183) (pc' := 188) rfl (hb hby at_183) rfl (teq hc183_26).1 (by decide) (by decide) k) ?_
    show Gl _ _ _ _ _ _ _ (T21.setTop (mkF m 188 #[.val (.long q1), .second, .val (.int p2), .val (.int p3), .val (.int p4), .val (.long vv), .second, .val (.int aa), .val (.int (p4.toInt8.toInt32)), .val (.ref b1), .val (.int nx), .unset, .unset, .unset] []))
    refine Gl.st (fun t k => XS.aload X21.here hx rfl (hb hby at_188) rfl rfl k) ?_
    show Gl _ _ _ _ _ _ _ (T21.setTop (mkF m 190 #[.val (.long q1), .second, .val (.int p2), .val (.int p3), .val (.int p4), .val (.long vv), .second, .val (.int aa), .val (.int (p4.toInt8.toInt32)), .val (.ref b1), .val (.int nx), .unset, .unset, .unset] [(.ref b1)]))
    refine Gl.st (fun t k => XS.iload X21.here hx rfl (hb hby at_190) rfl  k) ?_
    show Gl _ _ _ _ _ _ _ (T21.setTop (mkF m 192 #[.val (.long q1), .second, .val (.int p2), .val (.int p3), .val (.int p4), .val (.long vv), .second, .val (.int aa), .val (.int (p4.toInt8.toInt32)), .val (.ref b1), .val (.int nx), .unset, .unset, .unset] [(.int nx), (.ref b1)]))
    refine Gl.st (fun t k => XS.iconst X21.here hx rfl (hb hby at_192) k) ?_
    show Gl _ _ _ _ _ _ _ (T21.setTop (mkF m 193 #[.val (.long q1), .second, .val (.int p2), .val (.int p3), .val (.int p4), .val (.long vv), .second, .val (.int aa), .val (.int (p4.toInt8.toInt32)), .val (.ref b1), .val (.int nx), .unset, .unset, .unset] [(.int (1 : Int32)), (.int nx), (.ref b1)]))
    refine Gl.st (fun t k => XS.iadd X21.here hx rfl (hb hby at_193) rfl k) ?_
    show Gl _ _ _ _ _ _ _ (T21.setTop (mkF m 194 #[.val (.long q1), .second, .val (.int p2), .val (.int p3), .val (.int p4), .val (.long vv), .second, .val (.int aa), .val (.int (p4.toInt8.toInt32)), .val (.ref b1), .val (.int nx), .unset, .unset, .unset] [(.int (nx + (1 : Int32))), (.ref b1)]))
    have Vx27 := Fq20_0
    obtain ⟨cl27, Ar27, qk27, S27, M27, H27, G27⟩ := Vx27
    have hin27 : ¬ ((nx + (1 : Int32)) < 0 ∨ cl27.slots.size ≤ ((nx + (1 : Int32))).toNatClampNeg) := inb_of S27 ⟨own_nn (by rw [own_succ (by omega)]; omega), own_lit (n := 18) (by decide) (by rw [own_succ (by omega)]; omega)⟩
    have hat27 : cl27.slots[((nx + (1 : Int32))).toNatClampNeg]? = some (.int (vo_20.getD (nx + (1 : Int32)).toNatClampNeg 0)) := H27.at hin27 (own_getD vo_20 _)
    refine Gl.st (X21.baloadBytes hx (j := (nx + (1 : Int32))) (v := (.int (vo_20.getD (nx + (1 : Int32)).toNatClampNeg 0))) (by rw [e21]; exact Ar27.1) (State.isArrayOf_alike hZ.alike Ar27.2.1) Ar27.2.2 hin27 hat27 (g := (mkF m 194 #[.val (.long q1), .second, .val (.int p2), .val (.int p3), .val (.int p4), .val (.long vv), .second, .val (.int aa), .val (.int (p4.toInt8.toInt32)), .val (.ref b1), .val (.int nx), .unset, .unset, .unset] [(.int (nx + (1 : Int32))), (.ref b1)])) rfl rfl (hb hby at_194)) ?_
    show Gl _ _ _ _ _ _ _ (T21.setTop (mkF m 195 #[.val (.long q1), .second, .val (.int p2), .val (.int p3), .val (.int p4), .val (.long vv), .second, .val (.int aa), .val (.int (p4.toInt8.toInt32)), .val (.ref b1), .val (.int nx), .unset, .unset, .unset] [(.int (vo_20.getD (nx + (1 : Int32)).toNatClampNeg 0))]))
    refine Gl.st (fun t k => XS.iload X21.here hx rfl (hb hby at_195) rfl  k) ?_
    show Gl _ _ _ _ _ _ _ (T21.setTop (mkF m 197 #[.val (.long q1), .second, .val (.int p2), .val (.int p3), .val (.int p4), .val (.long vv), .second, .val (.int aa), .val (.int (p4.toInt8.toInt32)), .val (.ref b1), .val (.int nx), .unset, .unset, .unset] [(.int (p4.toInt8.toInt32)), (.int (vo_20.getD (nx + (1 : Int32)).toNatClampNeg 0))]))
    have hc197_28 : (vo_20.getD (nx + (1 : Int32)).toNatClampNeg 0) = (p4.toInt8.toInt32) := by have hx : (nx + (1 : Int32)).toNatClampNeg = aa.toInt.toNat + (own_len vv).toInt.toNat + 1 := own_clamp (by rw [own_succ (by omega)]; omega); rw [hx, hpO _ (Or.inr (by omega)), own_fill _ _ (by omega)]; exact own_byte8 _
    refine Gl.st (fun t k => XS.icmpYes X21.here hx rfl (pc0 := 197) (pc' := 202) rfl (hb hby at_197) rfl (teq hc197_28).1 (by decide) (by decide) k) ?_
    show Gl _ _ _ _ _ _ _ (T21.setTop (mkF m 202 #[.val (.long q1), .second, .val (.int p2), .val (.int p3), .val (.int p4), .val (.long vv), .second, .val (.int aa), .val (.int (p4.toInt8.toInt32)), .val (.ref b1), .val (.int nx), .unset, .unset, .unset] []))
    obtain ⟨T29, h29, X29, e29, E29, A29, D29, -, st29⟩ := newO X21 hx hZ hown (hw _ (List.mem_of_getElem? (i := 12) rfl)) (hw _ (List.mem_of_getElem? (i := 13) rfl)) (hw _ (List.mem_of_getElem? (i := 14) rfl)) e21 (g := (mkF m 202 #[.val (.long q1), .second, .val (.int p2), .val (.int p3), .val (.int p4), .val (.long vv), .second, .val (.int aa), .val (.int (p4.toInt8.toInt32)), .val (.ref b1), .val (.int nx), .unset, .unset, .unset] [])) rfl (hb hby at_202) (by decide) (by decide)
    obtain ⟨b29, g29⟩ : ∃ z, z = T20.heap.size := ⟨_, rfl⟩
    rw [← g29] at A29 D29 st29
    refine Gl.st st29 ?_
    have ne_b1_b29 : b1 ≠ b29 := Nat.ne_of_lt (Nat.lt_of_lt_of_le Fq20_0.lt (Nat.le_of_eq g29.symm))
    have gzb29 : n0 ≤ b29 := Nat.le_trans Z20 (Nat.le_of_eq g29.symm)
    have Z29 : n0 ≤ h29.size := Nat.le_trans Z20 E29.1
    have Fq20_0'30 : Arv Z h29 b1 k1 .byte (18 : Int32) (vo_20.map Value.int) (.int (0 : Int32)) := Fq20_0.ext E29
    have F29_bytes : Fld Z h29 b29 "com/example/millrace/millrace/storage/PackedGroups$Reader" "bytes" "[B" .null := D29 (Or.inr (hw _ (List.mem_of_getElem? (i := 22) rfl))) (ty := (.array .byte)) (by decide)
    have F29_end : Fld Z h29 b29 "com/example/millrace/millrace/storage/PackedGroups$Reader" "end" "I" (.int (0 : Int32)) := D29 (Or.inr (hw _ (List.mem_of_getElem? (i := 24) rfl))) (ty := .int) (by decide)
    have F29_at : Fld Z h29 b29 "com/example/millrace/millrace/storage/PackedGroups$Reader" "at" "I" (.int (0 : Int32)) := D29 (Or.inl (hw _ (List.mem_of_getElem? (i := 26) rfl))) (ty := .int) (by decide)
    have F29_offset : Fld Z h29 b29 "com/example/millrace/millrace/storage/PackedGroups$Reader" "offset" "J" (.long (0 : Int64)) := D29 (Or.inl (hw _ (List.mem_of_getElem? (i := 28) rfl))) (ty := .long) (by decide)
    have F29_endOffset : Fld Z h29 b29 "com/example/millrace/millrace/storage/PackedGroups$Reader" "endOffset" "J" (.long (0 : Int64)) := D29 (Or.inl (hw _ (List.mem_of_getElem? (i := 30) rfl))) (ty := .long) (by decide)
    have F29_position : Fld Z h29 b29 "com/example/millrace/millrace/storage/PackedGroups$Reader" "position" "J" (.long (0 : Int64)) := D29 (Or.inl (hw _ (List.mem_of_getElem? (i := 32) rfl))) (ty := .long) (by decide)
    have F29_endPosition : Fld Z h29 b29 "com/example/millrace/millrace/storage/PackedGroups$Reader" "endPosition" "J" (.long (0 : Int64)) := D29 (Or.inl (hw _ (List.mem_of_getElem? (i := 34) rfl))) (ty := .long) (by decide)
    show Gl _ _ _ _ _ _ _ (T29.setTop (mkF m 205 #[.val (.long q1), .second, .val (.int p2), .val (.int p3), .val (.int p4), .val (.long vv), .second, .val (.int aa), .val (.int (p4.toInt8.toInt32)), .val (.ref b1), .val (.int nx), .unset, .unset, .unset] [(.ref b29)]))
    refine Gl.st (fun t k => XS.dup X29.here hx rfl (hb hby at_205) rfl rfl k) ?_
    show Gl _ _ _ _ _ _ _ (T29.setTop (mkF m 206 #[.val (.long q1), .second, .val (.int p2), .val (.int p3), .val (.int p4), .val (.long vv), .second, .val (.int aa), .val (.int (p4.toInt8.toInt32)), .val (.ref b1), .val (.int nx), .unset, .unset, .unset] [(.ref b29), (.ref b29)]))
    refine Gl.st (fun t k => XS.aload X29.here hx rfl (hb hby at_206) rfl rfl k) ?_
    show Gl _ _ _ _ _ _ _ (T29.setTop (mkF m 208 #[.val (.long q1), .second, .val (.int p2), .val (.int p3), .val (.int p4), .val (.long vv), .second, .val (.int aa), .val (.int (p4.toInt8.toInt32)), .val (.ref b1), .val (.int nx), .unset, .unset, .unset] [(.ref b1), (.ref b29), (.ref b29)]))
    refine Gl.st (fun t k => XS.iload X29.here hx rfl (hb hby at_208) rfl  k) ?_
    show Gl _ _ _ _ _ _ _ (T29.setTop (mkF m 210 #[.val (.long q1), .second, .val (.int p2), .val (.int p3), .val (.int p4), .val (.long vv), .second, .val (.int aa), .val (.int (p4.toInt8.toInt32)), .val (.ref b1), .val (.int nx), .unset, .unset, .unset] [(.int aa), (.ref b1), (.ref b29), (.ref b29)]))
    refine Gl.st (fun t k => XS.aload X29.here hx rfl (hb hby at_210) rfl rfl k) ?_
    show Gl _ _ _ _ _ _ _ (T29.setTop (mkF m 212 #[.val (.long q1), .second, .val (.int p2), .val (.int p3), .val (.int p4), .val (.long vv), .second, .val (.int aa), .val (.int (p4.toInt8.toInt32)), .val (.ref b1), .val (.int nx), .unset, .unset, .unset] [(.ref b1), (.int aa), (.ref b1), (.ref b29), (.ref b29)]))
    have Vx31 := Fq20_0'30
    obtain ⟨cl31, Ar31, qk31, S31, M31, H31, G31⟩ := Vx31
    refine Gl.st (X29.arraylength hx (by rw [e29]; exact Ar31.1) (State.isArrayOf_alike hZ.alike Ar31.2.1) (g := (mkF m 212 #[.val (.long q1), .second, .val (.int p2), .val (.int p3), .val (.int p4), .val (.long vv), .second, .val (.int aa), .val (.int (p4.toInt8.toInt32)), .val (.ref b1), .val (.int nx), .unset, .unset, .unset] [(.ref b1), (.int aa), (.ref b1), (.ref b29), (.ref b29)])) rfl rfl (hb hby at_212)) ?_
    rw [len_of S31 M31]
    show Gl _ _ _ _ _ _ _ (T29.setTop (mkF m 213 #[.val (.long q1), .second, .val (.int p2), .val (.int p3), .val (.int p4), .val (.long vv), .second, .val (.int aa), .val (.int (p4.toInt8.toInt32)), .val (.ref b1), .val (.int nx), .unset, .unset, .unset] [(.int (18 : Int32)), (.int aa), (.ref b1), (.ref b29), (.ref b29)]))
    refine Gl.st (fun t k => XS.lconst X29.here hx rfl (hb hby at_213) k) ?_
    show Gl _ _ _ _ _ _ _ (T29.setTop (mkF m 214 #[.val (.long q1), .second, .val (.int p2), .val (.int p3), .val (.int p4), .val (.long vv), .second, .val (.int aa), .val (.int (p4.toInt8.toInt32)), .val (.ref b1), .val (.int nx), .unset, .unset, .unset] [(.long (0 : Int64)), (.int (18 : Int32)), (.int aa), (.ref b1), (.ref b29), (.ref b29)]))
    refine Gl.st (fun t k => XS.lconst X29.here hx rfl (hb hby at_214) k) ?_
    show Gl _ _ _ _ _ _ _ (T29.setTop (mkF m 215 #[.val (.long q1), .second, .val (.int p2), .val (.int p3), .val (.int p4), .val (.long vv), .second, .val (.int aa), .val (.int (p4.toInt8.toInt32)), .val (.ref b1), .val (.int nx), .unset, .unset, .unset] [(.long (0 : Int64)), (.long (0 : Int64)), (.int (18 : Int32)), (.int aa), (.ref b1), (.ref b29), (.ref b29)]))
    obtain ⟨_, _, ⟨T32, L32, k32, n32⟩, -, X32, ⟨Lc32, hQ32, l32, y32, z32⟩, st32⟩ := X29.specialBack hx (y := (⟨"com/example/millrace/millrace/storage/PackedGroups$Reader", "<init>", "([BIIJJ)V"⟩ : MethodName)) rfl hown (mvT hZ (hw _ (List.mem_of_getElem? (i := 15) rfl))) (mvT hZ (hw _ (List.mem_of_getElem? (i := 16) rfl))) (mvT hZ (hw _ (List.mem_of_getElem? (i := 17) rfl))) (by decide) (backOf (W := 1) (rm3 l Z a0 hw [] b29 b1 aa (18 : Int32) (0 : Int64) (0 : Int64) (.null) ((.int (0 : Int32))) ((.int (0 : Int32))) ((.long (0 : Int64))) ((.long (0 : Int64))) ((.long (0 : Int64))) ((.long (0 : Int64))) h29 n0 Z29 A29 F29_bytes F29_end F29_at F29_offset F29_endOffset F29_position F29_endPosition gzb29) hZ (hw _ (List.mem_of_getElem? (i := 17) rfl)) (hw _ (List.mem_of_getElem? (i := 14) rfl)) (by decide) (by decide)) (g := (mkF m 215 #[.val (.long q1), .second, .val (.int p2), .val (.int p3), .val (.int p4), .val (.long vv), .second, .val (.int aa), .val (.int (p4.toInt8.toInt32)), .val (.ref b1), .val (.int nx), .unset, .unset, .unset] [(.long (0 : Int64)), (.long (0 : Int64)), (.int (18 : Int32)), (.int aa), (.ref b1), (.ref b29), (.ref b29)])) rfl (by rw [hml]; rfl) (Steps.refl _) (a := b29) (argsL := [(.ref b1), (.int aa), (.int (18 : Int32)), (.long (0 : Int64)), (.long (0 : Int64))]) (rest := [(.ref b29)]) (lenOf pd_2 rfl) rfl (by show 2 * 0 + _ ≤ _; exact Nat.le_of_eq rfl) (hb hby at_215) (fun _ _ => ⟨rfl, e29, (by decide : 2 + 0 ≤ _), (by decide : 25 + 0 ≤ _)⟩)
    dsimp only [Pt.U, Pt.locs, Pt.cells, Pt.slots] at X32 l32 y32 z32 st32 hQ32
    rw [y32, z32] at X32
    obtain ⟨rfl, N32q, Kq32, Fq32_0, Fq32_1, Fq32_2, Fq32_3, Fq32_4, Fq32_5, Fq32_6, Fq32_7⟩ := hQ32
    have N32 : Fr n0 L32 := by rw [l32]; exact Fr.app N21 N32q
    have Z32 : n0 ≤ T32.heap.size := Nat.le_trans Z29 Kq32.1
    have Fq20_0'33 : Arv Z T32.heap b1 k1 .byte (18 : Int32) (vo_20.map Value.int) (.int (0 : Int32)) := Fq20_0'30.keep Kq32 (ninS ne_b1_b29 nin0)
    refine Gl.to st32 ?_
    show Gl _ _ _ _ _ _ _ (T32.setTop (mkF m 218 #[.val (.long q1), .second, .val (.int p2), .val (.int p3), .val (.int p4), .val (.long vv), .second, .val (.int aa), .val (.int (p4.toInt8.toInt32)), .val (.ref b1), .val (.int nx), .unset, .unset, .unset] [(.ref b29)]))
    refine Gl.st (fun t k => XS.astore X32.here hx rfl (hb hby at_218) rfl rfl (l' := #[.val (.long q1), .second, .val (.int p2), .val (.int p3), .val (.int p4), .val (.long vv), .second, .val (.int aa), .val (.int (p4.toInt8.toInt32)), .val (.ref b1), .val (.int nx), .val (.ref b29), .unset, .unset]) rfl k) ?_
    show Gl _ _ _ _ _ _ _ (T32.setTop (mkF m 220 #[.val (.long q1), .second, .val (.int p2), .val (.int p3), .val (.int p4), .val (.long vv), .second, .val (.int aa), .val (.int (p4.toInt8.toInt32)), .val (.ref b1), .val (.int nx), .val (.ref b29), .unset, .unset] []))
    refine Gl.st (fun t k => XS.aload X32.here hx rfl (hb hby at_220) rfl rfl k) ?_
    show Gl _ _ _ _ _ _ _ (T32.setTop (mkF m 222 #[.val (.long q1), .second, .val (.int p2), .val (.int p3), .val (.int p4), .val (.long vv), .second, .val (.int aa), .val (.int (p4.toInt8.toInt32)), .val (.ref b1), .val (.int nx), .val (.ref b29), .unset, .unset] [(.ref b29)]))
    obtain ⟨cq34, kq34, qa34, qb34, qc34⟩ := isOf hZ rfl Fq32_0
    obtain ⟨_, _, ⟨T34, L34, k34, n34⟩, -, X34, ⟨Lc34, hQ34, l34, y34, z34⟩, st34⟩ := X32.virtualBack hx (y := (⟨"com/example/millrace/millrace/storage/PackedGroups$Reader", "number", "()J"⟩ : MethodName)) (z := (⟨"com/example/millrace/millrace/storage/PackedGroups$Reader", "number", "()J"⟩ : MethodName)) hown (mvT hZ (hw _ (List.mem_of_getElem? (i := 35) rfl))) (mvT hZ (hw _ (List.mem_of_getElem? (i := 36) rfl))) (notFace_of_selects (args := #[]) (mvT hZ (hw _ (List.mem_of_getElem? (i := 38) rfl)))) (mvT hZ (hw _ (List.mem_of_getElem? (i := 38) rfl))) (mvT hZ (hw _ (List.mem_of_getElem? (i := 37) rfl))) (by decide) (backOf (W := 0) (rm5 l Z a0 hw [] b29 (b1) (aa) ((18 : Int32)) (k1) (vo_20) (aa.toInt.toNat) ((own_len vv).toInt.toNat) (vv.toInt.toNat) (min (own_len vv).toInt.toNat ((18 : Int32).toInt - (aa.toInt.toNat : Int)).toNat) T32.heap n0 Z32 Fq32_0 Fq32_1 Fq32_3 Fq32_2 Fq20_0'33 gzb29 ne_b1_b29 hpj rfl hpE hpn1 hpn9 hpB) hZ (hw _ (List.mem_of_getElem? (i := 39) rfl)) (hw _ (List.mem_of_getElem? (i := 14) rfl)) (by decide) (by decide)) qa34 qc34 (g := (mkF m 222 #[.val (.long q1), .second, .val (.int p2), .val (.int p3), .val (.int p4), .val (.long vv), .second, .val (.int aa), .val (.int (p4.toInt8.toInt32)), .val (.ref b1), .val (.int nx), .val (.ref b29), .unset, .unset] [(.ref b29)])) rfl (by rw [hml]; rfl) (Steps.refl _) (argsL := []) (rest := []) (lenOf pd_3 rfl) rfl (by show 2 * 0 + _ ≤ _; exact Nat.le_of_eq rfl) (hb hby at_222) (fun _ _ => ⟨rfl, rfl, (by decide : 2 + 0 ≤ _), (by decide : 25 + 0 ≤ _)⟩)
    dsimp only [Pt.U, Pt.locs, Pt.cells, Pt.slots] at X34 l34 y34 z34 st34 hQ34
    rw [y34, z34] at X34
    obtain ⟨rfl, N34q, Kq34, Fq34_0, Fq34_1, Fq34_2, Fq34_3⟩ := hQ34
    have N34 : Fr n0 L34 := by rw [l34]; exact Fr.app N32 N34q
    have Z34 : n0 ≤ T34.heap.size := Nat.le_trans Z32 Kq34.1
    have Fq20_0'35 : Arv Z T34.heap b1 k1 .byte (18 : Int32) (vo_20.map Value.int) (.int (0 : Int32)) := Fq20_0'33.keep Kq34 (ninS ne_b1_b29 nin0)
    refine Gl.to st34 ?_
    show Gl _ _ _ _ _ _ _ (T34.setTop (mkF m 225 #[.val (.long q1), .second, .val (.int p2), .val (.int p3), .val (.int p4), .val (.long vv), .second, .val (.int aa), .val (.int (p4.toInt8.toInt32)), .val (.ref b1), .val (.int nx), .val (.ref b29), .unset, .unset] [(.long (Int64.ofInt ((vv.toInt.toNat % 128 ^ min (own_len vv).toInt.toNat ((18 : Int32).toInt - (aa.toInt.toNat : Int)).toNat : Nat) : Int)))]))
    refine Gl.st (fun t k => XS.lstore X34.here hx rfl (hb hby at_225) rfl (l' := #[.val (.long q1), .second, .val (.int p2), .val (.int p3), .val (.int p4), .val (.long vv), .second, .val (.int aa), .val (.int (p4.toInt8.toInt32)), .val (.ref b1), .val (.int nx), .val (.ref b29), .val (.long (Int64.ofInt ((vv.toInt.toNat % 128 ^ min (own_len vv).toInt.toNat ((18 : Int32).toInt - (aa.toInt.toNat : Int)).toNat : Nat) : Int))), .second]) rfl k) ?_
    show Gl _ _ _ _ _ _ _ (T34.setTop (mkF m 227 #[.val (.long q1), .second, .val (.int p2), .val (.int p3), .val (.int p4), .val (.long vv), .second, .val (.int aa), .val (.int (p4.toInt8.toInt32)), .val (.ref b1), .val (.int nx), .val (.ref b29), .val (.long (Int64.ofInt ((vv.toInt.toNat % 128 ^ min (own_len vv).toInt.toNat ((18 : Int32).toInt - (aa.toInt.toNat : Int)).toNat : Nat) : Int))), .second] []))
    refine Gl.st (fun t k => XS.lload X34.here hx rfl (hb hby at_227) rfl  k) ?_
    show Gl _ _ _ _ _ _ _ (T34.setTop (mkF m 229 #[.val (.long q1), .second, .val (.int p2), .val (.int p3), .val (.int p4), .val (.long vv), .second, .val (.int aa), .val (.int (p4.toInt8.toInt32)), .val (.ref b1), .val (.int nx), .val (.ref b29), .val (.long (Int64.ofInt ((vv.toInt.toNat % 128 ^ min (own_len vv).toInt.toNat ((18 : Int32).toInt - (aa.toInt.toNat : Int)).toNat : Nat) : Int))), .second] [(.long (Int64.ofInt ((vv.toInt.toNat % 128 ^ min (own_len vv).toInt.toNat ((18 : Int32).toInt - (aa.toInt.toNat : Int)).toNat : Nat) : Int)))]))
    refine Gl.st (fun t k => XS.lload X34.here hx rfl (hb hby at_229) rfl  k) ?_
    show Gl _ _ _ _ _ _ _ (T34.setTop (mkF m 231 #[.val (.long q1), .second, .val (.int p2), .val (.int p3), .val (.int p4), .val (.long vv), .second, .val (.int aa), .val (.int (p4.toInt8.toInt32)), .val (.ref b1), .val (.int nx), .val (.ref b29), .val (.long (Int64.ofInt ((vv.toInt.toNat % 128 ^ min (own_len vv).toInt.toNat ((18 : Int32).toInt - (aa.toInt.toNat : Int)).toNat : Nat) : Int))), .second] [(.long vv), (.long (Int64.ofInt ((vv.toInt.toNat % 128 ^ min (own_len vv).toInt.toNat ((18 : Int32).toInt - (aa.toInt.toNat : Int)).toNat : Nat) : Int)))]))
    refine Gl.st (fun t k => XS.lcmp X34.here hx rfl (hb hby at_231) rfl k) ?_
    show Gl _ _ _ _ _ _ _ (T34.setTop (mkF m 232 #[.val (.long q1), .second, .val (.int p2), .val (.int p3), .val (.int p4), .val (.long vv), .second, .val (.int aa), .val (.int (p4.toInt8.toInt32)), .val (.ref b1), .val (.int nx), .val (.ref b29), .val (.long (Int64.ofInt ((vv.toInt.toNat % 128 ^ min (own_len vv).toInt.toNat ((18 : Int32).toInt - (aa.toInt.toNat : Int)).toNat : Nat) : Int))), .second] [(.int (lcmpW (Int64.ofInt ((vv.toInt.toNat % 128 ^ min (own_len vv).toInt.toNat ((18 : Int32).toInt - (aa.toInt.toNat : Int)).toNat : Nat) : Int)) vv))]))
    have hc232_36 : (Int64.ofInt ((vv.toInt.toNat % 128 ^ min (own_len vv).toInt.toNat ((18 : Int32).toInt - (aa.toInt.toNat : Int)).toNat : Nat) : Int)) = vv := by 
      have hm : min (own_len vv).toInt.toNat ((18 : Int32).toInt - (aa.toInt.toNat : Int)).toNat = (own_len vv).toInt.toNat := by rw [show (18 : Int32).toInt = 18 from by decide]; omega
      rw [hm, Nat.mod_eq_of_lt hpV]; exact (own_ofL hpv).symm
    refine Gl.st (fun t k => XS.ifNo X34.here hx rfl (hb hby at_232) rfl (le_t hc232_36).2 k) ?_
    show Gl _ _ _ _ _ _ _ (T34.setTop (mkF m 235 #[.val (.long q1), .second, .val (.int p2), .val (.int p3), .val (.int p4), .val (.long vv), .second, .val (.int aa), .val (.int (p4.toInt8.toInt32)), .val (.ref b1), .val (.int nx), .val (.ref b29), .val (.long (Int64.ofInt ((vv.toInt.toNat % 128 ^ min (own_len vv).toInt.toNat ((18 : Int32).toInt - (aa.toInt.toNat : Int)).toNat : Nat) : Int))), .second] []))
    refine Gl.st (fun t k => XS.aload X34.here hx rfl (hb hby at_235) rfl rfl k) ?_
    show Gl _ _ _ _ _ _ _ (T34.setTop (mkF m 237 #[.val (.long q1), .second, .val (.int p2), .val (.int p3), .val (.int p4), .val (.long vv), .second, .val (.int aa), .val (.int (p4.toInt8.toInt32)), .val (.ref b1), .val (.int nx), .val (.ref b29), .val (.long (Int64.ofInt ((vv.toInt.toNat % 128 ^ min (own_len vv).toInt.toNat ((18 : Int32).toInt - (aa.toInt.toNat : Int)).toNat : Nat) : Int))), .second] [(.ref b29)]))
    obtain ⟨cq37, kq37, qa37, qb37, qc37⟩ := isOf hZ rfl Fq34_0
    obtain ⟨_, _, ⟨T37, L37, k37, n37⟩, -, X37, ⟨Lc37, hQ37, l37, y37, z37⟩, st37⟩ := X34.virtualBack hx (y := (⟨"com/example/millrace/millrace/storage/PackedGroups$Reader", "at", "()I"⟩ : MethodName)) (z := (⟨"com/example/millrace/millrace/storage/PackedGroups$Reader", "at", "()I"⟩ : MethodName)) hown (mvT hZ (hw _ (List.mem_of_getElem? (i := 40) rfl))) (mvT hZ (hw _ (List.mem_of_getElem? (i := 41) rfl))) (notFace_of_selects (args := #[]) (mvT hZ (hw _ (List.mem_of_getElem? (i := 43) rfl)))) (mvT hZ (hw _ (List.mem_of_getElem? (i := 43) rfl))) (mvT hZ (hw _ (List.mem_of_getElem? (i := 42) rfl))) (by decide) (backOf (W := 0) (rm6 l Z a0 hw [] b29 ((Int32.ofInt ((aa.toInt.toNat + min (own_len vv).toInt.toNat ((18 : Int32).toInt - (aa.toInt.toNat : Int)).toNat : Nat) : Int))) T34.heap n0  Fq34_2) hZ (hw _ (List.mem_of_getElem? (i := 44) rfl)) (hw _ (List.mem_of_getElem? (i := 14) rfl)) (by decide) (by decide)) qa37 qc37 (g := (mkF m 237 #[.val (.long q1), .second, .val (.int p2), .val (.int p3), .val (.int p4), .val (.long vv), .second, .val (.int aa), .val (.int (p4.toInt8.toInt32)), .val (.ref b1), .val (.int nx), .val (.ref b29), .val (.long (Int64.ofInt ((vv.toInt.toNat % 128 ^ min (own_len vv).toInt.toNat ((18 : Int32).toInt - (aa.toInt.toNat : Int)).toNat : Nat) : Int))), .second] [(.ref b29)])) rfl (by rw [hml]; rfl) (Steps.refl _) (argsL := []) (rest := []) (lenOf pd_4 rfl) rfl (by show 2 * 0 + _ ≤ _; exact Nat.le_of_eq rfl) (hb hby at_237) (fun _ _ => ⟨rfl, rfl, (by decide : 2 + 0 ≤ _), (by decide : 25 + 0 ≤ _)⟩)
    dsimp only [Pt.U, Pt.locs, Pt.cells, Pt.slots] at X37 l37 y37 z37 st37 hQ37
    rw [y37, z37] at X37
    obtain ⟨rfl, N37q, e37⟩ := hQ37
    have N37 : Fr n0 L37 := by rw [l37]; exact Fr.app N34 N37q
    refine Gl.to st37 ?_
    show Gl _ _ _ _ _ _ _ (T37.setTop (mkF m 240 #[.val (.long q1), .second, .val (.int p2), .val (.int p3), .val (.int p4), .val (.long vv), .second, .val (.int aa), .val (.int (p4.toInt8.toInt32)), .val (.ref b1), .val (.int nx), .val (.ref b29), .val (.long (Int64.ofInt ((vv.toInt.toNat % 128 ^ min (own_len vv).toInt.toNat ((18 : Int32).toInt - (aa.toInt.toNat : Int)).toNat : Nat) : Int))), .second] [(.int (own_at (Int32.ofInt ((aa.toInt.toNat + min (own_len vv).toInt.toNat ((18 : Int32).toInt - (aa.toInt.toNat : Int)).toNat : Nat) : Int))))]))
    refine Gl.st (fun t k => XS.iload X37.here hx rfl (hb hby at_240) rfl  k) ?_
    show Gl _ _ _ _ _ _ _ (T37.setTop (mkF m 242 #[.val (.long q1), .second, .val (.int p2), .val (.int p3), .val (.int p4), .val (.long vv), .second, .val (.int aa), .val (.int (p4.toInt8.toInt32)), .val (.ref b1), .val (.int nx), .val (.ref b29), .val (.long (Int64.ofInt ((vv.toInt.toNat % 128 ^ min (own_len vv).toInt.toNat ((18 : Int32).toInt - (aa.toInt.toNat : Int)).toNat : Nat) : Int))), .second] [(.int nx), (.int (own_at (Int32.ofInt ((aa.toInt.toNat + min (own_len vv).toInt.toNat ((18 : Int32).toInt - (aa.toInt.toNat : Int)).toNat : Nat) : Int))))]))
    have hc242_38 : (own_at (Int32.ofInt ((aa.toInt.toNat + min (own_len vv).toInt.toNat ((18 : Int32).toInt - (aa.toInt.toNat : Int)).toNat : Nat) : Int))) = nx := by 
      have hm : min (own_len vv).toInt.toNat ((18 : Int32).toInt - (aa.toInt.toNat : Int)).toNat = (own_len vv).toInt.toNat := by rw [show (18 : Int32).toInt = 18 from by decide]; omega
      rw [hm, hnx]; rfl
    refine Gl.st (fun t k => XS.icmpNo X37.here hx rfl (hb hby at_242) rfl (teq hc242_38).2 k) ?_
    show Gl _ _ _ _ _ _ _ (T37.setTop (mkF m 245 #[.val (.long q1), .second, .val (.int p2), .val (.int p3), .val (.int p4), .val (.long vv), .second, .val (.int aa), .val (.int (p4.toInt8.toInt32)), .val (.ref b1), .val (.int nx), .val (.ref b29), .val (.long (Int64.ofInt ((vv.toInt.toNat % 128 ^ min (own_len vv).toInt.toNat ((18 : Int32).toInt - (aa.toInt.toNat : Int)).toNat : Nat) : Int))), .second] []))
    refine Gl.st (fun t k => XS.iconst X37.here hx rfl (hb hby at_245) k) ?_
    show Gl _ _ _ _ _ _ _ (T37.setTop (mkF m 246 #[.val (.long q1), .second, .val (.int p2), .val (.int p3), .val (.int p4), .val (.long vv), .second, .val (.int aa), .val (.int (p4.toInt8.toInt32)), .val (.ref b1), .val (.int nx), .val (.ref b29), .val (.long (Int64.ofInt ((vv.toInt.toNat % 128 ^ min (own_len vv).toInt.toNat ((18 : Int32).toInt - (aa.toInt.toNat : Int)).toNat : Nat) : Int))), .second] [(.int (1 : Int32))]))
    refine Gl.st (fun t k => XS.goto X37.here hx rfl (pc0 := 246) (pc' := 250) rfl (hb hby at_246) (by decide) (by decide) k) ?_
    show Gl _ _ _ _ _ _ _ (T37.setTop (mkF m 250 #[.val (.long q1), .second, .val (.int p2), .val (.int p3), .val (.int p4), .val (.long vv), .second, .val (.int aa), .val (.int (p4.toInt8.toInt32)), .val (.ref b1), .val (.int nx), .val (.ref b29), .val (.long (Int64.ofInt ((vv.toInt.toNat % 128 ^ min (own_len vv).toInt.toNat ((18 : Int32).toInt - (aa.toInt.toNat : Int)).toNat : Nat) : Int))), .second] [(.int (1 : Int32))]))
    exact Gl.retN X37 hx hlk Bd.returns (by simp) (hb hby at_250) (⟨rfl, N37⟩) (by decide) (by decide)
  · refine Gl.st (fun t k => XS.ifYes X21.here hx rfl (pc0 := 159) (pc' := 176) rfl (hb hby at_159) rfl ((if0 _ _).trans (flt hc159).2.2.2) (by decide) (by decide) k) ?_
    show Gl _ _ _ _ _ _ _ (T21.setTop (mkF m 176 #[.val (.long q1), .second, .val (.int p2), .val (.int p3), .val (.int p4), .val (.long vv), .second, .val (.int aa), .val (.int (p4.toInt8.toInt32)), .val (.ref b1), .val (.int nx), .unset, .unset, .unset] []))
    refine Gl.st (fun t k => XS.aload X21.here hx rfl (hb hby at_176) rfl rfl k) ?_
    show Gl _ _ _ _ _ _ _ (T21.setTop (mkF m 178 #[.val (.long q1), .second, .val (.int p2), .val (.int p3), .val (.int p4), .val (.long vv), .second, .val (.int aa), .val (.int (p4.toInt8.toInt32)), .val (.ref b1), .val (.int nx), .unset, .unset, .unset] [(.ref b1)]))
    refine Gl.st (fun t k => XS.iload X21.here hx rfl (hb hby at_178) rfl  k) ?_
    show Gl _ _ _ _ _ _ _ (T21.setTop (mkF m 180 #[.val (.long q1), .second, .val (.int p2), .val (.int p3), .val (.int p4), .val (.long vv), .second, .val (.int aa), .val (.int (p4.toInt8.toInt32)), .val (.ref b1), .val (.int nx), .unset, .unset, .unset] [(.int nx), (.ref b1)]))
    have Vx39 := Fq20_0
    obtain ⟨cl39, Ar39, qk39, S39, M39, H39, G39⟩ := Vx39
    have hin39 : ¬ (nx < 0 ∨ cl39.slots.size ≤ (nx).toNatClampNeg) := inb_of S39 ⟨own_nn (by omega), own_lit (n := 18) (by decide) (by omega)⟩
    have hat39 : cl39.slots[(nx).toNatClampNeg]? = some (.int (vo_20.getD nx.toNatClampNeg 0)) := H39.at hin39 (own_getD vo_20 _)
    refine Gl.st (X21.baloadBytes hx (j := nx) (v := (.int (vo_20.getD nx.toNatClampNeg 0))) (by rw [e21]; exact Ar39.1) (State.isArrayOf_alike hZ.alike Ar39.2.1) Ar39.2.2 hin39 hat39 (g := (mkF m 180 #[.val (.long q1), .second, .val (.int p2), .val (.int p3), .val (.int p4), .val (.long vv), .second, .val (.int aa), .val (.int (p4.toInt8.toInt32)), .val (.ref b1), .val (.int nx), .unset, .unset, .unset] [(.int nx), (.ref b1)])) rfl rfl (hb hby at_180)) ?_
    show Gl _ _ _ _ _ _ _ (T21.setTop (mkF m 181 #[.val (.long q1), .second, .val (.int p2), .val (.int p3), .val (.int p4), .val (.long vv), .second, .val (.int aa), .val (.int (p4.toInt8.toInt32)), .val (.ref b1), .val (.int nx), .unset, .unset, .unset] [(.int (vo_20.getD nx.toNatClampNeg 0))]))
    refine Gl.st (fun t k => XS.iload X21.here hx rfl (hb hby at_181) rfl  k) ?_
    show Gl _ _ _ _ _ _ _ (T21.setTop (mkF m 183 #[.val (.long q1), .second, .val (.int p2), .val (.int p3), .val (.int p4), .val (.long vv), .second, .val (.int aa), .val (.int (p4.toInt8.toInt32)), .val (.ref b1), .val (.int nx), .unset, .unset, .unset] [(.int (p4.toInt8.toInt32)), (.int (vo_20.getD nx.toNatClampNeg 0))]))
    have hc183_40 : (vo_20.getD nx.toNatClampNeg 0) = (p4.toInt8.toInt32) := by rw [own_clamp hnx2, hpO _ (Or.inr (by omega)), own_fill _ _ (by omega)]; exact own_byte8 _
    refine Gl.st (fun t k => XS.icmpYes X21.here hx rfl (pc0 := 183) (pc' := 188) rfl (hb hby at_183) rfl (teq hc183_40).1 (by decide) (by decide) k) ?_
    show Gl _ _ _ _ _ _ _ (T21.setTop (mkF m 188 #[.val (.long q1), .second, .val (.int p2), .val (.int p3), .val (.int p4), .val (.long vv), .second, .val (.int aa), .val (.int (p4.toInt8.toInt32)), .val (.ref b1), .val (.int nx), .unset, .unset, .unset] []))
    refine Gl.st (fun t k => XS.aload X21.here hx rfl (hb hby at_188) rfl rfl k) ?_
    show Gl _ _ _ _ _ _ _ (T21.setTop (mkF m 190 #[.val (.long q1), .second, .val (.int p2), .val (.int p3), .val (.int p4), .val (.long vv), .second, .val (.int aa), .val (.int (p4.toInt8.toInt32)), .val (.ref b1), .val (.int nx), .unset, .unset, .unset] [(.ref b1)]))
    refine Gl.st (fun t k => XS.iload X21.here hx rfl (hb hby at_190) rfl  k) ?_
    show Gl _ _ _ _ _ _ _ (T21.setTop (mkF m 192 #[.val (.long q1), .second, .val (.int p2), .val (.int p3), .val (.int p4), .val (.long vv), .second, .val (.int aa), .val (.int (p4.toInt8.toInt32)), .val (.ref b1), .val (.int nx), .unset, .unset, .unset] [(.int nx), (.ref b1)]))
    refine Gl.st (fun t k => XS.iconst X21.here hx rfl (hb hby at_192) k) ?_
    show Gl _ _ _ _ _ _ _ (T21.setTop (mkF m 193 #[.val (.long q1), .second, .val (.int p2), .val (.int p3), .val (.int p4), .val (.long vv), .second, .val (.int aa), .val (.int (p4.toInt8.toInt32)), .val (.ref b1), .val (.int nx), .unset, .unset, .unset] [(.int (1 : Int32)), (.int nx), (.ref b1)]))
    refine Gl.st (fun t k => XS.iadd X21.here hx rfl (hb hby at_193) rfl k) ?_
    show Gl _ _ _ _ _ _ _ (T21.setTop (mkF m 194 #[.val (.long q1), .second, .val (.int p2), .val (.int p3), .val (.int p4), .val (.long vv), .second, .val (.int aa), .val (.int (p4.toInt8.toInt32)), .val (.ref b1), .val (.int nx), .unset, .unset, .unset] [(.int (nx + (1 : Int32))), (.ref b1)]))
    have Vx41 := Fq20_0
    obtain ⟨cl41, Ar41, qk41, S41, M41, H41, G41⟩ := Vx41
    have hin41 : ¬ ((nx + (1 : Int32)) < 0 ∨ cl41.slots.size ≤ ((nx + (1 : Int32))).toNatClampNeg) := inb_of S41 ⟨own_nn (by rw [own_succ (by omega)]; omega), own_lit (n := 18) (by decide) (by rw [own_succ (by omega)]; omega)⟩
    have hat41 : cl41.slots[((nx + (1 : Int32))).toNatClampNeg]? = some (.int (vo_20.getD (nx + (1 : Int32)).toNatClampNeg 0)) := H41.at hin41 (own_getD vo_20 _)
    refine Gl.st (X21.baloadBytes hx (j := (nx + (1 : Int32))) (v := (.int (vo_20.getD (nx + (1 : Int32)).toNatClampNeg 0))) (by rw [e21]; exact Ar41.1) (State.isArrayOf_alike hZ.alike Ar41.2.1) Ar41.2.2 hin41 hat41 (g := (mkF m 194 #[.val (.long q1), .second, .val (.int p2), .val (.int p3), .val (.int p4), .val (.long vv), .second, .val (.int aa), .val (.int (p4.toInt8.toInt32)), .val (.ref b1), .val (.int nx), .unset, .unset, .unset] [(.int (nx + (1 : Int32))), (.ref b1)])) rfl rfl (hb hby at_194)) ?_
    show Gl _ _ _ _ _ _ _ (T21.setTop (mkF m 195 #[.val (.long q1), .second, .val (.int p2), .val (.int p3), .val (.int p4), .val (.long vv), .second, .val (.int aa), .val (.int (p4.toInt8.toInt32)), .val (.ref b1), .val (.int nx), .unset, .unset, .unset] [(.int (vo_20.getD (nx + (1 : Int32)).toNatClampNeg 0))]))
    refine Gl.st (fun t k => XS.iload X21.here hx rfl (hb hby at_195) rfl  k) ?_
    show Gl _ _ _ _ _ _ _ (T21.setTop (mkF m 197 #[.val (.long q1), .second, .val (.int p2), .val (.int p3), .val (.int p4), .val (.long vv), .second, .val (.int aa), .val (.int (p4.toInt8.toInt32)), .val (.ref b1), .val (.int nx), .unset, .unset, .unset] [(.int (p4.toInt8.toInt32)), (.int (vo_20.getD (nx + (1 : Int32)).toNatClampNeg 0))]))
    have hc197_42 : (vo_20.getD (nx + (1 : Int32)).toNatClampNeg 0) = (p4.toInt8.toInt32) := by have hx : (nx + (1 : Int32)).toNatClampNeg = aa.toInt.toNat + (own_len vv).toInt.toNat + 1 := own_clamp (by rw [own_succ (by omega)]; omega); rw [hx, hpO _ (Or.inr (by omega)), own_fill _ _ (by omega)]; exact own_byte8 _
    refine Gl.st (fun t k => XS.icmpYes X21.here hx rfl (pc0 := 197) (pc' := 202) rfl (hb hby at_197) rfl (teq hc197_42).1 (by decide) (by decide) k) ?_
    show Gl _ _ _ _ _ _ _ (T21.setTop (mkF m 202 #[.val (.long q1), .second, .val (.int p2), .val (.int p3), .val (.int p4), .val (.long vv), .second, .val (.int aa), .val (.int (p4.toInt8.toInt32)), .val (.ref b1), .val (.int nx), .unset, .unset, .unset] []))
    obtain ⟨T43, h43, X43, e43, E43, A43, D43, -, st43⟩ := newO X21 hx hZ hown (hw _ (List.mem_of_getElem? (i := 12) rfl)) (hw _ (List.mem_of_getElem? (i := 13) rfl)) (hw _ (List.mem_of_getElem? (i := 14) rfl)) e21 (g := (mkF m 202 #[.val (.long q1), .second, .val (.int p2), .val (.int p3), .val (.int p4), .val (.long vv), .second, .val (.int aa), .val (.int (p4.toInt8.toInt32)), .val (.ref b1), .val (.int nx), .unset, .unset, .unset] [])) rfl (hb hby at_202) (by decide) (by decide)
    obtain ⟨b43, g43⟩ : ∃ z, z = T20.heap.size := ⟨_, rfl⟩
    rw [← g43] at A43 D43 st43
    refine Gl.st st43 ?_
    have ne_b1_b43 : b1 ≠ b43 := Nat.ne_of_lt (Nat.lt_of_lt_of_le Fq20_0.lt (Nat.le_of_eq g43.symm))
    have gzb43 : n0 ≤ b43 := Nat.le_trans Z20 (Nat.le_of_eq g43.symm)
    have Z43 : n0 ≤ h43.size := Nat.le_trans Z20 E43.1
    have Fq20_0'44 : Arv Z h43 b1 k1 .byte (18 : Int32) (vo_20.map Value.int) (.int (0 : Int32)) := Fq20_0.ext E43
    have F43_bytes : Fld Z h43 b43 "com/example/millrace/millrace/storage/PackedGroups$Reader" "bytes" "[B" .null := D43 (Or.inr (hw _ (List.mem_of_getElem? (i := 22) rfl))) (ty := (.array .byte)) (by decide)
    have F43_end : Fld Z h43 b43 "com/example/millrace/millrace/storage/PackedGroups$Reader" "end" "I" (.int (0 : Int32)) := D43 (Or.inr (hw _ (List.mem_of_getElem? (i := 24) rfl))) (ty := .int) (by decide)
    have F43_at : Fld Z h43 b43 "com/example/millrace/millrace/storage/PackedGroups$Reader" "at" "I" (.int (0 : Int32)) := D43 (Or.inl (hw _ (List.mem_of_getElem? (i := 26) rfl))) (ty := .int) (by decide)
    have F43_offset : Fld Z h43 b43 "com/example/millrace/millrace/storage/PackedGroups$Reader" "offset" "J" (.long (0 : Int64)) := D43 (Or.inl (hw _ (List.mem_of_getElem? (i := 28) rfl))) (ty := .long) (by decide)
    have F43_endOffset : Fld Z h43 b43 "com/example/millrace/millrace/storage/PackedGroups$Reader" "endOffset" "J" (.long (0 : Int64)) := D43 (Or.inl (hw _ (List.mem_of_getElem? (i := 30) rfl))) (ty := .long) (by decide)
    have F43_position : Fld Z h43 b43 "com/example/millrace/millrace/storage/PackedGroups$Reader" "position" "J" (.long (0 : Int64)) := D43 (Or.inl (hw _ (List.mem_of_getElem? (i := 32) rfl))) (ty := .long) (by decide)
    have F43_endPosition : Fld Z h43 b43 "com/example/millrace/millrace/storage/PackedGroups$Reader" "endPosition" "J" (.long (0 : Int64)) := D43 (Or.inl (hw _ (List.mem_of_getElem? (i := 34) rfl))) (ty := .long) (by decide)
    show Gl _ _ _ _ _ _ _ (T43.setTop (mkF m 205 #[.val (.long q1), .second, .val (.int p2), .val (.int p3), .val (.int p4), .val (.long vv), .second, .val (.int aa), .val (.int (p4.toInt8.toInt32)), .val (.ref b1), .val (.int nx), .unset, .unset, .unset] [(.ref b43)]))
    refine Gl.st (fun t k => XS.dup X43.here hx rfl (hb hby at_205) rfl rfl k) ?_
    show Gl _ _ _ _ _ _ _ (T43.setTop (mkF m 206 #[.val (.long q1), .second, .val (.int p2), .val (.int p3), .val (.int p4), .val (.long vv), .second, .val (.int aa), .val (.int (p4.toInt8.toInt32)), .val (.ref b1), .val (.int nx), .unset, .unset, .unset] [(.ref b43), (.ref b43)]))
    refine Gl.st (fun t k => XS.aload X43.here hx rfl (hb hby at_206) rfl rfl k) ?_
    show Gl _ _ _ _ _ _ _ (T43.setTop (mkF m 208 #[.val (.long q1), .second, .val (.int p2), .val (.int p3), .val (.int p4), .val (.long vv), .second, .val (.int aa), .val (.int (p4.toInt8.toInt32)), .val (.ref b1), .val (.int nx), .unset, .unset, .unset] [(.ref b1), (.ref b43), (.ref b43)]))
    refine Gl.st (fun t k => XS.iload X43.here hx rfl (hb hby at_208) rfl  k) ?_
    show Gl _ _ _ _ _ _ _ (T43.setTop (mkF m 210 #[.val (.long q1), .second, .val (.int p2), .val (.int p3), .val (.int p4), .val (.long vv), .second, .val (.int aa), .val (.int (p4.toInt8.toInt32)), .val (.ref b1), .val (.int nx), .unset, .unset, .unset] [(.int aa), (.ref b1), (.ref b43), (.ref b43)]))
    refine Gl.st (fun t k => XS.aload X43.here hx rfl (hb hby at_210) rfl rfl k) ?_
    show Gl _ _ _ _ _ _ _ (T43.setTop (mkF m 212 #[.val (.long q1), .second, .val (.int p2), .val (.int p3), .val (.int p4), .val (.long vv), .second, .val (.int aa), .val (.int (p4.toInt8.toInt32)), .val (.ref b1), .val (.int nx), .unset, .unset, .unset] [(.ref b1), (.int aa), (.ref b1), (.ref b43), (.ref b43)]))
    have Vx45 := Fq20_0'44
    obtain ⟨cl45, Ar45, qk45, S45, M45, H45, G45⟩ := Vx45
    refine Gl.st (X43.arraylength hx (by rw [e43]; exact Ar45.1) (State.isArrayOf_alike hZ.alike Ar45.2.1) (g := (mkF m 212 #[.val (.long q1), .second, .val (.int p2), .val (.int p3), .val (.int p4), .val (.long vv), .second, .val (.int aa), .val (.int (p4.toInt8.toInt32)), .val (.ref b1), .val (.int nx), .unset, .unset, .unset] [(.ref b1), (.int aa), (.ref b1), (.ref b43), (.ref b43)])) rfl rfl (hb hby at_212)) ?_
    rw [len_of S45 M45]
    show Gl _ _ _ _ _ _ _ (T43.setTop (mkF m 213 #[.val (.long q1), .second, .val (.int p2), .val (.int p3), .val (.int p4), .val (.long vv), .second, .val (.int aa), .val (.int (p4.toInt8.toInt32)), .val (.ref b1), .val (.int nx), .unset, .unset, .unset] [(.int (18 : Int32)), (.int aa), (.ref b1), (.ref b43), (.ref b43)]))
    refine Gl.st (fun t k => XS.lconst X43.here hx rfl (hb hby at_213) k) ?_
    show Gl _ _ _ _ _ _ _ (T43.setTop (mkF m 214 #[.val (.long q1), .second, .val (.int p2), .val (.int p3), .val (.int p4), .val (.long vv), .second, .val (.int aa), .val (.int (p4.toInt8.toInt32)), .val (.ref b1), .val (.int nx), .unset, .unset, .unset] [(.long (0 : Int64)), (.int (18 : Int32)), (.int aa), (.ref b1), (.ref b43), (.ref b43)]))
    refine Gl.st (fun t k => XS.lconst X43.here hx rfl (hb hby at_214) k) ?_
    show Gl _ _ _ _ _ _ _ (T43.setTop (mkF m 215 #[.val (.long q1), .second, .val (.int p2), .val (.int p3), .val (.int p4), .val (.long vv), .second, .val (.int aa), .val (.int (p4.toInt8.toInt32)), .val (.ref b1), .val (.int nx), .unset, .unset, .unset] [(.long (0 : Int64)), (.long (0 : Int64)), (.int (18 : Int32)), (.int aa), (.ref b1), (.ref b43), (.ref b43)]))
    obtain ⟨_, _, ⟨T46, L46, k46, n46⟩, -, X46, ⟨Lc46, hQ46, l46, y46, z46⟩, st46⟩ := X43.specialBack hx (y := (⟨"com/example/millrace/millrace/storage/PackedGroups$Reader", "<init>", "([BIIJJ)V"⟩ : MethodName)) rfl hown (mvT hZ (hw _ (List.mem_of_getElem? (i := 15) rfl))) (mvT hZ (hw _ (List.mem_of_getElem? (i := 16) rfl))) (mvT hZ (hw _ (List.mem_of_getElem? (i := 17) rfl))) (by decide) (backOf (W := 1) (rm3 l Z a0 hw [] b43 b1 aa (18 : Int32) (0 : Int64) (0 : Int64) (.null) ((.int (0 : Int32))) ((.int (0 : Int32))) ((.long (0 : Int64))) ((.long (0 : Int64))) ((.long (0 : Int64))) ((.long (0 : Int64))) h43 n0 Z43 A43 F43_bytes F43_end F43_at F43_offset F43_endOffset F43_position F43_endPosition gzb43) hZ (hw _ (List.mem_of_getElem? (i := 17) rfl)) (hw _ (List.mem_of_getElem? (i := 14) rfl)) (by decide) (by decide)) (g := (mkF m 215 #[.val (.long q1), .second, .val (.int p2), .val (.int p3), .val (.int p4), .val (.long vv), .second, .val (.int aa), .val (.int (p4.toInt8.toInt32)), .val (.ref b1), .val (.int nx), .unset, .unset, .unset] [(.long (0 : Int64)), (.long (0 : Int64)), (.int (18 : Int32)), (.int aa), (.ref b1), (.ref b43), (.ref b43)])) rfl (by rw [hml]; rfl) (Steps.refl _) (a := b43) (argsL := [(.ref b1), (.int aa), (.int (18 : Int32)), (.long (0 : Int64)), (.long (0 : Int64))]) (rest := [(.ref b43)]) (lenOf pd_2 rfl) rfl (by show 2 * 0 + _ ≤ _; exact Nat.le_of_eq rfl) (hb hby at_215) (fun _ _ => ⟨rfl, e43, (by decide : 2 + 0 ≤ _), (by decide : 25 + 0 ≤ _)⟩)
    dsimp only [Pt.U, Pt.locs, Pt.cells, Pt.slots] at X46 l46 y46 z46 st46 hQ46
    rw [y46, z46] at X46
    obtain ⟨rfl, N46q, Kq46, Fq46_0, Fq46_1, Fq46_2, Fq46_3, Fq46_4, Fq46_5, Fq46_6, Fq46_7⟩ := hQ46
    have N46 : Fr n0 L46 := by rw [l46]; exact Fr.app N21 N46q
    have Z46 : n0 ≤ T46.heap.size := Nat.le_trans Z43 Kq46.1
    have Fq20_0'47 : Arv Z T46.heap b1 k1 .byte (18 : Int32) (vo_20.map Value.int) (.int (0 : Int32)) := Fq20_0'44.keep Kq46 (ninS ne_b1_b43 nin0)
    refine Gl.to st46 ?_
    show Gl _ _ _ _ _ _ _ (T46.setTop (mkF m 218 #[.val (.long q1), .second, .val (.int p2), .val (.int p3), .val (.int p4), .val (.long vv), .second, .val (.int aa), .val (.int (p4.toInt8.toInt32)), .val (.ref b1), .val (.int nx), .unset, .unset, .unset] [(.ref b43)]))
    refine Gl.st (fun t k => XS.astore X46.here hx rfl (hb hby at_218) rfl rfl (l' := #[.val (.long q1), .second, .val (.int p2), .val (.int p3), .val (.int p4), .val (.long vv), .second, .val (.int aa), .val (.int (p4.toInt8.toInt32)), .val (.ref b1), .val (.int nx), .val (.ref b43), .unset, .unset]) rfl k) ?_
    show Gl _ _ _ _ _ _ _ (T46.setTop (mkF m 220 #[.val (.long q1), .second, .val (.int p2), .val (.int p3), .val (.int p4), .val (.long vv), .second, .val (.int aa), .val (.int (p4.toInt8.toInt32)), .val (.ref b1), .val (.int nx), .val (.ref b43), .unset, .unset] []))
    refine Gl.st (fun t k => XS.aload X46.here hx rfl (hb hby at_220) rfl rfl k) ?_
    show Gl _ _ _ _ _ _ _ (T46.setTop (mkF m 222 #[.val (.long q1), .second, .val (.int p2), .val (.int p3), .val (.int p4), .val (.long vv), .second, .val (.int aa), .val (.int (p4.toInt8.toInt32)), .val (.ref b1), .val (.int nx), .val (.ref b43), .unset, .unset] [(.ref b43)]))
    obtain ⟨cq48, kq48, qa48, qb48, qc48⟩ := isOf hZ rfl Fq46_0
    obtain ⟨_, _, ⟨T48, L48, k48, n48⟩, -, X48, ⟨Lc48, hQ48, l48, y48, z48⟩, st48⟩ := X46.virtualBack hx (y := (⟨"com/example/millrace/millrace/storage/PackedGroups$Reader", "number", "()J"⟩ : MethodName)) (z := (⟨"com/example/millrace/millrace/storage/PackedGroups$Reader", "number", "()J"⟩ : MethodName)) hown (mvT hZ (hw _ (List.mem_of_getElem? (i := 35) rfl))) (mvT hZ (hw _ (List.mem_of_getElem? (i := 36) rfl))) (notFace_of_selects (args := #[]) (mvT hZ (hw _ (List.mem_of_getElem? (i := 38) rfl)))) (mvT hZ (hw _ (List.mem_of_getElem? (i := 38) rfl))) (mvT hZ (hw _ (List.mem_of_getElem? (i := 37) rfl))) (by decide) (backOf (W := 0) (rm5 l Z a0 hw [] b43 (b1) (aa) ((18 : Int32)) (k1) (vo_20) (aa.toInt.toNat) ((own_len vv).toInt.toNat) (vv.toInt.toNat) (min (own_len vv).toInt.toNat ((18 : Int32).toInt - (aa.toInt.toNat : Int)).toNat) T46.heap n0 Z46 Fq46_0 Fq46_1 Fq46_3 Fq46_2 Fq20_0'47 gzb43 ne_b1_b43 hpj rfl hpE hpn1 hpn9 hpB) hZ (hw _ (List.mem_of_getElem? (i := 39) rfl)) (hw _ (List.mem_of_getElem? (i := 14) rfl)) (by decide) (by decide)) qa48 qc48 (g := (mkF m 222 #[.val (.long q1), .second, .val (.int p2), .val (.int p3), .val (.int p4), .val (.long vv), .second, .val (.int aa), .val (.int (p4.toInt8.toInt32)), .val (.ref b1), .val (.int nx), .val (.ref b43), .unset, .unset] [(.ref b43)])) rfl (by rw [hml]; rfl) (Steps.refl _) (argsL := []) (rest := []) (lenOf pd_3 rfl) rfl (by show 2 * 0 + _ ≤ _; exact Nat.le_of_eq rfl) (hb hby at_222) (fun _ _ => ⟨rfl, rfl, (by decide : 2 + 0 ≤ _), (by decide : 25 + 0 ≤ _)⟩)
    dsimp only [Pt.U, Pt.locs, Pt.cells, Pt.slots] at X48 l48 y48 z48 st48 hQ48
    rw [y48, z48] at X48
    obtain ⟨rfl, N48q, Kq48, Fq48_0, Fq48_1, Fq48_2, Fq48_3⟩ := hQ48
    have N48 : Fr n0 L48 := by rw [l48]; exact Fr.app N46 N48q
    have Z48 : n0 ≤ T48.heap.size := Nat.le_trans Z46 Kq48.1
    have Fq20_0'49 : Arv Z T48.heap b1 k1 .byte (18 : Int32) (vo_20.map Value.int) (.int (0 : Int32)) := Fq20_0'47.keep Kq48 (ninS ne_b1_b43 nin0)
    refine Gl.to st48 ?_
    show Gl _ _ _ _ _ _ _ (T48.setTop (mkF m 225 #[.val (.long q1), .second, .val (.int p2), .val (.int p3), .val (.int p4), .val (.long vv), .second, .val (.int aa), .val (.int (p4.toInt8.toInt32)), .val (.ref b1), .val (.int nx), .val (.ref b43), .unset, .unset] [(.long (Int64.ofInt ((vv.toInt.toNat % 128 ^ min (own_len vv).toInt.toNat ((18 : Int32).toInt - (aa.toInt.toNat : Int)).toNat : Nat) : Int)))]))
    refine Gl.st (fun t k => XS.lstore X48.here hx rfl (hb hby at_225) rfl (l' := #[.val (.long q1), .second, .val (.int p2), .val (.int p3), .val (.int p4), .val (.long vv), .second, .val (.int aa), .val (.int (p4.toInt8.toInt32)), .val (.ref b1), .val (.int nx), .val (.ref b43), .val (.long (Int64.ofInt ((vv.toInt.toNat % 128 ^ min (own_len vv).toInt.toNat ((18 : Int32).toInt - (aa.toInt.toNat : Int)).toNat : Nat) : Int))), .second]) rfl k) ?_
    show Gl _ _ _ _ _ _ _ (T48.setTop (mkF m 227 #[.val (.long q1), .second, .val (.int p2), .val (.int p3), .val (.int p4), .val (.long vv), .second, .val (.int aa), .val (.int (p4.toInt8.toInt32)), .val (.ref b1), .val (.int nx), .val (.ref b43), .val (.long (Int64.ofInt ((vv.toInt.toNat % 128 ^ min (own_len vv).toInt.toNat ((18 : Int32).toInt - (aa.toInt.toNat : Int)).toNat : Nat) : Int))), .second] []))
    refine Gl.st (fun t k => XS.lload X48.here hx rfl (hb hby at_227) rfl  k) ?_
    show Gl _ _ _ _ _ _ _ (T48.setTop (mkF m 229 #[.val (.long q1), .second, .val (.int p2), .val (.int p3), .val (.int p4), .val (.long vv), .second, .val (.int aa), .val (.int (p4.toInt8.toInt32)), .val (.ref b1), .val (.int nx), .val (.ref b43), .val (.long (Int64.ofInt ((vv.toInt.toNat % 128 ^ min (own_len vv).toInt.toNat ((18 : Int32).toInt - (aa.toInt.toNat : Int)).toNat : Nat) : Int))), .second] [(.long (Int64.ofInt ((vv.toInt.toNat % 128 ^ min (own_len vv).toInt.toNat ((18 : Int32).toInt - (aa.toInt.toNat : Int)).toNat : Nat) : Int)))]))
    refine Gl.st (fun t k => XS.lload X48.here hx rfl (hb hby at_229) rfl  k) ?_
    show Gl _ _ _ _ _ _ _ (T48.setTop (mkF m 231 #[.val (.long q1), .second, .val (.int p2), .val (.int p3), .val (.int p4), .val (.long vv), .second, .val (.int aa), .val (.int (p4.toInt8.toInt32)), .val (.ref b1), .val (.int nx), .val (.ref b43), .val (.long (Int64.ofInt ((vv.toInt.toNat % 128 ^ min (own_len vv).toInt.toNat ((18 : Int32).toInt - (aa.toInt.toNat : Int)).toNat : Nat) : Int))), .second] [(.long vv), (.long (Int64.ofInt ((vv.toInt.toNat % 128 ^ min (own_len vv).toInt.toNat ((18 : Int32).toInt - (aa.toInt.toNat : Int)).toNat : Nat) : Int)))]))
    refine Gl.st (fun t k => XS.lcmp X48.here hx rfl (hb hby at_231) rfl k) ?_
    show Gl _ _ _ _ _ _ _ (T48.setTop (mkF m 232 #[.val (.long q1), .second, .val (.int p2), .val (.int p3), .val (.int p4), .val (.long vv), .second, .val (.int aa), .val (.int (p4.toInt8.toInt32)), .val (.ref b1), .val (.int nx), .val (.ref b43), .val (.long (Int64.ofInt ((vv.toInt.toNat % 128 ^ min (own_len vv).toInt.toNat ((18 : Int32).toInt - (aa.toInt.toNat : Int)).toNat : Nat) : Int))), .second] [(.int (lcmpW (Int64.ofInt ((vv.toInt.toNat % 128 ^ min (own_len vv).toInt.toNat ((18 : Int32).toInt - (aa.toInt.toNat : Int)).toNat : Nat) : Int)) vv))]))
    have hc232_50 : (Int64.ofInt ((vv.toInt.toNat % 128 ^ min (own_len vv).toInt.toNat ((18 : Int32).toInt - (aa.toInt.toNat : Int)).toNat : Nat) : Int)) = vv := by 
      have hm : min (own_len vv).toInt.toNat ((18 : Int32).toInt - (aa.toInt.toNat : Int)).toNat = (own_len vv).toInt.toNat := by rw [show (18 : Int32).toInt = 18 from by decide]; omega
      rw [hm, Nat.mod_eq_of_lt hpV]; exact (own_ofL hpv).symm
    refine Gl.st (fun t k => XS.ifNo X48.here hx rfl (hb hby at_232) rfl (le_t hc232_50).2 k) ?_
    show Gl _ _ _ _ _ _ _ (T48.setTop (mkF m 235 #[.val (.long q1), .second, .val (.int p2), .val (.int p3), .val (.int p4), .val (.long vv), .second, .val (.int aa), .val (.int (p4.toInt8.toInt32)), .val (.ref b1), .val (.int nx), .val (.ref b43), .val (.long (Int64.ofInt ((vv.toInt.toNat % 128 ^ min (own_len vv).toInt.toNat ((18 : Int32).toInt - (aa.toInt.toNat : Int)).toNat : Nat) : Int))), .second] []))
    refine Gl.st (fun t k => XS.aload X48.here hx rfl (hb hby at_235) rfl rfl k) ?_
    show Gl _ _ _ _ _ _ _ (T48.setTop (mkF m 237 #[.val (.long q1), .second, .val (.int p2), .val (.int p3), .val (.int p4), .val (.long vv), .second, .val (.int aa), .val (.int (p4.toInt8.toInt32)), .val (.ref b1), .val (.int nx), .val (.ref b43), .val (.long (Int64.ofInt ((vv.toInt.toNat % 128 ^ min (own_len vv).toInt.toNat ((18 : Int32).toInt - (aa.toInt.toNat : Int)).toNat : Nat) : Int))), .second] [(.ref b43)]))
    obtain ⟨cq51, kq51, qa51, qb51, qc51⟩ := isOf hZ rfl Fq48_0
    obtain ⟨_, _, ⟨T51, L51, k51, n51⟩, -, X51, ⟨Lc51, hQ51, l51, y51, z51⟩, st51⟩ := X48.virtualBack hx (y := (⟨"com/example/millrace/millrace/storage/PackedGroups$Reader", "at", "()I"⟩ : MethodName)) (z := (⟨"com/example/millrace/millrace/storage/PackedGroups$Reader", "at", "()I"⟩ : MethodName)) hown (mvT hZ (hw _ (List.mem_of_getElem? (i := 40) rfl))) (mvT hZ (hw _ (List.mem_of_getElem? (i := 41) rfl))) (notFace_of_selects (args := #[]) (mvT hZ (hw _ (List.mem_of_getElem? (i := 43) rfl)))) (mvT hZ (hw _ (List.mem_of_getElem? (i := 43) rfl))) (mvT hZ (hw _ (List.mem_of_getElem? (i := 42) rfl))) (by decide) (backOf (W := 0) (rm6 l Z a0 hw [] b43 ((Int32.ofInt ((aa.toInt.toNat + min (own_len vv).toInt.toNat ((18 : Int32).toInt - (aa.toInt.toNat : Int)).toNat : Nat) : Int))) T48.heap n0  Fq48_2) hZ (hw _ (List.mem_of_getElem? (i := 44) rfl)) (hw _ (List.mem_of_getElem? (i := 14) rfl)) (by decide) (by decide)) qa51 qc51 (g := (mkF m 237 #[.val (.long q1), .second, .val (.int p2), .val (.int p3), .val (.int p4), .val (.long vv), .second, .val (.int aa), .val (.int (p4.toInt8.toInt32)), .val (.ref b1), .val (.int nx), .val (.ref b43), .val (.long (Int64.ofInt ((vv.toInt.toNat % 128 ^ min (own_len vv).toInt.toNat ((18 : Int32).toInt - (aa.toInt.toNat : Int)).toNat : Nat) : Int))), .second] [(.ref b43)])) rfl (by rw [hml]; rfl) (Steps.refl _) (argsL := []) (rest := []) (lenOf pd_4 rfl) rfl (by show 2 * 0 + _ ≤ _; exact Nat.le_of_eq rfl) (hb hby at_237) (fun _ _ => ⟨rfl, rfl, (by decide : 2 + 0 ≤ _), (by decide : 25 + 0 ≤ _)⟩)
    dsimp only [Pt.U, Pt.locs, Pt.cells, Pt.slots] at X51 l51 y51 z51 st51 hQ51
    rw [y51, z51] at X51
    obtain ⟨rfl, N51q, e51⟩ := hQ51
    have N51 : Fr n0 L51 := by rw [l51]; exact Fr.app N48 N51q
    refine Gl.to st51 ?_
    show Gl _ _ _ _ _ _ _ (T51.setTop (mkF m 240 #[.val (.long q1), .second, .val (.int p2), .val (.int p3), .val (.int p4), .val (.long vv), .second, .val (.int aa), .val (.int (p4.toInt8.toInt32)), .val (.ref b1), .val (.int nx), .val (.ref b43), .val (.long (Int64.ofInt ((vv.toInt.toNat % 128 ^ min (own_len vv).toInt.toNat ((18 : Int32).toInt - (aa.toInt.toNat : Int)).toNat : Nat) : Int))), .second] [(.int (own_at (Int32.ofInt ((aa.toInt.toNat + min (own_len vv).toInt.toNat ((18 : Int32).toInt - (aa.toInt.toNat : Int)).toNat : Nat) : Int))))]))
    refine Gl.st (fun t k => XS.iload X51.here hx rfl (hb hby at_240) rfl  k) ?_
    show Gl _ _ _ _ _ _ _ (T51.setTop (mkF m 242 #[.val (.long q1), .second, .val (.int p2), .val (.int p3), .val (.int p4), .val (.long vv), .second, .val (.int aa), .val (.int (p4.toInt8.toInt32)), .val (.ref b1), .val (.int nx), .val (.ref b43), .val (.long (Int64.ofInt ((vv.toInt.toNat % 128 ^ min (own_len vv).toInt.toNat ((18 : Int32).toInt - (aa.toInt.toNat : Int)).toNat : Nat) : Int))), .second] [(.int nx), (.int (own_at (Int32.ofInt ((aa.toInt.toNat + min (own_len vv).toInt.toNat ((18 : Int32).toInt - (aa.toInt.toNat : Int)).toNat : Nat) : Int))))]))
    have hc242_52 : (own_at (Int32.ofInt ((aa.toInt.toNat + min (own_len vv).toInt.toNat ((18 : Int32).toInt - (aa.toInt.toNat : Int)).toNat : Nat) : Int))) = nx := by 
      have hm : min (own_len vv).toInt.toNat ((18 : Int32).toInt - (aa.toInt.toNat : Int)).toNat = (own_len vv).toInt.toNat := by rw [show (18 : Int32).toInt = 18 from by decide]; omega
      rw [hm, hnx]; rfl
    refine Gl.st (fun t k => XS.icmpNo X51.here hx rfl (hb hby at_242) rfl (teq hc242_52).2 k) ?_
    show Gl _ _ _ _ _ _ _ (T51.setTop (mkF m 245 #[.val (.long q1), .second, .val (.int p2), .val (.int p3), .val (.int p4), .val (.long vv), .second, .val (.int aa), .val (.int (p4.toInt8.toInt32)), .val (.ref b1), .val (.int nx), .val (.ref b43), .val (.long (Int64.ofInt ((vv.toInt.toNat % 128 ^ min (own_len vv).toInt.toNat ((18 : Int32).toInt - (aa.toInt.toNat : Int)).toNat : Nat) : Int))), .second] []))
    refine Gl.st (fun t k => XS.iconst X51.here hx rfl (hb hby at_245) k) ?_
    show Gl _ _ _ _ _ _ _ (T51.setTop (mkF m 246 #[.val (.long q1), .second, .val (.int p2), .val (.int p3), .val (.int p4), .val (.long vv), .second, .val (.int aa), .val (.int (p4.toInt8.toInt32)), .val (.ref b1), .val (.int nx), .val (.ref b43), .val (.long (Int64.ofInt ((vv.toInt.toNat % 128 ^ min (own_len vv).toInt.toNat ((18 : Int32).toInt - (aa.toInt.toNat : Int)).toNat : Nat) : Int))), .second] [(.int (1 : Int32))]))
    refine Gl.st (fun t k => XS.goto X51.here hx rfl (pc0 := 246) (pc' := 250) rfl (hb hby at_246) (by decide) (by decide) k) ?_
    show Gl _ _ _ _ _ _ _ (T51.setTop (mkF m 250 #[.val (.long q1), .second, .val (.int p2), .val (.int p3), .val (.int p4), .val (.long vv), .second, .val (.int aa), .val (.int (p4.toInt8.toInt32)), .val (.ref b1), .val (.int nx), .val (.ref b43), .val (.long (Int64.ofInt ((vv.toInt.toNat % 128 ^ min (own_len vv).toInt.toNat ((18 : Int32).toInt - (aa.toInt.toNat : Int)).toNat : Nat) : Int))), .second] [(.int (1 : Int32))]))
    exact Gl.retN X51 hx hlk Bd.returns (by simp) (hb hby at_250) (⟨rfl, N51⟩) (by decide) (by decide)
set_option maxRecDepth 65536 in
set_option maxHeartbeats 40000000 in
theorem comes_1 {Post : Tables → Env → Array Value → State → Outcome → State → Prop} (hpost : ∀ tb e args s v u, (limb_1_1.after args s (.returned v) u = true ∧ limb_1_2.after args s (.returned v) u = true ∧ True) → FrameEnd s (.returned v) u (Jvm.fieldLocs frame_1_writes args s ++ Jvm.arrayLocs frame_1_arrays args s ++ Jvm.staticLocs frame_1_statics s) 16 128 → Post tb e args s (.returned v) u) :
    ArmFor flags0 classFile x code maxLocals ret World_1 tables_1 room_1 Calls_1 rest_1 Pre_1 Post := by
  intro l hfl _ _ p e ha hc hk s m args below hf hA hF happ hP
  obtain ⟨hcalls, hrest, hpre⟩ := hP
  obtain ⟨-, -, -, hnamed, -, -, -, hat⟩ := (Spec.applies_iff hf).mp happ
  obtain ⟨hg, hn⟩ := and_e (Cond.before_iff.mp (show (Jvm.Cond.and given_1 narrow_1).before args s = true from hpre))
  obtain ⟨hcnt, hr0⟩ := and_e hg
  obtain ⟨ha0, hr1⟩ := and_e hr0
  obtain ⟨ha1, hr2⟩ := and_e hr1
  obtain ⟨ha2, hr3⟩ := and_e hr2
  have ha3 := hr3
  obtain ⟨w0, w1, w2, w3, rfl⟩ : ∃ w0 w1 w2 w3 : Value, args = #[w0, w1, w2, w3] := by
    have hs : args.size = 4 := by simpa [Cond.value, given_1] using hcnt
    obtain ⟨L⟩ := args
    match L, hs with
    | [w0, w1, w2, w3], _ => exact ⟨w0, w1, w2, w3, rfl⟩
  have hw := fun d (hd : d ∈ tables_1) => atoms_spec (ws := Jvm.Cond.code x code maxLocals ret :: tables_1) hat d (List.mem_cons_of_mem _ hd)
  obtain ⟨i0, ei0⟩ := isL_v ha0
  obtain rfl : w0 = (.long i0) := Option.some.inj ei0
  obtain ⟨i1, ei1⟩ := is_v ha1
  obtain rfl : w1 = (.int i1) := Option.some.inj ei1
  obtain ⟨i2, ei2⟩ := is_v ha2
  obtain rfl : w2 = (.int i2) := Option.some.inj ei2
  obtain ⟨i3, ei3⟩ := is_v ha3
  obtain rfl : w3 = (.int i3) := Option.some.inj ei3
  obtain ⟨n, o, h1, h2, h3, _, L, rfl, ⟨rfl, N⟩, hq⟩ := rm0 l s _ hw tables_1 i0 i1 i2 i3 s.heap s.heap.size (Nat.le_refl _) p e ha hc hk s m _ below hf ((Spec.applies_iff_loose hf).mp happ).1 ⟨rfl, State.Warmed39.refl s, rfl⟩ trivial
  refine ⟨n, _, h1, h2, h3, hpost _ _ _ _ _ _ ⟨Cond.after_iff.mpr rfl, Cond.after_iff.mpr (eq_i res_at (Term.int_eval (1)) rfl), trivial⟩ ⟨hq.1, hq.2.1, (hq.2.2.sift fun y hy => Or.inr (N y hy)).mono (by decide) (by decide)⟩⟩
theorem main_1_1 : Claimed_1_1 := comes_1 fun _ _ _ _ _ _ h hF => ⟨h.1, hF⟩
theorem main_1_2 : Claimed_1_2 := comes_1 fun _ _ _ _ _ _ h hF => ⟨h.2.1, hF⟩
end Jvm.Pilot.@@N@@
namespace Jvm.Pilot.@@N@@
open Jvm Jvm.ClassFile Sem Op Lib Jvm.Free Jvm.Stand Jvm.Pilot.@@N@@.Jvm.D
/-! MADE BY PROGRAM (witnessworld.py) out of the Statement's table words and the real class files: 10 classes; the members and pool entries that the words name. The judged class is class 1, her method 2. -/
namespace start1
open Jvm.ClassFile
def u (s : String) : CpInfo := .utf8 (stringToUtf16 s)
/-- a pool by its gaps: so many unusable entries, then the entry; so many at the end -/
def gap : Nat → List CpInfo → List CpInfo
  | 0, r => r
  | n + 1, r => .unusable :: gap n r
def poolList (es : List (Nat × CpInfo)) (last : Nat) : List CpInfo := es.foldr (fun e r => gap e.1 (e.2 :: r)) (gap last [])
def pool (es : List (Nat × CpInfo)) (last : Nat) : Array CpInfo := ⟨poolList es last⟩
def fileOf (pool : Array CpInfo) (this : Nat) (attrs : Array Attribute := #[]) (ms : Array MethodInfo := #[]) (fl : Nat := 33) (sup : Nat := 0) (ifs : Array Nat := #[]) (fds : Array FieldInfo := #[]) : ClassFile where
  minorVersion := 0
  majorVersion := 65
  constantPool := pool
  accessFlags := fl
  thisClass := this
  superClass := sup
  interfaces := ifs
  fields := fds
  methods := ms
  attributes := attrs
def plain (name : String) (sup : Option ClassId) : Class where
  name := name
  kind := .ordinary
  loader := none
  accessFlags := 33
  super := sup
  interfaces := #[]
  cf := none
  fields := #[]
  methods := #[]
  instanceTypes := #[]
  staticTypes := #[]
  resolved := #[]
  callSites := []
  init := .initialized
  statics := none
  mirror := none

def pool0 : Array CpInfo := pool [(5, u "<init>"), (0, u "()V"), (1, .class_ 10), (1, u "java/lang/Object")] 113

def k0c0 : Code := { maxStack := 0, maxLocals := 1, code := object_method_1_code, exceptionTable := #[], attributes := #[] }
def k0m0 : Method := { name := "<init>", desc := "()V", sig := { parameters := [], returnType := none }, accessFlags := 1, code := some k0c0 }
/-- java/lang/Object -/
def k0 : Class := { plain "java/lang/Object" none with
  accessFlags := 33
  interfaces := #[]
  cf := some (fileOf pool0 8 #[] #[{ accessFlags := 1, nameIndex := 5, descriptorIndex := 6, attributes := #[] }] 33 0 #[] #[])
  fields := #[]
  methods := #[k0m0]
  instanceTypes := #[]
  staticTypes := #[]
  resolved := Array.replicate 124 none
  statics := none }

def pool1 : Array CpInfo := pool [(2, .class_ 4), (1, u "java/lang/Object"), (0, u "<init>"), (0, u "()V"), (0, .long 128), (1, .long 16384), (1, .long 2097152), (1, .long 268435456), (1, .long 34359738368), (1, .long 4398046511104), (1, .long 562949953421312), (1, .long 72057594037927936), (3, .long 9223372036854775807), (1, .methodref 28 29), (0, .class_ 30), (0, .nameAndType 31 32), (0, u "com/example/millrace/millrace/storage/PackedGroups"), (0, u "put"), (0, u "([BIJ)I"), (0, .methodref 34 35), (0, .class_ 36), (0, .nameAndType 37 38), (0, u "com/example/millrace/millrace/storage/PackedGroupsPutPinLaw"), (0, u "len"), (0, u "(J)I"), (0, .class_ 40), (0, u "com/example/millrace/millrace/storage/PackedGroups$Reader"), (0, .methodref 39 42), (0, .nameAndType 5 43), (0, u "([BIIJJ)V"), (0, .methodref 39 45), (0, .nameAndType 46 47), (0, u "number"), (0, u "()J"), (0, .methodref 39 49), (0, .nameAndType 50 51), (0, u "at"), (0, u "()I"), (3, u "law"), (0, u "(JIII)Z")] 6

def k1m0 : Method := { name := "<init>", desc := "()V", sig := { parameters := [], returnType := none }, accessFlags := 2, code := none }
def k1c1 : Code := { maxStack := 4, maxLocals := 2, code := method_2_code, exceptionTable := #[], attributes := #[] }
def k1m1 : Method := { name := "len", desc := "(J)I", sig := { parameters := [.long], returnType := some .int }, accessFlags := 10, code := some k1c1 }
def k1c2 : Code := { maxStack := 9, maxLocals := 14, code := code, exceptionTable := #[], attributes := #[] }
def k1m2 : Method := { name := "law", desc := "(JIII)Z", sig := { parameters := [.long, .int, .int, .int], returnType := some .boolean }, accessFlags := 9, code := some k1c2 }
/-- com/example/millrace/millrace/storage/PackedGroupsPutPinLaw -/
def k1 : Class := { plain "com/example/millrace/millrace/storage/PackedGroupsPutPinLaw" (some 0) with
  accessFlags := 49
  interfaces := #[]
  cf := some (fileOf pool1 34 #[] #[{ accessFlags := 2, nameIndex := 5, descriptorIndex := 6, attributes := #[] }, { accessFlags := 10, nameIndex := 37, descriptorIndex := 38, attributes := #[] }, { accessFlags := 9, nameIndex := 55, descriptorIndex := 56, attributes := #[] }] 49 2 #[] #[])
  fields := #[]
  methods := #[k1m0, k1m1, k1m2]
  instanceTypes := #[]
  staticTypes := #[]
  resolved := Array.replicate 63 none
  statics := none }

def pool2 : Array CpInfo := pool [(2, .class_ 4), (1, u "java/lang/Object"), (0, u "<init>"), (0, u "()V"), (0, .long 128), (1, .class_ 10), (0, u "com/example/millrace/millrace/storage/PackedGroups"), (0, u "MAX_NUMBER_BYTES"), (0, u "I"), (4, u "put"), (0, u "([BIJ)I"), (4, .class_ 24), (0, u "com/example/millrace/millrace/storage/PackedGroups$Reader")] 2

def k2m0 : Method := { name := "<init>", desc := "()V", sig := { parameters := [], returnType := none }, accessFlags := 2, code := none }
def k2c1 : Code := { maxStack := 6, maxLocals := 7, code := prog_95_method_2_code, exceptionTable := #[], attributes := #[] }
def k2m1 : Method := { name := "put", desc := "([BIJ)I", sig := { parameters := [(.array .byte), .int, .long], returnType := some .int }, accessFlags := 8, code := some k2c1 }
/-- com/example/millrace/millrace/storage/PackedGroups -/
def k2 : Class := { plain "com/example/millrace/millrace/storage/PackedGroups" (some 0) with
  accessFlags := 48
  interfaces := #[]
  cf := some (fileOf pool2 9 #[.nestMembers #[23]] #[{ accessFlags := 2, nameIndex := 5, descriptorIndex := 6, attributes := #[] }, { accessFlags := 8, nameIndex := 17, descriptorIndex := 18, attributes := #[] }] 48 2 #[] #[{ accessFlags := 24, nameIndex := 11, descriptorIndex := 12, attributes := #[] }])
  fields := #[{ name := "MAX_NUMBER_BYTES", type := .int, accessFlags := 24, slot := 0, constantValue := 0 }]
  methods := #[k2m0, k2m1]
  instanceTypes := #[]
  staticTypes := #[.int]
  resolved := Array.replicate 27 none
  statics := none }

def pool3 : Array CpInfo := pool [(1, .methodref 2 3), (0, .class_ 4), (0, .nameAndType 5 6), (0, u "java/lang/Object"), (0, u "<init>"), (0, u "()V"), (0, .fieldref 8 9), (0, .class_ 10), (0, .nameAndType 11 12), (0, u "com/example/millrace/millrace/storage/PackedGroups$Reader"), (0, u "bytes"), (0, u "[B"), (0, .fieldref 8 14), (0, .nameAndType 15 16), (0, u "end"), (0, u "I"), (0, .fieldref 8 18), (0, .nameAndType 19 16), (0, u "at"), (0, .fieldref 8 21), (0, .nameAndType 22 23), (0, u "offset"), (0, u "J"), (0, .fieldref 8 25), (0, .nameAndType 26 23), (0, u "endOffset"), (0, .fieldref 8 28), (0, .nameAndType 29 23), (0, u "position"), (0, .fieldref 8 31), (0, .nameAndType 32 23), (0, u "endPosition"), (2, u "number"), (0, u "()J"), (5, u "([BIIJJ)V"), (5, u "()I"), (5, .class_ 55), (0, u "com/example/millrace/millrace/storage/PackedGroups")] 5

def k3c0 : Code := { maxStack := 3, maxLocals := 8, code := prog_96_method_1_code, exceptionTable := #[], attributes := #[] }
def k3m0 : Method := { name := "<init>", desc := "([BIIJJ)V", sig := { parameters := [(.array .byte), .int, .int, .long, .long], returnType := none }, accessFlags := 0, code := some k3c0 }
def k3c1 : Code := { maxStack := 5, maxLocals := 5, code := prog_96_method_3_code, exceptionTable := #[], attributes := #[] }
def k3m1 : Method := { name := "number", desc := "()J", sig := { parameters := [], returnType := some .long }, accessFlags := 0, code := some k3c1 }
def k3c2 : Code := { maxStack := 1, maxLocals := 1, code := prog_96_method_4_code, exceptionTable := #[], attributes := #[] }
def k3m2 : Method := { name := "at", desc := "()I", sig := { parameters := [], returnType := some .int }, accessFlags := 0, code := some k3c2 }
/-- com/example/millrace/millrace/storage/PackedGroups$Reader -/
def k3 : Class := { plain "com/example/millrace/millrace/storage/PackedGroups$Reader" (some 0) with
  accessFlags := 48
  interfaces := #[]
  cf := some (fileOf pool3 8 #[.nestHost 54] #[{ accessFlags := 0, nameIndex := 5, descriptorIndex := 42, attributes := #[] }, { accessFlags := 0, nameIndex := 35, descriptorIndex := 36, attributes := #[] }, { accessFlags := 0, nameIndex := 19, descriptorIndex := 48, attributes := #[] }] 48 2 #[] #[{ accessFlags := 18, nameIndex := 11, descriptorIndex := 12, attributes := #[] }, { accessFlags := 18, nameIndex := 15, descriptorIndex := 16, attributes := #[] }, { accessFlags := 2, nameIndex := 19, descriptorIndex := 16, attributes := #[] }, { accessFlags := 2, nameIndex := 22, descriptorIndex := 23, attributes := #[] }, { accessFlags := 2, nameIndex := 26, descriptorIndex := 23, attributes := #[] }, { accessFlags := 2, nameIndex := 29, descriptorIndex := 23, attributes := #[] }, { accessFlags := 2, nameIndex := 32, descriptorIndex := 23, attributes := #[] }])
  fields := #[{ name := "bytes", type := (.array .byte), accessFlags := 18, slot := 0, constantValue := 0 }, { name := "end", type := .int, accessFlags := 18, slot := 1, constantValue := 0 }, { name := "at", type := .int, accessFlags := 2, slot := 2, constantValue := 0 }, { name := "offset", type := .long, accessFlags := 2, slot := 3, constantValue := 0 }, { name := "endOffset", type := .long, accessFlags := 2, slot := 4, constantValue := 0 }, { name := "position", type := .long, accessFlags := 2, slot := 5, constantValue := 0 }, { name := "endPosition", type := .long, accessFlags := 2, slot := 6, constantValue := 0 }]
  methods := #[k3m0, k3m1, k3m2]
  instanceTypes := #[(.array .byte), .int, .int, .long, .long, .long, .long]
  staticTypes := #[]
  resolved := Array.replicate 61 none
  statics := none }

def pool4 : Array CpInfo := pool [(1, u "java/lang/Cloneable"), (0, .class_ 1), (0, u "java/lang/Object"), (0, .class_ 3)] 3

/-- java/lang/Cloneable -/
def k4 : Class := { plain "java/lang/Cloneable" (some 0) with
  accessFlags := 1537
  interfaces := #[]
  cf := some (fileOf pool4 2 #[] #[] 1537 4 #[] #[])
  fields := #[]
  methods := #[]
  instanceTypes := #[]
  staticTypes := #[]
  resolved := Array.replicate 8 none
  statics := none }

def pool5 : Array CpInfo := pool [(1, u "java/io/Serializable"), (0, .class_ 1), (0, u "java/lang/Object"), (0, .class_ 3)] 3

/-- java/io/Serializable -/
def k5 : Class := { plain "java/io/Serializable" (some 0) with
  accessFlags := 1537
  interfaces := #[]
  cf := some (fileOf pool5 2 #[] #[] 1537 4 #[] #[])
  fields := #[]
  methods := #[]
  instanceTypes := #[]
  staticTypes := #[]
  resolved := Array.replicate 8 none
  statics := none }

/-- the primitive byte -/
def k6 : Class := { plain "byte" none with kind := .primitive 'B', accessFlags := 0x411 }
/-- [B -/
def k7 : Class := { plain "[B" (some 0) with kind := .array 6 .byte, interfaces := #[4, 5], accessFlags := 1041 }

/-- the primitive int -/
def k8 : Class := { plain "int" none with kind := .primitive 'I', accessFlags := 0x411 }
/-- [I -/
def k9 : Class := { plain "[I" (some 0) with kind := .array 8 .int, interfaces := #[4, 5], accessFlags := 1041 }

def heap : Heap := #[]
def classes : Array Class := #[k0, k1, k2, k3, k4, k5, k6, k7, k8, k9]
def interned : List (Array UInt16 × Addr) := []
def slotsUsed : Nat := 0
def theMethod : MethodId := ⟨1, 2⟩
def args0 : Array Value := #[.long 500, .int 3, .int 2, .int (-7)]
def aboutOver (below : List Frame) : State where
  vm := { classes := classes, interned := interned.toArray }
  heap := heap
  slotsUsed := slotsUsed
  threads := #[{ frames := .invoking theMethod args0 :: below }]
def below0 : List Frame := [.native { method := ⟨0, 0⟩, args := #[] }]
def about1 : State := aboutOver below0
def p0 : Program := .bare "" "" ""
def e0 : Env := launch0.env 0 0 0
theorem w_frames : about1.frames = Frame.invoking theMethod args0 :: below0 := rfl
set_option maxRecDepth 65536 in
theorem w_args : argsFit about1.vm theMethod args0 = true := by decide +kernel
set_option maxRecDepth 65536 in
theorem w_heap : heapFits about1 = true := by decide +kernel
set_option maxRecDepth 65536 in
theorem w_runnable : about1.curStatus? = some .runnable := by decide +kernel
set_option maxRecDepth 65536 in
theorem w_alone : about1.alone = true := by decide +kernel
set_option maxRecDepth 65536 in
theorem w_named : about1.methodNamed? x = some theMethod := by decide +kernel
set_option maxRecDepth 65536 in
theorem w_hears : about1.hears theMethod below0 = true := by decide +kernel
set_option maxRecDepth 65536 in
theorem w_ripe : about1.ripe theMethod args0 below0 = true := by decide +kernel
theorem w_running : about1.status = .running := rfl
set_option maxRecDepth 65536 in
theorem w_room : about1.hasRoom e0.platform room_1 = true :=
  launch0.hasRoom_least _ room_1 (by decide +kernel) (by decide +kernel) (by decide +kernel) (by decide +kernel) (by decide +kernel) (by decide +kernel)
theorem allAtoms_all (ts : List Jvm.Cond) (a : Array Jvm.Value) (st : Jvm.State) : (allAtoms ts).before a st = ts.all (fun c => c.before a st) := by
  induction ts with
  | nil => rfl
  | cons c t ih =>
    show (Jvm.Cond.and c (allAtoms t)).before a st = _
    rw [Jvm.Cond.before_and, ih, List.all_cons]
def words1 : List Jvm.Cond := Jvm.Cond.code x code maxLocals ret :: tables_1
/-- a 'code' word, met by the world's own term for the bytes: nothing is compared byte by byte -/
theorem code_word {y : MethodName} {bytes : ByteArray} {mx : Nat} {rt : Option FieldType} {a : Array Value} {s : State} {m : MethodId} {meth : Method} {c : Code} (h1 : s.methodNamed? y = some m) (h2 : s.vm.method? m = some meth) (h3 : meth.code = some c) (h4 : c.code = bytes)
    (h5 : (c.maxLocals == mx && c.exceptionTable.isEmpty && decide (c.maxStack ≤ mostOperands) && decide (meth.sig.returnType = rt) && !meth.locks && decide (parseMethodDescriptor y.desc = some meth.sig)) = true) : (Jvm.Cond.code y bytes mx rt).before a s = true := by
  simp only [Bool.and_eq_true, beq_iff_eq, Bool.not_eq_true', decide_eq_true_eq] at h5
  obtain ⟨⟨⟨⟨⟨g1, g2⟩, g3⟩, g4⟩, g5⟩, g6⟩ := h5
  simp [Cond.before, Cond.holds, Cond.value, h1, h2, h3, h4, g1, g2, g3, g4, g5, g6]
def isCode : Jvm.Cond → Bool
  | .code _ _ _ _ => true
  | _ => false
theorem all_split {L : List Jvm.Cond} {P : Jvm.Cond → Bool} (h1 : L.all (fun c => isCode c || P c) = true) (h2 : ∀ c ∈ L.filter isCode, P c = true) : L.all P = true := by
  refine List.all_eq_true.mpr fun c hc => ?_
  have h := List.all_eq_true.mp h1 c hc
  rcases Bool.eq_false_or_eq_true (isCode c) with hi | hi
  · exact h2 c (List.mem_filter.mpr ⟨hc, hi⟩)
  · simpa [hi] using h
set_option maxRecDepth 65536 in
theorem w_c0 : (Jvm.Cond.code x code maxLocals ret).before args0 about1 = true := code_word (m := ⟨1, 2⟩) (meth := k1m2) (c := k1c2) (by decide +kernel) rfl rfl rfl (by decide +kernel)
set_option maxRecDepth 65536 in
theorem w_c1 : (Jvm.Cond.code ({ cls := "com/example/millrace/millrace/storage/PackedGroups", name := "put", desc := "([BIJ)I" } : Jvm.MethodName) prog_95_method_2_code (7 : Nat) (Option.some Jvm.ClassFile.FieldType.int)).before args0 about1 = true := code_word (m := ⟨2, 1⟩) (meth := k2m1) (c := k2c1) (by decide +kernel) rfl rfl rfl (by decide +kernel)
set_option maxRecDepth 65536 in
theorem w_c2 : (Jvm.Cond.code ({ cls := "com/example/millrace/millrace/storage/PackedGroupsPutPinLaw", name := "len", desc := "(J)I" } : Jvm.MethodName) method_2_code (2 : Nat) (Option.some Jvm.ClassFile.FieldType.int)).before args0 about1 = true := code_word (m := ⟨1, 1⟩) (meth := k1m1) (c := k1c1) (by decide +kernel) rfl rfl rfl (by decide +kernel)
set_option maxRecDepth 65536 in
theorem w_c3 : (Jvm.Cond.code ({ cls := "com/example/millrace/millrace/storage/PackedGroups$Reader", name := "<init>", desc := "([BIIJJ)V" } : Jvm.MethodName) prog_96_method_1_code (8 : Nat) (Option.none : Option Jvm.ClassFile.FieldType)).before args0 about1 = true := code_word (m := ⟨3, 0⟩) (meth := k3m0) (c := k3c0) (by decide +kernel) rfl rfl rfl (by decide +kernel)
set_option maxRecDepth 65536 in
theorem w_c4 : (Jvm.Cond.code ({ cls := "java/lang/Object", name := "<init>", desc := "()V" } : Jvm.MethodName) object_method_1_code (1 : Nat) (Option.none : Option Jvm.ClassFile.FieldType)).before args0 about1 = true := code_word (m := ⟨0, 0⟩) (meth := k0m0) (c := k0c0) (by decide +kernel) rfl rfl rfl (by decide +kernel)
set_option maxRecDepth 65536 in
theorem w_c5 : (Jvm.Cond.code ({ cls := "com/example/millrace/millrace/storage/PackedGroups$Reader", name := "number", desc := "()J" } : Jvm.MethodName) prog_96_method_3_code (5 : Nat) (Option.some Jvm.ClassFile.FieldType.long)).before args0 about1 = true := code_word (m := ⟨3, 1⟩) (meth := k3m1) (c := k3c1) (by decide +kernel) rfl rfl rfl (by decide +kernel)
set_option maxRecDepth 65536 in
theorem w_c6 : (Jvm.Cond.code ({ cls := "com/example/millrace/millrace/storage/PackedGroups$Reader", name := "at", desc := "()I" } : Jvm.MethodName) prog_96_method_4_code (1 : Nat) (Option.some Jvm.ClassFile.FieldType.int)).before args0 about1 = true := code_word (m := ⟨3, 2⟩) (meth := k3m2) (c := k3c2) (by decide +kernel) rfl rfl rfl (by decide +kernel)
def codes1 : List Jvm.Cond := [Jvm.Cond.code x code maxLocals ret, Jvm.Cond.code ({ cls := "com/example/millrace/millrace/storage/PackedGroups", name := "put", desc := "([BIJ)I" } : Jvm.MethodName) prog_95_method_2_code (7 : Nat) (Option.some Jvm.ClassFile.FieldType.int), Jvm.Cond.code ({ cls := "com/example/millrace/millrace/storage/PackedGroupsPutPinLaw", name := "len", desc := "(J)I" } : Jvm.MethodName) method_2_code (2 : Nat) (Option.some Jvm.ClassFile.FieldType.int), Jvm.Cond.code ({ cls := "com/example/millrace/millrace/storage/PackedGroups$Reader", name := "<init>", desc := "([BIIJJ)V" } : Jvm.MethodName) prog_96_method_1_code (8 : Nat) (Option.none : Option Jvm.ClassFile.FieldType), Jvm.Cond.code ({ cls := "java/lang/Object", name := "<init>", desc := "()V" } : Jvm.MethodName) object_method_1_code (1 : Nat) (Option.none : Option Jvm.ClassFile.FieldType), Jvm.Cond.code ({ cls := "com/example/millrace/millrace/storage/PackedGroups$Reader", name := "number", desc := "()J" } : Jvm.MethodName) prog_96_method_3_code (5 : Nat) (Option.some Jvm.ClassFile.FieldType.long), Jvm.Cond.code ({ cls := "com/example/millrace/millrace/storage/PackedGroups$Reader", name := "at", desc := "()I" } : Jvm.MethodName) prog_96_method_4_code (1 : Nat) (Option.some Jvm.ClassFile.FieldType.int)]
set_option maxRecDepth 65536 in
theorem codes_eq : words1.filter isCode = codes1 := rfl
theorem w_codes : ∀ c ∈ words1.filter isCode, c.before args0 about1 = true := by
  rw [codes_eq]
  intro c hc
  simp only [codes1, List.mem_cons, List.not_mem_nil, or_false] at hc
  rcases hc with rfl | rfl | rfl | rfl | rfl | rfl | rfl
  · exact w_c0
  · exact w_c1
  · exact w_c2
  · exact w_c3
  · exact w_c4
  · exact w_c5
  · exact w_c6
set_option maxRecDepth 65536 in
theorem w_t1 : (words1.take 24).all (fun c => isCode c || c.before args0 about1) = true := by decide +kernel
set_option maxRecDepth 65536 in
theorem w_t2 : ((words1.drop 24).take 24).all (fun c => isCode c || c.before args0 about1) = true := by decide +kernel
set_option maxRecDepth 65536 in
theorem w_t3 : ((words1.drop 24).drop 24).all (fun c => isCode c || c.before args0 about1) = true := by decide +kernel
theorem w_tables : (allAtoms (Jvm.Cond.code x code maxLocals ret :: tables_1)).before args0 about1 = true := by
  rw [allAtoms_all]
  show words1.all (fun c => c.before args0 about1) = true
  refine all_split ?_ w_codes
  rw [← List.take_append_drop 24 words1, List.all_append, w_t1, ← List.take_append_drop 24 (words1.drop 24), List.all_append, w_t2, w_t3]
  rfl
set_option maxRecDepth 65536 in
theorem w_case : (Jvm.Cond.and given_1 narrow_1).before args0 about1 = true := by decide +kernel
theorem w_applies : (headSpec (Jvm.Cond.code x code maxLocals ret :: tables_1) room_1).applies x e0.platform about1 = true :=
  (Spec.applies_iff w_frames).mpr ⟨w_running, w_runnable, w_alone, w_named, w_hears, w_ripe, w_room, w_tables⟩
theorem atStart : AtStart classFile x code maxLocals ret World_1 tables_1 room_1 Calls_1 rest_1 Pre_1 launch0 p0 e0 about1 theMethod args0 below0 :=
  ⟨lists_1, trivial, launch0.admits_env _ _ _, launch0.least_env, fairChoices_fair.cas, fairChoices_fair.clock, w_frames, w_args, w_heap, w_applies, trivial, trivial, w_case⟩
end start1
theorem witness_1 : WitnessClaimed_1 := ⟨start1.p0, start1.e0, start1.about1, start1.theMethod, start1.args0, start1.below0, start1.atStart⟩
end Jvm.Pilot.@@N@@
