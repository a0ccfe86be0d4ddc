import JvmDerived
import JvmDerived.Pilot.@@N@@Statement
import JvmDerived.Pilot.@@N@@Code
set_option linter.unusedVariables false
set_option linter.unusedSimpArgs false
namespace Jvm.RoadKit
open Sem ClassFile Op Lib Jvm.Stand Jvm.Free Jvm.LawKit
section New
variable {p : Program} {l : Launch} {e : Env} {R : Room} {s : State} {m : MethodId} {args : Array Value} {below : List Frame} {meth : Method} {c : Code} {T : State} {locs : List Loc} {cells slots : Nat}
theorem retI (X : Stand p l e R s m args below meth c T locs cells slots) (hx : p.tables.exec = Jvm.exec) {pc : Nat} {Ls : Array Slot} {z : Int32} {rest : List Value} (hret : meth.sig.returnType = some .int) (hd : decode c.code pc = .ok (.ireturn, 1)) {fs : List Frame}
    (hl : ∀ (f : JFrame) (acts : List Action), f.method = m → f.locked = none → f.entered = [] → (doReturn e (T.setTop f) acts (some (.int z))).1 = T.setFrames fs) : Steps p.tables e below (T.setTop (mkF m pc Ls (.int z :: rest))) (T.setFrames fs) :=
  retOut X hx hret rfl (Or.inl ⟨rfl, Or.inl rfl, z, rfl⟩) hd hl
end New
end Jvm.RoadKit
namespace Jvm.Pilot.@@N@@
open Jvm Jvm.ClassFile Sem Op Lib Jvm.Free Jvm.Stand Jvm.LawKit Jvm.RoadKit Bundle Jvm.Pilot.@@N@@.Jvm.D
def QL (n0 : Nat) (v : Option Value) (h : Heap) (L : List Loc) : Prop := v = some (.int 1) ∧ Fr n0 L
def QP (r : Option Value) (h0 : Heap) (n0 : Nat) (v : Option Value) (h : Heap) (L : List Loc) : Prop := v = r ∧ Fr n0 L ∧ h = h0
theorem d1_0 : decode jdk_29_method_70_code 0 = .ok (.lload_n 0, 1) := by decide +kernel
theorem d1_1 : decode jdk_29_method_70_code 1 = .ok (.lload_n 2, 1) := by decide +kernel
theorem d1_2 : decode jdk_29_method_70_code 2 = .ok (.lcmp, 1) := by decide +kernel
theorem d1_3 : decode jdk_29_method_70_code 3 = .ok (.ifCond .gt 7, 3) := by decide +kernel
theorem d1_6 : decode jdk_29_method_70_code 6 = .ok (.lload_n 0, 1) := by decide +kernel
theorem d1_7 : decode jdk_29_method_70_code 7 = .ok (.goto 4, 3) := by decide +kernel
theorem d1_10 : decode jdk_29_method_70_code 10 = .ok (.lload_n 2, 1) := by decide +kernel
theorem d1_11 : decode jdk_29_method_70_code 11 = .ok (.lreturn, 1) := by decide +kernel
theorem ef_1 (m : MethodId) (x0 : Int64) (x1 : Int64) : entryFrame m #[(.long x0), (.long x1)] 4 = mkF m 0 #[.val (.long x0), .second, .val (.long x1), .second] [] := by first | (simp [entryFrame, mkF, argsToLocals, Value.category]; done) | rfl
def f1 (w0 : Int64) (w1 : Int64) : Int64 := (if (0 : Int32) < (lcmpW w0 w1) then w1 else w0)
set_option maxRecDepth 65536 in
set_option maxHeartbeats 40000000 in
theorem rm1 (l : Launch) (Z : State) (a0 : Array Value) (hw : ∀ d ∈ tables_1, d.before a0 Z = true) (ws : List Jvm.Cond) (w0 : Int64) (w1 : Int64) (h0 : Heap) (n0 : Nat) (Z0 : n0 ≤ h0.size) :
    MetFree l (⟨"java/lang/Math", "min", "(JJ)J"⟩ : MethodName) (head1 (Jvm.Cond.code (⟨"java/lang/Math", "min", "(JJ)J"⟩ : MethodName) jdk_29_method_70_code 4 (some .long) :: ws) ({ frames := 0, cells := 0, slots := 0, locals := 0 } : Room)) (fun a U => a = #[(.long w0), (.long w1)] ∧ Z.Warmed39 U.vm ∧ U.heap = h0) (fun _ _ _ _ _ => True) (fun _ U o U' => ∃ v L, o = .returned v ∧ QP (some (.long (f1 w0 w1))) h0 n0 v U'.heap L ∧ FrameEnd U o U' L 0 0) := by
  refine MetFree.of_bodySF (Jvm.Free.JP.mathPlain rfl (by decide +kernel)) hisR ?_
  intro p e s m args below meth c s₁ Bd hml0 hP hK
  obtain ⟨rfl, hZ, hh⟩ := hP
  have hx := Bd.exec
  have hby := Bd.bytes
  have hml : c.maxLocals = 4 := hml0
  have hown : s.vm.findClass "java/lang/Math" = some m.cls := findClass_of_methodNamed Bd.named
  have hnm := (name_of_methodNamed Bd.named Bd.method).1
  have X0 : Stand p l e ({ frames := 0, cells := 0, slots := 0, locals := 0 } : Room) s m #[(.long w0), (.long w1)] below meth c s₁ [] 0 0 := Stand.of_body Bd
  have e0 : s₁.heap = h0 := by rw [← hh, Bd.state]; rfl
  have N0 := Fr.nil n0
  have pre0 : ∀ t, Steps p.tables e below (s₁.setTop (mkF m 0 #[.val (.long w0), .second, .val (.long w1), .second] [])) t → Steps p.tables e below (s₁.setTop (entryFrame m #[(.long w0), (.long w1)] 4)) t := fun t k => castTop (ef_1 m w0 w1) k
  have pre1 : ∀ t, Steps p.tables e below (s₁.setTop (mkF m 3 #[.val (.long w0), .second, .val (.long w1), .second] [(.int (lcmpW w0 w1))])) t → Steps p.tables e below (s₁.setTop (entryFrame m #[(.long w0), (.long w1)] 4)) t := fun t k => pre0 t (by
    show Steps p.tables e below (s₁.setTop (mkF m 0 #[.val (.long w0), .second, .val (.long w1), .second] [])) _
    refine XS.lloadN X0.here hx rfl (hb hby d1_0) rfl ?_
    show Steps p.tables e below (s₁.setTop (mkF m 1 #[.val (.long w0), .second, .val (.long w1), .second] [(.long w0)])) _
    refine XS.lloadN X0.here hx rfl (hb hby d1_1) rfl ?_
    show Steps p.tables e below (s₁.setTop (mkF m 2 #[.val (.long w0), .second, .val (.long w1), .second] [(.long w1), (.long w0)])) _
    refine XS.lcmp X0.here hx rfl (hb hby d1_2) rfl ?_
    exact k)
  by_cases hc3 : (0 : Int32) < (lcmpW w0 w1)
  · -- pc 3: (0 : Int32) < (lcmpW w0 w1)
    obtain ⟨fs, hr, hrun, hended, hW, hsame⟩ := X0.leave (v := (some (.long w1))) (fun h => by rw [Bd.returns] at h; cases h)
    refine ⟨_, _, pre1 _ ?_, hrun, hended, _, _, rfl, ?_, ⟨_, rfl⟩, hW, hsame.mono (by decide) (by decide)⟩
    · show Steps p.tables e below (s₁.setTop (mkF m 3 #[.val (.long w0), .second, .val (.long w1), .second] [(.int (lcmpW w0 w1))])) _
      refine XS.ifYes X0.here hx rfl (pc0 := 3) (pc' := 10) rfl (hb hby d1_3) rfl ((if0 _ _).trans (tlt hc3).2.2.1) (by decide) (by decide) ?_
      show Steps p.tables e below (s₁.setTop (mkF m 10 #[.val (.long w0), .second, .val (.long w1), .second] [])) _
      refine XS.lloadN X0.here hx rfl (hb hby d1_10) rfl ?_
      show Steps p.tables e below (s₁.setTop (mkF m 11 #[.val (.long w0), .second, .val (.long w1), .second] [(.long w1)])) _
      exact retOut X0 hx Bd.returns rfl (Or.inr (Or.inl ⟨rfl, rfl, _, rfl⟩)) (hb hby d1_11) hr
    · show QP (some (.long (f1 w0 w1))) h0 n0 _ s₁.heap _
      rw [e0]
      exact ⟨congrArg (fun z => some (Value.long z)) (Eq.symm (show (f1 w0 w1) = w1 from (if_pos hc3).trans (rfl))), N0, rfl⟩
  · -- pc 3: not (0 : Int32) < (lcmpW w0 w1)
    obtain ⟨fs, hr, hrun, hended, hW, hsame⟩ := X0.leave (v := (some (.long w0))) (fun h => by rw [Bd.returns] at h; cases h)
    refine ⟨_, _, pre1 _ ?_, hrun, hended, _, _, rfl, ?_, ⟨_, rfl⟩, hW, hsame.mono (by decide) (by decide)⟩
    · show Steps p.tables e below (s₁.setTop (mkF m 3 #[.val (.long w0), .second, .val (.long w1), .second] [(.int (lcmpW w0 w1))])) _
      refine XS.ifNo X0.here hx rfl (hb hby d1_3) rfl ((if0 _ _).trans (flt hc3).2.2.1) ?_
      show Steps p.tables e below (s₁.setTop (mkF m 6 #[.val (.long w0), .second, .val (.long w1), .second] [])) _
      refine XS.lloadN X0.here hx rfl (hb hby d1_6) rfl ?_
      show Steps p.tables e below (s₁.setTop (mkF m 7 #[.val (.long w0), .second, .val (.long w1), .second] [(.long w0)])) _
      refine XS.goto X0.here hx rfl (pc0 := 7) (pc' := 11) rfl (hb hby d1_7) (by decide) (by decide) ?_
      show Steps p.tables e below (s₁.setTop (mkF m 11 #[.val (.long w0), .second, .val (.long w1), .second] [(.long w0)])) _
      exact retOut X0 hx Bd.returns rfl (Or.inr (Or.inl ⟨rfl, rfl, _, rfl⟩)) (hb hby d1_11) hr
    · show QP (some (.long (f1 w0 w1))) h0 n0 _ s₁.heap _
      rw [e0]
      exact ⟨congrArg (fun z => some (Value.long z)) (Eq.symm (show (f1 w0 w1) = w0 from (if_neg hc3).trans (rfl))), N0, rfl⟩
theorem d2_0 : decode jdk_29_method_66_code 0 = .ok (.lload_n 0, 1) := by decide +kernel
theorem d2_1 : decode jdk_29_method_66_code 1 = .ok (.lload_n 2, 1) := by decide +kernel
theorem d2_2 : decode jdk_29_method_66_code 2 = .ok (.lcmp, 1) := by decide +kernel
theorem d2_3 : decode jdk_29_method_66_code 3 = .ok (.ifCond .lt 7, 3) := by decide +kernel
theorem d2_6 : decode jdk_29_method_66_code 6 = .ok (.lload_n 0, 1) := by decide +kernel
theorem d2_7 : decode jdk_29_method_66_code 7 = .ok (.goto 4, 3) := by decide +kernel
theorem d2_10 : decode jdk_29_method_66_code 10 = .ok (.lload_n 2, 1) := by decide +kernel
theorem d2_11 : decode jdk_29_method_66_code 11 = .ok (.lreturn, 1) := by decide +kernel
theorem ef_2 (m : MethodId) (x0 : Int64) (x1 : Int64) : entryFrame m #[(.long x0), (.long x1)] 4 = mkF m 0 #[.val (.long x0), .second, .val (.long x1), .second] [] := by first | (simp [entryFrame, mkF, argsToLocals, Value.category]; done) | rfl
def f2 (w0 : Int64) (w1 : Int64) : Int64 := (if (lcmpW w0 w1) < (0 : Int32) then w1 else w0)
set_option maxRecDepth 65536 in
set_option maxHeartbeats 40000000 in
theorem rm2 (l : Launch) (Z : State) (a0 : Array Value) (hw : ∀ d ∈ tables_1, d.before a0 Z = true) (ws : List Jvm.Cond) (w0 : Int64) (w1 : Int64) (h0 : Heap) (n0 : Nat) (Z0 : n0 ≤ h0.size) :
    MetFree l (⟨"java/lang/Math", "max", "(JJ)J"⟩ : MethodName) (head1 (Jvm.Cond.code (⟨"java/lang/Math", "max", "(JJ)J"⟩ : MethodName) jdk_29_method_66_code 4 (some .long) :: ws) ({ frames := 0, cells := 0, slots := 0, locals := 0 } : Room)) (fun a U => a = #[(.long w0), (.long w1)] ∧ Z.Warmed39 U.vm ∧ U.heap = h0) (fun _ _ _ _ _ => True) (fun _ U o U' => ∃ v L, o = .returned v ∧ QP (some (.long (f2 w0 w1))) h0 n0 v U'.heap L ∧ FrameEnd U o U' L 0 0) := by
  refine MetFree.of_bodySF (Jvm.Free.JP.mathPlain rfl (by decide +kernel)) hisR ?_
  intro p e s m args below meth c s₁ Bd hml0 hP hK
  obtain ⟨rfl, hZ, hh⟩ := hP
  have hx := Bd.exec
  have hby := Bd.bytes
  have hml : c.maxLocals = 4 := hml0
  have hown : s.vm.findClass "java/lang/Math" = some m.cls := findClass_of_methodNamed Bd.named
  have hnm := (name_of_methodNamed Bd.named Bd.method).1
  have X0 : Stand p l e ({ frames := 0, cells := 0, slots := 0, locals := 0 } : Room) s m #[(.long w0), (.long w1)] below meth c s₁ [] 0 0 := Stand.of_body Bd
  have e0 : s₁.heap = h0 := by rw [← hh, Bd.state]; rfl
  have N0 := Fr.nil n0
  have pre0 : ∀ t, Steps p.tables e below (s₁.setTop (mkF m 0 #[.val (.long w0), .second, .val (.long w1), .second] [])) t → Steps p.tables e below (s₁.setTop (entryFrame m #[(.long w0), (.long w1)] 4)) t := fun t k => castTop (ef_2 m w0 w1) k
  have pre1 : ∀ t, Steps p.tables e below (s₁.setTop (mkF m 3 #[.val (.long w0), .second, .val (.long w1), .second] [(.int (lcmpW w0 w1))])) t → Steps p.tables e below (s₁.setTop (entryFrame m #[(.long w0), (.long w1)] 4)) t := fun t k => pre0 t (by
    show Steps p.tables e below (s₁.setTop (mkF m 0 #[.val (.long w0), .second, .val (.long w1), .second] [])) _
    refine XS.lloadN X0.here hx rfl (hb hby d2_0) rfl ?_
    show Steps p.tables e below (s₁.setTop (mkF m 1 #[.val (.long w0), .second, .val (.long w1), .second] [(.long w0)])) _
    refine XS.lloadN X0.here hx rfl (hb hby d2_1) rfl ?_
    show Steps p.tables e below (s₁.setTop (mkF m 2 #[.val (.long w0), .second, .val (.long w1), .second] [(.long w1), (.long w0)])) _
    refine XS.lcmp X0.here hx rfl (hb hby d2_2) rfl ?_
    exact k)
  by_cases hc3 : (lcmpW w0 w1) < (0 : Int32)
  · -- pc 3: (lcmpW w0 w1) < (0 : Int32)
    obtain ⟨fs, hr, hrun, hended, hW, hsame⟩ := X0.leave (v := (some (.long w1))) (fun h => by rw [Bd.returns] at h; cases h)
    refine ⟨_, _, pre1 _ ?_, hrun, hended, _, _, rfl, ?_, ⟨_, rfl⟩, hW, hsame.mono (by decide) (by decide)⟩
    · show Steps p.tables e below (s₁.setTop (mkF m 3 #[.val (.long w0), .second, .val (.long w1), .second] [(.int (lcmpW w0 w1))])) _
      refine XS.ifYes X0.here hx rfl (pc0 := 3) (pc' := 10) rfl (hb hby d2_3) rfl ((if0 _ _).trans (tlt hc3).1) (by decide) (by decide) ?_
      show Steps p.tables e below (s₁.setTop (mkF m 10 #[.val (.long w0), .second, .val (.long w1), .second] [])) _
      refine XS.lloadN X0.here hx rfl (hb hby d2_10) rfl ?_
      show Steps p.tables e below (s₁.setTop (mkF m 11 #[.val (.long w0), .second, .val (.long w1), .second] [(.long w1)])) _
      exact retOut X0 hx Bd.returns rfl (Or.inr (Or.inl ⟨rfl, rfl, _, rfl⟩)) (hb hby d2_11) hr
    · show QP (some (.long (f2 w0 w1))) h0 n0 _ s₁.heap _
      rw [e0]
      exact ⟨congrArg (fun z => some (Value.long z)) (Eq.symm (show (f2 w0 w1) = w1 from (if_pos hc3).trans (rfl))), N0, rfl⟩
  · -- pc 3: not (lcmpW w0 w1) < (0 : Int32)
    obtain ⟨fs, hr, hrun, hended, hW, hsame⟩ := X0.leave (v := (some (.long w0))) (fun h => by rw [Bd.returns] at h; cases h)
    refine ⟨_, _, pre1 _ ?_, hrun, hended, _, _, rfl, ?_, ⟨_, rfl⟩, hW, hsame.mono (by decide) (by decide)⟩
    · show Steps p.tables e below (s₁.setTop (mkF m 3 #[.val (.long w0), .second, .val (.long w1), .second] [(.int (lcmpW w0 w1))])) _
      refine XS.ifNo X0.here hx rfl (hb hby d2_3) rfl ((if0 _ _).trans (flt hc3).1) ?_
      show Steps p.tables e below (s₁.setTop (mkF m 6 #[.val (.long w0), .second, .val (.long w1), .second] [])) _
      refine XS.lloadN X0.here hx rfl (hb hby d2_6) rfl ?_
      show Steps p.tables e below (s₁.setTop (mkF m 7 #[.val (.long w0), .second, .val (.long w1), .second] [(.long w0)])) _
      refine XS.goto X0.here hx rfl (pc0 := 7) (pc' := 11) rfl (hb hby d2_7) (by decide) (by decide) ?_
      show Steps p.tables e below (s₁.setTop (mkF m 11 #[.val (.long w0), .second, .val (.long w1), .second] [(.long w0)])) _
      exact retOut X0 hx Bd.returns rfl (Or.inr (Or.inl ⟨rfl, rfl, _, rfl⟩)) (hb hby d2_11) hr
    · show QP (some (.long (f2 w0 w1))) h0 n0 _ s₁.heap _
      rw [e0]
      exact ⟨congrArg (fun z => some (Value.long z)) (Eq.symm (show (f2 w0 w1) = w0 from (if_neg hc3).trans (rfl))), N0, rfl⟩
theorem d3_0 : decode prog_58_method_3_code 0 = .ok (.lload_n 0, 1) := by decide +kernel
theorem d3_1 : decode prog_58_method_3_code 1 = .ok (.lconst 0, 1) := by decide +kernel
theorem d3_2 : decode prog_58_method_3_code 2 = .ok (.lcmp, 1) := by decide +kernel
theorem d3_3 : decode prog_58_method_3_code 3 = .ok (.ifCond .le 7, 3) := by decide +kernel
theorem d3_6 : decode prog_58_method_3_code 6 = .ok (.iconst 1, 1) := by decide +kernel
theorem d3_7 : decode prog_58_method_3_code 7 = .ok (.goto 4, 3) := by decide +kernel
theorem d3_10 : decode prog_58_method_3_code 10 = .ok (.iconst 0, 1) := by decide +kernel
theorem d3_11 : decode prog_58_method_3_code 11 = .ok (.ireturn, 1) := by decide +kernel
theorem pn_3 : plainName "com/example/scorpus/scorpus/evaluation/Judgments" = true := by first | (simp [plainName, overriddenIn]; done) | decide +kernel
theorem ef_3 (m : MethodId) (x0 : Int64) : entryFrame m #[(.long x0)] 2 = mkF m 0 #[.val (.long x0), .second] [] := by first | (simp [entryFrame, mkF, argsToLocals, Value.category]; done) | rfl
def f3 (w0 : Int64) : Int32 := (if (0 : Int32) < (lcmpW w0 (0 : Int64)) then (1 : Int32) else (0 : Int32))
set_option maxRecDepth 65536 in
set_option maxHeartbeats 40000000 in
theorem rm3 (l : Launch) (Z : State) (a0 : Array Value) (hw : ∀ d ∈ tables_1, d.before a0 Z = true) (ws : List Jvm.Cond) (w0 : Int64) (h0 : Heap) (n0 : Nat) (Z0 : n0 ≤ h0.size) :
    MetFree l (⟨"com/example/scorpus/scorpus/evaluation/Judgments", "isRelevant", "(J)Z"⟩ : MethodName) (head1 (Jvm.Cond.code (⟨"com/example/scorpus/scorpus/evaluation/Judgments", "isRelevant", "(J)Z"⟩ : MethodName) prog_58_method_3_code 2 (some .boolean) :: ws) ({ frames := 0, cells := 0, slots := 0, locals := 0 } : Room)) (fun a U => a = #[(.long w0)] ∧ Z.Warmed39 U.vm ∧ U.heap = h0) (fun _ _ _ _ _ => True) (fun _ U o U' => ∃ v L, o = .returned v ∧ QP (some (.int (f3 w0))) h0 n0 v U'.heap L ∧ FrameEnd U o U' L 0 0) := by
  refine MetFree.of_bodySF (plainFor_of_name pn_3) hisR ?_
  intro p e s m args below meth c s₁ Bd hml0 hP hK
  obtain ⟨rfl, hZ, hh⟩ := hP
  have hx := Bd.exec
  have hby := Bd.bytes
  have hml : c.maxLocals = 2 := hml0
  have hown : s.vm.findClass "com/example/scorpus/scorpus/evaluation/Judgments" = some m.cls := findClass_of_methodNamed Bd.named
  have hnm := (name_of_methodNamed Bd.named Bd.method).1
  have X0 : Stand p l e ({ frames := 0, cells := 0, slots := 0, locals := 0 } : Room) s m #[(.long w0)] below meth c s₁ [] 0 0 := Stand.of_body Bd
  have e0 : s₁.heap = h0 := by rw [← hh, Bd.state]; rfl
  have N0 := Fr.nil n0
  have pre0 : ∀ t, Steps p.tables e below (s₁.setTop (mkF m 0 #[.val (.long w0), .second] [])) t → Steps p.tables e below (s₁.setTop (entryFrame m #[(.long w0)] 2)) t := fun t k => castTop (ef_3 m w0) k
  have pre1 : ∀ t, Steps p.tables e below (s₁.setTop (mkF m 3 #[.val (.long w0), .second] [(.int (lcmpW w0 (0 : Int64)))])) t → Steps p.tables e below (s₁.setTop (entryFrame m #[(.long w0)] 2)) t := fun t k => pre0 t (by
    show Steps p.tables e below (s₁.setTop (mkF m 0 #[.val (.long w0), .second] [])) _
    refine XS.lloadN X0.here hx rfl (hb hby d3_0) rfl ?_
    show Steps p.tables e below (s₁.setTop (mkF m 1 #[.val (.long w0), .second] [(.long w0)])) _
    refine XS.lconst X0.here hx rfl (hb hby d3_1) ?_
    show Steps p.tables e below (s₁.setTop (mkF m 2 #[.val (.long w0), .second] [(.long (0 : Int64)), (.long w0)])) _
    refine XS.lcmp X0.here hx rfl (hb hby d3_2) rfl ?_
    exact k)
  by_cases hc3 : (0 : Int32) < (lcmpW w0 (0 : Int64))
  · -- pc 3: (0 : Int32) < (lcmpW w0 (0 : Int64))
    obtain ⟨fs, hr, hrun, hended, hW, hsame⟩ := X0.leave (v := (some (.int (1 : Int32)))) (fun h => by rw [Bd.returns] at h; cases h)
    refine ⟨_, _, pre1 _ ?_, hrun, hended, _, _, rfl, ?_, ⟨_, rfl⟩, hW, hsame.mono (by decide) (by decide)⟩
    · show Steps p.tables e below (s₁.setTop (mkF m 3 #[.val (.long w0), .second] [(.int (lcmpW w0 (0 : Int64)))])) _
      refine XS.ifNo X0.here hx rfl (hb hby d3_3) rfl ((if0 _ _).trans (tlt hc3).2.2.2) ?_
      show Steps p.tables e below (s₁.setTop (mkF m 6 #[.val (.long w0), .second] [])) _
      refine XS.iconst X0.here hx rfl (hb hby d3_6) ?_
      show Steps p.tables e below (s₁.setTop (mkF m 7 #[.val (.long w0), .second] [(.int (1 : Int32))])) _
      refine XS.goto X0.here hx rfl (pc0 := 7) (pc' := 11) rfl (hb hby d3_7) (by decide) (by decide) ?_
      show Steps p.tables e below (s₁.setTop (mkF m 11 #[.val (.long w0), .second] [(.int (1 : Int32))])) _
      exact retN X0 hx (t := .boolean) Bd.returns (by simp) (hb hby d3_11) hr
    · show QP (some (.int (f3 w0))) h0 n0 _ s₁.heap _
      rw [e0]
      exact ⟨congrArg (fun z => some (Value.int z)) (Eq.symm (show (f3 w0) = (1 : Int32) from (if_pos hc3).trans (rfl))), N0, rfl⟩
  · -- pc 3: not (0 : Int32) < (lcmpW w0 (0 : Int64))
    obtain ⟨fs, hr, hrun, hended, hW, hsame⟩ := X0.leave (v := (some (.int (0 : Int32)))) (fun h => by rw [Bd.returns] at h; cases h)
    refine ⟨_, _, pre1 _ ?_, hrun, hended, _, _, rfl, ?_, ⟨_, rfl⟩, hW, hsame.mono (by decide) (by decide)⟩
    · show Steps p.tables e below (s₁.setTop (mkF m 3 #[.val (.long w0), .second] [(.int (lcmpW w0 (0 : Int64)))])) _
      refine XS.ifYes X0.here hx rfl (pc0 := 3) (pc' := 10) rfl (hb hby d3_3) rfl ((if0 _ _).trans (flt hc3).2.2.2) (by decide) (by decide) ?_
      show Steps p.tables e below (s₁.setTop (mkF m 10 #[.val (.long w0), .second] [])) _
      refine XS.iconst X0.here hx rfl (hb hby d3_10) ?_
      show Steps p.tables e below (s₁.setTop (mkF m 11 #[.val (.long w0), .second] [(.int (0 : Int32))])) _
      exact retN X0 hx (t := .boolean) Bd.returns (by simp) (hb hby d3_11) hr
    · show QP (some (.int (f3 w0))) h0 n0 _ s₁.heap _
      rw [e0]
      exact ⟨congrArg (fun z => some (Value.int z)) (Eq.symm (show (f3 w0) = (0 : Int32) from (if_neg hc3).trans (rfl))), N0, rfl⟩
theorem pn_0 : plainName "com/example/scorpus/scorpus/evaluation/JudgmentsIsRelevantPinLaw" = true := by first | (simp [plainName, overriddenIn]; done) | decide +kernel
theorem ef_0 (m : MethodId) (x0 : Int64) (x1 : Int64) : entryFrame m #[(.long x0), (.long x1)] maxLocals = mkF m 0 #[.val (.long x0), .second, .val (.long x1), .second, .unset, .unset, .unset, .unset, .unset, .unset, .unset] [] := by first | (simp [entryFrame, mkF, argsToLocals, Value.category, maxLocals]; done) | rfl
theorem pd_0 : parseMethodDescriptor "(JJ)J" = some ⟨[.long, .long], some .long⟩ := by decide +kernel
def j0_14 (w0 : Int64) (w1 : Int64) : Int32 := (if (f3 (f1 w0 w1)) = (0 : Int32) then (1 : Int32) else (if (f3 (f2 w0 w1)) = (0 : Int32) then (0 : Int32) else (1 : Int32)))
theorem pd_1 : parseMethodDescriptor "(J)Z" = some ⟨[.long], some .boolean⟩ := by decide +kernel
def j0_37  : Int32 := (if (f3 (0 : Int64)) = (0 : Int32) then (1 : Int32) else (0 : Int32))
def f0 (w0 : Int64) (w1 : Int64) : Int32 := (if (j0_14 w0 w1) = (0 : Int32) then (0 : Int32) else (if (j0_37) = (0 : Int32) then (0 : Int32) else (if (f3 (1 : Int64)) = (0 : Int32) then (0 : Int32) else (1 : Int32))))
set_option maxRecDepth 65536 in
set_option maxHeartbeats 40000000 in
theorem rm0 (l : Launch) (Z : State) (a0 : Array Value) (hw : ∀ d ∈ tables_1, d.before a0 Z = true) (ws : List Jvm.Cond) (w0 : Int64) (w1 : Int64) (h0 : Heap) (n0 : Nat) (Z0 : n0 ≤ h0.size) :
    MetFree l x (head1 (Jvm.Cond.code x code maxLocals ret :: ws) room_1) (fun a U => a = #[(.long w0), (.long w1)] ∧ Z.Warmed39 U.vm ∧ U.heap = h0) (fun _ _ _ _ _ => True) (fun _ U o U' => ∃ v L, o = .returned v ∧ QP (some (.int (f0 w0 w1))) h0 n0 v U'.heap L ∧ FrameEnd U o U' L 0 0) := by
  refine MetFree.of_bodySF (plainFor_of_name pn_0) hisR ?_
  intro p e s m args below meth c s₁ Bd hml0 hP hK
  obtain ⟨rfl, hZ, hh⟩ := hP
  have hx := Bd.exec
  have hby := Bd.bytes
  have hml : c.maxLocals = 11 := hml0
  have hown : s.vm.findClass "com/example/scorpus/scorpus/evaluation/JudgmentsIsRelevantPinLaw" = some m.cls := findClass_of_methodNamed Bd.named
  have hnm := (name_of_methodNamed Bd.named Bd.method).1
  have X0 : Stand p l e room_1 s m #[(.long w0), (.long w1)] below meth c s₁ [] 0 0 := Stand.of_body Bd
  have e0 : s₁.heap = h0 := by rw [← hh, Bd.state]; rfl
  have N0 := Fr.nil n0
  have pre0 : ∀ t, Steps p.tables e below (s₁.setTop (mkF m 0 #[.val (.long w0), .second, .val (.long w1), .second, .unset, .unset, .unset, .unset, .unset, .unset, .unset] [])) t → Steps p.tables e below (s₁.setTop (entryFrame m #[(.long w0), (.long w1)] maxLocals)) t := fun t k => castTop (ef_0 m w0 w1) k
  obtain ⟨_, _, ⟨T1, L1, k1, n1⟩, -, X1, ⟨Lc1, hQ1, l1, y1, z1⟩, st1⟩ := Jvm.LawKit.callS X0 hx (y := (⟨"java/lang/Math", "min", "(JJ)J"⟩ : MethodName)) hown (mvT hZ (hw _ (List.mem_of_getElem? (i := 0) rfl))) (mvT hZ (hw _ (List.mem_of_getElem? (i := 1) rfl))) (mvT hZ (hw _ (List.mem_of_getElem? (i := 2) rfl))) (mvT hZ (hw _ (List.mem_of_getElem? (i := 3) rfl))) (by decide) (backOf (W := 0) (rm1 l Z a0 hw [] w0 w1  h0 n0 Z0 ) hZ (hw _ (List.mem_of_getElem? (i := 3) rfl)) (hw _ (List.mem_of_getElem? (i := 2) rfl)) (by decide) (by decide)) (g := (mkF m 2 #[.val (.long w0), .second, .val (.long w1), .second, .unset, .unset, .unset, .unset, .unset, .unset, .unset] [(.long w1), (.long w0)])) rfl (by rw [hml]; rfl) (argsL := [(.long w0), (.long w1)]) (rest := []) (lenOf pd_0 rfl) rfl (by show 2 * 0 + _ ≤ _; exact Nat.le_of_eq rfl) (hb hby at_2) (fun _ _ => ⟨rfl, e0, (by decide : 0 + 0 ≤ _), (by decide : 0 + 0 ≤ _)⟩)
  dsimp only [Pt.U, Pt.locs, Pt.cells, Pt.slots] at X1 l1 y1 z1 st1 hQ1
  subst l1 y1 z1
  obtain ⟨rfl, N1q, e1⟩ := hQ1
  have N1 := Fr.app N0 N1q
  obtain ⟨_, _, ⟨T2, L2, k2, n2⟩, -, X2, ⟨Lc2, hQ2, l2, y2, z2⟩, st2⟩ := Jvm.LawKit.callS X1 hx (y := (⟨"java/lang/Math", "max", "(JJ)J"⟩ : MethodName)) hown (mvT hZ (hw _ (List.mem_of_getElem? (i := 4) rfl))) (mvT hZ (hw _ (List.mem_of_getElem? (i := 5) rfl))) (mvT hZ (hw _ (List.mem_of_getElem? (i := 2) rfl))) (mvT hZ (hw _ (List.mem_of_getElem? (i := 6) rfl))) (by decide) (backOf (W := 0) (rm2 l Z a0 hw [] w0 w1  h0 n0 Z0 ) hZ (hw _ (List.mem_of_getElem? (i := 6) rfl)) (hw _ (List.mem_of_getElem? (i := 2) rfl)) (by decide) (by decide)) (g := (mkF m 9 #[.val (.long w0), .second, .val (.long w1), .second, .val (.long (f1 w0 w1)), .second, .unset, .unset, .unset, .unset, .unset] [(.long w1), (.long w0)])) rfl (by rw [hml]; rfl) (argsL := [(.long w0), (.long w1)]) (rest := []) (lenOf pd_0 rfl) rfl (by show 2 * 0 + _ ≤ _; exact Nat.le_of_eq rfl) (hb hby at_9) (fun _ _ => ⟨rfl, e1, (by decide : 0 + 0 ≤ _), (by decide : 0 + 0 ≤ _)⟩)
  dsimp only [Pt.U, Pt.locs, Pt.cells, Pt.slots] at X2 l2 y2 z2 st2 hQ2
  subst l2 y2 z2
  obtain ⟨rfl, N2q, e2⟩ := hQ2
  have N2 := Fr.app N1 N2q
  have pre3 : ∀ t, Steps p.tables e below (T2.setTop (mkF m 14 #[.val (.long w0), .second, .val (.long w1), .second, .val (.long (f1 w0 w1)), .second, .val (.long (f2 w0 w1)), .second, .unset, .unset, .unset] [])) t → Steps p.tables e below (s₁.setTop (entryFrame m #[(.long w0), (.long w1)] maxLocals)) t := fun t k => pre0 t (by
    show Steps p.tables e below (s₁.setTop (mkF m 0 #[.val (.long w0), .second, .val (.long w1), .second, .unset, .unset, .unset, .unset, .unset, .unset, .unset] [])) _
    refine XS.lloadN X0.here hx rfl (hb hby at_0) rfl ?_
    show Steps p.tables e below (s₁.setTop (mkF m 1 #[.val (.long w0), .second, .val (.long w1), .second, .unset, .unset, .unset, .unset, .unset, .unset, .unset] [(.long w0)])) _
    refine XS.lloadN X0.here hx rfl (hb hby at_1) rfl ?_
    show Steps p.tables e below (s₁.setTop (mkF m 2 #[.val (.long w0), .second, .val (.long w1), .second, .unset, .unset, .unset, .unset, .unset, .unset, .unset] [(.long w1), (.long w0)])) _
    refine st1 _ ?_
    show Steps p.tables e below (T1.setTop (mkF m 5 #[.val (.long w0), .second, .val (.long w1), .second, .unset, .unset, .unset, .unset, .unset, .unset, .unset] [(.long (f1 w0 w1))])) _
    refine XS.lstore X1.here hx rfl (hb hby at_5) rfl (l' := #[.val (.long w0), .second, .val (.long w1), .second, .val (.long (f1 w0 w1)), .second, .unset, .unset, .unset, .unset, .unset]) rfl ?_
    show Steps p.tables e below (T1.setTop (mkF m 7 #[.val (.long w0), .second, .val (.long w1), .second, .val (.long (f1 w0 w1)), .second, .unset, .unset, .unset, .unset, .unset] [])) _
    refine XS.lloadN X1.here hx rfl (hb hby at_7) rfl ?_
    show Steps p.tables e below (T1.setTop (mkF m 8 #[.val (.long w0), .second, .val (.long w1), .second, .val (.long (f1 w0 w1)), .second, .unset, .unset, .unset, .unset, .unset] [(.long w0)])) _
    refine XS.lloadN X1.here hx rfl (hb hby at_8) rfl ?_
    show Steps p.tables e below (T1.setTop (mkF m 9 #[.val (.long w0), .second, .val (.long w1), .second, .val (.long (f1 w0 w1)), .second, .unset, .unset, .unset, .unset, .unset] [(.long w1), (.long w0)])) _
    refine st2 _ ?_
    show Steps p.tables e below (T2.setTop (mkF m 12 #[.val (.long w0), .second, .val (.long w1), .second, .val (.long (f1 w0 w1)), .second, .unset, .unset, .unset, .unset, .unset] [(.long (f2 w0 w1))])) _
    refine XS.lstore X2.here hx rfl (hb hby at_12) rfl (l' := #[.val (.long w0), .second, .val (.long w1), .second, .val (.long (f1 w0 w1)), .second, .val (.long (f2 w0 w1)), .second, .unset, .unset, .unset]) rfl ?_
    exact k)
  obtain ⟨T4, locs4, X4, e4, N4, pre4⟩ : ∃ (T' : State) (locs' : List Loc), Stand p l e room_1 s m #[(.long w0), (.long w1)] below meth c T' locs' 0 0 ∧ T'.heap = h0 ∧ Fr n0 locs' ∧ ∀ t, Steps p.tables e below (T'.setTop (mkF m 35 #[.val (.long w0), .second, .val (.long w1), .second, .val (.long (f1 w0 w1)), .second, .val (.long (f2 w0 w1)), .second, .unset, .unset, .unset] [(.int (j0_14 w0 w1))])) t → Steps p.tables e below (s₁.setTop (entryFrame m #[(.long w0), (.long w1)] maxLocals)) t := by
    obtain ⟨_, _, ⟨T5, L5, k5, n5⟩, -, X5, ⟨Lc5, hQ5, l5, y5, z5⟩, st5⟩ := Jvm.LawKit.callS X2 hx (y := (⟨"com/example/scorpus/scorpus/evaluation/Judgments", "isRelevant", "(J)Z"⟩ : MethodName)) hown (mvT hZ (hw _ (List.mem_of_getElem? (i := 7) rfl))) (mvT hZ (hw _ (List.mem_of_getElem? (i := 8) rfl))) (mvT hZ (hw _ (List.mem_of_getElem? (i := 9) rfl))) (mvT hZ (hw _ (List.mem_of_getElem? (i := 10) rfl))) (by decide) (backOf (W := 0) (rm3 l Z a0 hw [] (f1 w0 w1)  h0 n0 Z0 ) hZ (hw _ (List.mem_of_getElem? (i := 10) rfl)) (hw _ (List.mem_of_getElem? (i := 9) rfl)) (by decide) (by decide)) (g := (mkF m 16 #[.val (.long w0), .second, .val (.long w1), .second, .val (.long (f1 w0 w1)), .second, .val (.long (f2 w0 w1)), .second, .unset, .unset, .unset] [(.long (f1 w0 w1))])) rfl (by rw [hml]; rfl) (argsL := [(.long (f1 w0 w1))]) (rest := []) (lenOf pd_1 rfl) rfl (by show 2 * 0 + _ ≤ _; exact Nat.le_of_eq rfl) (hb hby at_16) (fun _ _ => ⟨rfl, e2, (by decide : 0 + 0 ≤ _), (by decide : 0 + 0 ≤ _)⟩)
    dsimp only [Pt.U, Pt.locs, Pt.cells, Pt.slots] at X5 l5 y5 z5 st5 hQ5
    subst l5 y5 z5
    obtain ⟨rfl, N5q, e5⟩ := hQ5
    have N5 := Fr.app N2 N5q
    have pre6 : ∀ t, Steps p.tables e below (T5.setTop (mkF m 19 #[.val (.long w0), .second, .val (.long w1), .second, .val (.long (f1 w0 w1)), .second, .val (.long (f2 w0 w1)), .second, .unset, .unset, .unset] [(.int (f3 (f1 w0 w1)))])) t → Steps p.tables e below (s₁.setTop (entryFrame m #[(.long w0), (.long w1)] maxLocals)) t := fun t k => pre3 t (by
      show Steps p.tables e below (T2.setTop (mkF m 14 #[.val (.long w0), .second, .val (.long w1), .second, .val (.long (f1 w0 w1)), .second, .val (.long (f2 w0 w1)), .second, .unset, .unset, .unset] [])) _
      refine XS.lload X2.here hx rfl (hb hby at_14) rfl ?_
      show Steps p.tables e below (T2.setTop (mkF m 16 #[.val (.long w0), .second, .val (.long w1), .second, .val (.long (f1 w0 w1)), .second, .val (.long (f2 w0 w1)), .second, .unset, .unset, .unset] [(.long (f1 w0 w1))])) _
      refine st5 _ ?_
      exact k)
    by_cases hc19 : (f3 (f1 w0 w1)) = (0 : Int32)
    · -- pc 19: (f3 (f1 w0 w1)) = (0 : Int32)
      refine ⟨_, _, X5, e5, N5, fun t k => ?_⟩
      have qS0 : (j0_14 w0 w1) = (1 : Int32) := (if_pos hc19).trans (rfl)
      rw [qS0] at k
      refine pre6 t ?_
      show Steps p.tables e below (T5.setTop (mkF m 19 #[.val (.long w0), .second, .val (.long w1), .second, .val (.long (f1 w0 w1)), .second, .val (.long (f2 w0 w1)), .second, .unset, .unset, .unset] [(.int (f3 (f1 w0 w1)))])) _
      refine XS.ifYes X5.here hx rfl (pc0 := 19) (pc' := 30) rfl (hb hby at_19) rfl ((if0 _ _).trans (teq hc19).1) (by decide) (by decide) ?_
      show Steps p.tables e below (T5.setTop (mkF m 30 #[.val (.long w0), .second, .val (.long w1), .second, .val (.long (f1 w0 w1)), .second, .val (.long (f2 w0 w1)), .second, .unset, .unset, .unset] [])) _
      refine XS.iconst X5.here hx rfl (hb hby at_30) ?_
      show Steps p.tables e below (T5.setTop (mkF m 31 #[.val (.long w0), .second, .val (.long w1), .second, .val (.long (f1 w0 w1)), .second, .val (.long (f2 w0 w1)), .second, .unset, .unset, .unset] [(.int (1 : Int32))])) _
      refine XS.goto X5.here hx rfl (pc0 := 31) (pc' := 35) rfl (hb hby at_31) (by decide) (by decide) ?_
      exact k
    · -- pc 19: not (f3 (f1 w0 w1)) = (0 : Int32)
      obtain ⟨_, _, ⟨T7, L7, k7, n7⟩, -, X7, ⟨Lc7, hQ7, l7, y7, z7⟩, st7⟩ := Jvm.LawKit.callS X5 hx (y := (⟨"com/example/scorpus/scorpus/evaluation/Judgments", "isRelevant", "(J)Z"⟩ : MethodName)) hown (mvT hZ (hw _ (List.mem_of_getElem? (i := 7) rfl))) (mvT hZ (hw _ (List.mem_of_getElem? (i := 8) rfl))) (mvT hZ (hw _ (List.mem_of_getElem? (i := 9) rfl))) (mvT hZ (hw _ (List.mem_of_getElem? (i := 10) rfl))) (by decide) (backOf (W := 0) (rm3 l Z a0 hw [] (f2 w0 w1)  h0 n0 Z0 ) hZ (hw _ (List.mem_of_getElem? (i := 10) rfl)) (hw _ (List.mem_of_getElem? (i := 9) rfl)) (by decide) (by decide)) (g := (mkF m 24 #[.val (.long w0), .second, .val (.long w1), .second, .val (.long (f1 w0 w1)), .second, .val (.long (f2 w0 w1)), .second, .unset, .unset, .unset] [(.long (f2 w0 w1))])) rfl (by rw [hml]; rfl) (argsL := [(.long (f2 w0 w1))]) (rest := []) (lenOf pd_1 rfl) rfl (by show 2 * 0 + _ ≤ _; exact Nat.le_of_eq rfl) (hb hby at_24) (fun _ _ => ⟨rfl, e5, (by decide : 0 + 0 ≤ _), (by decide : 0 + 0 ≤ _)⟩)
      dsimp only [Pt.U, Pt.locs, Pt.cells, Pt.slots] at X7 l7 y7 z7 st7 hQ7
      subst l7 y7 z7
      obtain ⟨rfl, N7q, e7⟩ := hQ7
      have N7 := Fr.app N5 N7q
      have pre8 : ∀ t, Steps p.tables e below (T7.setTop (mkF m 27 #[.val (.long w0), .second, .val (.long w1), .second, .val (.long (f1 w0 w1)), .second, .val (.long (f2 w0 w1)), .second, .unset, .unset, .unset] [(.int (f3 (f2 w0 w1)))])) t → Steps p.tables e below (s₁.setTop (entryFrame m #[(.long w0), (.long w1)] maxLocals)) t := fun t k => pre6 t (by
        show Steps p.tables e below (T5.setTop (mkF m 19 #[.val (.long w0), .second, .val (.long w1), .second, .val (.long (f1 w0 w1)), .second, .val (.long (f2 w0 w1)), .second, .unset, .unset, .unset] [(.int (f3 (f1 w0 w1)))])) _
        refine XS.ifNo X5.here hx rfl (hb hby at_19) rfl ((if0 _ _).trans (feq hc19).1) ?_
        show Steps p.tables e below (T5.setTop (mkF m 22 #[.val (.long w0), .second, .val (.long w1), .second, .val (.long (f1 w0 w1)), .second, .val (.long (f2 w0 w1)), .second, .unset, .unset, .unset] [])) _
        refine XS.lload X5.here hx rfl (hb hby at_22) rfl ?_
        show Steps p.tables e below (T5.setTop (mkF m 24 #[.val (.long w0), .second, .val (.long w1), .second, .val (.long (f1 w0 w1)), .second, .val (.long (f2 w0 w1)), .second, .unset, .unset, .unset] [(.long (f2 w0 w1))])) _
        refine st7 _ ?_
        exact k)
      by_cases hc27 : (f3 (f2 w0 w1)) = (0 : Int32)
      · -- pc 27: (f3 (f2 w0 w1)) = (0 : Int32)
        refine ⟨_, _, X7, e7, N7, fun t k => ?_⟩
        have qS0 : (j0_14 w0 w1) = (0 : Int32) := (if_neg hc19).trans ((if_pos hc27).trans (rfl))
        rw [qS0] at k
        refine pre8 t ?_
        show Steps p.tables e below (T7.setTop (mkF m 27 #[.val (.long w0), .second, .val (.long w1), .second, .val (.long (f1 w0 w1)), .second, .val (.long (f2 w0 w1)), .second, .unset, .unset, .unset] [(.int (f3 (f2 w0 w1)))])) _
        refine XS.ifYes X7.here hx rfl (pc0 := 27) (pc' := 34) rfl (hb hby at_27) rfl ((if0 _ _).trans (teq hc27).1) (by decide) (by decide) ?_
        show Steps p.tables e below (T7.setTop (mkF m 34 #[.val (.long w0), .second, .val (.long w1), .second, .val (.long (f1 w0 w1)), .second, .val (.long (f2 w0 w1)), .second, .unset, .unset, .unset] [])) _
        refine XS.iconst X7.here hx rfl (hb hby at_34) ?_
        exact k
      · -- pc 27: not (f3 (f2 w0 w1)) = (0 : Int32)
        refine ⟨_, _, X7, e7, N7, fun t k => ?_⟩
        have qS0 : (j0_14 w0 w1) = (1 : Int32) := (if_neg hc19).trans ((if_neg hc27).trans (rfl))
        rw [qS0] at k
        refine pre8 t ?_
        show Steps p.tables e below (T7.setTop (mkF m 27 #[.val (.long w0), .second, .val (.long w1), .second, .val (.long (f1 w0 w1)), .second, .val (.long (f2 w0 w1)), .second, .unset, .unset, .unset] [(.int (f3 (f2 w0 w1)))])) _
        refine XS.ifNo X7.here hx rfl (hb hby at_27) rfl ((if0 _ _).trans (feq hc27).1) ?_
        show Steps p.tables e below (T7.setTop (mkF m 30 #[.val (.long w0), .second, .val (.long w1), .second, .val (.long (f1 w0 w1)), .second, .val (.long (f2 w0 w1)), .second, .unset, .unset, .unset] [])) _
        refine XS.iconst X7.here hx rfl (hb hby at_30) ?_
        show Steps p.tables e below (T7.setTop (mkF m 31 #[.val (.long w0), .second, .val (.long w1), .second, .val (.long (f1 w0 w1)), .second, .val (.long (f2 w0 w1)), .second, .unset, .unset, .unset] [(.int (1 : Int32))])) _
        refine XS.goto X7.here hx rfl (pc0 := 31) (pc' := 35) rfl (hb hby at_31) (by decide) (by decide) ?_
        exact k
  have pre9 : ∀ t, Steps p.tables e below (T4.setTop (mkF m 37 #[.val (.long w0), .second, .val (.long w1), .second, .val (.long (f1 w0 w1)), .second, .val (.long (f2 w0 w1)), .second, .val (.int (j0_14 w0 w1)), .unset, .unset] [])) t → Steps p.tables e below (s₁.setTop (entryFrame m #[(.long w0), (.long w1)] maxLocals)) t := fun t k => pre4 t (by
    show Steps p.tables e below (T4.setTop (mkF m 35 #[.val (.long w0), .second, .val (.long w1), .second, .val (.long (f1 w0 w1)), .second, .val (.long (f2 w0 w1)), .second, .unset, .unset, .unset] [(.int (j0_14 w0 w1))])) _
    refine XS.istore X4.here hx rfl (hb hby at_35) rfl (l' := #[.val (.long w0), .second, .val (.long w1), .second, .val (.long (f1 w0 w1)), .second, .val (.long (f2 w0 w1)), .second, .val (.int (j0_14 w0 w1)), .unset, .unset]) rfl ?_
    exact k)
  obtain ⟨T10, locs10, X10, e10, N10, pre10⟩ : ∃ (T' : State) (locs' : List Loc), Stand p l e room_1 s m #[(.long w0), (.long w1)] below meth c T' locs' 0 0 ∧ T'.heap = h0 ∧ Fr n0 locs' ∧ ∀ t, Steps p.tables e below (T'.setTop (mkF m 49 #[.val (.long w0), .second, .val (.long w1), .second, .val (.long (f1 w0 w1)), .second, .val (.long (f2 w0 w1)), .second, .val (.int (j0_14 w0 w1)), .unset, .unset] [(.int (j0_37))])) t → Steps p.tables e below (s₁.setTop (entryFrame m #[(.long w0), (.long w1)] maxLocals)) t := by
    obtain ⟨_, _, ⟨T11, L11, k11, n11⟩, -, X11, ⟨Lc11, hQ11, l11, y11, z11⟩, st11⟩ := Jvm.LawKit.callS X4 hx (y := (⟨"com/example/scorpus/scorpus/evaluation/Judgments", "isRelevant", "(J)Z"⟩ : MethodName)) hown (mvT hZ (hw _ (List.mem_of_getElem? (i := 7) rfl))) (mvT hZ (hw _ (List.mem_of_getElem? (i := 8) rfl))) (mvT hZ (hw _ (List.mem_of_getElem? (i := 9) rfl))) (mvT hZ (hw _ (List.mem_of_getElem? (i := 10) rfl))) (by decide) (backOf (W := 0) (rm3 l Z a0 hw [] (0 : Int64)  h0 n0 Z0 ) hZ (hw _ (List.mem_of_getElem? (i := 10) rfl)) (hw _ (List.mem_of_getElem? (i := 9) rfl)) (by decide) (by decide)) (g := (mkF m 38 #[.val (.long w0), .second, .val (.long w1), .second, .val (.long (f1 w0 w1)), .second, .val (.long (f2 w0 w1)), .second, .val (.int (j0_14 w0 w1)), .unset, .unset] [(.long (0 : Int64))])) rfl (by rw [hml]; rfl) (argsL := [(.long (0 : Int64))]) (rest := []) (lenOf pd_1 rfl) rfl (by show 2 * 0 + _ ≤ _; exact Nat.le_of_eq rfl) (hb hby at_38) (fun _ _ => ⟨rfl, e4, (by decide : 0 + 0 ≤ _), (by decide : 0 + 0 ≤ _)⟩)
    dsimp only [Pt.U, Pt.locs, Pt.cells, Pt.slots] at X11 l11 y11 z11 st11 hQ11
    subst l11 y11 z11
    obtain ⟨rfl, N11q, e11⟩ := hQ11
    have N11 := Fr.app N4 N11q
    have pre12 : ∀ t, Steps p.tables e below (T11.setTop (mkF m 41 #[.val (.long w0), .second, .val (.long w1), .second, .val (.long (f1 w0 w1)), .second, .val (.long (f2 w0 w1)), .second, .val (.int (j0_14 w0 w1)), .unset, .unset] [(.int (f3 (0 : Int64)))])) t → Steps p.tables e below (s₁.setTop (entryFrame m #[(.long w0), (.long w1)] maxLocals)) t := fun t k => pre9 t (by
      show Steps p.tables e below (T4.setTop (mkF m 37 #[.val (.long w0), .second, .val (.long w1), .second, .val (.long (f1 w0 w1)), .second, .val (.long (f2 w0 w1)), .second, .val (.int (j0_14 w0 w1)), .unset, .unset] [])) _
      refine XS.lconst X4.here hx rfl (hb hby at_37) ?_
      show Steps p.tables e below (T4.setTop (mkF m 38 #[.val (.long w0), .second, .val (.long w1), .second, .val (.long (f1 w0 w1)), .second, .val (.long (f2 w0 w1)), .second, .val (.int (j0_14 w0 w1)), .unset, .unset] [(.long (0 : Int64))])) _
      refine st11 _ ?_
      exact k)
    by_cases hc41 : (f3 (0 : Int64)) = (0 : Int32)
    · -- pc 41: (f3 (0 : Int64)) = (0 : Int32)
      refine ⟨_, _, X11, e11, N11, fun t k => ?_⟩
      have qS0 : (j0_37) = (1 : Int32) := (if_pos hc41).trans (rfl)
      rw [qS0] at k
      refine pre12 t ?_
      show Steps p.tables e below (T11.setTop (mkF m 41 #[.val (.long w0), .second, .val (.long w1), .second, .val (.long (f1 w0 w1)), .second, .val (.long (f2 w0 w1)), .second, .val (.int (j0_14 w0 w1)), .unset, .unset] [(.int (f3 (0 : Int64)))])) _
      refine XS.ifNo X11.here hx rfl (hb hby at_41) rfl ((if0 _ _).trans (teq hc41).2) ?_
      show Steps p.tables e below (T11.setTop (mkF m 44 #[.val (.long w0), .second, .val (.long w1), .second, .val (.long (f1 w0 w1)), .second, .val (.long (f2 w0 w1)), .second, .val (.int (j0_14 w0 w1)), .unset, .unset] [])) _
      refine XS.iconst X11.here hx rfl (hb hby at_44) ?_
      show Steps p.tables e below (T11.setTop (mkF m 45 #[.val (.long w0), .second, .val (.long w1), .second, .val (.long (f1 w0 w1)), .second, .val (.long (f2 w0 w1)), .second, .val (.int (j0_14 w0 w1)), .unset, .unset] [(.int (1 : Int32))])) _
      refine XS.goto X11.here hx rfl (pc0 := 45) (pc' := 49) rfl (hb hby at_45) (by decide) (by decide) ?_
      exact k
    · -- pc 41: not (f3 (0 : Int64)) = (0 : Int32)
      refine ⟨_, _, X11, e11, N11, fun t k => ?_⟩
      have qS0 : (j0_37) = (0 : Int32) := (if_neg hc41).trans (rfl)
      rw [qS0] at k
      refine pre12 t ?_
      show Steps p.tables e below (T11.setTop (mkF m 41 #[.val (.long w0), .second, .val (.long w1), .second, .val (.long (f1 w0 w1)), .second, .val (.long (f2 w0 w1)), .second, .val (.int (j0_14 w0 w1)), .unset, .unset] [(.int (f3 (0 : Int64)))])) _
      refine XS.ifYes X11.here hx rfl (pc0 := 41) (pc' := 48) rfl (hb hby at_41) rfl ((if0 _ _).trans (feq hc41).2) (by decide) (by decide) ?_
      show Steps p.tables e below (T11.setTop (mkF m 48 #[.val (.long w0), .second, .val (.long w1), .second, .val (.long (f1 w0 w1)), .second, .val (.long (f2 w0 w1)), .second, .val (.int (j0_14 w0 w1)), .unset, .unset] [])) _
      refine XS.iconst X11.here hx rfl (hb hby at_48) ?_
      exact k
  obtain ⟨_, _, ⟨T13, L13, k13, n13⟩, -, X13, ⟨Lc13, hQ13, l13, y13, z13⟩, st13⟩ := Jvm.LawKit.callS X10 hx (y := (⟨"com/example/scorpus/scorpus/evaluation/Judgments", "isRelevant", "(J)Z"⟩ : MethodName)) hown (mvT hZ (hw _ (List.mem_of_getElem? (i := 7) rfl))) (mvT hZ (hw _ (List.mem_of_getElem? (i := 8) rfl))) (mvT hZ (hw _ (List.mem_of_getElem? (i := 9) rfl))) (mvT hZ (hw _ (List.mem_of_getElem? (i := 10) rfl))) (by decide) (backOf (W := 0) (rm3 l Z a0 hw [] (1 : Int64)  h0 n0 Z0 ) hZ (hw _ (List.mem_of_getElem? (i := 10) rfl)) (hw _ (List.mem_of_getElem? (i := 9) rfl)) (by decide) (by decide)) (g := (mkF m 52 #[.val (.long w0), .second, .val (.long w1), .second, .val (.long (f1 w0 w1)), .second, .val (.long (f2 w0 w1)), .second, .val (.int (j0_14 w0 w1)), .val (.int (j0_37)), .unset] [(.long (1 : Int64))])) rfl (by rw [hml]; rfl) (argsL := [(.long (1 : Int64))]) (rest := []) (lenOf pd_1 rfl) rfl (by show 2 * 0 + _ ≤ _; exact Nat.le_of_eq rfl) (hb hby at_52) (fun _ _ => ⟨rfl, e10, (by decide : 0 + 0 ≤ _), (by decide : 0 + 0 ≤ _)⟩)
  dsimp only [Pt.U, Pt.locs, Pt.cells, Pt.slots] at X13 l13 y13 z13 st13 hQ13
  subst l13 y13 z13
  obtain ⟨rfl, N13q, e13⟩ := hQ13
  have N13 := Fr.app N10 N13q
  have pre14 : ∀ t, Steps p.tables e below (T13.setTop (mkF m 59 #[.val (.long w0), .second, .val (.long w1), .second, .val (.long (f1 w0 w1)), .second, .val (.long (f2 w0 w1)), .second, .val (.int (j0_14 w0 w1)), .val (.int (j0_37)), .val (.int (f3 (1 : Int64)))] [(.int (j0_14 w0 w1))])) t → Steps p.tables e below (s₁.setTop (entryFrame m #[(.long w0), (.long w1)] maxLocals)) t := fun t k => pre10 t (by
    show Steps p.tables e below (T10.setTop (mkF m 49 #[.val (.long w0), .second, .val (.long w1), .second, .val (.long (f1 w0 w1)), .second, .val (.long (f2 w0 w1)), .second, .val (.int (j0_14 w0 w1)), .unset, .unset] [(.int (j0_37))])) _
    refine XS.istore X10.here hx rfl (hb hby at_49) rfl (l' := #[.val (.long w0), .second, .val (.long w1), .second, .val (.long (f1 w0 w1)), .second, .val (.long (f2 w0 w1)), .second, .val (.int (j0_14 w0 w1)), .val (.int (j0_37)), .unset]) rfl ?_
    show Steps p.tables e below (T10.setTop (mkF m 51 #[.val (.long w0), .second, .val (.long w1), .second, .val (.long (f1 w0 w1)), .second, .val (.long (f2 w0 w1)), .second, .val (.int (j0_14 w0 w1)), .val (.int (j0_37)), .unset] [])) _
    refine XS.lconst X10.here hx rfl (hb hby at_51) ?_
    show Steps p.tables e below (T10.setTop (mkF m 52 #[.val (.long w0), .second, .val (.long w1), .second, .val (.long (f1 w0 w1)), .second, .val (.long (f2 w0 w1)), .second, .val (.int (j0_14 w0 w1)), .val (.int (j0_37)), .unset] [(.long (1 : Int64))])) _
    refine st13 _ ?_
    show Steps p.tables e below (T13.setTop (mkF m 55 #[.val (.long w0), .second, .val (.long w1), .second, .val (.long (f1 w0 w1)), .second, .val (.long (f2 w0 w1)), .second, .val (.int (j0_14 w0 w1)), .val (.int (j0_37)), .unset] [(.int (f3 (1 : Int64)))])) _
    refine XS.istore X13.here hx rfl (hb hby at_55) rfl (l' := #[.val (.long w0), .second, .val (.long w1), .second, .val (.long (f1 w0 w1)), .second, .val (.long (f2 w0 w1)), .second, .val (.int (j0_14 w0 w1)), .val (.int (j0_37)), .val (.int (f3 (1 : Int64)))]) rfl ?_
    show Steps p.tables e below (T13.setTop (mkF m 57 #[.val (.long w0), .second, .val (.long w1), .second, .val (.long (f1 w0 w1)), .second, .val (.long (f2 w0 w1)), .second, .val (.int (j0_14 w0 w1)), .val (.int (j0_37)), .val (.int (f3 (1 : Int64)))] [])) _
    refine XS.iload X13.here hx rfl (hb hby at_57) rfl ?_
    exact k)
  by_cases hc59 : (j0_14 w0 w1) = (0 : Int32)
  · -- pc 59: (j0_14 w0 w1) = (0 : Int32)
    obtain ⟨fs, hr, hrun, hended, hW, hsame⟩ := X13.leave (v := (some (.int (0 : Int32)))) (fun h => by rw [Bd.returns] at h; cases h)
    refine ⟨_, _, pre14 _ ?_, hrun, hended, _, _, rfl, ?_, ⟨_, rfl⟩, hW, hsame.mono (by decide) (by decide)⟩
    · show Steps p.tables e below (T13.setTop (mkF m 59 #[.val (.long w0), .second, .val (.long w1), .second, .val (.long (f1 w0 w1)), .second, .val (.long (f2 w0 w1)), .second, .val (.int (j0_14 w0 w1)), .val (.int (j0_37)), .val (.int (f3 (1 : Int64)))] [(.int (j0_14 w0 w1))])) _
      refine XS.ifYes X13.here hx rfl (pc0 := 59) (pc' := 76) rfl (hb hby at_59) rfl ((if0 _ _).trans (teq hc59).1) (by decide) (by decide) ?_
      show Steps p.tables e below (T13.setTop (mkF m 76 #[.val (.long w0), .second, .val (.long w1), .second, .val (.long (f1 w0 w1)), .second, .val (.long (f2 w0 w1)), .second, .val (.int (j0_14 w0 w1)), .val (.int (j0_37)), .val (.int (f3 (1 : Int64)))] [])) _
      refine XS.iconst X13.here hx rfl (hb hby at_76) ?_
      show Steps p.tables e below (T13.setTop (mkF m 77 #[.val (.long w0), .second, .val (.long w1), .second, .val (.long (f1 w0 w1)), .second, .val (.long (f2 w0 w1)), .second, .val (.int (j0_14 w0 w1)), .val (.int (j0_37)), .val (.int (f3 (1 : Int64)))] [(.int (0 : Int32))])) _
      exact retN X13 hx (t := .boolean) Bd.returns (by simp) (hb hby at_77) hr
    · show QP (some (.int (f0 w0 w1))) h0 n0 _ T13.heap _
      rw [e13]
      exact ⟨congrArg (fun z => some (Value.int z)) (Eq.symm (show (f0 w0 w1) = (0 : Int32) from (if_pos hc59).trans (rfl))), N13, rfl⟩
  · -- pc 59: not (j0_14 w0 w1) = (0 : Int32)
    have pre15 : ∀ t, Steps p.tables e below (T13.setTop (mkF m 64 #[.val (.long w0), .second, .val (.long w1), .second, .val (.long (f1 w0 w1)), .second, .val (.long (f2 w0 w1)), .second, .val (.int (j0_14 w0 w1)), .val (.int (j0_37)), .val (.int (f3 (1 : Int64)))] [(.int (j0_37))])) t → Steps p.tables e below (s₁.setTop (entryFrame m #[(.long w0), (.long w1)] maxLocals)) t := fun t k => pre14 t (by
      show Steps p.tables e below (T13.setTop (mkF m 59 #[.val (.long w0), .second, .val (.long w1), .second, .val (.long (f1 w0 w1)), .second, .val (.long (f2 w0 w1)), .second, .val (.int (j0_14 w0 w1)), .val (.int (j0_37)), .val (.int (f3 (1 : Int64)))] [(.int (j0_14 w0 w1))])) _
      refine XS.ifNo X13.here hx rfl (hb hby at_59) rfl ((if0 _ _).trans (feq hc59).1) ?_
      show Steps p.tables e below (T13.setTop (mkF m 62 #[.val (.long w0), .second, .val (.long w1), .second, .val (.long (f1 w0 w1)), .second, .val (.long (f2 w0 w1)), .second, .val (.int (j0_14 w0 w1)), .val (.int (j0_37)), .val (.int (f3 (1 : Int64)))] [])) _
      refine XS.iload X13.here hx rfl (hb hby at_62) rfl ?_
      exact k)
    by_cases hc64 : (j0_37) = (0 : Int32)
    · -- pc 64: (j0_37) = (0 : Int32)
      obtain ⟨fs, hr, hrun, hended, hW, hsame⟩ := X13.leave (v := (some (.int (0 : Int32)))) (fun h => by rw [Bd.returns] at h; cases h)
      refine ⟨_, _, pre15 _ ?_, hrun, hended, _, _, rfl, ?_, ⟨_, rfl⟩, hW, hsame.mono (by decide) (by decide)⟩
      · show Steps p.tables e below (T13.setTop (mkF m 64 #[.val (.long w0), .second, .val (.long w1), .second, .val (.long (f1 w0 w1)), .second, .val (.long (f2 w0 w1)), .second, .val (.int (j0_14 w0 w1)), .val (.int (j0_37)), .val (.int (f3 (1 : Int64)))] [(.int (j0_37))])) _
        refine XS.ifYes X13.here hx rfl (pc0 := 64) (pc' := 76) rfl (hb hby at_64) rfl ((if0 _ _).trans (teq hc64).1) (by decide) (by decide) ?_
        show Steps p.tables e below (T13.setTop (mkF m 76 #[.val (.long w0), .second, .val (.long w1), .second, .val (.long (f1 w0 w1)), .second, .val (.long (f2 w0 w1)), .second, .val (.int (j0_14 w0 w1)), .val (.int (j0_37)), .val (.int (f3 (1 : Int64)))] [])) _
        refine XS.iconst X13.here hx rfl (hb hby at_76) ?_
        show Steps p.tables e below (T13.setTop (mkF m 77 #[.val (.long w0), .second, .val (.long w1), .second, .val (.long (f1 w0 w1)), .second, .val (.long (f2 w0 w1)), .second, .val (.int (j0_14 w0 w1)), .val (.int (j0_37)), .val (.int (f3 (1 : Int64)))] [(.int (0 : Int32))])) _
        exact retN X13 hx (t := .boolean) Bd.returns (by simp) (hb hby at_77) hr
      · show QP (some (.int (f0 w0 w1))) h0 n0 _ T13.heap _
        rw [e13]
        exact ⟨congrArg (fun z => some (Value.int z)) (Eq.symm (show (f0 w0 w1) = (0 : Int32) from (if_neg hc59).trans ((if_pos hc64).trans (rfl)))), N13, rfl⟩
    · -- pc 64: not (j0_37) = (0 : Int32)
      have pre16 : ∀ t, Steps p.tables e below (T13.setTop (mkF m 69 #[.val (.long w0), .second, .val (.long w1), .second, .val (.long (f1 w0 w1)), .second, .val (.long (f2 w0 w1)), .second, .val (.int (j0_14 w0 w1)), .val (.int (j0_37)), .val (.int (f3 (1 : Int64)))] [(.int (f3 (1 : Int64)))])) t → Steps p.tables e below (s₁.setTop (entryFrame m #[(.long w0), (.long w1)] maxLocals)) t := fun t k => pre15 t (by
        show Steps p.tables e below (T13.setTop (mkF m 64 #[.val (.long w0), .second, .val (.long w1), .second, .val (.long (f1 w0 w1)), .second, .val (.long (f2 w0 w1)), .second, .val (.int (j0_14 w0 w1)), .val (.int (j0_37)), .val (.int (f3 (1 : Int64)))] [(.int (j0_37))])) _
        refine XS.ifNo X13.here hx rfl (hb hby at_64) rfl ((if0 _ _).trans (feq hc64).1) ?_
        show Steps p.tables e below (T13.setTop (mkF m 67 #[.val (.long w0), .second, .val (.long w1), .second, .val (.long (f1 w0 w1)), .second, .val (.long (f2 w0 w1)), .second, .val (.int (j0_14 w0 w1)), .val (.int (j0_37)), .val (.int (f3 (1 : Int64)))] [])) _
        refine XS.iload X13.here hx rfl (hb hby at_67) rfl ?_
        exact k)
      by_cases hc69 : (f3 (1 : Int64)) = (0 : Int32)
      · -- pc 69: (f3 (1 : Int64)) = (0 : Int32)
        obtain ⟨fs, hr, hrun, hended, hW, hsame⟩ := X13.leave (v := (some (.int (0 : Int32)))) (fun h => by rw [Bd.returns] at h; cases h)
        refine ⟨_, _, pre16 _ ?_, hrun, hended, _, _, rfl, ?_, ⟨_, rfl⟩, hW, hsame.mono (by decide) (by decide)⟩
        · show Steps p.tables e below (T13.setTop (mkF m 69 #[.val (.long w0), .second, .val (.long w1), .second, .val (.long (f1 w0 w1)), .second, .val (.long (f2 w0 w1)), .second, .val (.int (j0_14 w0 w1)), .val (.int (j0_37)), .val (.int (f3 (1 : Int64)))] [(.int (f3 (1 : Int64)))])) _
          refine XS.ifYes X13.here hx rfl (pc0 := 69) (pc' := 76) rfl (hb hby at_69) rfl ((if0 _ _).trans (teq hc69).1) (by decide) (by decide) ?_
          show Steps p.tables e below (T13.setTop (mkF m 76 #[.val (.long w0), .second, .val (.long w1), .second, .val (.long (f1 w0 w1)), .second, .val (.long (f2 w0 w1)), .second, .val (.int (j0_14 w0 w1)), .val (.int (j0_37)), .val (.int (f3 (1 : Int64)))] [])) _
          refine XS.iconst X13.here hx rfl (hb hby at_76) ?_
          show Steps p.tables e below (T13.setTop (mkF m 77 #[.val (.long w0), .second, .val (.long w1), .second, .val (.long (f1 w0 w1)), .second, .val (.long (f2 w0 w1)), .second, .val (.int (j0_14 w0 w1)), .val (.int (j0_37)), .val (.int (f3 (1 : Int64)))] [(.int (0 : Int32))])) _
          exact retN X13 hx (t := .boolean) Bd.returns (by simp) (hb hby at_77) hr
        · show QP (some (.int (f0 w0 w1))) h0 n0 _ T13.heap _
          rw [e13]
          exact ⟨congrArg (fun z => some (Value.int z)) (Eq.symm (show (f0 w0 w1) = (0 : Int32) from (if_neg hc59).trans ((if_neg hc64).trans ((if_pos hc69).trans (rfl))))), N13, rfl⟩
      · -- pc 69: not (f3 (1 : Int64)) = (0 : Int32)
        obtain ⟨fs, hr, hrun, hended, hW, hsame⟩ := X13.leave (v := (some (.int (1 : Int32)))) (fun h => by rw [Bd.returns] at h; cases h)
        refine ⟨_, _, pre16 _ ?_, hrun, hended, _, _, rfl, ?_, ⟨_, rfl⟩, hW, hsame.mono (by decide) (by decide)⟩
        · show Steps p.tables e below (T13.setTop (mkF m 69 #[.val (.long w0), .second, .val (.long w1), .second, .val (.long (f1 w0 w1)), .second, .val (.long (f2 w0 w1)), .second, .val (.int (j0_14 w0 w1)), .val (.int (j0_37)), .val (.int (f3 (1 : Int64)))] [(.int (f3 (1 : Int64)))])) _
          refine XS.ifNo X13.here hx rfl (hb hby at_69) rfl ((if0 _ _).trans (feq hc69).1) ?_
          show Steps p.tables e below (T13.setTop (mkF m 72 #[.val (.long w0), .second, .val (.long w1), .second, .val (.long (f1 w0 w1)), .second, .val (.long (f2 w0 w1)), .second, .val (.int (j0_14 w0 w1)), .val (.int (j0_37)), .val (.int (f3 (1 : Int64)))] [])) _
          refine XS.iconst X13.here hx rfl (hb hby at_72) ?_
          show Steps p.tables e below (T13.setTop (mkF m 73 #[.val (.long w0), .second, .val (.long w1), .second, .val (.long (f1 w0 w1)), .second, .val (.long (f2 w0 w1)), .second, .val (.int (j0_14 w0 w1)), .val (.int (j0_37)), .val (.int (f3 (1 : Int64)))] [(.int (1 : Int32))])) _
          refine XS.goto X13.here hx rfl (pc0 := 73) (pc' := 77) rfl (hb hby at_73) (by decide) (by decide) ?_
          show Steps p.tables e below (T13.setTop (mkF m 77 #[.val (.long w0), .second, .val (.long w1), .second, .val (.long (f1 w0 w1)), .second, .val (.long (f2 w0 w1)), .second, .val (.int (j0_14 w0 w1)), .val (.int (j0_37)), .val (.int (f3 (1 : Int64)))] [(.int (1 : Int32))])) _
          exact retN X13 hx (t := .boolean) Bd.returns (by simp) (hb hby at_77) hr
        · show QP (some (.int (f0 w0 w1))) h0 n0 _ T13.heap _
          rw [e13]
          exact ⟨congrArg (fun z => some (Value.int z)) (Eq.symm (show (f0 w0 w1) = (1 : Int32) from (if_neg hc59).trans ((if_neg hc64).trans ((if_neg hc69).trans (rfl))))), N13, rfl⟩
theorem own_3 (x : Int64) : f3 x = if (0 : Int64) < x then 1 else 0 := by
  unfold f3
  simp only [lw_gt]
theorem own_12 (a b : Int64) (h : (0 : Int64) < f1 a b) : (0 : Int64) < f2 a b := by
  unfold f1 at h
  unfold f2
  simp only [lw_gt, lw_lt, Int64.lt_iff_toInt_lt] at h ⊢
  split at h <;> split <;> omega
theorem own_j (w0 w1 : Int64) : j0_14 w0 w1 = 1 := by
  unfold j0_14
  rw [own_3, own_3]
  by_cases h : (0 : Int64) < f1 w0 w1
  · rw [if_pos h, if_pos (own_12 _ _ h)]
    rfl
  · rw [if_neg h]
    rfl
theorem own_k : j0_37 = 1 := by decide +kernel
theorem own_l : f3 1 = 1 := by decide +kernel
theorem law_val (w0 w1 : Int64) : f0 w0 w1 = 1 := by
  unfold f0
  rw [own_j, own_k, own_l]
  rfl
set_option maxRecDepth 65536 in
set_option maxHeartbeats 40000000 in
theorem comes_1 {Post : Tables → Env → Array Value → State → Outcome → State → Prop} (hpost : ∀ tb e args s v u, (limb_1_1.after args s (.returned v) u = true ∧ limb_1_2.after args s (.returned v) u = true ∧ True) → FrameEnd s (.returned v) u (Jvm.fieldLocs frame_1_writes args s ++ Jvm.arrayLocs frame_1_arrays args s ++ Jvm.staticLocs frame_1_statics s) 0 0 → Post tb e args s (.returned v) u) :
    ArmFor flags0 classFile x code maxLocals ret World_1 tables_1 room_1 Calls_1 rest_1 Pre_1 Post := by
  intro l hfl _ _ p e ha hc hk s m args below hf hA hF happ hP
  obtain ⟨hcalls, hrest, hpre⟩ := hP
  obtain ⟨-, -, -, hnamed, -, -, -, hat⟩ := (Spec.applies_iff hf).mp happ
  obtain ⟨hg, hn⟩ := and_e (Cond.before_iff.mp (show (Jvm.Cond.and given_1 narrow_1).before args s = true from hpre))
  obtain ⟨g0, G0⟩ := and_e hg
  obtain ⟨v0, G1⟩ := and_e G0
  have v1 := G1
  obtain ⟨w0, w1, rfl⟩ : ∃ w0 w1 : Value, args = #[w0, w1] := by
    have hs : args.size = 2 := by simpa [Cond.value, given_1] using g0
    obtain ⟨L⟩ := args
    match L, hs with
    | [w0, w1], _ => exact ⟨w0, w1, rfl⟩
  have hw := fun d (hd : d ∈ tables_1) => atoms_spec (ws := Jvm.Cond.code x code maxLocals ret :: tables_1) hat d (List.mem_cons_of_mem _ hd)
  have hfit : Fit s := fun {y c} hc i hi => by
    obtain ⟨ha, rfl⟩ := Array.getElem?_eq_some_iff.mp hc
    have q := List.all_eq_true.mp ((Array.all_eq_true_iff_forall_mem.mp hF) _ (Array.getElem_mem ha)) i (List.mem_range.mpr hi)
    simpa [Array.getElem?_eq_getElem hi] using q
  obtain ⟨i0, ei0⟩ := isL_v v0
  obtain rfl : w0 = (.long i0) := Option.some.inj ei0
  obtain ⟨i1, ei1⟩ := isL_v v1
  obtain rfl : w1 = (.long i1) := Option.some.inj ei1
  obtain ⟨n, o, h1, h2, h3, _, L, rfl, ⟨rfl, N, -⟩, hq⟩ := rm0 l s _ hw tables_1 i0 i1  s.heap s.heap.size (Nat.le_refl _)  p e ha hc hk s m _ below hf ((Spec.applies_iff_loose hf).mp happ).1 ⟨rfl, State.Warmed39.refl s, rfl⟩ trivial
  refine ⟨n, _, h1, h2, h3, hpost _ _ _ _ _ _ ⟨Cond.after_iff.mpr rfl, Cond.after_iff.mpr (eq_i res_at (Term.int_eval (1)) (congrArg Value.int (law_val i0 i1))), trivial⟩ ⟨hq.1, hq.2.1, (hq.2.2.sift fun y hy => Or.inr (N y hy)).mono (by decide) (by decide)⟩⟩
theorem main_1_1 : Claimed_1_1 := comes_1 fun _ _ _ _ _ _ h hF => ⟨h.1, hF⟩
theorem main_1_2 : Claimed_1_2 := comes_1 fun _ _ _ _ _ _ h hF => ⟨h.2.1, hF⟩
end Jvm.Pilot.@@N@@
namespace Jvm.Pilot.@@N@@
open Jvm Jvm.ClassFile Sem Op Lib Jvm.Free Jvm.Stand Jvm.Pilot.@@N@@.Jvm.D
/-! MADE BY PROGRAM (witnessworld.py) out of the Statement's table words and the real class files: 10 classes; the members and pool entries that the words name. The judged class is class 1, her method 1. -/
namespace start1
open Jvm.ClassFile
def u (s : String) : CpInfo := .utf8 (stringToUtf16 s)
/-- a pool by its gaps: so many unusable entries, then the entry; so many at the end -/
def gap : Nat → List CpInfo → List CpInfo
  | 0, r => r
  | n + 1, r => .unusable :: gap n r
def poolList (es : List (Nat × CpInfo)) (last : Nat) : List CpInfo := es.foldr (fun e r => gap e.1 (e.2 :: r)) (gap last [])
def pool (es : List (Nat × CpInfo)) (last : Nat) : Array CpInfo := ⟨poolList es last⟩
def fileOf (pool : Array CpInfo) (this : Nat) (attrs : Array Attribute := #[]) (ms : Array MethodInfo := #[]) (fl : Nat := 33) (sup : Nat := 0) (ifs : Array Nat := #[]) (fds : Array FieldInfo := #[]) : ClassFile where
  minorVersion := 0
  majorVersion := 65
  constantPool := pool
  accessFlags := fl
  thisClass := this
  superClass := sup
  interfaces := ifs
  fields := fds
  methods := ms
  attributes := attrs
def plain (name : String) (sup : Option ClassId) : Class where
  name := name
  kind := .ordinary
  loader := none
  accessFlags := 33
  super := sup
  interfaces := #[]
  cf := none
  fields := #[]
  methods := #[]
  instanceTypes := #[]
  staticTypes := #[]
  resolved := #[]
  callSites := []
  init := .initialized
  statics := none
  mirror := none

def pool0 : Array CpInfo := pool [(5, u "<init>"), (0, u "()V"), (1, .class_ 10), (1, u "java/lang/Object")] 113

def k0m0 : Method := { name := "<init>", desc := "()V", sig := { parameters := [], returnType := none }, accessFlags := 1, code := none }
/-- java/lang/Object -/
def k0 : Class := { plain "java/lang/Object" none with
  accessFlags := 33
  interfaces := #[]
  cf := some (fileOf pool0 8 #[] #[{ accessFlags := 1, nameIndex := 5, descriptorIndex := 6, attributes := #[] }] 33 0 #[] #[])
  fields := #[]
  methods := #[k0m0]
  instanceTypes := #[]
  staticTypes := #[]
  resolved := Array.replicate 124 none
  statics := none }

def pool1 : Array CpInfo := pool [(2, .class_ 4), (1, u "java/lang/Object"), (0, u "<init>"), (0, u "()V"), (0, .methodref 8 9), (0, .class_ 10), (0, .nameAndType 11 12), (0, u "java/lang/Math"), (0, u "min"), (0, u "(JJ)J"), (0, .methodref 8 14), (0, .nameAndType 15 12), (0, u "max"), (0, .methodref 17 18), (0, .class_ 19), (0, .nameAndType 20 21), (0, u "com/example/scorpus/scorpus/evaluation/Judgments"), (0, u "isRelevant"), (0, u "(J)Z"), (0, .class_ 23), (0, u "com/example/scorpus/scorpus/evaluation/JudgmentsIsRelevantPinLaw"), (2, u "law"), (0, u "(JJ)Z")] 3

def k1m0 : Method := { name := "<init>", desc := "()V", sig := { parameters := [], returnType := none }, accessFlags := 1, code := none }
def k1c1 : Code := { maxStack := 4, maxLocals := 11, code := code, exceptionTable := #[], attributes := #[] }
def k1m1 : Method := { name := "law", desc := "(JJ)Z", sig := { parameters := [.long, .long], returnType := some .boolean }, accessFlags := 9, code := some k1c1 }
/-- com/example/scorpus/scorpus/evaluation/JudgmentsIsRelevantPinLaw -/
def k1 : Class := { plain "com/example/scorpus/scorpus/evaluation/JudgmentsIsRelevantPinLaw" (some 0) with
  accessFlags := 49
  interfaces := #[]
  cf := some (fileOf pool1 22 #[] #[{ accessFlags := 1, nameIndex := 5, descriptorIndex := 6, attributes := #[] }, { accessFlags := 9, nameIndex := 26, descriptorIndex := 27, attributes := #[] }] 49 2 #[] #[])
  fields := #[]
  methods := #[k1m0, k1m1]
  instanceTypes := #[]
  staticTypes := #[]
  resolved := Array.replicate 31 none
  statics := none }

def pool2 : Array CpInfo := pool [(1, .class_ 2), (0, u "java/lang/Math"), (1, .class_ 6), (1, u "java/lang/Object"), (0, u "<init>"), (0, u "()V"), (89, .class_ 100), (1, u "java/lang/Math$RandomNumberGeneratorHolder"), (20, u "(JJ)J"), (50, u "negativeZeroFloatBits"), (0, u "J"), (2, u "negativeZeroDoubleBits"), (21, u "max"), (2, u "min"), (43, u "$assertionsDisabled"), (0, u "Z"), (91, u "twoToTheDoubleScaleDown"), (0, u "D"), (4, u "twoToTheDoubleScaleUp"), (9, u "E"), (3, u "PI"), (2, u "TAU"), (2, u "DEGREES_TO_RADIANS"), (0, u "RADIANS_TO_DEGREES")] 94

def k2m0 : Method := { name := "<init>", desc := "()V", sig := { parameters := [], returnType := none }, accessFlags := 2, code := none }
def k2c1 : Code := { maxStack := 4, maxLocals := 4, code := jdk_29_method_66_code, exceptionTable := #[], attributes := #[] }
def k2m1 : Method := { name := "max", desc := "(JJ)J", sig := { parameters := [.long, .long], returnType := some .long }, accessFlags := 9, code := some k2c1 }
def k2c2 : Code := { maxStack := 4, maxLocals := 4, code := jdk_29_method_70_code, exceptionTable := #[], attributes := #[] }
def k2m2 : Method := { name := "min", desc := "(JJ)J", sig := { parameters := [.long, .long], returnType := some .long }, accessFlags := 9, code := some k2c2 }
/-- java/lang/Math -/
def k2 : Class := { plain "java/lang/Math" (some 0) with
  accessFlags := 49
  interfaces := #[]
  cf := some (fileOf pool2 1 #[.nestMembers #[98]] #[{ accessFlags := 2, nameIndex := 7, descriptorIndex := 8, attributes := #[] }, { accessFlags := 9, nameIndex := 198, descriptorIndex := 121, attributes := #[] }, { accessFlags := 9, nameIndex := 201, descriptorIndex := 121, attributes := #[] }] 49 4 #[] #[{ accessFlags := 25, nameIndex := 354, descriptorIndex := 339, attributes := #[] }, { accessFlags := 25, nameIndex := 358, descriptorIndex := 339, attributes := #[] }, { accessFlags := 25, nameIndex := 361, descriptorIndex := 339, attributes := #[] }, { accessFlags := 26, nameIndex := 364, descriptorIndex := 339, attributes := #[] }, { accessFlags := 26, nameIndex := 365, descriptorIndex := 339, attributes := #[] }, { accessFlags := 26, nameIndex := 172, descriptorIndex := 173, attributes := #[] }, { accessFlags := 26, nameIndex := 176, descriptorIndex := 173, attributes := #[] }, { accessFlags := 8, nameIndex := 344, descriptorIndex := 339, attributes := #[] }, { accessFlags := 8, nameIndex := 338, descriptorIndex := 339, attributes := #[] }, { accessFlags := 4120, nameIndex := 245, descriptorIndex := 246, attributes := #[] }])
  fields := #[{ name := "E", type := .double, accessFlags := 25, slot := 0, constantValue := 0 }, { name := "PI", type := .double, accessFlags := 25, slot := 1, constantValue := 0 }, { name := "TAU", type := .double, accessFlags := 25, slot := 2, constantValue := 0 }, { name := "DEGREES_TO_RADIANS", type := .double, accessFlags := 26, slot := 3, constantValue := 0 }, { name := "RADIANS_TO_DEGREES", type := .double, accessFlags := 26, slot := 4, constantValue := 0 }, { name := "negativeZeroFloatBits", type := .long, accessFlags := 26, slot := 5, constantValue := 0 }, { name := "negativeZeroDoubleBits", type := .long, accessFlags := 26, slot := 6, constantValue := 0 }, { name := "twoToTheDoubleScaleUp", type := .double, accessFlags := 8, slot := 7, constantValue := 0 }, { name := "twoToTheDoubleScaleDown", type := .double, accessFlags := 8, slot := 8, constantValue := 0 }, { name := "$assertionsDisabled", type := .boolean, accessFlags := 4120, slot := 9, constantValue := 0 }]
  methods := #[k2m0, k2m1, k2m2]
  instanceTypes := #[]
  staticTypes := #[.double, .double, .double, .double, .double, .long, .long, .double, .double, .boolean]
  resolved := Array.replicate 460 none
  statics := none }

def pool3 : Array CpInfo := pool [(2, .class_ 4), (1, u "java/lang/Object"), (3, .class_ 10), (1, u "com/example/scorpus/scorpus/evaluation/Judgments"), (0, u "grades"), (0, u "Ljava/util/Map;"), (36, u "relevantTopics"), (0, u "Ljava/util/List;"), (3, u "FORMAT"), (0, u "Lcom/example/scorpus/scorpus/evaluation/TrecFormat;"), (52, u "WHOLE_NUMBER"), (0, u "Ljava/util/regex/Pattern;"), (107, u "isRelevant"), (0, u "(J)Z")] 76

def k3c0 : Code := { maxStack := 4, maxLocals := 2, code := prog_58_method_3_code, exceptionTable := #[], attributes := #[] }
def k3m0 : Method := { name := "isRelevant", desc := "(J)Z", sig := { parameters := [.long], returnType := some .boolean }, accessFlags := 9, code := some k3c0 }
/-- com/example/scorpus/scorpus/evaluation/Judgments -/
def k3 : Class := { plain "com/example/scorpus/scorpus/evaluation/Judgments" (some 0) with
  accessFlags := 49
  interfaces := #[]
  cf := some (fileOf pool3 8 #[] #[{ accessFlags := 9, nameIndex := 217, descriptorIndex := 218, attributes := #[] }] 49 2 #[] #[{ accessFlags := 26, nameIndex := 54, descriptorIndex := 55, attributes := #[] }, { accessFlags := 26, nameIndex := 108, descriptorIndex := 109, attributes := #[] }, { accessFlags := 18, nameIndex := 11, descriptorIndex := 12, attributes := #[] }, { accessFlags := 18, nameIndex := 49, descriptorIndex := 50, attributes := #[] }])
  fields := #[{ name := "FORMAT", type := (.object "com/example/scorpus/scorpus/evaluation/TrecFormat"), accessFlags := 26, slot := 0, constantValue := 0 }, { name := "WHOLE_NUMBER", type := (.object "java/util/regex/Pattern"), accessFlags := 26, slot := 1, constantValue := 0 }, { name := "grades", type := (.object "java/util/Map"), accessFlags := 18, slot := 0, constantValue := 0 }, { name := "relevantTopics", type := (.object "java/util/List"), accessFlags := 18, slot := 1, constantValue := 0 }]
  methods := #[k3m0]
  instanceTypes := #[(.object "java/util/Map"), (.object "java/util/List")]
  staticTypes := #[(.object "com/example/scorpus/scorpus/evaluation/TrecFormat"), (.object "java/util/regex/Pattern")]
  resolved := Array.replicate 295 none
  statics := none }

def pool4 : Array CpInfo := pool [(1, u "java/lang/Cloneable"), (0, .class_ 1), (0, u "java/lang/Object"), (0, .class_ 3)] 3

/-- java/lang/Cloneable -/
def k4 : Class := { plain "java/lang/Cloneable" (some 0) with
  accessFlags := 1537
  interfaces := #[]
  cf := some (fileOf pool4 2 #[] #[] 1537 4 #[] #[])
  fields := #[]
  methods := #[]
  instanceTypes := #[]
  staticTypes := #[]
  resolved := Array.replicate 8 none
  statics := none }

def pool5 : Array CpInfo := pool [(1, u "java/io/Serializable"), (0, .class_ 1), (0, u "java/lang/Object"), (0, .class_ 3)] 3

/-- java/io/Serializable -/
def k5 : Class := { plain "java/io/Serializable" (some 0) with
  accessFlags := 1537
  interfaces := #[]
  cf := some (fileOf pool5 2 #[] #[] 1537 4 #[] #[])
  fields := #[]
  methods := #[]
  instanceTypes := #[]
  staticTypes := #[]
  resolved := Array.replicate 8 none
  statics := none }

/-- the primitive byte -/
def k6 : Class := { plain "byte" none with kind := .primitive 'B', accessFlags := 0x411 }
/-- [B -/
def k7 : Class := { plain "[B" (some 0) with kind := .array 6 .byte, interfaces := #[4, 5], accessFlags := 1041 }

/-- the primitive int -/
def k8 : Class := { plain "int" none with kind := .primitive 'I', accessFlags := 0x411 }
/-- [I -/
def k9 : Class := { plain "[I" (some 0) with kind := .array 8 .int, interfaces := #[4, 5], accessFlags := 1041 }

def heap : Heap := #[]
def classes : Array Class := #[k0, k1, k2, k3, k4, k5, k6, k7, k8, k9]
def interned : List (Array UInt16 × Addr) := []
def slotsUsed : Nat := 0
def theMethod : MethodId := ⟨1, 1⟩
def args0 : Array Value := #[.long 5, .long 7]
def aboutOver (below : List Frame) : State where
  vm := { classes := classes, interned := interned.toArray }
  heap := heap
  slotsUsed := slotsUsed
  threads := #[{ frames := .invoking theMethod args0 :: below }]
def below0 : List Frame := [.native { method := ⟨0, 0⟩, args := #[] }]
def about1 : State := aboutOver below0
def p0 : Program := .bare "" "" ""
def e0 : Env := launch0.env 0 0 0
theorem w_frames : about1.frames = Frame.invoking theMethod args0 :: below0 := rfl
set_option maxRecDepth 65536 in
theorem w_args : argsFit about1.vm theMethod args0 = true := by decide +kernel
set_option maxRecDepth 65536 in
theorem w_heap : heapFits about1 = true := by decide +kernel
set_option maxRecDepth 65536 in
theorem w_runnable : about1.curStatus? = some .runnable := by decide +kernel
set_option maxRecDepth 65536 in
theorem w_alone : about1.alone = true := by decide +kernel
set_option maxRecDepth 65536 in
theorem w_named : about1.methodNamed? x = some theMethod := by decide +kernel
set_option maxRecDepth 65536 in
theorem w_hears : about1.hears theMethod below0 = true := by decide +kernel
set_option maxRecDepth 65536 in
theorem w_ripe : about1.ripe theMethod args0 below0 = true := by decide +kernel
theorem w_running : about1.status = .running := rfl
set_option maxRecDepth 65536 in
theorem w_room : about1.hasRoom e0.platform room_1 = true :=
  launch0.hasRoom_least _ room_1 (by decide +kernel) (by decide +kernel) (by decide +kernel) (by decide +kernel) (by decide +kernel) (by decide +kernel)
theorem allAtoms_all (ts : List Jvm.Cond) (a : Array Jvm.Value) (st : Jvm.State) : (allAtoms ts).before a st = ts.all (fun c => c.before a st) := by
  induction ts with
  | nil => rfl
  | cons c t ih =>
    show (Jvm.Cond.and c (allAtoms t)).before a st = _
    rw [Jvm.Cond.before_and, ih, List.all_cons]
def words1 : List Jvm.Cond := Jvm.Cond.code x code maxLocals ret :: tables_1
/-- a 'code' word, met by the world's own term for the bytes: nothing is compared byte by byte -/
theorem code_word {y : MethodName} {bytes : ByteArray} {mx : Nat} {rt : Option FieldType} {a : Array Value} {s : State} {m : MethodId} {meth : Method} {c : Code} (h1 : s.methodNamed? y = some m) (h2 : s.vm.method? m = some meth) (h3 : meth.code = some c) (h4 : c.code = bytes)
    (h5 : (c.maxLocals == mx && c.exceptionTable.isEmpty && decide (c.maxStack ≤ mostOperands) && decide (meth.sig.returnType = rt) && !meth.locks && decide (parseMethodDescriptor y.desc = some meth.sig)) = true) : (Jvm.Cond.code y bytes mx rt).before a s = true := by
  simp only [Bool.and_eq_true, beq_iff_eq, Bool.not_eq_true', decide_eq_true_eq] at h5
  obtain ⟨⟨⟨⟨⟨g1, g2⟩, g3⟩, g4⟩, g5⟩, g6⟩ := h5
  simp [Cond.before, Cond.holds, Cond.value, h1, h2, h3, h4, g1, g2, g3, g4, g5, g6]
def isCode : Jvm.Cond → Bool
  | .code _ _ _ _ => true
  | _ => false
theorem all_split {L : List Jvm.Cond} {P : Jvm.Cond → Bool} (h1 : L.all (fun c => isCode c || P c) = true) (h2 : ∀ c ∈ L.filter isCode, P c = true) : L.all P = true := by
  refine List.all_eq_true.mpr fun c hc => ?_
  have h := List.all_eq_true.mp h1 c hc
  rcases Bool.eq_false_or_eq_true (isCode c) with hi | hi
  · exact h2 c (List.mem_filter.mpr ⟨hc, hi⟩)
  · simpa [hi] using h
set_option maxRecDepth 65536 in
theorem w_c0 : (Jvm.Cond.code x code maxLocals ret).before args0 about1 = true := code_word (m := ⟨1, 1⟩) (meth := k1m1) (c := k1c1) (by decide +kernel) rfl rfl rfl (by decide +kernel)
set_option maxRecDepth 65536 in
theorem w_c1 : (Jvm.Cond.code ({ cls := "java/lang/Math", name := "min", desc := "(JJ)J" } : Jvm.MethodName) jdk_29_method_70_code (4 : Nat) (Option.some Jvm.ClassFile.FieldType.long)).before args0 about1 = true := code_word (m := ⟨2, 2⟩) (meth := k2m2) (c := k2c2) (by decide +kernel) rfl rfl rfl (by decide +kernel)
set_option maxRecDepth 65536 in
theorem w_c2 : (Jvm.Cond.code ({ cls := "java/lang/Math", name := "max", desc := "(JJ)J" } : Jvm.MethodName) jdk_29_method_66_code (4 : Nat) (Option.some Jvm.ClassFile.FieldType.long)).before args0 about1 = true := code_word (m := ⟨2, 1⟩) (meth := k2m1) (c := k2c1) (by decide +kernel) rfl rfl rfl (by decide +kernel)
set_option maxRecDepth 65536 in
theorem w_c3 : (Jvm.Cond.code ({ cls := "com/example/scorpus/scorpus/evaluation/Judgments", name := "isRelevant", desc := "(J)Z" } : Jvm.MethodName) prog_58_method_3_code (2 : Nat) (Option.some Jvm.ClassFile.FieldType.boolean)).before args0 about1 = true := code_word (m := ⟨3, 0⟩) (meth := k3m0) (c := k3c0) (by decide +kernel) rfl rfl rfl (by decide +kernel)
def codes1 : List Jvm.Cond := [Jvm.Cond.code x code maxLocals ret, Jvm.Cond.code ({ cls := "java/lang/Math", name := "min", desc := "(JJ)J" } : Jvm.MethodName) jdk_29_method_70_code (4 : Nat) (Option.some Jvm.ClassFile.FieldType.long), Jvm.Cond.code ({ cls := "java/lang/Math", name := "max", desc := "(JJ)J" } : Jvm.MethodName) jdk_29_method_66_code (4 : Nat) (Option.some Jvm.ClassFile.FieldType.long), Jvm.Cond.code ({ cls := "com/example/scorpus/scorpus/evaluation/Judgments", name := "isRelevant", desc := "(J)Z" } : Jvm.MethodName) prog_58_method_3_code (2 : Nat) (Option.some Jvm.ClassFile.FieldType.boolean)]
set_option maxRecDepth 65536 in
theorem codes_eq : words1.filter isCode = codes1 := rfl
theorem w_codes : ∀ c ∈ words1.filter isCode, c.before args0 about1 = true := by
  rw [codes_eq]
  intro c hc
  simp only [codes1, List.mem_cons, List.not_mem_nil, or_false] at hc
  rcases hc with rfl | rfl | rfl | rfl
  · exact w_c0
  · exact w_c1
  · exact w_c2
  · exact w_c3
set_option maxRecDepth 65536 in
theorem w_t1 : words1.all (fun c => isCode c || c.before args0 about1) = true := by decide +kernel
theorem w_tables : (allAtoms (Jvm.Cond.code x code maxLocals ret :: tables_1)).before args0 about1 = true := by
  rw [allAtoms_all]
  show words1.all (fun c => c.before args0 about1) = true
  refine all_split ?_ w_codes
  rw [w_t1]
set_option maxRecDepth 65536 in
theorem w_case : (Jvm.Cond.and given_1 narrow_1).before args0 about1 = true := by decide +kernel
theorem w_applies : (headSpec (Jvm.Cond.code x code maxLocals ret :: tables_1) room_1).applies x e0.platform about1 = true :=
  (Spec.applies_iff w_frames).mpr ⟨w_running, w_runnable, w_alone, w_named, w_hears, w_ripe, w_room, w_tables⟩
theorem atStart : AtStart classFile x code maxLocals ret World_1 tables_1 room_1 Calls_1 rest_1 Pre_1 launch0 p0 e0 about1 theMethod args0 below0 :=
  ⟨lists_1, trivial, launch0.admits_env _ _ _, launch0.least_env, fairChoices_fair.cas, fairChoices_fair.clock, w_frames, w_args, w_heap, w_applies, trivial, trivial, w_case⟩
end start1
theorem witness_1 : WitnessClaimed_1 := ⟨start1.p0, start1.e0, start1.about1, start1.theMethod, start1.args0, start1.below0, start1.atStart⟩
end Jvm.Pilot.@@N@@
