import JvmDerived
import JvmDerived.Pilot.@@N@@Statement
import JvmDerived.Pilot.@@N@@Code
set_option linter.unusedVariables false
set_option linter.unusedSimpArgs false
namespace Jvm.RoadKit
open Sem ClassFile Op Lib Jvm.Stand Jvm.Free Jvm.LawKit
section New
variable {p : Program} {l : Launch} {e : Env} {R : Room} {s : State} {m : MethodId} {args : Array Value} {below : List Frame} {meth : Method} {c : Code} {T : State} {locs : List Loc} {cells slots : Nat}
theorem retI (X : Stand p l e R s m args below meth c T locs cells slots) (hx : p.tables.exec = Jvm.exec) {pc : Nat} {Ls : Array Slot} {z : Int32} {rest : List Value} (hret : meth.sig.returnType = some .int) (hd : decode c.code pc = .ok (.ireturn, 1)) {fs : List Frame}
    (hl : ∀ (f : JFrame) (acts : List Action), f.method = m → f.locked = none → f.entered = [] → (doReturn e (T.setTop f) acts (some (.int z))).1 = T.setFrames fs) : Steps p.tables e below (T.setTop (mkF m pc Ls (.int z :: rest))) (T.setFrames fs) :=
  retOut X hx hret rfl (Or.inl ⟨rfl, Or.inl rfl, z, rfl⟩) hd hl
end New
end Jvm.RoadKit
namespace Jvm.Pilot.@@N@@
open Jvm Jvm.ClassFile Sem Op Lib Jvm.Free Jvm.Stand Jvm.LawKit Jvm.RoadKit Bundle Jvm.Pilot.@@N@@.Jvm.D
def QL (n0 : Nat) (v : Option Value) (h : Heap) (L : List Loc) : Prop := v = some (.int 1) ∧ Fr n0 L
def QP (r : Option Value) (h0 : Heap) (n0 : Nat) (v : Option Value) (h : Heap) (L : List Loc) : Prop := v = r ∧ Fr n0 L ∧ h = h0
theorem d1_0 : decode prog_47_method_5_code 0 = .ok (.iload_n 0, 1) := by decide +kernel
theorem d1_1 : decode prog_47_method_5_code 1 = .ok (.bipush 26, 2) := by decide +kernel
theorem d1_3 : decode prog_47_method_5_code 3 = .ok (.if_icmp .ne 8, 3) := by decide +kernel
theorem d1_6 : decode prog_47_method_5_code 6 = .ok (.bipush 63, 2) := by decide +kernel
theorem d1_8 : decode prog_47_method_5_code 8 = .ok (.goto 8, 3) := by decide +kernel
theorem d1_11 : decode prog_47_method_5_code 11 = .ok (.bipush 65, 2) := by decide +kernel
theorem d1_13 : decode prog_47_method_5_code 13 = .ok (.iload_n 0, 1) := by decide +kernel
theorem d1_14 : decode prog_47_method_5_code 14 = .ok (.iadd, 1) := by decide +kernel
theorem d1_15 : decode prog_47_method_5_code 15 = .ok (.i2c, 1) := by decide +kernel
theorem d1_16 : decode prog_47_method_5_code 16 = .ok (.ireturn, 1) := by decide +kernel
theorem pn_1 : plainName "com/example/lexigrid/lexigrid/Rack" = true := by first | (simp [plainName, overriddenIn]; done) | decide +kernel
theorem ef_1 (m : MethodId) (x0 : Int32) : entryFrame m #[(.int x0)] 1 = mkF m 0 #[.val (.int x0)] [] := by first | (simp [entryFrame, mkF, argsToLocals, Value.category]; done) | rfl
def f1 (u0 : Int32) : Int32 := (if u0 = (26 : Int32) then (nar .char (63 : Int32)) else (nar .char (((65 : Int32) + u0).toUInt32.toUInt16.toUInt32.toInt32)))
set_option maxRecDepth 65536 in
set_option maxHeartbeats 40000000 in
theorem rm1 (l : Launch) (Z : State) (a0 : Array Value) (hw : ∀ d ∈ tables_1, d.before a0 Z = true) (ws : List Jvm.Cond) (u0 : Int32) (h0 : Heap) (n0 : Nat) (Z0 : n0 ≤ h0.size) :
    MetFree l (⟨"com/example/lexigrid/lexigrid/Rack", "ofKind", "(I)C"⟩ : MethodName) (head1 (Jvm.Cond.code (⟨"com/example/lexigrid/lexigrid/Rack", "ofKind", "(I)C"⟩ : MethodName) prog_47_method_5_code 1 (some .char) :: ws) ({ frames := 0, cells := 0, slots := 0, locals := 0 } : Room)) (fun a U => a = #[(.int u0)] ∧ Z.Warmed39 U.vm ∧ U.heap = h0) (fun _ _ _ _ _ => True) (fun _ U o U' => ∃ v L, o = .returned v ∧ QP (some (.int (f1 u0))) h0 n0 v U'.heap L ∧ FrameEnd U o U' L 0 0) := by
  refine MetFree.of_bodySF (plainFor_of_name pn_1) hisR ?_
  intro p e s m args below meth c s₁ Bd hml0 hP hK
  obtain ⟨rfl, hZ, hh⟩ := hP
  have hx := Bd.exec
  have hby := Bd.bytes
  have hml : c.maxLocals = 1 := hml0
  have hown : s.vm.findClass "com/example/lexigrid/lexigrid/Rack" = some m.cls := findClass_of_methodNamed Bd.named
  have hnm := (name_of_methodNamed Bd.named Bd.method).1
  have X0 : Stand p l e ({ frames := 0, cells := 0, slots := 0, locals := 0 } : Room) s m #[(.int u0)] below meth c s₁ [] 0 0 := Stand.of_body Bd
  have e0 : s₁.heap = h0 := by rw [← hh, Bd.state]; rfl
  have N0 := Fr.nil n0
  have pre0 : ∀ t, Steps p.tables e below (s₁.setTop (mkF m 0 #[.val (.int u0)] [])) t → Steps p.tables e below (s₁.setTop (entryFrame m #[(.int u0)] 1)) t := fun t k => castTop (ef_1 m u0) k
  have pre1 : ∀ t, Steps p.tables e below (s₁.setTop (mkF m 3 #[.val (.int u0)] [(.int (26 : Int32)), (.int u0)])) t → Steps p.tables e below (s₁.setTop (entryFrame m #[(.int u0)] 1)) t := fun t k => pre0 t (by
    show Steps p.tables e below (s₁.setTop (mkF m 0 #[.val (.int u0)] [])) _
    refine XS.iloadN X0.here hx rfl (hb hby d1_0) rfl ?_
    show Steps p.tables e below (s₁.setTop (mkF m 1 #[.val (.int u0)] [(.int u0)])) _
    refine XS.bipush X0.here hx rfl (hb hby d1_1) ?_
    exact k)
  by_cases hc3 : u0 = (26 : Int32)
  · -- pc 3: u0 = (26 : Int32)
    obtain ⟨fs, hr, hrun, hended, hW, hsame⟩ := X0.leave (v := (some (.int (nar .char (63 : Int32))))) (fun h => by rw [Bd.returns] at h; cases h)
    refine ⟨_, _, pre1 _ ?_, hrun, hended, _, _, rfl, ?_, ⟨_, rfl⟩, hW, hsame.mono (by decide) (by decide)⟩
    · show Steps p.tables e below (s₁.setTop (mkF m 3 #[.val (.int u0)] [(.int (26 : Int32)), (.int u0)])) _
      refine XS.icmpNo X0.here hx rfl (hb hby d1_3) rfl (teq hc3).2 ?_
      show Steps p.tables e below (s₁.setTop (mkF m 6 #[.val (.int u0)] [])) _
      refine XS.bipush X0.here hx rfl (hb hby d1_6) ?_
      show Steps p.tables e below (s₁.setTop (mkF m 8 #[.val (.int u0)] [(.int (63 : Int32))])) _
      refine XS.goto X0.here hx rfl (pc0 := 8) (pc' := 16) rfl (hb hby d1_8) (by decide) (by decide) ?_
      show Steps p.tables e below (s₁.setTop (mkF m 16 #[.val (.int u0)] [(.int (63 : Int32))])) _
      exact retN X0 hx (t := .char) Bd.returns (by simp) (hb hby d1_16) hr
    · show QP (some (.int (f1 u0))) h0 n0 _ s₁.heap _
      rw [e0]
      exact ⟨congrArg (fun z => some (Value.int z)) (Eq.symm (show (f1 u0) = (nar .char (63 : Int32)) from (if_pos hc3).trans (rfl))), N0, rfl⟩
  · -- pc 3: not u0 = (26 : Int32)
    obtain ⟨fs, hr, hrun, hended, hW, hsame⟩ := X0.leave (v := (some (.int (nar .char (((65 : Int32) + u0).toUInt32.toUInt16.toUInt32.toInt32))))) (fun h => by rw [Bd.returns] at h; cases h)
    refine ⟨_, _, pre1 _ ?_, hrun, hended, _, _, rfl, ?_, ⟨_, rfl⟩, hW, hsame.mono (by decide) (by decide)⟩
    · show Steps p.tables e below (s₁.setTop (mkF m 3 #[.val (.int u0)] [(.int (26 : Int32)), (.int u0)])) _
      refine XS.icmpYes X0.here hx rfl (pc0 := 3) (pc' := 11) rfl (hb hby d1_3) rfl (feq hc3).2 (by decide) (by decide) ?_
      show Steps p.tables e below (s₁.setTop (mkF m 11 #[.val (.int u0)] [])) _
      refine XS.bipush X0.here hx rfl (hb hby d1_11) ?_
      show Steps p.tables e below (s₁.setTop (mkF m 13 #[.val (.int u0)] [(.int (65 : Int32))])) _
      refine XS.iloadN X0.here hx rfl (hb hby d1_13) rfl ?_
      show Steps p.tables e below (s₁.setTop (mkF m 14 #[.val (.int u0)] [(.int u0), (.int (65 : Int32))])) _
      refine XS.iadd X0.here hx rfl (hb hby d1_14) rfl ?_
      show Steps p.tables e below (s₁.setTop (mkF m 15 #[.val (.int u0)] [(.int ((65 : Int32) + u0))])) _
      refine XS.i2c X0.here hx rfl (hb hby d1_15) rfl ?_
      show Steps p.tables e below (s₁.setTop (mkF m 16 #[.val (.int u0)] [(.int (((65 : Int32) + u0).toUInt32.toUInt16.toUInt32.toInt32))])) _
      exact retN X0 hx (t := .char) Bd.returns (by simp) (hb hby d1_16) hr
    · show QP (some (.int (f1 u0))) h0 n0 _ s₁.heap _
      rw [e0]
      exact ⟨congrArg (fun z => some (Value.int z)) (Eq.symm (show (f1 u0) = (nar .char (((65 : Int32) + u0).toUInt32.toUInt16.toUInt32.toInt32)) from (if_neg hc3).trans (rfl))), N0, rfl⟩
theorem d2_0 : decode prog_47_method_3_code 0 = .ok (.iload_n 0, 1) := by decide +kernel
theorem d2_1 : decode prog_47_method_3_code 1 = .ok (.bipush 63, 2) := by decide +kernel
theorem d2_3 : decode prog_47_method_3_code 3 = .ok (.if_icmp .eq 15, 3) := by decide +kernel
theorem d2_6 : decode prog_47_method_3_code 6 = .ok (.iload_n 0, 1) := by decide +kernel
theorem d2_7 : decode prog_47_method_3_code 7 = .ok (.bipush 65, 2) := by decide +kernel
theorem d2_9 : decode prog_47_method_3_code 9 = .ok (.if_icmp .lt 13, 3) := by decide +kernel
theorem d2_12 : decode prog_47_method_3_code 12 = .ok (.iload_n 0, 1) := by decide +kernel
theorem d2_13 : decode prog_47_method_3_code 13 = .ok (.bipush 90, 2) := by decide +kernel
theorem d2_15 : decode prog_47_method_3_code 15 = .ok (.if_icmp .gt 7, 3) := by decide +kernel
theorem d2_18 : decode prog_47_method_3_code 18 = .ok (.iconst 1, 1) := by decide +kernel
theorem d2_19 : decode prog_47_method_3_code 19 = .ok (.goto 4, 3) := by decide +kernel
theorem d2_22 : decode prog_47_method_3_code 22 = .ok (.iconst 0, 1) := by decide +kernel
theorem d2_23 : decode prog_47_method_3_code 23 = .ok (.ireturn, 1) := by decide +kernel
theorem pn_2 : plainName "com/example/lexigrid/lexigrid/Rack" = true := by first | (simp [plainName, overriddenIn]; done) | decide +kernel
theorem ef_2 (m : MethodId) (x0 : Int32) : entryFrame m #[(.int x0)] 1 = mkF m 0 #[.val (.int x0)] [] := by first | (simp [entryFrame, mkF, argsToLocals, Value.category]; done) | rfl
def f2 (u0 : Int32) : Int32 := (if u0 = (63 : Int32) then (1 : Int32) else (if u0 < (65 : Int32) then (0 : Int32) else (if (90 : Int32) < u0 then (0 : Int32) else (1 : Int32))))
set_option maxRecDepth 65536 in
set_option maxHeartbeats 40000000 in
theorem rm2 (l : Launch) (Z : State) (a0 : Array Value) (hw : ∀ d ∈ tables_1, d.before a0 Z = true) (ws : List Jvm.Cond) (u0 : Int32) (h0 : Heap) (n0 : Nat) (Z0 : n0 ≤ h0.size) :
    MetFree l (⟨"com/example/lexigrid/lexigrid/Rack", "isTile", "(C)Z"⟩ : MethodName) (head1 (Jvm.Cond.code (⟨"com/example/lexigrid/lexigrid/Rack", "isTile", "(C)Z"⟩ : MethodName) prog_47_method_3_code 1 (some .boolean) :: ws) ({ frames := 0, cells := 0, slots := 0, locals := 0 } : Room)) (fun a U => a = #[(.int u0)] ∧ Z.Warmed39 U.vm ∧ U.heap = h0) (fun _ _ _ _ _ => True) (fun _ U o U' => ∃ v L, o = .returned v ∧ QP (some (.int (f2 u0))) h0 n0 v U'.heap L ∧ FrameEnd U o U' L 0 0) := by
  refine MetFree.of_bodySF (plainFor_of_name pn_2) hisR ?_
  intro p e s m args below meth c s₁ Bd hml0 hP hK
  obtain ⟨rfl, hZ, hh⟩ := hP
  have hx := Bd.exec
  have hby := Bd.bytes
  have hml : c.maxLocals = 1 := hml0
  have hown : s.vm.findClass "com/example/lexigrid/lexigrid/Rack" = some m.cls := findClass_of_methodNamed Bd.named
  have hnm := (name_of_methodNamed Bd.named Bd.method).1
  have X0 : Stand p l e ({ frames := 0, cells := 0, slots := 0, locals := 0 } : Room) s m #[(.int u0)] below meth c s₁ [] 0 0 := Stand.of_body Bd
  have e0 : s₁.heap = h0 := by rw [← hh, Bd.state]; rfl
  have N0 := Fr.nil n0
  have pre0 : ∀ t, Steps p.tables e below (s₁.setTop (mkF m 0 #[.val (.int u0)] [])) t → Steps p.tables e below (s₁.setTop (entryFrame m #[(.int u0)] 1)) t := fun t k => castTop (ef_2 m u0) k
  have pre1 : ∀ t, Steps p.tables e below (s₁.setTop (mkF m 3 #[.val (.int u0)] [(.int (63 : Int32)), (.int u0)])) t → Steps p.tables e below (s₁.setTop (entryFrame m #[(.int u0)] 1)) t := fun t k => pre0 t (by
    show Steps p.tables e below (s₁.setTop (mkF m 0 #[.val (.int u0)] [])) _
    refine XS.iloadN X0.here hx rfl (hb hby d2_0) rfl ?_
    show Steps p.tables e below (s₁.setTop (mkF m 1 #[.val (.int u0)] [(.int u0)])) _
    refine XS.bipush X0.here hx rfl (hb hby d2_1) ?_
    exact k)
  by_cases hc3 : u0 = (63 : Int32)
  · -- pc 3: u0 = (63 : Int32)
    obtain ⟨fs, hr, hrun, hended, hW, hsame⟩ := X0.leave (v := (some (.int (1 : Int32)))) (fun h => by rw [Bd.returns] at h; cases h)
    refine ⟨_, _, pre1 _ ?_, hrun, hended, _, _, rfl, ?_, ⟨_, rfl⟩, hW, hsame.mono (by decide) (by decide)⟩
    · show Steps p.tables e below (s₁.setTop (mkF m 3 #[.val (.int u0)] [(.int (63 : Int32)), (.int u0)])) _
      refine XS.icmpYes X0.here hx rfl (pc0 := 3) (pc' := 18) rfl (hb hby d2_3) rfl (teq hc3).1 (by decide) (by decide) ?_
      show Steps p.tables e below (s₁.setTop (mkF m 18 #[.val (.int u0)] [])) _
      refine XS.iconst X0.here hx rfl (hb hby d2_18) ?_
      show Steps p.tables e below (s₁.setTop (mkF m 19 #[.val (.int u0)] [(.int (1 : Int32))])) _
      refine XS.goto X0.here hx rfl (pc0 := 19) (pc' := 23) rfl (hb hby d2_19) (by decide) (by decide) ?_
      show Steps p.tables e below (s₁.setTop (mkF m 23 #[.val (.int u0)] [(.int (1 : Int32))])) _
      exact retN X0 hx (t := .boolean) Bd.returns (by simp) (hb hby d2_23) hr
    · show QP (some (.int (f2 u0))) h0 n0 _ s₁.heap _
      rw [e0]
      exact ⟨congrArg (fun z => some (Value.int z)) (Eq.symm (show (f2 u0) = (1 : Int32) from (if_pos hc3).trans (rfl))), N0, rfl⟩
  · -- pc 3: not u0 = (63 : Int32)
    have pre2 : ∀ t, Steps p.tables e below (s₁.setTop (mkF m 9 #[.val (.int u0)] [(.int (65 : Int32)), (.int u0)])) t → Steps p.tables e below (s₁.setTop (entryFrame m #[(.int u0)] 1)) t := fun t k => pre1 t (by
      show Steps p.tables e below (s₁.setTop (mkF m 3 #[.val (.int u0)] [(.int (63 : Int32)), (.int u0)])) _
      refine XS.icmpNo X0.here hx rfl (hb hby d2_3) rfl (feq hc3).1 ?_
      show Steps p.tables e below (s₁.setTop (mkF m 6 #[.val (.int u0)] [])) _
      refine XS.iloadN X0.here hx rfl (hb hby d2_6) rfl ?_
      show Steps p.tables e below (s₁.setTop (mkF m 7 #[.val (.int u0)] [(.int u0)])) _
      refine XS.bipush X0.here hx rfl (hb hby d2_7) ?_
      exact k)
    by_cases hc9 : u0 < (65 : Int32)
    · -- pc 9: u0 < (65 : Int32)
      obtain ⟨fs, hr, hrun, hended, hW, hsame⟩ := X0.leave (v := (some (.int (0 : Int32)))) (fun h => by rw [Bd.returns] at h; cases h)
      refine ⟨_, _, pre2 _ ?_, hrun, hended, _, _, rfl, ?_, ⟨_, rfl⟩, hW, hsame.mono (by decide) (by decide)⟩
      · show Steps p.tables e below (s₁.setTop (mkF m 9 #[.val (.int u0)] [(.int (65 : Int32)), (.int u0)])) _
        refine XS.icmpYes X0.here hx rfl (pc0 := 9) (pc' := 22) rfl (hb hby d2_9) rfl (tlt hc9).1 (by decide) (by decide) ?_
        show Steps p.tables e below (s₁.setTop (mkF m 22 #[.val (.int u0)] [])) _
        refine XS.iconst X0.here hx rfl (hb hby d2_22) ?_
        show Steps p.tables e below (s₁.setTop (mkF m 23 #[.val (.int u0)] [(.int (0 : Int32))])) _
        exact retN X0 hx (t := .boolean) Bd.returns (by simp) (hb hby d2_23) hr
      · show QP (some (.int (f2 u0))) h0 n0 _ s₁.heap _
        rw [e0]
        exact ⟨congrArg (fun z => some (Value.int z)) (Eq.symm (show (f2 u0) = (0 : Int32) from (if_neg hc3).trans ((if_pos hc9).trans (rfl)))), N0, rfl⟩
    · -- pc 9: not u0 < (65 : Int32)
      have pre3 : ∀ t, Steps p.tables e below (s₁.setTop (mkF m 15 #[.val (.int u0)] [(.int (90 : Int32)), (.int u0)])) t → Steps p.tables e below (s₁.setTop (entryFrame m #[(.int u0)] 1)) t := fun t k => pre2 t (by
        show Steps p.tables e below (s₁.setTop (mkF m 9 #[.val (.int u0)] [(.int (65 : Int32)), (.int u0)])) _
        refine XS.icmpNo X0.here hx rfl (hb hby d2_9) rfl (flt hc9).1 ?_
        show Steps p.tables e below (s₁.setTop (mkF m 12 #[.val (.int u0)] [])) _
        refine XS.iloadN X0.here hx rfl (hb hby d2_12) rfl ?_
        show Steps p.tables e below (s₁.setTop (mkF m 13 #[.val (.int u0)] [(.int u0)])) _
        refine XS.bipush X0.here hx rfl (hb hby d2_13) ?_
        exact k)
      by_cases hc15 : (90 : Int32) < u0
      · -- pc 15: (90 : Int32) < u0
        obtain ⟨fs, hr, hrun, hended, hW, hsame⟩ := X0.leave (v := (some (.int (0 : Int32)))) (fun h => by rw [Bd.returns] at h; cases h)
        refine ⟨_, _, pre3 _ ?_, hrun, hended, _, _, rfl, ?_, ⟨_, rfl⟩, hW, hsame.mono (by decide) (by decide)⟩
        · show Steps p.tables e below (s₁.setTop (mkF m 15 #[.val (.int u0)] [(.int (90 : Int32)), (.int u0)])) _
          refine XS.icmpYes X0.here hx rfl (pc0 := 15) (pc' := 22) rfl (hb hby d2_15) rfl (tlt hc15).2.2.1 (by decide) (by decide) ?_
          show Steps p.tables e below (s₁.setTop (mkF m 22 #[.val (.int u0)] [])) _
          refine XS.iconst X0.here hx rfl (hb hby d2_22) ?_
          show Steps p.tables e below (s₁.setTop (mkF m 23 #[.val (.int u0)] [(.int (0 : Int32))])) _
          exact retN X0 hx (t := .boolean) Bd.returns (by simp) (hb hby d2_23) hr
        · show QP (some (.int (f2 u0))) h0 n0 _ s₁.heap _
          rw [e0]
          exact ⟨congrArg (fun z => some (Value.int z)) (Eq.symm (show (f2 u0) = (0 : Int32) from (if_neg hc3).trans ((if_neg hc9).trans ((if_pos hc15).trans (rfl))))), N0, rfl⟩
      · -- pc 15: not (90 : Int32) < u0
        obtain ⟨fs, hr, hrun, hended, hW, hsame⟩ := X0.leave (v := (some (.int (1 : Int32)))) (fun h => by rw [Bd.returns] at h; cases h)
        refine ⟨_, _, pre3 _ ?_, hrun, hended, _, _, rfl, ?_, ⟨_, rfl⟩, hW, hsame.mono (by decide) (by decide)⟩
        · show Steps p.tables e below (s₁.setTop (mkF m 15 #[.val (.int u0)] [(.int (90 : Int32)), (.int u0)])) _
          refine XS.icmpNo X0.here hx rfl (hb hby d2_15) rfl (flt hc15).2.2.1 ?_
          show Steps p.tables e below (s₁.setTop (mkF m 18 #[.val (.int u0)] [])) _
          refine XS.iconst X0.here hx rfl (hb hby d2_18) ?_
          show Steps p.tables e below (s₁.setTop (mkF m 19 #[.val (.int u0)] [(.int (1 : Int32))])) _
          refine XS.goto X0.here hx rfl (pc0 := 19) (pc' := 23) rfl (hb hby d2_19) (by decide) (by decide) ?_
          show Steps p.tables e below (s₁.setTop (mkF m 23 #[.val (.int u0)] [(.int (1 : Int32))])) _
          exact retN X0 hx (t := .boolean) Bd.returns (by simp) (hb hby d2_23) hr
        · show QP (some (.int (f2 u0))) h0 n0 _ s₁.heap _
          rw [e0]
          exact ⟨congrArg (fun z => some (Value.int z)) (Eq.symm (show (f2 u0) = (1 : Int32) from (if_neg hc3).trans ((if_neg hc9).trans ((if_neg hc15).trans (rfl))))), N0, rfl⟩
theorem d3_0 : decode prog_47_method_4_code 0 = .ok (.iload_n 0, 1) := by decide +kernel
theorem d3_1 : decode prog_47_method_4_code 1 = .ok (.bipush 63, 2) := by decide +kernel
theorem d3_3 : decode prog_47_method_4_code 3 = .ok (.if_icmp .ne 8, 3) := by decide +kernel
theorem d3_6 : decode prog_47_method_4_code 6 = .ok (.bipush 26, 2) := by decide +kernel
theorem d3_8 : decode prog_47_method_4_code 8 = .ok (.goto 7, 3) := by decide +kernel
theorem d3_11 : decode prog_47_method_4_code 11 = .ok (.iload_n 0, 1) := by decide +kernel
theorem d3_12 : decode prog_47_method_4_code 12 = .ok (.bipush 65, 2) := by decide +kernel
theorem d3_14 : decode prog_47_method_4_code 14 = .ok (.isub, 1) := by decide +kernel
theorem d3_15 : decode prog_47_method_4_code 15 = .ok (.ireturn, 1) := by decide +kernel
theorem pn_3 : plainName "com/example/lexigrid/lexigrid/Rack" = true := by first | (simp [plainName, overriddenIn]; done) | decide +kernel
theorem ef_3 (m : MethodId) (x0 : Int32) : entryFrame m #[(.int x0)] 1 = mkF m 0 #[.val (.int x0)] [] := by first | (simp [entryFrame, mkF, argsToLocals, Value.category]; done) | rfl
def f3 (u0 : Int32) : Int32 := (if u0 = (63 : Int32) then (26 : Int32) else (u0 - (65 : Int32)))
set_option maxRecDepth 65536 in
set_option maxHeartbeats 40000000 in
theorem rm3 (l : Launch) (Z : State) (a0 : Array Value) (hw : ∀ d ∈ tables_1, d.before a0 Z = true) (ws : List Jvm.Cond) (u0 : Int32) (h0 : Heap) (n0 : Nat) (Z0 : n0 ≤ h0.size) :
    MetFree l (⟨"com/example/lexigrid/lexigrid/Rack", "kind", "(C)I"⟩ : MethodName) (head1 (Jvm.Cond.code (⟨"com/example/lexigrid/lexigrid/Rack", "kind", "(C)I"⟩ : MethodName) prog_47_method_4_code 1 (some .int) :: ws) ({ frames := 0, cells := 0, slots := 0, locals := 0 } : Room)) (fun a U => a = #[(.int u0)] ∧ Z.Warmed39 U.vm ∧ U.heap = h0) (fun _ _ _ _ _ => True) (fun _ U o U' => ∃ v L, o = .returned v ∧ QP (some (.int (f3 u0))) h0 n0 v U'.heap L ∧ FrameEnd U o U' L 0 0) := by
  refine MetFree.of_bodySF (plainFor_of_name pn_3) hisR ?_
  intro p e s m args below meth c s₁ Bd hml0 hP hK
  obtain ⟨rfl, hZ, hh⟩ := hP
  have hx := Bd.exec
  have hby := Bd.bytes
  have hml : c.maxLocals = 1 := hml0
  have hown : s.vm.findClass "com/example/lexigrid/lexigrid/Rack" = some m.cls := findClass_of_methodNamed Bd.named
  have hnm := (name_of_methodNamed Bd.named Bd.method).1
  have X0 : Stand p l e ({ frames := 0, cells := 0, slots := 0, locals := 0 } : Room) s m #[(.int u0)] below meth c s₁ [] 0 0 := Stand.of_body Bd
  have e0 : s₁.heap = h0 := by rw [← hh, Bd.state]; rfl
  have N0 := Fr.nil n0
  have pre0 : ∀ t, Steps p.tables e below (s₁.setTop (mkF m 0 #[.val (.int u0)] [])) t → Steps p.tables e below (s₁.setTop (entryFrame m #[(.int u0)] 1)) t := fun t k => castTop (ef_3 m u0) k
  have pre1 : ∀ t, Steps p.tables e below (s₁.setTop (mkF m 3 #[.val (.int u0)] [(.int (63 : Int32)), (.int u0)])) t → Steps p.tables e below (s₁.setTop (entryFrame m #[(.int u0)] 1)) t := fun t k => pre0 t (by
    show Steps p.tables e below (s₁.setTop (mkF m 0 #[.val (.int u0)] [])) _
    refine XS.iloadN X0.here hx rfl (hb hby d3_0) rfl ?_
    show Steps p.tables e below (s₁.setTop (mkF m 1 #[.val (.int u0)] [(.int u0)])) _
    refine XS.bipush X0.here hx rfl (hb hby d3_1) ?_
    exact k)
  by_cases hc3 : u0 = (63 : Int32)
  · -- pc 3: u0 = (63 : Int32)
    obtain ⟨fs, hr, hrun, hended, hW, hsame⟩ := X0.leave (v := (some (.int (26 : Int32)))) (fun h => by rw [Bd.returns] at h; cases h)
    refine ⟨_, _, pre1 _ ?_, hrun, hended, _, _, rfl, ?_, ⟨_, rfl⟩, hW, hsame.mono (by decide) (by decide)⟩
    · show Steps p.tables e below (s₁.setTop (mkF m 3 #[.val (.int u0)] [(.int (63 : Int32)), (.int u0)])) _
      refine XS.icmpNo X0.here hx rfl (hb hby d3_3) rfl (teq hc3).2 ?_
      show Steps p.tables e below (s₁.setTop (mkF m 6 #[.val (.int u0)] [])) _
      refine XS.bipush X0.here hx rfl (hb hby d3_6) ?_
      show Steps p.tables e below (s₁.setTop (mkF m 8 #[.val (.int u0)] [(.int (26 : Int32))])) _
      refine XS.goto X0.here hx rfl (pc0 := 8) (pc' := 15) rfl (hb hby d3_8) (by decide) (by decide) ?_
      show Steps p.tables e below (s₁.setTop (mkF m 15 #[.val (.int u0)] [(.int (26 : Int32))])) _
      exact retI X0 hx Bd.returns (hb hby d3_15) hr
    · show QP (some (.int (f3 u0))) h0 n0 _ s₁.heap _
      rw [e0]
      exact ⟨congrArg (fun z => some (Value.int z)) (Eq.symm (show (f3 u0) = (26 : Int32) from (if_pos hc3).trans (rfl))), N0, rfl⟩
  · -- pc 3: not u0 = (63 : Int32)
    obtain ⟨fs, hr, hrun, hended, hW, hsame⟩ := X0.leave (v := (some (.int (u0 - (65 : Int32))))) (fun h => by rw [Bd.returns] at h; cases h)
    refine ⟨_, _, pre1 _ ?_, hrun, hended, _, _, rfl, ?_, ⟨_, rfl⟩, hW, hsame.mono (by decide) (by decide)⟩
    · show Steps p.tables e below (s₁.setTop (mkF m 3 #[.val (.int u0)] [(.int (63 : Int32)), (.int u0)])) _
      refine XS.icmpYes X0.here hx rfl (pc0 := 3) (pc' := 11) rfl (hb hby d3_3) rfl (feq hc3).2 (by decide) (by decide) ?_
      show Steps p.tables e below (s₁.setTop (mkF m 11 #[.val (.int u0)] [])) _
      refine XS.iloadN X0.here hx rfl (hb hby d3_11) rfl ?_
      show Steps p.tables e below (s₁.setTop (mkF m 12 #[.val (.int u0)] [(.int u0)])) _
      refine XS.bipush X0.here hx rfl (hb hby d3_12) ?_
      show Steps p.tables e below (s₁.setTop (mkF m 14 #[.val (.int u0)] [(.int (65 : Int32)), (.int u0)])) _
      refine XS.isub X0.here hx rfl (hb hby d3_14) rfl ?_
      show Steps p.tables e below (s₁.setTop (mkF m 15 #[.val (.int u0)] [(.int (u0 - (65 : Int32)))])) _
      exact retI X0 hx Bd.returns (hb hby d3_15) hr
    · show QP (some (.int (f3 u0))) h0 n0 _ s₁.heap _
      rw [e0]
      exact ⟨congrArg (fun z => some (Value.int z)) (Eq.symm (show (f3 u0) = (u0 - (65 : Int32)) from (if_neg hc3).trans (rfl))), N0, rfl⟩
theorem pn_0 : plainName "com/example/lexigrid/lexigrid/RackOfKindPinLaw" = true := by first | (simp [plainName, overriddenIn]; done) | decide +kernel
theorem ef_0 (m : MethodId) (x0 : Int32) (x1 : Int32) : entryFrame m #[(.int x0), (.int x1)] maxLocals = mkF m 0 #[.val (.int x0), .val (.int x1), .unset, .unset, .unset, .unset, .unset] [] := by first | (simp [entryFrame, mkF, argsToLocals, Value.category, maxLocals]; done) | rfl
theorem pd_0 : parseMethodDescriptor "(I)C" = some ⟨[.int], some .char⟩ := by decide +kernel
def j0_13 (u0 : Int32) : Int32 := (if (f2 (f1 ((u0 &&& (2147483647 : Int32)) % (27 : Int32)))) = (0 : Int32) then (0 : Int32) else (if (f3 (f1 ((u0 &&& (2147483647 : Int32)) % (27 : Int32)))) = ((u0 &&& (2147483647 : Int32)) % (27 : Int32)) then (1 : Int32) else (0 : Int32)))
theorem pd_1 : parseMethodDescriptor "(C)Z" = some ⟨[.char], some .boolean⟩ := by decide +kernel
theorem pd_2 : parseMethodDescriptor "(C)I" = some ⟨[.char], some .int⟩ := by decide +kernel
def j0_46L6 (u1 : Int32) : Int32 := (if (f2 ((u1 &&& (255 : Int32)).toUInt32.toUInt16.toUInt32.toInt32)) = (0 : Int32) then (1 : Int32) else (if (f1 (f3 ((u1 &&& (255 : Int32)).toUInt32.toUInt16.toUInt32.toInt32))) = ((u1 &&& (255 : Int32)).toUInt32.toUInt16.toUInt32.toInt32) then (1 : Int32) else (0 : Int32)))
def f0 (u0 : Int32) (u1 : Int32) : Int32 := (if (j0_13 u0) = (0 : Int32) then (0 : Int32) else (if (j0_46L6 u1) = (0 : Int32) then (0 : Int32) else (1 : Int32)))
set_option maxRecDepth 65536 in
set_option maxHeartbeats 40000000 in
theorem rm0 (l : Launch) (Z : State) (a0 : Array Value) (hw : ∀ d ∈ tables_1, d.before a0 Z = true) (ws : List Jvm.Cond) (u0 : Int32) (u1 : Int32) (h0 : Heap) (n0 : Nat) (Z0 : n0 ≤ h0.size) :
    MetFree l x (head1 (Jvm.Cond.code x code maxLocals ret :: ws) room_1) (fun a U => a = #[(.int u0), (.int u1)] ∧ Z.Warmed39 U.vm ∧ U.heap = h0) (fun _ _ _ _ _ => True) (fun _ U o U' => ∃ v L, o = .returned v ∧ QP (some (.int (f0 u0 u1))) h0 n0 v U'.heap L ∧ FrameEnd U o U' L 0 0) := by
  refine MetFree.of_bodySF (plainFor_of_name pn_0) hisR ?_
  intro p e s m args below meth c s₁ Bd hml0 hP hK
  obtain ⟨rfl, hZ, hh⟩ := hP
  have hx := Bd.exec
  have hby := Bd.bytes
  have hml : c.maxLocals = 7 := hml0
  have hown : s.vm.findClass "com/example/lexigrid/lexigrid/RackOfKindPinLaw" = some m.cls := findClass_of_methodNamed Bd.named
  have hnm := (name_of_methodNamed Bd.named Bd.method).1
  have X0 : Stand p l e room_1 s m #[(.int u0), (.int u1)] below meth c s₁ [] 0 0 := Stand.of_body Bd
  have e0 : s₁.heap = h0 := by rw [← hh, Bd.state]; rfl
  have N0 := Fr.nil n0
  have pre0 : ∀ t, Steps p.tables e below (s₁.setTop (mkF m 0 #[.val (.int u0), .val (.int u1), .unset, .unset, .unset, .unset, .unset] [])) t → Steps p.tables e below (s₁.setTop (entryFrame m #[(.int u0), (.int u1)] maxLocals)) t := fun t k => castTop (ef_0 m u0 u1) k
  obtain ⟨_, _, ⟨T1, L1, k1, n1⟩, -, X1, ⟨Lc1, hQ1, l1, y1, z1⟩, st1⟩ := Jvm.LawKit.callS X0 hx (y := (⟨"com/example/lexigrid/lexigrid/Rack", "ofKind", "(I)C"⟩ : MethodName)) hown (mvT hZ (hw _ (List.mem_of_getElem? (i := 1) rfl))) (mvT hZ (hw _ (List.mem_of_getElem? (i := 2) rfl))) (mvT hZ (hw _ (List.mem_of_getElem? (i := 3) rfl))) (mvT hZ (hw _ (List.mem_of_getElem? (i := 4) rfl))) (by decide) (backOf (W := 0) (rm1 l Z a0 hw [] ((u0 &&& (2147483647 : Int32)) % (27 : Int32))  h0 n0 Z0 ) hZ (hw _ (List.mem_of_getElem? (i := 4) rfl)) (hw _ (List.mem_of_getElem? (i := 3) rfl)) (by decide) (by decide)) (g := (mkF m 9 #[.val (.int u0), .val (.int u1), .val (.int ((u0 &&& (2147483647 : Int32)) % (27 : Int32))), .unset, .unset, .unset, .unset] [(.int ((u0 &&& (2147483647 : Int32)) % (27 : Int32)))])) rfl (by rw [hml]; rfl) (argsL := [(.int ((u0 &&& (2147483647 : Int32)) % (27 : Int32)))]) (rest := []) (lenOf pd_0 rfl) rfl (by show 2 * 0 + _ ≤ _; exact Nat.le_of_eq rfl) (hb hby at_9) (fun _ _ => ⟨rfl, e0, (by decide : 0 + 0 ≤ _), (by decide : 0 + 0 ≤ _)⟩)
  dsimp only [Pt.U, Pt.locs, Pt.cells, Pt.slots] at X1 l1 y1 z1 st1 hQ1
  subst l1 y1 z1
  obtain ⟨rfl, N1q, e1⟩ := hQ1
  have N1 := Fr.app N0 N1q
  have pre2 : ∀ t, Steps p.tables e below (T1.setTop (mkF m 13 #[.val (.int u0), .val (.int u1), .val (.int ((u0 &&& (2147483647 : Int32)) % (27 : Int32))), .val (.int (f1 ((u0 &&& (2147483647 : Int32)) % (27 : Int32)))), .unset, .unset, .unset] [])) t → Steps p.tables e below (s₁.setTop (entryFrame m #[(.int u0), (.int u1)] maxLocals)) t := fun t k => pre0 t (by
    show Steps p.tables e below (s₁.setTop (mkF m 0 #[.val (.int u0), .val (.int u1), .unset, .unset, .unset, .unset, .unset] [])) _
    refine XS.iloadN X0.here hx rfl (hb hby at_0) rfl ?_
    show Steps p.tables e below (s₁.setTop (mkF m 1 #[.val (.int u0), .val (.int u1), .unset, .unset, .unset, .unset, .unset] [(.int u0)])) _
    refine X0.ldcInt hx hown (mvT hZ (hw _ (List.mem_of_getElem? (i := 0) rfl))) (g := (mkF m 1 #[.val (.int u0), .val (.int u1), .unset, .unset, .unset, .unset, .unset] [(.int u0)])) rfl (hb hby at_1) _ ?_
    show Steps p.tables e below (s₁.setTop (mkF m 3 #[.val (.int u0), .val (.int u1), .unset, .unset, .unset, .unset, .unset] [(.int (2147483647 : Int32)), (.int u0)])) _
    refine XS.iand X0.here hx rfl (hb hby at_3) rfl ?_
    show Steps p.tables e below (s₁.setTop (mkF m 4 #[.val (.int u0), .val (.int u1), .unset, .unset, .unset, .unset, .unset] [(.int (u0 &&& (2147483647 : Int32)))])) _
    refine XS.bipush X0.here hx rfl (hb hby at_4) ?_
    show Steps p.tables e below (s₁.setTop (mkF m 6 #[.val (.int u0), .val (.int u1), .unset, .unset, .unset, .unset, .unset] [(.int (27 : Int32)), (.int (u0 &&& (2147483647 : Int32)))])) _
    refine iremM X0 hx rfl (hb hby at_6) rfl (by decide) ?_
    show Steps p.tables e below (s₁.setTop (mkF m 7 #[.val (.int u0), .val (.int u1), .unset, .unset, .unset, .unset, .unset] [(.int ((u0 &&& (2147483647 : Int32)) % (27 : Int32)))])) _
    refine XS.istoreN X0.here hx rfl (hb hby at_7) rfl (l' := #[.val (.int u0), .val (.int u1), .val (.int ((u0 &&& (2147483647 : Int32)) % (27 : Int32))), .unset, .unset, .unset, .unset]) rfl ?_
    show Steps p.tables e below (s₁.setTop (mkF m 8 #[.val (.int u0), .val (.int u1), .val (.int ((u0 &&& (2147483647 : Int32)) % (27 : Int32))), .unset, .unset, .unset, .unset] [])) _
    refine XS.iloadN X0.here hx rfl (hb hby at_8) rfl ?_
    show Steps p.tables e below (s₁.setTop (mkF m 9 #[.val (.int u0), .val (.int u1), .val (.int ((u0 &&& (2147483647 : Int32)) % (27 : Int32))), .unset, .unset, .unset, .unset] [(.int ((u0 &&& (2147483647 : Int32)) % (27 : Int32)))])) _
    refine st1 _ ?_
    show Steps p.tables e below (T1.setTop (mkF m 12 #[.val (.int u0), .val (.int u1), .val (.int ((u0 &&& (2147483647 : Int32)) % (27 : Int32))), .unset, .unset, .unset, .unset] [(.int (f1 ((u0 &&& (2147483647 : Int32)) % (27 : Int32))))])) _
    refine XS.istoreN X1.here hx rfl (hb hby at_12) rfl (l' := #[.val (.int u0), .val (.int u1), .val (.int ((u0 &&& (2147483647 : Int32)) % (27 : Int32))), .val (.int (f1 ((u0 &&& (2147483647 : Int32)) % (27 : Int32)))), .unset, .unset, .unset]) rfl ?_
    exact k)
  obtain ⟨T3, locs3, X3, e3, N3, pre3⟩ : ∃ (T' : State) (locs' : List Loc), Stand p l e room_1 s m #[(.int u0), (.int u1)] below meth c T' locs' 0 0 ∧ T'.heap = h0 ∧ Fr n0 locs' ∧ ∀ t, Steps p.tables e below (T'.setTop (mkF m 33 #[.val (.int u0), .val (.int u1), .val (.int ((u0 &&& (2147483647 : Int32)) % (27 : Int32))), .val (.int (f1 ((u0 &&& (2147483647 : Int32)) % (27 : Int32)))), .unset, .unset, .unset] [(.int (j0_13 u0))])) t → Steps p.tables e below (s₁.setTop (entryFrame m #[(.int u0), (.int u1)] maxLocals)) t := by
    obtain ⟨_, _, ⟨T4, L4, k4, n4⟩, -, X4, ⟨Lc4, hQ4, l4, y4, z4⟩, st4⟩ := Jvm.LawKit.callS X1 hx (y := (⟨"com/example/lexigrid/lexigrid/Rack", "isTile", "(C)Z"⟩ : MethodName)) hown (mvT hZ (hw _ (List.mem_of_getElem? (i := 5) rfl))) (mvT hZ (hw _ (List.mem_of_getElem? (i := 6) rfl))) (mvT hZ (hw _ (List.mem_of_getElem? (i := 3) rfl))) (mvT hZ (hw _ (List.mem_of_getElem? (i := 7) rfl))) (by decide) (backOf (W := 0) (rm2 l Z a0 hw [] (f1 ((u0 &&& (2147483647 : Int32)) % (27 : Int32)))  h0 n0 Z0 ) hZ (hw _ (List.mem_of_getElem? (i := 7) rfl)) (hw _ (List.mem_of_getElem? (i := 3) rfl)) (by decide) (by decide)) (g := (mkF m 14 #[.val (.int u0), .val (.int u1), .val (.int ((u0 &&& (2147483647 : Int32)) % (27 : Int32))), .val (.int (f1 ((u0 &&& (2147483647 : Int32)) % (27 : Int32)))), .unset, .unset, .unset] [(.int (f1 ((u0 &&& (2147483647 : Int32)) % (27 : Int32))))])) rfl (by rw [hml]; rfl) (argsL := [(.int (f1 ((u0 &&& (2147483647 : Int32)) % (27 : Int32))))]) (rest := []) (lenOf pd_1 rfl) rfl (by show 2 * 0 + _ ≤ _; exact Nat.le_of_eq rfl) (hb hby at_14) (fun _ _ => ⟨rfl, e1, (by decide : 0 + 0 ≤ _), (by decide : 0 + 0 ≤ _)⟩)
    dsimp only [Pt.U, Pt.locs, Pt.cells, Pt.slots] at X4 l4 y4 z4 st4 hQ4
    subst l4 y4 z4
    obtain ⟨rfl, N4q, e4⟩ := hQ4
    have N4 := Fr.app N1 N4q
    have pre5 : ∀ t, Steps p.tables e below (T4.setTop (mkF m 17 #[.val (.int u0), .val (.int u1), .val (.int ((u0 &&& (2147483647 : Int32)) % (27 : Int32))), .val (.int (f1 ((u0 &&& (2147483647 : Int32)) % (27 : Int32)))), .unset, .unset, .unset] [(.int (f2 (f1 ((u0 &&& (2147483647 : Int32)) % (27 : Int32)))))])) t → Steps p.tables e below (s₁.setTop (entryFrame m #[(.int u0), (.int u1)] maxLocals)) t := fun t k => pre2 t (by
      show Steps p.tables e below (T1.setTop (mkF m 13 #[.val (.int u0), .val (.int u1), .val (.int ((u0 &&& (2147483647 : Int32)) % (27 : Int32))), .val (.int (f1 ((u0 &&& (2147483647 : Int32)) % (27 : Int32)))), .unset, .unset, .unset] [])) _
      refine XS.iloadN X1.here hx rfl (hb hby at_13) rfl ?_
      show Steps p.tables e below (T1.setTop (mkF m 14 #[.val (.int u0), .val (.int u1), .val (.int ((u0 &&& (2147483647 : Int32)) % (27 : Int32))), .val (.int (f1 ((u0 &&& (2147483647 : Int32)) % (27 : Int32)))), .unset, .unset, .unset] [(.int (f1 ((u0 &&& (2147483647 : Int32)) % (27 : Int32))))])) _
      refine st4 _ ?_
      exact k)
    by_cases hc17 : (f2 (f1 ((u0 &&& (2147483647 : Int32)) % (27 : Int32)))) = (0 : Int32)
    · -- pc 17: (f2 (f1 ((u0 &&& (2147483647 : Int32)) % (27 : Int32)))) = (0 : Int32)
      refine ⟨_, _, X4, e4, N4, fun t k => ?_⟩
      have qS0 : (j0_13 u0) = (0 : Int32) := (if_pos hc17).trans (rfl)
      rw [qS0] at k
      refine pre5 t ?_
      show Steps p.tables e below (T4.setTop (mkF m 17 #[.val (.int u0), .val (.int u1), .val (.int ((u0 &&& (2147483647 : Int32)) % (27 : Int32))), .val (.int (f1 ((u0 &&& (2147483647 : Int32)) % (27 : Int32)))), .unset, .unset, .unset] [(.int (f2 (f1 ((u0 &&& (2147483647 : Int32)) % (27 : Int32)))))])) _
      refine XS.ifYes X4.here hx rfl (pc0 := 17) (pc' := 32) rfl (hb hby at_17) rfl ((if0 _ _).trans (teq hc17).1) (by decide) (by decide) ?_
      show Steps p.tables e below (T4.setTop (mkF m 32 #[.val (.int u0), .val (.int u1), .val (.int ((u0 &&& (2147483647 : Int32)) % (27 : Int32))), .val (.int (f1 ((u0 &&& (2147483647 : Int32)) % (27 : Int32)))), .unset, .unset, .unset] [])) _
      refine XS.iconst X4.here hx rfl (hb hby at_32) ?_
      exact k
    · -- pc 17: not (f2 (f1 ((u0 &&& (2147483647 : Int32)) % (27 : Int32)))) = (0 : Int32)
      obtain ⟨_, _, ⟨T6, L6, k6, n6⟩, -, X6, ⟨Lc6, hQ6, l6, y6, z6⟩, st6⟩ := Jvm.LawKit.callS X4 hx (y := (⟨"com/example/lexigrid/lexigrid/Rack", "kind", "(C)I"⟩ : MethodName)) hown (mvT hZ (hw _ (List.mem_of_getElem? (i := 8) rfl))) (mvT hZ (hw _ (List.mem_of_getElem? (i := 9) rfl))) (mvT hZ (hw _ (List.mem_of_getElem? (i := 3) rfl))) (mvT hZ (hw _ (List.mem_of_getElem? (i := 10) rfl))) (by decide) (backOf (W := 0) (rm3 l Z a0 hw [] (f1 ((u0 &&& (2147483647 : Int32)) % (27 : Int32)))  h0 n0 Z0 ) hZ (hw _ (List.mem_of_getElem? (i := 10) rfl)) (hw _ (List.mem_of_getElem? (i := 3) rfl)) (by decide) (by decide)) (g := (mkF m 21 #[.val (.int u0), .val (.int u1), .val (.int ((u0 &&& (2147483647 : Int32)) % (27 : Int32))), .val (.int (f1 ((u0 &&& (2147483647 : Int32)) % (27 : Int32)))), .unset, .unset, .unset] [(.int (f1 ((u0 &&& (2147483647 : Int32)) % (27 : Int32))))])) rfl (by rw [hml]; rfl) (argsL := [(.int (f1 ((u0 &&& (2147483647 : Int32)) % (27 : Int32))))]) (rest := []) (lenOf pd_2 rfl) rfl (by show 2 * 0 + _ ≤ _; exact Nat.le_of_eq rfl) (hb hby at_21) (fun _ _ => ⟨rfl, e4, (by decide : 0 + 0 ≤ _), (by decide : 0 + 0 ≤ _)⟩)
      dsimp only [Pt.U, Pt.locs, Pt.cells, Pt.slots] at X6 l6 y6 z6 st6 hQ6
      subst l6 y6 z6
      obtain ⟨rfl, N6q, e6⟩ := hQ6
      have N6 := Fr.app N4 N6q
      have pre7 : ∀ t, Steps p.tables e below (T6.setTop (mkF m 25 #[.val (.int u0), .val (.int u1), .val (.int ((u0 &&& (2147483647 : Int32)) % (27 : Int32))), .val (.int (f1 ((u0 &&& (2147483647 : Int32)) % (27 : Int32)))), .unset, .unset, .unset] [(.int ((u0 &&& (2147483647 : Int32)) % (27 : Int32))), (.int (f3 (f1 ((u0 &&& (2147483647 : Int32)) % (27 : Int32)))))])) t → Steps p.tables e below (s₁.setTop (entryFrame m #[(.int u0), (.int u1)] maxLocals)) t := fun t k => pre5 t (by
        show Steps p.tables e below (T4.setTop (mkF m 17 #[.val (.int u0), .val (.int u1), .val (.int ((u0 &&& (2147483647 : Int32)) % (27 : Int32))), .val (.int (f1 ((u0 &&& (2147483647 : Int32)) % (27 : Int32)))), .unset, .unset, .unset] [(.int (f2 (f1 ((u0 &&& (2147483647 : Int32)) % (27 : Int32)))))])) _
        refine XS.ifNo X4.here hx rfl (hb hby at_17) rfl ((if0 _ _).trans (feq hc17).1) ?_
        show Steps p.tables e below (T4.setTop (mkF m 20 #[.val (.int u0), .val (.int u1), .val (.int ((u0 &&& (2147483647 : Int32)) % (27 : Int32))), .val (.int (f1 ((u0 &&& (2147483647 : Int32)) % (27 : Int32)))), .unset, .unset, .unset] [])) _
        refine XS.iloadN X4.here hx rfl (hb hby at_20) rfl ?_
        show Steps p.tables e below (T4.setTop (mkF m 21 #[.val (.int u0), .val (.int u1), .val (.int ((u0 &&& (2147483647 : Int32)) % (27 : Int32))), .val (.int (f1 ((u0 &&& (2147483647 : Int32)) % (27 : Int32)))), .unset, .unset, .unset] [(.int (f1 ((u0 &&& (2147483647 : Int32)) % (27 : Int32))))])) _
        refine st6 _ ?_
        show Steps p.tables e below (T6.setTop (mkF m 24 #[.val (.int u0), .val (.int u1), .val (.int ((u0 &&& (2147483647 : Int32)) % (27 : Int32))), .val (.int (f1 ((u0 &&& (2147483647 : Int32)) % (27 : Int32)))), .unset, .unset, .unset] [(.int (f3 (f1 ((u0 &&& (2147483647 : Int32)) % (27 : Int32)))))])) _
        refine XS.iloadN X6.here hx rfl (hb hby at_24) rfl ?_
        exact k)
      by_cases hc25 : (f3 (f1 ((u0 &&& (2147483647 : Int32)) % (27 : Int32)))) = ((u0 &&& (2147483647 : Int32)) % (27 : Int32))
      · -- pc 25: (f3 (f1 ((u0 &&& (2147483647 : Int32)) % (27 : Int32)))) = ((u0 &&& (2147483647 : Int32)) % (27 : Int32))
        refine ⟨_, _, X6, e6, N6, fun t k => ?_⟩
        have qS0 : (j0_13 u0) = (1 : Int32) := (if_neg hc17).trans ((if_pos hc25).trans (rfl))
        rw [qS0] at k
        refine pre7 t ?_
        show Steps p.tables e below (T6.setTop (mkF m 25 #[.val (.int u0), .val (.int u1), .val (.int ((u0 &&& (2147483647 : Int32)) % (27 : Int32))), .val (.int (f1 ((u0 &&& (2147483647 : Int32)) % (27 : Int32)))), .unset, .unset, .unset] [(.int ((u0 &&& (2147483647 : Int32)) % (27 : Int32))), (.int (f3 (f1 ((u0 &&& (2147483647 : Int32)) % (27 : Int32)))))])) _
        refine XS.icmpNo X6.here hx rfl (hb hby at_25) rfl (teq hc25).2 ?_
        show Steps p.tables e below (T6.setTop (mkF m 28 #[.val (.int u0), .val (.int u1), .val (.int ((u0 &&& (2147483647 : Int32)) % (27 : Int32))), .val (.int (f1 ((u0 &&& (2147483647 : Int32)) % (27 : Int32)))), .unset, .unset, .unset] [])) _
        refine XS.iconst X6.here hx rfl (hb hby at_28) ?_
        show Steps p.tables e below (T6.setTop (mkF m 29 #[.val (.int u0), .val (.int u1), .val (.int ((u0 &&& (2147483647 : Int32)) % (27 : Int32))), .val (.int (f1 ((u0 &&& (2147483647 : Int32)) % (27 : Int32)))), .unset, .unset, .unset] [(.int (1 : Int32))])) _
        refine XS.goto X6.here hx rfl (pc0 := 29) (pc' := 33) rfl (hb hby at_29) (by decide) (by decide) ?_
        exact k
      · -- pc 25: not (f3 (f1 ((u0 &&& (2147483647 : Int32)) % (27 : Int32)))) = ((u0 &&& (2147483647 : Int32)) % (27 : Int32))
        refine ⟨_, _, X6, e6, N6, fun t k => ?_⟩
        have qS0 : (j0_13 u0) = (0 : Int32) := (if_neg hc17).trans ((if_neg hc25).trans (rfl))
        rw [qS0] at k
        refine pre7 t ?_
        show Steps p.tables e below (T6.setTop (mkF m 25 #[.val (.int u0), .val (.int u1), .val (.int ((u0 &&& (2147483647 : Int32)) % (27 : Int32))), .val (.int (f1 ((u0 &&& (2147483647 : Int32)) % (27 : Int32)))), .unset, .unset, .unset] [(.int ((u0 &&& (2147483647 : Int32)) % (27 : Int32))), (.int (f3 (f1 ((u0 &&& (2147483647 : Int32)) % (27 : Int32)))))])) _
        refine XS.icmpYes X6.here hx rfl (pc0 := 25) (pc' := 32) rfl (hb hby at_25) rfl (feq hc25).2 (by decide) (by decide) ?_
        show Steps p.tables e below (T6.setTop (mkF m 32 #[.val (.int u0), .val (.int u1), .val (.int ((u0 &&& (2147483647 : Int32)) % (27 : Int32))), .val (.int (f1 ((u0 &&& (2147483647 : Int32)) % (27 : Int32)))), .unset, .unset, .unset] [])) _
        refine XS.iconst X6.here hx rfl (hb hby at_32) ?_
        exact k
  have pre8 : ∀ t, Steps p.tables e below (T3.setTop (mkF m 46 #[.val (.int u0), .val (.int u1), .val (.int ((u0 &&& (2147483647 : Int32)) % (27 : Int32))), .val (.int (f1 ((u0 &&& (2147483647 : Int32)) % (27 : Int32)))), .val (.int (j0_13 u0)), .val (.int ((u1 &&& (255 : Int32)).toUInt32.toUInt16.toUInt32.toInt32)), .val (.int (1 : Int32))] [])) t → Steps p.tables e below (s₁.setTop (entryFrame m #[(.int u0), (.int u1)] maxLocals)) t := fun t k => pre3 t (by
    show Steps p.tables e below (T3.setTop (mkF m 33 #[.val (.int u0), .val (.int u1), .val (.int ((u0 &&& (2147483647 : Int32)) % (27 : Int32))), .val (.int (f1 ((u0 &&& (2147483647 : Int32)) % (27 : Int32)))), .unset, .unset, .unset] [(.int (j0_13 u0))])) _
    refine XS.istore X3.here hx rfl (hb hby at_33) rfl (l' := #[.val (.int u0), .val (.int u1), .val (.int ((u0 &&& (2147483647 : Int32)) % (27 : Int32))), .val (.int (f1 ((u0 &&& (2147483647 : Int32)) % (27 : Int32)))), .val (.int (j0_13 u0)), .unset, .unset]) rfl ?_
    show Steps p.tables e below (T3.setTop (mkF m 35 #[.val (.int u0), .val (.int u1), .val (.int ((u0 &&& (2147483647 : Int32)) % (27 : Int32))), .val (.int (f1 ((u0 &&& (2147483647 : Int32)) % (27 : Int32)))), .val (.int (j0_13 u0)), .unset, .unset] [])) _
    refine XS.iloadN X3.here hx rfl (hb hby at_35) rfl ?_
    show Steps p.tables e below (T3.setTop (mkF m 36 #[.val (.int u0), .val (.int u1), .val (.int ((u0 &&& (2147483647 : Int32)) % (27 : Int32))), .val (.int (f1 ((u0 &&& (2147483647 : Int32)) % (27 : Int32)))), .val (.int (j0_13 u0)), .unset, .unset] [(.int u1)])) _
    refine XS.sipush X3.here hx rfl (hb hby at_36) ?_
    show Steps p.tables e below (T3.setTop (mkF m 39 #[.val (.int u0), .val (.int u1), .val (.int ((u0 &&& (2147483647 : Int32)) % (27 : Int32))), .val (.int (f1 ((u0 &&& (2147483647 : Int32)) % (27 : Int32)))), .val (.int (j0_13 u0)), .unset, .unset] [(.int (255 : Int32)), (.int u1)])) _
    refine XS.iand X3.here hx rfl (hb hby at_39) rfl ?_
    show Steps p.tables e below (T3.setTop (mkF m 40 #[.val (.int u0), .val (.int u1), .val (.int ((u0 &&& (2147483647 : Int32)) % (27 : Int32))), .val (.int (f1 ((u0 &&& (2147483647 : Int32)) % (27 : Int32)))), .val (.int (j0_13 u0)), .unset, .unset] [(.int (u1 &&& (255 : Int32)))])) _
    refine XS.i2c X3.here hx rfl (hb hby at_40) rfl ?_
    show Steps p.tables e below (T3.setTop (mkF m 41 #[.val (.int u0), .val (.int u1), .val (.int ((u0 &&& (2147483647 : Int32)) % (27 : Int32))), .val (.int (f1 ((u0 &&& (2147483647 : Int32)) % (27 : Int32)))), .val (.int (j0_13 u0)), .unset, .unset] [(.int ((u1 &&& (255 : Int32)).toUInt32.toUInt16.toUInt32.toInt32))])) _
    refine XS.istore X3.here hx rfl (hb hby at_41) rfl (l' := #[.val (.int u0), .val (.int u1), .val (.int ((u0 &&& (2147483647 : Int32)) % (27 : Int32))), .val (.int (f1 ((u0 &&& (2147483647 : Int32)) % (27 : Int32)))), .val (.int (j0_13 u0)), .val (.int ((u1 &&& (255 : Int32)).toUInt32.toUInt16.toUInt32.toInt32)), .unset]) rfl ?_
    show Steps p.tables e below (T3.setTop (mkF m 43 #[.val (.int u0), .val (.int u1), .val (.int ((u0 &&& (2147483647 : Int32)) % (27 : Int32))), .val (.int (f1 ((u0 &&& (2147483647 : Int32)) % (27 : Int32)))), .val (.int (j0_13 u0)), .val (.int ((u1 &&& (255 : Int32)).toUInt32.toUInt16.toUInt32.toInt32)), .unset] [])) _
    refine XS.iconst X3.here hx rfl (hb hby at_43) ?_
    show Steps p.tables e below (T3.setTop (mkF m 44 #[.val (.int u0), .val (.int u1), .val (.int ((u0 &&& (2147483647 : Int32)) % (27 : Int32))), .val (.int (f1 ((u0 &&& (2147483647 : Int32)) % (27 : Int32)))), .val (.int (j0_13 u0)), .val (.int ((u1 &&& (255 : Int32)).toUInt32.toUInt16.toUInt32.toInt32)), .unset] [(.int (1 : Int32))])) _
    refine XS.istore X3.here hx rfl (hb hby at_44) rfl (l' := #[.val (.int u0), .val (.int u1), .val (.int ((u0 &&& (2147483647 : Int32)) % (27 : Int32))), .val (.int (f1 ((u0 &&& (2147483647 : Int32)) % (27 : Int32)))), .val (.int (j0_13 u0)), .val (.int ((u1 &&& (255 : Int32)).toUInt32.toUInt16.toUInt32.toInt32)), .val (.int (1 : Int32))]) rfl ?_
    exact k)
  obtain ⟨T9, locs9, X9, e9, N9, pre9⟩ : ∃ (T' : State) (locs' : List Loc), Stand p l e room_1 s m #[(.int u0), (.int u1)] below meth c T' locs' 0 0 ∧ T'.heap = h0 ∧ Fr n0 locs' ∧ ∀ t, Steps p.tables e below (T'.setTop (mkF m 74 #[.val (.int u0), .val (.int u1), .val (.int ((u0 &&& (2147483647 : Int32)) % (27 : Int32))), .val (.int (f1 ((u0 &&& (2147483647 : Int32)) % (27 : Int32)))), .val (.int (j0_13 u0)), .val (.int ((u1 &&& (255 : Int32)).toUInt32.toUInt16.toUInt32.toInt32)), .val (.int (j0_46L6 u1))] [])) t → Steps p.tables e below (s₁.setTop (entryFrame m #[(.int u0), (.int u1)] maxLocals)) t := by
    obtain ⟨_, _, ⟨T10, L10, k10, n10⟩, -, X10, ⟨Lc10, hQ10, l10, y10, z10⟩, st10⟩ := Jvm.LawKit.callS X3 hx (y := (⟨"com/example/lexigrid/lexigrid/Rack", "isTile", "(C)Z"⟩ : MethodName)) hown (mvT hZ (hw _ (List.mem_of_getElem? (i := 5) rfl))) (mvT hZ (hw _ (List.mem_of_getElem? (i := 6) rfl))) (mvT hZ (hw _ (List.mem_of_getElem? (i := 3) rfl))) (mvT hZ (hw _ (List.mem_of_getElem? (i := 7) rfl))) (by decide) (backOf (W := 0) (rm2 l Z a0 hw [] ((u1 &&& (255 : Int32)).toUInt32.toUInt16.toUInt32.toInt32)  h0 n0 Z0 ) hZ (hw _ (List.mem_of_getElem? (i := 7) rfl)) (hw _ (List.mem_of_getElem? (i := 3) rfl)) (by decide) (by decide)) (g := (mkF m 48 #[.val (.int u0), .val (.int u1), .val (.int ((u0 &&& (2147483647 : Int32)) % (27 : Int32))), .val (.int (f1 ((u0 &&& (2147483647 : Int32)) % (27 : Int32)))), .val (.int (j0_13 u0)), .val (.int ((u1 &&& (255 : Int32)).toUInt32.toUInt16.toUInt32.toInt32)), .val (.int (1 : Int32))] [(.int ((u1 &&& (255 : Int32)).toUInt32.toUInt16.toUInt32.toInt32))])) rfl (by rw [hml]; rfl) (argsL := [(.int ((u1 &&& (255 : Int32)).toUInt32.toUInt16.toUInt32.toInt32))]) (rest := []) (lenOf pd_1 rfl) rfl (by show 2 * 0 + _ ≤ _; exact Nat.le_of_eq rfl) (hb hby at_48) (fun _ _ => ⟨rfl, e3, (by decide : 0 + 0 ≤ _), (by decide : 0 + 0 ≤ _)⟩)
    dsimp only [Pt.U, Pt.locs, Pt.cells, Pt.slots] at X10 l10 y10 z10 st10 hQ10
    subst l10 y10 z10
    obtain ⟨rfl, N10q, e10⟩ := hQ10
    have N10 := Fr.app N3 N10q
    have pre11 : ∀ t, Steps p.tables e below (T10.setTop (mkF m 51 #[.val (.int u0), .val (.int u1), .val (.int ((u0 &&& (2147483647 : Int32)) % (27 : Int32))), .val (.int (f1 ((u0 &&& (2147483647 : Int32)) % (27 : Int32)))), .val (.int (j0_13 u0)), .val (.int ((u1 &&& (255 : Int32)).toUInt32.toUInt16.toUInt32.toInt32)), .val (.int (1 : Int32))] [(.int (f2 ((u1 &&& (255 : Int32)).toUInt32.toUInt16.toUInt32.toInt32)))])) t → Steps p.tables e below (s₁.setTop (entryFrame m #[(.int u0), (.int u1)] maxLocals)) t := fun t k => pre8 t (by
      show Steps p.tables e below (T3.setTop (mkF m 46 #[.val (.int u0), .val (.int u1), .val (.int ((u0 &&& (2147483647 : Int32)) % (27 : Int32))), .val (.int (f1 ((u0 &&& (2147483647 : Int32)) % (27 : Int32)))), .val (.int (j0_13 u0)), .val (.int ((u1 &&& (255 : Int32)).toUInt32.toUInt16.toUInt32.toInt32)), .val (.int (1 : Int32))] [])) _
      refine XS.iload X3.here hx rfl (hb hby at_46) rfl ?_
      show Steps p.tables e below (T3.setTop (mkF m 48 #[.val (.int u0), .val (.int u1), .val (.int ((u0 &&& (2147483647 : Int32)) % (27 : Int32))), .val (.int (f1 ((u0 &&& (2147483647 : Int32)) % (27 : Int32)))), .val (.int (j0_13 u0)), .val (.int ((u1 &&& (255 : Int32)).toUInt32.toUInt16.toUInt32.toInt32)), .val (.int (1 : Int32))] [(.int ((u1 &&& (255 : Int32)).toUInt32.toUInt16.toUInt32.toInt32))])) _
      refine st10 _ ?_
      exact k)
    by_cases hc51 : (f2 ((u1 &&& (255 : Int32)).toUInt32.toUInt16.toUInt32.toInt32)) = (0 : Int32)
    · -- pc 51: (f2 ((u1 &&& (255 : Int32)).toUInt32.toUInt16.toUInt32.toInt32)) = (0 : Int32)
      refine ⟨_, _, X10, e10, N10, fun t k => ?_⟩
      have qL6 : (j0_46L6 u1) = (1 : Int32) := (if_pos hc51).trans (rfl)
      rw [qL6] at k
      refine pre11 t ?_
      show Steps p.tables e below (T10.setTop (mkF m 51 #[.val (.int u0), .val (.int u1), .val (.int ((u0 &&& (2147483647 : Int32)) % (27 : Int32))), .val (.int (f1 ((u0 &&& (2147483647 : Int32)) % (27 : Int32)))), .val (.int (j0_13 u0)), .val (.int ((u1 &&& (255 : Int32)).toUInt32.toUInt16.toUInt32.toInt32)), .val (.int (1 : Int32))] [(.int (f2 ((u1 &&& (255 : Int32)).toUInt32.toUInt16.toUInt32.toInt32)))])) _
      refine XS.ifYes X10.here hx rfl (pc0 := 51) (pc' := 74) rfl (hb hby at_51) rfl ((if0 _ _).trans (teq hc51).1) (by decide) (by decide) ?_
      exact k
    · -- pc 51: not (f2 ((u1 &&& (255 : Int32)).toUInt32.toUInt16.toUInt32.toInt32)) = (0 : Int32)
      obtain ⟨_, _, ⟨T12, L12, k12, n12⟩, -, X12, ⟨Lc12, hQ12, l12, y12, z12⟩, st12⟩ := Jvm.LawKit.callS X10 hx (y := (⟨"com/example/lexigrid/lexigrid/Rack", "kind", "(C)I"⟩ : MethodName)) hown (mvT hZ (hw _ (List.mem_of_getElem? (i := 8) rfl))) (mvT hZ (hw _ (List.mem_of_getElem? (i := 9) rfl))) (mvT hZ (hw _ (List.mem_of_getElem? (i := 3) rfl))) (mvT hZ (hw _ (List.mem_of_getElem? (i := 10) rfl))) (by decide) (backOf (W := 0) (rm3 l Z a0 hw [] ((u1 &&& (255 : Int32)).toUInt32.toUInt16.toUInt32.toInt32)  h0 n0 Z0 ) hZ (hw _ (List.mem_of_getElem? (i := 10) rfl)) (hw _ (List.mem_of_getElem? (i := 3) rfl)) (by decide) (by decide)) (g := (mkF m 56 #[.val (.int u0), .val (.int u1), .val (.int ((u0 &&& (2147483647 : Int32)) % (27 : Int32))), .val (.int (f1 ((u0 &&& (2147483647 : Int32)) % (27 : Int32)))), .val (.int (j0_13 u0)), .val (.int ((u1 &&& (255 : Int32)).toUInt32.toUInt16.toUInt32.toInt32)), .val (.int (1 : Int32))] [(.int ((u1 &&& (255 : Int32)).toUInt32.toUInt16.toUInt32.toInt32))])) rfl (by rw [hml]; rfl) (argsL := [(.int ((u1 &&& (255 : Int32)).toUInt32.toUInt16.toUInt32.toInt32))]) (rest := []) (lenOf pd_2 rfl) rfl (by show 2 * 0 + _ ≤ _; exact Nat.le_of_eq rfl) (hb hby at_56) (fun _ _ => ⟨rfl, e10, (by decide : 0 + 0 ≤ _), (by decide : 0 + 0 ≤ _)⟩)
      dsimp only [Pt.U, Pt.locs, Pt.cells, Pt.slots] at X12 l12 y12 z12 st12 hQ12
      subst l12 y12 z12
      obtain ⟨rfl, N12q, e12⟩ := hQ12
      have N12 := Fr.app N10 N12q
      obtain ⟨_, _, ⟨T13, L13, k13, n13⟩, -, X13, ⟨Lc13, hQ13, l13, y13, z13⟩, st13⟩ := Jvm.LawKit.callS X12 hx (y := (⟨"com/example/lexigrid/lexigrid/Rack", "ofKind", "(I)C"⟩ : MethodName)) hown (mvT hZ (hw _ (List.mem_of_getElem? (i := 1) rfl))) (mvT hZ (hw _ (List.mem_of_getElem? (i := 2) rfl))) (mvT hZ (hw _ (List.mem_of_getElem? (i := 3) rfl))) (mvT hZ (hw _ (List.mem_of_getElem? (i := 4) rfl))) (by decide) (backOf (W := 0) (rm1 l Z a0 hw [] (f3 ((u1 &&& (255 : Int32)).toUInt32.toUInt16.toUInt32.toInt32))  h0 n0 Z0 ) hZ (hw _ (List.mem_of_getElem? (i := 4) rfl)) (hw _ (List.mem_of_getElem? (i := 3) rfl)) (by decide) (by decide)) (g := (mkF m 59 #[.val (.int u0), .val (.int u1), .val (.int ((u0 &&& (2147483647 : Int32)) % (27 : Int32))), .val (.int (f1 ((u0 &&& (2147483647 : Int32)) % (27 : Int32)))), .val (.int (j0_13 u0)), .val (.int ((u1 &&& (255 : Int32)).toUInt32.toUInt16.toUInt32.toInt32)), .val (.int (1 : Int32))] [(.int (f3 ((u1 &&& (255 : Int32)).toUInt32.toUInt16.toUInt32.toInt32)))])) rfl (by rw [hml]; rfl) (argsL := [(.int (f3 ((u1 &&& (255 : Int32)).toUInt32.toUInt16.toUInt32.toInt32)))]) (rest := []) (lenOf pd_0 rfl) rfl (by show 2 * 0 + _ ≤ _; exact Nat.le_of_eq rfl) (hb hby at_59) (fun _ _ => ⟨rfl, e12, (by decide : 0 + 0 ≤ _), (by decide : 0 + 0 ≤ _)⟩)
      dsimp only [Pt.U, Pt.locs, Pt.cells, Pt.slots] at X13 l13 y13 z13 st13 hQ13
      subst l13 y13 z13
      obtain ⟨rfl, N13q, e13⟩ := hQ13
      have N13 := Fr.app N12 N13q
      have pre14 : ∀ t, Steps p.tables e below (T13.setTop (mkF m 64 #[.val (.int u0), .val (.int u1), .val (.int ((u0 &&& (2147483647 : Int32)) % (27 : Int32))), .val (.int (f1 ((u0 &&& (2147483647 : Int32)) % (27 : Int32)))), .val (.int (j0_13 u0)), .val (.int ((u1 &&& (255 : Int32)).toUInt32.toUInt16.toUInt32.toInt32)), .val (.int (1 : Int32))] [(.int ((u1 &&& (255 : Int32)).toUInt32.toUInt16.toUInt32.toInt32)), (.int (f1 (f3 ((u1 &&& (255 : Int32)).toUInt32.toUInt16.toUInt32.toInt32))))])) t → Steps p.tables e below (s₁.setTop (entryFrame m #[(.int u0), (.int u1)] maxLocals)) t := fun t k => pre11 t (by
        show Steps p.tables e below (T10.setTop (mkF m 51 #[.val (.int u0), .val (.int u1), .val (.int ((u0 &&& (2147483647 : Int32)) % (27 : Int32))), .val (.int (f1 ((u0 &&& (2147483647 : Int32)) % (27 : Int32)))), .val (.int (j0_13 u0)), .val (.int ((u1 &&& (255 : Int32)).toUInt32.toUInt16.toUInt32.toInt32)), .val (.int (1 : Int32))] [(.int (f2 ((u1 &&& (255 : Int32)).toUInt32.toUInt16.toUInt32.toInt32)))])) _
        refine XS.ifNo X10.here hx rfl (hb hby at_51) rfl ((if0 _ _).trans (feq hc51).1) ?_
        show Steps p.tables e below (T10.setTop (mkF m 54 #[.val (.int u0), .val (.int u1), .val (.int ((u0 &&& (2147483647 : Int32)) % (27 : Int32))), .val (.int (f1 ((u0 &&& (2147483647 : Int32)) % (27 : Int32)))), .val (.int (j0_13 u0)), .val (.int ((u1 &&& (255 : Int32)).toUInt32.toUInt16.toUInt32.toInt32)), .val (.int (1 : Int32))] [])) _
        refine XS.iload X10.here hx rfl (hb hby at_54) rfl ?_
        show Steps p.tables e below (T10.setTop (mkF m 56 #[.val (.int u0), .val (.int u1), .val (.int ((u0 &&& (2147483647 : Int32)) % (27 : Int32))), .val (.int (f1 ((u0 &&& (2147483647 : Int32)) % (27 : Int32)))), .val (.int (j0_13 u0)), .val (.int ((u1 &&& (255 : Int32)).toUInt32.toUInt16.toUInt32.toInt32)), .val (.int (1 : Int32))] [(.int ((u1 &&& (255 : Int32)).toUInt32.toUInt16.toUInt32.toInt32))])) _
        refine st12 _ ?_
        show Steps p.tables e below (T12.setTop (mkF m 59 #[.val (.int u0), .val (.int u1), .val (.int ((u0 &&& (2147483647 : Int32)) % (27 : Int32))), .val (.int (f1 ((u0 &&& (2147483647 : Int32)) % (27 : Int32)))), .val (.int (j0_13 u0)), .val (.int ((u1 &&& (255 : Int32)).toUInt32.toUInt16.toUInt32.toInt32)), .val (.int (1 : Int32))] [(.int (f3 ((u1 &&& (255 : Int32)).toUInt32.toUInt16.toUInt32.toInt32)))])) _
        refine st13 _ ?_
        show Steps p.tables e below (T13.setTop (mkF m 62 #[.val (.int u0), .val (.int u1), .val (.int ((u0 &&& (2147483647 : Int32)) % (27 : Int32))), .val (.int (f1 ((u0 &&& (2147483647 : Int32)) % (27 : Int32)))), .val (.int (j0_13 u0)), .val (.int ((u1 &&& (255 : Int32)).toUInt32.toUInt16.toUInt32.toInt32)), .val (.int (1 : Int32))] [(.int (f1 (f3 ((u1 &&& (255 : Int32)).toUInt32.toUInt16.toUInt32.toInt32))))])) _
        refine XS.iload X13.here hx rfl (hb hby at_62) rfl ?_
        exact k)
      by_cases hc64 : (f1 (f3 ((u1 &&& (255 : Int32)).toUInt32.toUInt16.toUInt32.toInt32))) = ((u1 &&& (255 : Int32)).toUInt32.toUInt16.toUInt32.toInt32)
      · -- pc 64: (f1 (f3 ((u1 &&& (255 : Int32)).toUInt32.toUInt16.toUInt32.toInt32))) = ((u1 &&& (255 : Int32)).toUInt32.toUInt16.toUInt32.toInt32)
        refine ⟨_, _, X13, e13, N13, fun t k => ?_⟩
        have qL6 : (j0_46L6 u1) = (1 : Int32) := (if_neg hc51).trans ((if_pos hc64).trans (rfl))
        rw [qL6] at k
        refine pre14 t ?_
        show Steps p.tables e below (T13.setTop (mkF m 64 #[.val (.int u0), .val (.int u1), .val (.int ((u0 &&& (2147483647 : Int32)) % (27 : Int32))), .val (.int (f1 ((u0 &&& (2147483647 : Int32)) % (27 : Int32)))), .val (.int (j0_13 u0)), .val (.int ((u1 &&& (255 : Int32)).toUInt32.toUInt16.toUInt32.toInt32)), .val (.int (1 : Int32))] [(.int ((u1 &&& (255 : Int32)).toUInt32.toUInt16.toUInt32.toInt32)), (.int (f1 (f3 ((u1 &&& (255 : Int32)).toUInt32.toUInt16.toUInt32.toInt32))))])) _
        refine XS.icmpNo X13.here hx rfl (hb hby at_64) rfl (teq hc64).2 ?_
        show Steps p.tables e below (T13.setTop (mkF m 67 #[.val (.int u0), .val (.int u1), .val (.int ((u0 &&& (2147483647 : Int32)) % (27 : Int32))), .val (.int (f1 ((u0 &&& (2147483647 : Int32)) % (27 : Int32)))), .val (.int (j0_13 u0)), .val (.int ((u1 &&& (255 : Int32)).toUInt32.toUInt16.toUInt32.toInt32)), .val (.int (1 : Int32))] [])) _
        refine XS.iconst X13.here hx rfl (hb hby at_67) ?_
        show Steps p.tables e below (T13.setTop (mkF m 68 #[.val (.int u0), .val (.int u1), .val (.int ((u0 &&& (2147483647 : Int32)) % (27 : Int32))), .val (.int (f1 ((u0 &&& (2147483647 : Int32)) % (27 : Int32)))), .val (.int (j0_13 u0)), .val (.int ((u1 &&& (255 : Int32)).toUInt32.toUInt16.toUInt32.toInt32)), .val (.int (1 : Int32))] [(.int (1 : Int32))])) _
        refine XS.goto X13.here hx rfl (pc0 := 68) (pc' := 72) rfl (hb hby at_68) (by decide) (by decide) ?_
        show Steps p.tables e below (T13.setTop (mkF m 72 #[.val (.int u0), .val (.int u1), .val (.int ((u0 &&& (2147483647 : Int32)) % (27 : Int32))), .val (.int (f1 ((u0 &&& (2147483647 : Int32)) % (27 : Int32)))), .val (.int (j0_13 u0)), .val (.int ((u1 &&& (255 : Int32)).toUInt32.toUInt16.toUInt32.toInt32)), .val (.int (1 : Int32))] [(.int (1 : Int32))])) _
        refine XS.istore X13.here hx rfl (hb hby at_72) rfl (l' := #[.val (.int u0), .val (.int u1), .val (.int ((u0 &&& (2147483647 : Int32)) % (27 : Int32))), .val (.int (f1 ((u0 &&& (2147483647 : Int32)) % (27 : Int32)))), .val (.int (j0_13 u0)), .val (.int ((u1 &&& (255 : Int32)).toUInt32.toUInt16.toUInt32.toInt32)), .val (.int (1 : Int32))]) rfl ?_
        exact k
      · -- pc 64: not (f1 (f3 ((u1 &&& (255 : Int32)).toUInt32.toUInt16.toUInt32.toInt32))) = ((u1 &&& (255 : Int32)).toUInt32.toUInt16.toUInt32.toInt32)
        refine ⟨_, _, X13, e13, N13, fun t k => ?_⟩
        have qL6 : (j0_46L6 u1) = (0 : Int32) := (if_neg hc51).trans ((if_neg hc64).trans (rfl))
        rw [qL6] at k
        refine pre14 t ?_
        show Steps p.tables e below (T13.setTop (mkF m 64 #[.val (.int u0), .val (.int u1), .val (.int ((u0 &&& (2147483647 : Int32)) % (27 : Int32))), .val (.int (f1 ((u0 &&& (2147483647 : Int32)) % (27 : Int32)))), .val (.int (j0_13 u0)), .val (.int ((u1 &&& (255 : Int32)).toUInt32.toUInt16.toUInt32.toInt32)), .val (.int (1 : Int32))] [(.int ((u1 &&& (255 : Int32)).toUInt32.toUInt16.toUInt32.toInt32)), (.int (f1 (f3 ((u1 &&& (255 : Int32)).toUInt32.toUInt16.toUInt32.toInt32))))])) _
        refine XS.icmpYes X13.here hx rfl (pc0 := 64) (pc' := 71) rfl (hb hby at_64) rfl (feq hc64).2 (by decide) (by decide) ?_
        show Steps p.tables e below (T13.setTop (mkF m 71 #[.val (.int u0), .val (.int u1), .val (.int ((u0 &&& (2147483647 : Int32)) % (27 : Int32))), .val (.int (f1 ((u0 &&& (2147483647 : Int32)) % (27 : Int32)))), .val (.int (j0_13 u0)), .val (.int ((u1 &&& (255 : Int32)).toUInt32.toUInt16.toUInt32.toInt32)), .val (.int (1 : Int32))] [])) _
        refine XS.iconst X13.here hx rfl (hb hby at_71) ?_
        show Steps p.tables e below (T13.setTop (mkF m 72 #[.val (.int u0), .val (.int u1), .val (.int ((u0 &&& (2147483647 : Int32)) % (27 : Int32))), .val (.int (f1 ((u0 &&& (2147483647 : Int32)) % (27 : Int32)))), .val (.int (j0_13 u0)), .val (.int ((u1 &&& (255 : Int32)).toUInt32.toUInt16.toUInt32.toInt32)), .val (.int (1 : Int32))] [(.int (0 : Int32))])) _
        refine XS.istore X13.here hx rfl (hb hby at_72) rfl (l' := #[.val (.int u0), .val (.int u1), .val (.int ((u0 &&& (2147483647 : Int32)) % (27 : Int32))), .val (.int (f1 ((u0 &&& (2147483647 : Int32)) % (27 : Int32)))), .val (.int (j0_13 u0)), .val (.int ((u1 &&& (255 : Int32)).toUInt32.toUInt16.toUInt32.toInt32)), .val (.int (0 : Int32))]) rfl ?_
        exact k
  have pre15 : ∀ t, Steps p.tables e below (T9.setTop (mkF m 76 #[.val (.int u0), .val (.int u1), .val (.int ((u0 &&& (2147483647 : Int32)) % (27 : Int32))), .val (.int (f1 ((u0 &&& (2147483647 : Int32)) % (27 : Int32)))), .val (.int (j0_13 u0)), .val (.int ((u1 &&& (255 : Int32)).toUInt32.toUInt16.toUInt32.toInt32)), .val (.int (j0_46L6 u1))] [(.int (j0_13 u0))])) t → Steps p.tables e below (s₁.setTop (entryFrame m #[(.int u0), (.int u1)] maxLocals)) t := fun t k => pre9 t (by
    show Steps p.tables e below (T9.setTop (mkF m 74 #[.val (.int u0), .val (.int u1), .val (.int ((u0 &&& (2147483647 : Int32)) % (27 : Int32))), .val (.int (f1 ((u0 &&& (2147483647 : Int32)) % (27 : Int32)))), .val (.int (j0_13 u0)), .val (.int ((u1 &&& (255 : Int32)).toUInt32.toUInt16.toUInt32.toInt32)), .val (.int (j0_46L6 u1))] [])) _
    refine XS.iload X9.here hx rfl (hb hby at_74) rfl ?_
    exact k)
  by_cases hc76 : (j0_13 u0) = (0 : Int32)
  · -- pc 76: (j0_13 u0) = (0 : Int32)
    obtain ⟨fs, hr, hrun, hended, hW, hsame⟩ := X9.leave (v := (some (.int (0 : Int32)))) (fun h => by rw [Bd.returns] at h; cases h)
    refine ⟨_, _, pre15 _ ?_, hrun, hended, _, _, rfl, ?_, ⟨_, rfl⟩, hW, hsame.mono (by decide) (by decide)⟩
    · show Steps p.tables e below (T9.setTop (mkF m 76 #[.val (.int u0), .val (.int u1), .val (.int ((u0 &&& (2147483647 : Int32)) % (27 : Int32))), .val (.int (f1 ((u0 &&& (2147483647 : Int32)) % (27 : Int32)))), .val (.int (j0_13 u0)), .val (.int ((u1 &&& (255 : Int32)).toUInt32.toUInt16.toUInt32.toInt32)), .val (.int (j0_46L6 u1))] [(.int (j0_13 u0))])) _
      refine XS.ifYes X9.here hx rfl (pc0 := 76) (pc' := 88) rfl (hb hby at_76) rfl ((if0 _ _).trans (teq hc76).1) (by decide) (by decide) ?_
      show Steps p.tables e below (T9.setTop (mkF m 88 #[.val (.int u0), .val (.int u1), .val (.int ((u0 &&& (2147483647 : Int32)) % (27 : Int32))), .val (.int (f1 ((u0 &&& (2147483647 : Int32)) % (27 : Int32)))), .val (.int (j0_13 u0)), .val (.int ((u1 &&& (255 : Int32)).toUInt32.toUInt16.toUInt32.toInt32)), .val (.int (j0_46L6 u1))] [])) _
      refine XS.iconst X9.here hx rfl (hb hby at_88) ?_
      show Steps p.tables e below (T9.setTop (mkF m 89 #[.val (.int u0), .val (.int u1), .val (.int ((u0 &&& (2147483647 : Int32)) % (27 : Int32))), .val (.int (f1 ((u0 &&& (2147483647 : Int32)) % (27 : Int32)))), .val (.int (j0_13 u0)), .val (.int ((u1 &&& (255 : Int32)).toUInt32.toUInt16.toUInt32.toInt32)), .val (.int (j0_46L6 u1))] [(.int (0 : Int32))])) _
      exact retN X9 hx (t := .boolean) Bd.returns (by simp) (hb hby at_89) hr
    · show QP (some (.int (f0 u0 u1))) h0 n0 _ T9.heap _
      rw [e9]
      exact ⟨congrArg (fun z => some (Value.int z)) (Eq.symm (show (f0 u0 u1) = (0 : Int32) from (if_pos hc76).trans (rfl))), N9, rfl⟩
  · -- pc 76: not (j0_13 u0) = (0 : Int32)
    have pre16 : ∀ t, Steps p.tables e below (T9.setTop (mkF m 81 #[.val (.int u0), .val (.int u1), .val (.int ((u0 &&& (2147483647 : Int32)) % (27 : Int32))), .val (.int (f1 ((u0 &&& (2147483647 : Int32)) % (27 : Int32)))), .val (.int (j0_13 u0)), .val (.int ((u1 &&& (255 : Int32)).toUInt32.toUInt16.toUInt32.toInt32)), .val (.int (j0_46L6 u1))] [(.int (j0_46L6 u1))])) t → Steps p.tables e below (s₁.setTop (entryFrame m #[(.int u0), (.int u1)] maxLocals)) t := fun t k => pre15 t (by
      show Steps p.tables e below (T9.setTop (mkF m 76 #[.val (.int u0), .val (.int u1), .val (.int ((u0 &&& (2147483647 : Int32)) % (27 : Int32))), .val (.int (f1 ((u0 &&& (2147483647 : Int32)) % (27 : Int32)))), .val (.int (j0_13 u0)), .val (.int ((u1 &&& (255 : Int32)).toUInt32.toUInt16.toUInt32.toInt32)), .val (.int (j0_46L6 u1))] [(.int (j0_13 u0))])) _
      refine XS.ifNo X9.here hx rfl (hb hby at_76) rfl ((if0 _ _).trans (feq hc76).1) ?_
      show Steps p.tables e below (T9.setTop (mkF m 79 #[.val (.int u0), .val (.int u1), .val (.int ((u0 &&& (2147483647 : Int32)) % (27 : Int32))), .val (.int (f1 ((u0 &&& (2147483647 : Int32)) % (27 : Int32)))), .val (.int (j0_13 u0)), .val (.int ((u1 &&& (255 : Int32)).toUInt32.toUInt16.toUInt32.toInt32)), .val (.int (j0_46L6 u1))] [])) _
      refine XS.iload X9.here hx rfl (hb hby at_79) rfl ?_
      exact k)
    by_cases hc81 : (j0_46L6 u1) = (0 : Int32)
    · -- pc 81: (j0_46L6 u1) = (0 : Int32)
      obtain ⟨fs, hr, hrun, hended, hW, hsame⟩ := X9.leave (v := (some (.int (0 : Int32)))) (fun h => by rw [Bd.returns] at h; cases h)
      refine ⟨_, _, pre16 _ ?_, hrun, hended, _, _, rfl, ?_, ⟨_, rfl⟩, hW, hsame.mono (by decide) (by decide)⟩
      · show Steps p.tables e below (T9.setTop (mkF m 81 #[.val (.int u0), .val (.int u1), .val (.int ((u0 &&& (2147483647 : Int32)) % (27 : Int32))), .val (.int (f1 ((u0 &&& (2147483647 : Int32)) % (27 : Int32)))), .val (.int (j0_13 u0)), .val (.int ((u1 &&& (255 : Int32)).toUInt32.toUInt16.toUInt32.toInt32)), .val (.int (j0_46L6 u1))] [(.int (j0_46L6 u1))])) _
        refine XS.ifYes X9.here hx rfl (pc0 := 81) (pc' := 88) rfl (hb hby at_81) rfl ((if0 _ _).trans (teq hc81).1) (by decide) (by decide) ?_
        show Steps p.tables e below (T9.setTop (mkF m 88 #[.val (.int u0), .val (.int u1), .val (.int ((u0 &&& (2147483647 : Int32)) % (27 : Int32))), .val (.int (f1 ((u0 &&& (2147483647 : Int32)) % (27 : Int32)))), .val (.int (j0_13 u0)), .val (.int ((u1 &&& (255 : Int32)).toUInt32.toUInt16.toUInt32.toInt32)), .val (.int (j0_46L6 u1))] [])) _
        refine XS.iconst X9.here hx rfl (hb hby at_88) ?_
        show Steps p.tables e below (T9.setTop (mkF m 89 #[.val (.int u0), .val (.int u1), .val (.int ((u0 &&& (2147483647 : Int32)) % (27 : Int32))), .val (.int (f1 ((u0 &&& (2147483647 : Int32)) % (27 : Int32)))), .val (.int (j0_13 u0)), .val (.int ((u1 &&& (255 : Int32)).toUInt32.toUInt16.toUInt32.toInt32)), .val (.int (j0_46L6 u1))] [(.int (0 : Int32))])) _
        exact retN X9 hx (t := .boolean) Bd.returns (by simp) (hb hby at_89) hr
      · show QP (some (.int (f0 u0 u1))) h0 n0 _ T9.heap _
        rw [e9]
        exact ⟨congrArg (fun z => some (Value.int z)) (Eq.symm (show (f0 u0 u1) = (0 : Int32) from (if_neg hc76).trans ((if_pos hc81).trans (rfl)))), N9, rfl⟩
    · -- pc 81: not (j0_46L6 u1) = (0 : Int32)
      obtain ⟨fs, hr, hrun, hended, hW, hsame⟩ := X9.leave (v := (some (.int (1 : Int32)))) (fun h => by rw [Bd.returns] at h; cases h)
      refine ⟨_, _, pre16 _ ?_, hrun, hended, _, _, rfl, ?_, ⟨_, rfl⟩, hW, hsame.mono (by decide) (by decide)⟩
      · show Steps p.tables e below (T9.setTop (mkF m 81 #[.val (.int u0), .val (.int u1), .val (.int ((u0 &&& (2147483647 : Int32)) % (27 : Int32))), .val (.int (f1 ((u0 &&& (2147483647 : Int32)) % (27 : Int32)))), .val (.int (j0_13 u0)), .val (.int ((u1 &&& (255 : Int32)).toUInt32.toUInt16.toUInt32.toInt32)), .val (.int (j0_46L6 u1))] [(.int (j0_46L6 u1))])) _
        refine XS.ifNo X9.here hx rfl (hb hby at_81) rfl ((if0 _ _).trans (feq hc81).1) ?_
        show Steps p.tables e below (T9.setTop (mkF m 84 #[.val (.int u0), .val (.int u1), .val (.int ((u0 &&& (2147483647 : Int32)) % (27 : Int32))), .val (.int (f1 ((u0 &&& (2147483647 : Int32)) % (27 : Int32)))), .val (.int (j0_13 u0)), .val (.int ((u1 &&& (255 : Int32)).toUInt32.toUInt16.toUInt32.toInt32)), .val (.int (j0_46L6 u1))] [])) _
        refine XS.iconst X9.here hx rfl (hb hby at_84) ?_
        show Steps p.tables e below (T9.setTop (mkF m 85 #[.val (.int u0), .val (.int u1), .val (.int ((u0 &&& (2147483647 : Int32)) % (27 : Int32))), .val (.int (f1 ((u0 &&& (2147483647 : Int32)) % (27 : Int32)))), .val (.int (j0_13 u0)), .val (.int ((u1 &&& (255 : Int32)).toUInt32.toUInt16.toUInt32.toInt32)), .val (.int (j0_46L6 u1))] [(.int (1 : Int32))])) _
        refine XS.goto X9.here hx rfl (pc0 := 85) (pc' := 89) rfl (hb hby at_85) (by decide) (by decide) ?_
        show Steps p.tables e below (T9.setTop (mkF m 89 #[.val (.int u0), .val (.int u1), .val (.int ((u0 &&& (2147483647 : Int32)) % (27 : Int32))), .val (.int (f1 ((u0 &&& (2147483647 : Int32)) % (27 : Int32)))), .val (.int (j0_13 u0)), .val (.int ((u1 &&& (255 : Int32)).toUInt32.toUInt16.toUInt32.toInt32)), .val (.int (j0_46L6 u1))] [(.int (1 : Int32))])) _
        exact retN X9 hx (t := .boolean) Bd.returns (by simp) (hb hby at_89) hr
      · show QP (some (.int (f0 u0 u1))) h0 n0 _ T9.heap _
        rw [e9]
        exact ⟨congrArg (fun z => some (Value.int z)) (Eq.symm (show (f0 u0 u1) = (1 : Int32) from (if_neg hc76).trans ((if_neg hc81).trans (rfl)))), N9, rfl⟩
theorem own_small (x : Int32) (n : Nat) (h0 : 0 ≤ x.toInt) (h1 : x.toInt < (n : Int)) (hn : n ≤ 2147483648) : ∃ k : Fin n, x = k.val.toInt32 := by
  refine ⟨⟨x.toInt.toNat, by omega⟩, Int32.toInt_inj.mp ?_⟩
  rw [len_toInt (show x.toInt.toNat < 2 ^ 31 by omega)]
  omega
theorem own_fw : ∀ k : Fin 27, (if (f2 (f1 k.val.toInt32)) = (0 : Int32) then (0 : Int32) else (if (f3 (f1 k.val.toInt32)) = k.val.toInt32 then (1 : Int32) else (0 : Int32))) = 1 := by decide +kernel
theorem own_bw : ∀ k : Fin 256, (if (f2 k.val.toInt32) = (0 : Int32) then (1 : Int32) else (if (f1 (f3 k.val.toInt32)) = k.val.toInt32 then (1 : Int32) else (0 : Int32))) = 1 := by decide +kernel
theorem own_1 (u0 : Int32) : j0_13 u0 = 1 := by
  have h1 := c_mask u0 2147483647 31 (by decide) (by decide)
  have h2 := c_iremV (u0 &&& 2147483647) 27
  obtain ⟨k, hk⟩ := own_small ((u0 &&& 2147483647) % 27) 27 (h2.1 (by omega) (by decide)).1 (h2.1 (by omega) (by decide)).2.1 (by decide)
  unfold j0_13
  rw [hk]
  exact own_fw k
theorem own_2 (u1 : Int32) : j0_46L6 u1 = 1 := by
  have h1 := c_mask u1 255 8 (by decide) (by decide)
  have h2 := i2c_mask u1
  obtain ⟨k, hk⟩ := own_small (u1 &&& 255) 256 (by omega) (by omega) (by decide)
  unfold j0_46L6
  rw [h2, hk]
  exact own_bw k
theorem law_val (u0 u1 : Int32) : f0 u0 u1 = 1 := by
  unfold f0
  rw [own_1, own_2]
  rfl
set_option maxRecDepth 65536 in
set_option maxHeartbeats 40000000 in
theorem comes_1 {Post : Tables → Env → Array Value → State → Outcome → State → Prop} (hpost : ∀ tb e args s v u, (limb_1_1.after args s (.returned v) u = true ∧ limb_1_2.after args s (.returned v) u = true ∧ True) → FrameEnd s (.returned v) u (Jvm.fieldLocs frame_1_writes args s ++ Jvm.arrayLocs frame_1_arrays args s ++ Jvm.staticLocs frame_1_statics s) 0 0 → Post tb e args s (.returned v) u) :
    ArmFor flags0 classFile x code maxLocals ret World_1 tables_1 room_1 Calls_1 rest_1 Pre_1 Post := by
  intro l hfl _ _ p e ha hc hk s m args below hf hA hF happ hP
  obtain ⟨hcalls, hrest, hpre⟩ := hP
  obtain ⟨-, -, -, hnamed, -, -, -, hat⟩ := (Spec.applies_iff hf).mp happ
  obtain ⟨hg, hn⟩ := and_e (Cond.before_iff.mp (show (Jvm.Cond.and given_1 narrow_1).before args s = true from hpre))
  obtain ⟨g0, G0⟩ := and_e hg
  obtain ⟨v0, G1⟩ := and_e G0
  have v1 := G1
  obtain ⟨w0, w1, rfl⟩ : ∃ w0 w1 : Value, args = #[w0, w1] := by
    have hs : args.size = 2 := by simpa [Cond.value, given_1] using g0
    obtain ⟨L⟩ := args
    match L, hs with
    | [w0, w1], _ => exact ⟨w0, w1, rfl⟩
  have hw := fun d (hd : d ∈ tables_1) => atoms_spec (ws := Jvm.Cond.code x code maxLocals ret :: tables_1) hat d (List.mem_cons_of_mem _ hd)
  have hfit : Fit s := fun {y c} hc i hi => by
    obtain ⟨ha, rfl⟩ := Array.getElem?_eq_some_iff.mp hc
    have q := List.all_eq_true.mp ((Array.all_eq_true_iff_forall_mem.mp hF) _ (Array.getElem_mem ha)) i (List.mem_range.mpr hi)
    simpa [Array.getElem?_eq_getElem hi] using q
  obtain ⟨i0, ei0⟩ := is_v v0
  obtain rfl : w0 = (.int i0) := Option.some.inj ei0
  obtain ⟨i1, ei1⟩ := is_v v1
  obtain rfl : w1 = (.int i1) := Option.some.inj ei1
  obtain ⟨n, o, h1, h2, h3, _, L, rfl, ⟨rfl, N, -⟩, hq⟩ := rm0 l s _ hw tables_1 i0 i1  s.heap s.heap.size (Nat.le_refl _)  p e ha hc hk s m _ below hf ((Spec.applies_iff_loose hf).mp happ).1 ⟨rfl, State.Warmed39.refl s, rfl⟩ trivial
  refine ⟨n, _, h1, h2, h3, hpost _ _ _ _ _ _ ⟨Cond.after_iff.mpr rfl, Cond.after_iff.mpr (eq_i res_at (Term.int_eval (1)) (congrArg Value.int (law_val i0 i1))), trivial⟩ ⟨hq.1, hq.2.1, (hq.2.2.sift fun y hy => Or.inr (N y hy)).mono (by decide) (by decide)⟩⟩
theorem main_1_1 : Claimed_1_1 := comes_1 fun _ _ _ _ _ _ h hF => ⟨h.1, hF⟩
theorem main_1_2 : Claimed_1_2 := comes_1 fun _ _ _ _ _ _ h hF => ⟨h.2.1, hF⟩
end Jvm.Pilot.@@N@@
namespace Jvm.Pilot.@@N@@
open Jvm Jvm.ClassFile Sem Op Lib Jvm.Free Jvm.Stand Jvm.Pilot.@@N@@.Jvm.D
/-! MADE BY PROGRAM (witnessworld.py) out of the Statement's table words and the real class files: 10 classes; the members and pool entries that the words name. The judged class is class 1, her method 1. -/
namespace start1
open Jvm.ClassFile
def u (s : String) : CpInfo := .utf8 (stringToUtf16 s)
/-- a pool by its gaps: so many unusable entries, then the entry; so many at the end -/
def gap : Nat → List CpInfo → List CpInfo
  | 0, r => r
  | n + 1, r => .unusable :: gap n r
def poolList (es : List (Nat × CpInfo)) (last : Nat) : List CpInfo := es.foldr (fun e r => gap e.1 (e.2 :: r)) (gap last [])
def pool (es : List (Nat × CpInfo)) (last : Nat) : Array CpInfo := ⟨poolList es last⟩
def fileOf (pool : Array CpInfo) (this : Nat) (attrs : Array Attribute := #[]) (ms : Array MethodInfo := #[]) (fl : Nat := 33) (sup : Nat := 0) (ifs : Array Nat := #[]) (fds : Array FieldInfo := #[]) : ClassFile where
  minorVersion := 0
  majorVersion := 65
  constantPool := pool
  accessFlags := fl
  thisClass := this
  superClass := sup
  interfaces := ifs
  fields := fds
  methods := ms
  attributes := attrs
def plain (name : String) (sup : Option ClassId) : Class where
  name := name
  kind := .ordinary
  loader := none
  accessFlags := 33
  super := sup
  interfaces := #[]
  cf := none
  fields := #[]
  methods := #[]
  instanceTypes := #[]
  staticTypes := #[]
  resolved := #[]
  callSites := []
  init := .initialized
  statics := none
  mirror := none

def pool0 : Array CpInfo := pool [(5, u "<init>"), (0, u "()V"), (1, .class_ 10), (1, u "java/lang/Object")] 113

def k0m0 : Method := { name := "<init>", desc := "()V", sig := { parameters := [], returnType := none }, accessFlags := 1, code := none }
/-- java/lang/Object -/
def k0 : Class := { plain "java/lang/Object" none with
  accessFlags := 33
  interfaces := #[]
  cf := some (fileOf pool0 8 #[] #[{ accessFlags := 1, nameIndex := 5, descriptorIndex := 6, attributes := #[] }] 33 0 #[] #[])
  fields := #[]
  methods := #[k0m0]
  instanceTypes := #[]
  staticTypes := #[]
  resolved := Array.replicate 124 none
  statics := none }

def pool1 : Array CpInfo := pool [(2, .class_ 4), (1, u "java/lang/Object"), (0, u "<init>"), (0, u "()V"), (0, .integer 2147483647), (0, .class_ 9), (0, u "com/example/lexigrid/lexigrid/Rack"), (0, .methodref 8 11), (0, .nameAndType 12 13), (0, u "ofKind"), (0, u "(I)C"), (0, .methodref 8 15), (0, .nameAndType 16 17), (0, u "isTile"), (0, u "(C)Z"), (0, .methodref 8 19), (0, .nameAndType 20 21), (0, u "kind"), (0, u "(C)I"), (0, .class_ 23), (0, u "com/example/lexigrid/lexigrid/RackOfKindPinLaw"), (2, u "law"), (0, u "(II)Z")] 3

def k1m0 : Method := { name := "<init>", desc := "()V", sig := { parameters := [], returnType := none }, accessFlags := 2, code := none }
def k1c1 : Code := { maxStack := 2, maxLocals := 7, code := code, exceptionTable := #[], attributes := #[] }
def k1m1 : Method := { name := "law", desc := "(II)Z", sig := { parameters := [.int, .int], returnType := some .boolean }, accessFlags := 9, code := some k1c1 }
/-- com/example/lexigrid/lexigrid/RackOfKindPinLaw -/
def k1 : Class := { plain "com/example/lexigrid/lexigrid/RackOfKindPinLaw" (some 0) with
  accessFlags := 49
  interfaces := #[]
  cf := some (fileOf pool1 22 #[] #[{ accessFlags := 2, nameIndex := 5, descriptorIndex := 6, attributes := #[] }, { accessFlags := 9, nameIndex := 26, descriptorIndex := 27, attributes := #[] }] 49 2 #[] #[])
  fields := #[]
  methods := #[k1m0, k1m1]
  instanceTypes := #[]
  staticTypes := #[]
  resolved := Array.replicate 31 none
  statics := none }

def pool2 : Array CpInfo := pool [(2, .class_ 4), (1, u "java/lang/Object"), (0, u "<init>"), (0, u "()V"), (0, .class_ 8), (0, u "java/lang/Record")] 13

def k2m0 : Method := { name := "<init>", desc := "()V", sig := { parameters := [], returnType := none }, accessFlags := 4, code := none }
/-- java/lang/Record -/
def k2 : Class := { plain "java/lang/Record" (some 0) with
  accessFlags := 1057
  interfaces := #[]
  cf := some (fileOf pool2 7 #[] #[{ accessFlags := 4, nameIndex := 5, descriptorIndex := 6, attributes := #[] }] 1057 2 #[] #[])
  fields := #[]
  methods := #[k2m0]
  instanceTypes := #[]
  staticTypes := #[]
  resolved := Array.replicate 22 none
  statics := none }

def pool3 : Array CpInfo := pool [(2, .class_ 4), (1, u "java/lang/Record"), (11, u "(I)C"), (1, .class_ 20), (1, u "com/example/lexigrid/lexigrid/Rack"), (0, u "isTile"), (0, u "(C)Z"), (11, u "tiles"), (0, u "Ljava/lang/String;"), (93, u "KINDS"), (0, u "I"), (9, u "kind"), (0, u "(C)I"), (0, u "ofKind")] 47

def k3c0 : Code := { maxStack := 2, maxLocals := 1, code := prog_47_method_3_code, exceptionTable := #[], attributes := #[] }
def k3m0 : Method := { name := "isTile", desc := "(C)Z", sig := { parameters := [.char], returnType := some .boolean }, accessFlags := 8, code := some k3c0 }
def k3c1 : Code := { maxStack := 2, maxLocals := 1, code := prog_47_method_4_code, exceptionTable := #[], attributes := #[] }
def k3m1 : Method := { name := "kind", desc := "(C)I", sig := { parameters := [.char], returnType := some .int }, accessFlags := 8, code := some k3c1 }
def k3c2 : Code := { maxStack := 2, maxLocals := 1, code := prog_47_method_5_code, exceptionTable := #[], attributes := #[] }
def k3m2 : Method := { name := "ofKind", desc := "(I)C", sig := { parameters := [.int], returnType := some .char }, accessFlags := 8, code := some k3c2 }
/-- com/example/lexigrid/lexigrid/Rack -/
def k3 : Class := { plain "com/example/lexigrid/lexigrid/Rack" (some 2) with
  accessFlags := 49
  interfaces := #[]
  cf := some (fileOf pool3 18 #[] #[{ accessFlags := 8, nameIndex := 21, descriptorIndex := 22, attributes := #[] }, { accessFlags := 8, nameIndex := 140, descriptorIndex := 141, attributes := #[] }, { accessFlags := 8, nameIndex := 142, descriptorIndex := 16, attributes := #[] }] 49 2 #[] #[{ accessFlags := 18, nameIndex := 34, descriptorIndex := 35, attributes := #[] }, { accessFlags := 24, nameIndex := 129, descriptorIndex := 130, attributes := #[] }])
  fields := #[{ name := "tiles", type := (.object "java/lang/String"), accessFlags := 18, slot := 0, constantValue := 0 }, { name := "KINDS", type := .int, accessFlags := 24, slot := 0, constantValue := 0 }]
  methods := #[k3m0, k3m1, k3m2]
  instanceTypes := #[(.object "java/lang/String")]
  staticTypes := #[.int]
  resolved := Array.replicate 190 none
  statics := none }

def pool4 : Array CpInfo := pool [(1, u "java/lang/Cloneable"), (0, .class_ 1), (0, u "java/lang/Object"), (0, .class_ 3)] 3

/-- java/lang/Cloneable -/
def k4 : Class := { plain "java/lang/Cloneable" (some 0) with
  accessFlags := 1537
  interfaces := #[]
  cf := some (fileOf pool4 2 #[] #[] 1537 4 #[] #[])
  fields := #[]
  methods := #[]
  instanceTypes := #[]
  staticTypes := #[]
  resolved := Array.replicate 8 none
  statics := none }

def pool5 : Array CpInfo := pool [(1, u "java/io/Serializable"), (0, .class_ 1), (0, u "java/lang/Object"), (0, .class_ 3)] 3

/-- java/io/Serializable -/
def k5 : Class := { plain "java/io/Serializable" (some 0) with
  accessFlags := 1537
  interfaces := #[]
  cf := some (fileOf pool5 2 #[] #[] 1537 4 #[] #[])
  fields := #[]
  methods := #[]
  instanceTypes := #[]
  staticTypes := #[]
  resolved := Array.replicate 8 none
  statics := none }

/-- the primitive byte -/
def k6 : Class := { plain "byte" none with kind := .primitive 'B', accessFlags := 0x411 }
/-- [B -/
def k7 : Class := { plain "[B" (some 0) with kind := .array 6 .byte, interfaces := #[4, 5], accessFlags := 1041 }

/-- the primitive int -/
def k8 : Class := { plain "int" none with kind := .primitive 'I', accessFlags := 0x411 }
/-- [I -/
def k9 : Class := { plain "[I" (some 0) with kind := .array 8 .int, interfaces := #[4, 5], accessFlags := 1041 }

def heap : Heap := #[]
def classes : Array Class := #[k0, k1, k2, k3, k4, k5, k6, k7, k8, k9]
def interned : List (Array UInt16 × Addr) := []
def slotsUsed : Nat := 0
def theMethod : MethodId := ⟨1, 1⟩
def args0 : Array Value := #[.int 5, .int 7]
def aboutOver (below : List Frame) : State where
  vm := { classes := classes, interned := interned.toArray }
  heap := heap
  slotsUsed := slotsUsed
  threads := #[{ frames := .invoking theMethod args0 :: below }]
def below0 : List Frame := [.native { method := ⟨0, 0⟩, args := #[] }]
def about1 : State := aboutOver below0
def p0 : Program := .bare "" "" ""
def e0 : Env := launch0.env 0 0 0
theorem w_frames : about1.frames = Frame.invoking theMethod args0 :: below0 := rfl
set_option maxRecDepth 65536 in
theorem w_args : argsFit about1.vm theMethod args0 = true := by decide +kernel
set_option maxRecDepth 65536 in
theorem w_heap : heapFits about1 = true := by decide +kernel
set_option maxRecDepth 65536 in
theorem w_runnable : about1.curStatus? = some .runnable := by decide +kernel
set_option maxRecDepth 65536 in
theorem w_alone : about1.alone = true := by decide +kernel
set_option maxRecDepth 65536 in
theorem w_named : about1.methodNamed? x = some theMethod := by decide +kernel
set_option maxRecDepth 65536 in
theorem w_hears : about1.hears theMethod below0 = true := by decide +kernel
set_option maxRecDepth 65536 in
theorem w_ripe : about1.ripe theMethod args0 below0 = true := by decide +kernel
theorem w_running : about1.status = .running := rfl
set_option maxRecDepth 65536 in
theorem w_room : about1.hasRoom e0.platform room_1 = true :=
  launch0.hasRoom_least _ room_1 (by decide +kernel) (by decide +kernel) (by decide +kernel) (by decide +kernel) (by decide +kernel) (by decide +kernel)
theorem allAtoms_all (ts : List Jvm.Cond) (a : Array Jvm.Value) (st : Jvm.State) : (allAtoms ts).before a st = ts.all (fun c => c.before a st) := by
  induction ts with
  | nil => rfl
  | cons c t ih =>
    show (Jvm.Cond.and c (allAtoms t)).before a st = _
    rw [Jvm.Cond.before_and, ih, List.all_cons]
def words1 : List Jvm.Cond := Jvm.Cond.code x code maxLocals ret :: tables_1
/-- a 'code' word, met by the world's own term for the bytes: nothing is compared byte by byte -/
theorem code_word {y : MethodName} {bytes : ByteArray} {mx : Nat} {rt : Option FieldType} {a : Array Value} {s : State} {m : MethodId} {meth : Method} {c : Code} (h1 : s.methodNamed? y = some m) (h2 : s.vm.method? m = some meth) (h3 : meth.code = some c) (h4 : c.code = bytes)
    (h5 : (c.maxLocals == mx && c.exceptionTable.isEmpty && decide (c.maxStack ≤ mostOperands) && decide (meth.sig.returnType = rt) && !meth.locks && decide (parseMethodDescriptor y.desc = some meth.sig)) = true) : (Jvm.Cond.code y bytes mx rt).before a s = true := by
  simp only [Bool.and_eq_true, beq_iff_eq, Bool.not_eq_true', decide_eq_true_eq] at h5
  obtain ⟨⟨⟨⟨⟨g1, g2⟩, g3⟩, g4⟩, g5⟩, g6⟩ := h5
  simp [Cond.before, Cond.holds, Cond.value, h1, h2, h3, h4, g1, g2, g3, g4, g5, g6]
def isCode : Jvm.Cond → Bool
  | .code _ _ _ _ => true
  | _ => false
theorem all_split {L : List Jvm.Cond} {P : Jvm.Cond → Bool} (h1 : L.all (fun c => isCode c || P c) = true) (h2 : ∀ c ∈ L.filter isCode, P c = true) : L.all P = true := by
  refine List.all_eq_true.mpr fun c hc => ?_
  have h := List.all_eq_true.mp h1 c hc
  rcases Bool.eq_false_or_eq_true (isCode c) with hi | hi
  · exact h2 c (List.mem_filter.mpr ⟨hc, hi⟩)
  · simpa [hi] using h
set_option maxRecDepth 65536 in
theorem w_c0 : (Jvm.Cond.code x code maxLocals ret).before args0 about1 = true := code_word (m := ⟨1, 1⟩) (meth := k1m1) (c := k1c1) (by decide +kernel) rfl rfl rfl (by decide +kernel)
set_option maxRecDepth 65536 in
theorem w_c1 : (Jvm.Cond.code ({ cls := "com/example/lexigrid/lexigrid/Rack", name := "ofKind", desc := "(I)C" } : Jvm.MethodName) prog_47_method_5_code (1 : Nat) (Option.some Jvm.ClassFile.FieldType.char)).before args0 about1 = true := code_word (m := ⟨3, 2⟩) (meth := k3m2) (c := k3c2) (by decide +kernel) rfl rfl rfl (by decide +kernel)
set_option maxRecDepth 65536 in
theorem w_c2 : (Jvm.Cond.code ({ cls := "com/example/lexigrid/lexigrid/Rack", name := "isTile", desc := "(C)Z" } : Jvm.MethodName) prog_47_method_3_code (1 : Nat) (Option.some Jvm.ClassFile.FieldType.boolean)).before args0 about1 = true := code_word (m := ⟨3, 0⟩) (meth := k3m0) (c := k3c0) (by decide +kernel) rfl rfl rfl (by decide +kernel)
set_option maxRecDepth 65536 in
theorem w_c3 : (Jvm.Cond.code ({ cls := "com/example/lexigrid/lexigrid/Rack", name := "kind", desc := "(C)I" } : Jvm.MethodName) prog_47_method_4_code (1 : Nat) (Option.some Jvm.ClassFile.FieldType.int)).before args0 about1 = true := code_word (m := ⟨3, 1⟩) (meth := k3m1) (c := k3c1) (by decide +kernel) rfl rfl rfl (by decide +kernel)
def codes1 : List Jvm.Cond := [Jvm.Cond.code x code maxLocals ret, Jvm.Cond.code ({ cls := "com/example/lexigrid/lexigrid/Rack", name := "ofKind", desc := "(I)C" } : Jvm.MethodName) prog_47_method_5_code (1 : Nat) (Option.some Jvm.ClassFile.FieldType.char), Jvm.Cond.code ({ cls := "com/example/lexigrid/lexigrid/Rack", name := "isTile", desc := "(C)Z" } : Jvm.MethodName) prog_47_method_3_code (1 : Nat) (Option.some Jvm.ClassFile.FieldType.boolean), Jvm.Cond.code ({ cls := "com/example/lexigrid/lexigrid/Rack", name := "kind", desc := "(C)I" } : Jvm.MethodName) prog_47_method_4_code (1 : Nat) (Option.some Jvm.ClassFile.FieldType.int)]
set_option maxRecDepth 65536 in
theorem codes_eq : words1.filter isCode = codes1 := rfl
theorem w_codes : ∀ c ∈ words1.filter isCode, c.before args0 about1 = true := by
  rw [codes_eq]
  intro c hc
  simp only [codes1, List.mem_cons, List.not_mem_nil, or_false] at hc
  rcases hc with rfl | rfl | rfl | rfl
  · exact w_c0
  · exact w_c1
  · exact w_c2
  · exact w_c3
set_option maxRecDepth 65536 in
theorem w_t1 : words1.all (fun c => isCode c || c.before args0 about1) = true := by decide +kernel
theorem w_tables : (allAtoms (Jvm.Cond.code x code maxLocals ret :: tables_1)).before args0 about1 = true := by
  rw [allAtoms_all]
  show words1.all (fun c => c.before args0 about1) = true
  refine all_split ?_ w_codes
  rw [w_t1]
set_option maxRecDepth 65536 in
theorem w_case : (Jvm.Cond.and given_1 narrow_1).before args0 about1 = true := by decide +kernel
theorem w_applies : (headSpec (Jvm.Cond.code x code maxLocals ret :: tables_1) room_1).applies x e0.platform about1 = true :=
  (Spec.applies_iff w_frames).mpr ⟨w_running, w_runnable, w_alone, w_named, w_hears, w_ripe, w_room, w_tables⟩
theorem atStart : AtStart classFile x code maxLocals ret World_1 tables_1 room_1 Calls_1 rest_1 Pre_1 launch0 p0 e0 about1 theMethod args0 below0 :=
  ⟨lists_1, trivial, launch0.admits_env _ _ _, launch0.least_env, fairChoices_fair.cas, fairChoices_fair.clock, w_frames, w_args, w_heap, w_applies, trivial, trivial, w_case⟩
end start1
theorem witness_1 : WitnessClaimed_1 := ⟨start1.p0, start1.e0, start1.about1, start1.theMethod, start1.args0, start1.below0, start1.atStart⟩
end Jvm.Pilot.@@N@@
