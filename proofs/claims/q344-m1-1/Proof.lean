import JvmDerived
import JvmDerived.Pilot.@@N@@Statement
import JvmDerived.Pilot.@@N@@Code
set_option linter.unusedVariables false
set_option linter.unusedSimpArgs false
namespace Jvm.RoadKit
open Sem ClassFile Op Lib Jvm.Stand Jvm.Free Jvm.LawKit
section New
variable {p : Program} {l : Launch} {e : Env} {R : Room} {s : State} {m : MethodId} {args : Array Value} {below : List Frame} {meth : Method} {c : Code} {T : State} {locs : List Loc} {cells slots : Nat}
theorem retI (X : Stand p l e R s m args below meth c T locs cells slots) (hx : p.tables.exec = Jvm.exec) {pc : Nat} {Ls : Array Slot} {z : Int32} {rest : List Value} (hret : meth.sig.returnType = some .int) (hd : decode c.code pc = .ok (.ireturn, 1)) {fs : List Frame}
    (hl : ∀ (f : JFrame) (acts : List Action), f.method = m → f.locked = none → f.entered = [] → (doReturn e (T.setTop f) acts (some (.int z))).1 = T.setFrames fs) : Steps p.tables e below (T.setTop (mkF m pc Ls (.int z :: rest))) (T.setFrames fs) :=
  retOut X hx hret rfl (Or.inl ⟨rfl, Or.inl rfl, z, rfl⟩) hd hl
end New
end Jvm.RoadKit
namespace Jvm.Pilot.@@N@@
open Jvm Jvm.ClassFile Sem Op Lib Jvm.Free Jvm.Stand Jvm.LawKit Jvm.RoadKit Bundle Jvm.Pilot.@@N@@.Jvm.D
def QL (n0 : Nat) (v : Option Value) (h : Heap) (L : List Loc) : Prop := v = some (.int 1) ∧ Fr n0 L
def QP (r : Option Value) (h0 : Heap) (n0 : Nat) (v : Option Value) (h : Heap) (L : List Loc) : Prop := v = r ∧ Fr n0 L ∧ h = h0
theorem d1_0 : decode prog_43_method_3_code 0 = .ok (.lload_n 0, 1) := by decide +kernel
theorem d1_1 : decode prog_43_method_3_code 1 = .ok (.ldc2_w 9, 3) := by decide +kernel
theorem d1_4 : decode prog_43_method_3_code 4 = .ok (.lload_n 2, 1) := by decide +kernel
theorem d1_5 : decode prog_43_method_3_code 5 = .ok (.lsub, 1) := by decide +kernel
theorem d1_6 : decode prog_43_method_3_code 6 = .ok (.lcmp, 1) := by decide +kernel
theorem d1_7 : decode prog_43_method_3_code 7 = .ok (.ifCond .le 9, 3) := by decide +kernel
theorem d1_10 : decode prog_43_method_3_code 10 = .ok (.ldc2_w 9, 3) := by decide +kernel
theorem d1_13 : decode prog_43_method_3_code 13 = .ok (.goto 6, 3) := by decide +kernel
theorem d1_16 : decode prog_43_method_3_code 16 = .ok (.lload_n 0, 1) := by decide +kernel
theorem d1_17 : decode prog_43_method_3_code 17 = .ok (.lload_n 2, 1) := by decide +kernel
theorem d1_18 : decode prog_43_method_3_code 18 = .ok (.ladd, 1) := by decide +kernel
theorem d1_19 : decode prog_43_method_3_code 19 = .ok (.lreturn, 1) := by decide +kernel
theorem pn_1 : plainName "com/example/sendlimitd/sendlimitd/core/Saturating" = true := by first | (simp [plainName, overriddenIn]; done) | decide +kernel
theorem ef_1 (m : MethodId) (x0 : Int64) (x1 : Int64) : entryFrame m #[(.long x0), (.long x1)] 4 = mkF m 0 #[.val (.long x0), .second, .val (.long x1), .second] [] := by first | (simp [entryFrame, mkF, argsToLocals, Value.category]; done) | rfl
def f1 (w0 : Int64) (w1 : Int64) : Int64 := (if (0 : Int32) < (lcmpW w0 ((9223372036854775807 : Int64) - w1)) then (9223372036854775807 : Int64) else (w0 + w1))
set_option maxRecDepth 65536 in
set_option maxHeartbeats 40000000 in
theorem rm1 (l : Launch) (Z : State) (a0 : Array Value) (hw : ∀ d ∈ tables_1, d.before a0 Z = true) (ws : List Jvm.Cond) (w0 : Int64) (w1 : Int64) (h0 : Heap) (n0 : Nat) (Z0 : n0 ≤ h0.size) :
    MetFree l (⟨"com/example/sendlimitd/sendlimitd/core/Saturating", "sum", "(JJ)J"⟩ : MethodName) (head1 (Jvm.Cond.code (⟨"com/example/sendlimitd/sendlimitd/core/Saturating", "sum", "(JJ)J"⟩ : MethodName) prog_43_method_3_code 4 (some .long) :: ws) ({ frames := 0, cells := 0, slots := 0, locals := 0 } : Room)) (fun a U => a = #[(.long w0), (.long w1)] ∧ Z.Warmed39 U.vm ∧ U.heap = h0) (fun _ _ _ _ _ => True) (fun _ U o U' => ∃ v L, o = .returned v ∧ QP (some (.long (f1 w0 w1))) h0 n0 v U'.heap L ∧ FrameEnd U o U' L 0 0) := by
  refine MetFree.of_bodySF (plainFor_of_name pn_1) hisR ?_
  intro p e s m args below meth c s₁ Bd hml0 hP hK
  obtain ⟨rfl, hZ, hh⟩ := hP
  have hx := Bd.exec
  have hby := Bd.bytes
  have hml : c.maxLocals = 4 := hml0
  have hown : s.vm.findClass "com/example/sendlimitd/sendlimitd/core/Saturating" = some m.cls := findClass_of_methodNamed Bd.named
  have hnm := (name_of_methodNamed Bd.named Bd.method).1
  have X0 : Stand p l e ({ frames := 0, cells := 0, slots := 0, locals := 0 } : Room) s m #[(.long w0), (.long w1)] below meth c s₁ [] 0 0 := Stand.of_body Bd
  have e0 : s₁.heap = h0 := by rw [← hh, Bd.state]; rfl
  have N0 := Fr.nil n0
  have pre0 : ∀ t, Steps p.tables e below (s₁.setTop (mkF m 0 #[.val (.long w0), .second, .val (.long w1), .second] [])) t → Steps p.tables e below (s₁.setTop (entryFrame m #[(.long w0), (.long w1)] 4)) t := fun t k => castTop (ef_1 m w0 w1) k
  have pre1 : ∀ t, Steps p.tables e below (s₁.setTop (mkF m 7 #[.val (.long w0), .second, .val (.long w1), .second] [(.int (lcmpW w0 ((9223372036854775807 : Int64) - w1)))])) t → Steps p.tables e below (s₁.setTop (entryFrame m #[(.long w0), (.long w1)] 4)) t := fun t k => pre0 t (by
    show Steps p.tables e below (s₁.setTop (mkF m 0 #[.val (.long w0), .second, .val (.long w1), .second] [])) _
    refine XS.lloadN X0.here hx rfl (hb hby d1_0) rfl ?_
    show Steps p.tables e below (s₁.setTop (mkF m 1 #[.val (.long w0), .second, .val (.long w1), .second] [(.long w0)])) _
    refine X0.ldc2Long hx hown (mvT hZ (hw _ (List.mem_of_getElem? (i := 5) rfl))) (g := (mkF m 1 #[.val (.long w0), .second, .val (.long w1), .second] [(.long w0)])) rfl (hb hby d1_1) _ ?_
    show Steps p.tables e below (s₁.setTop (mkF m 4 #[.val (.long w0), .second, .val (.long w1), .second] [(.long (9223372036854775807 : Int64)), (.long w0)])) _
    refine XS.lloadN X0.here hx rfl (hb hby d1_4) rfl ?_
    show Steps p.tables e below (s₁.setTop (mkF m 5 #[.val (.long w0), .second, .val (.long w1), .second] [(.long w1), (.long (9223372036854775807 : Int64)), (.long w0)])) _
    refine XS.lsub X0.here hx rfl (hb hby d1_5) rfl ?_
    show Steps p.tables e below (s₁.setTop (mkF m 6 #[.val (.long w0), .second, .val (.long w1), .second] [(.long ((9223372036854775807 : Int64) - w1)), (.long w0)])) _
    refine XS.lcmp X0.here hx rfl (hb hby d1_6) rfl ?_
    exact k)
  by_cases hc7 : (0 : Int32) < (lcmpW w0 ((9223372036854775807 : Int64) - w1))
  · -- pc 7: (0 : Int32) < (lcmpW w0 ((9223372036854775807 : Int64) - w1))
    obtain ⟨fs, hr, hrun, hended, hW, hsame⟩ := X0.leave (v := (some (.long (9223372036854775807 : Int64)))) (fun h => by rw [Bd.returns] at h; cases h)
    refine ⟨_, _, pre1 _ ?_, hrun, hended, _, _, rfl, ?_, ⟨_, rfl⟩, hW, hsame.mono (by decide) (by decide)⟩
    · show Steps p.tables e below (s₁.setTop (mkF m 7 #[.val (.long w0), .second, .val (.long w1), .second] [(.int (lcmpW w0 ((9223372036854775807 : Int64) - w1)))])) _
      refine XS.ifNo X0.here hx rfl (hb hby d1_7) rfl ((if0 _ _).trans (tlt hc7).2.2.2) ?_
      show Steps p.tables e below (s₁.setTop (mkF m 10 #[.val (.long w0), .second, .val (.long w1), .second] [])) _
      refine X0.ldc2Long hx hown (mvT hZ (hw _ (List.mem_of_getElem? (i := 5) rfl))) (g := (mkF m 10 #[.val (.long w0), .second, .val (.long w1), .second] [])) rfl (hb hby d1_10) _ ?_
      show Steps p.tables e below (s₁.setTop (mkF m 13 #[.val (.long w0), .second, .val (.long w1), .second] [(.long (9223372036854775807 : Int64))])) _
      refine XS.goto X0.here hx rfl (pc0 := 13) (pc' := 19) rfl (hb hby d1_13) (by decide) (by decide) ?_
      show Steps p.tables e below (s₁.setTop (mkF m 19 #[.val (.long w0), .second, .val (.long w1), .second] [(.long (9223372036854775807 : Int64))])) _
      exact retOut X0 hx Bd.returns rfl (Or.inr (Or.inl ⟨rfl, rfl, _, rfl⟩)) (hb hby d1_19) hr
    · show QP (some (.long (f1 w0 w1))) h0 n0 _ s₁.heap _
      rw [e0]
      exact ⟨congrArg (fun z => some (Value.long z)) (Eq.symm (show (f1 w0 w1) = (9223372036854775807 : Int64) from (if_pos hc7).trans (rfl))), N0, rfl⟩
  · -- pc 7: not (0 : Int32) < (lcmpW w0 ((9223372036854775807 : Int64) - w1))
    obtain ⟨fs, hr, hrun, hended, hW, hsame⟩ := X0.leave (v := (some (.long (w0 + w1)))) (fun h => by rw [Bd.returns] at h; cases h)
    refine ⟨_, _, pre1 _ ?_, hrun, hended, _, _, rfl, ?_, ⟨_, rfl⟩, hW, hsame.mono (by decide) (by decide)⟩
    · show Steps p.tables e below (s₁.setTop (mkF m 7 #[.val (.long w0), .second, .val (.long w1), .second] [(.int (lcmpW w0 ((9223372036854775807 : Int64) - w1)))])) _
      refine XS.ifYes X0.here hx rfl (pc0 := 7) (pc' := 16) rfl (hb hby d1_7) rfl ((if0 _ _).trans (flt hc7).2.2.2) (by decide) (by decide) ?_
      show Steps p.tables e below (s₁.setTop (mkF m 16 #[.val (.long w0), .second, .val (.long w1), .second] [])) _
      refine XS.lloadN X0.here hx rfl (hb hby d1_16) rfl ?_
      show Steps p.tables e below (s₁.setTop (mkF m 17 #[.val (.long w0), .second, .val (.long w1), .second] [(.long w0)])) _
      refine XS.lloadN X0.here hx rfl (hb hby d1_17) rfl ?_
      show Steps p.tables e below (s₁.setTop (mkF m 18 #[.val (.long w0), .second, .val (.long w1), .second] [(.long w1), (.long w0)])) _
      refine XS.ladd X0.here hx rfl (hb hby d1_18) rfl ?_
      show Steps p.tables e below (s₁.setTop (mkF m 19 #[.val (.long w0), .second, .val (.long w1), .second] [(.long (w0 + w1))])) _
      exact retOut X0 hx Bd.returns rfl (Or.inr (Or.inl ⟨rfl, rfl, _, rfl⟩)) (hb hby d1_19) hr
    · show QP (some (.long (f1 w0 w1))) h0 n0 _ s₁.heap _
      rw [e0]
      exact ⟨congrArg (fun z => some (Value.long z)) (Eq.symm (show (f1 w0 w1) = (w0 + w1) from (if_neg hc7).trans (rfl))), N0, rfl⟩
theorem pn_0 : plainName "com/example/sendlimitd/sendlimitd/core/SaturatingSumPinLaw" = true := by first | (simp [plainName, overriddenIn]; done) | decide +kernel
theorem ef_0 (m : MethodId) (x0 : Int64) (x1 : Int64) : entryFrame m #[(.long x0), (.long x1)] maxLocals = mkF m 0 #[.val (.long x0), .second, .val (.long x1), .second, .unset, .unset, .unset, .unset, .unset, .unset] [] := by first | (simp [entryFrame, mkF, argsToLocals, Value.category, maxLocals]; done) | rfl
def j0_13L8 (w0 : Int64) (w1 : Int64) : Int64 := (if (lcmpW (w0 + (w1 &&& (9223372036854775807 : Int64))) w0) < (0 : Int32) then (9223372036854775807 : Int64) else (w0 + (w1 &&& (9223372036854775807 : Int64))))
theorem pd_0 : parseMethodDescriptor "(JJ)J" = some ⟨[.long, .long], some .long⟩ := by decide +kernel
def f0 (w0 : Int64) (w1 : Int64) : Int32 := (if (lcmpW (f1 w0 (w1 &&& (9223372036854775807 : Int64))) (j0_13L8 w0 w1)) = (0 : Int32) then (1 : Int32) else (0 : Int32))
set_option maxRecDepth 65536 in
set_option maxHeartbeats 40000000 in
theorem rm0 (l : Launch) (Z : State) (a0 : Array Value) (hw : ∀ d ∈ tables_1, d.before a0 Z = true) (ws : List Jvm.Cond) (w0 : Int64) (w1 : Int64) (h0 : Heap) (n0 : Nat) (Z0 : n0 ≤ h0.size) :
    MetFree l x (head1 (Jvm.Cond.code x code maxLocals ret :: ws) room_1) (fun a U => a = #[(.long w0), (.long w1)] ∧ Z.Warmed39 U.vm ∧ U.heap = h0) (fun _ _ _ _ _ => True) (fun _ U o U' => ∃ v L, o = .returned v ∧ QP (some (.int (f0 w0 w1))) h0 n0 v U'.heap L ∧ FrameEnd U o U' L 0 0) := by
  refine MetFree.of_bodySF (plainFor_of_name pn_0) hisR ?_
  intro p e s m args below meth c s₁ Bd hml0 hP hK
  obtain ⟨rfl, hZ, hh⟩ := hP
  have hx := Bd.exec
  have hby := Bd.bytes
  have hml : c.maxLocals = 10 := hml0
  have hown : s.vm.findClass "com/example/sendlimitd/sendlimitd/core/SaturatingSumPinLaw" = some m.cls := findClass_of_methodNamed Bd.named
  have hnm := (name_of_methodNamed Bd.named Bd.method).1
  have X0 : Stand p l e room_1 s m #[(.long w0), (.long w1)] below meth c s₁ [] 0 0 := Stand.of_body Bd
  have e0 : s₁.heap = h0 := by rw [← hh, Bd.state]; rfl
  have N0 := Fr.nil n0
  have pre0 : ∀ t, Steps p.tables e below (s₁.setTop (mkF m 0 #[.val (.long w0), .second, .val (.long w1), .second, .unset, .unset, .unset, .unset, .unset, .unset] [])) t → Steps p.tables e below (s₁.setTop (entryFrame m #[(.long w0), (.long w1)] maxLocals)) t := fun t k => castTop (ef_0 m w0 w1) k
  have pre1 : ∀ t, Steps p.tables e below (s₁.setTop (mkF m 13 #[.val (.long w0), .second, .val (.long w1), .second, .val (.long (w1 &&& (9223372036854775807 : Int64))), .second, .val (.long (w0 + (w1 &&& (9223372036854775807 : Int64)))), .second, .unset, .unset] [])) t → Steps p.tables e below (s₁.setTop (entryFrame m #[(.long w0), (.long w1)] maxLocals)) t := fun t k => pre0 t (by
    show Steps p.tables e below (s₁.setTop (mkF m 0 #[.val (.long w0), .second, .val (.long w1), .second, .unset, .unset, .unset, .unset, .unset, .unset] [])) _
    refine XS.lloadN X0.here hx rfl (hb hby at_0) rfl ?_
    show Steps p.tables e below (s₁.setTop (mkF m 1 #[.val (.long w0), .second, .val (.long w1), .second, .unset, .unset, .unset, .unset, .unset, .unset] [(.long w1)])) _
    refine X0.ldc2Long hx hown (mvT hZ (hw _ (List.mem_of_getElem? (i := 0) rfl))) (g := (mkF m 1 #[.val (.long w0), .second, .val (.long w1), .second, .unset, .unset, .unset, .unset, .unset, .unset] [(.long w1)])) rfl (hb hby at_1) _ ?_
    show Steps p.tables e below (s₁.setTop (mkF m 4 #[.val (.long w0), .second, .val (.long w1), .second, .unset, .unset, .unset, .unset, .unset, .unset] [(.long (9223372036854775807 : Int64)), (.long w1)])) _
    refine XS.land X0.here hx rfl (hb hby at_4) rfl ?_
    show Steps p.tables e below (s₁.setTop (mkF m 5 #[.val (.long w0), .second, .val (.long w1), .second, .unset, .unset, .unset, .unset, .unset, .unset] [(.long (w1 &&& (9223372036854775807 : Int64)))])) _
    refine XS.lstore X0.here hx rfl (hb hby at_5) rfl (l' := #[.val (.long w0), .second, .val (.long w1), .second, .val (.long (w1 &&& (9223372036854775807 : Int64))), .second, .unset, .unset, .unset, .unset]) rfl ?_
    show Steps p.tables e below (s₁.setTop (mkF m 7 #[.val (.long w0), .second, .val (.long w1), .second, .val (.long (w1 &&& (9223372036854775807 : Int64))), .second, .unset, .unset, .unset, .unset] [])) _
    refine XS.lloadN X0.here hx rfl (hb hby at_7) rfl ?_
    show Steps p.tables e below (s₁.setTop (mkF m 8 #[.val (.long w0), .second, .val (.long w1), .second, .val (.long (w1 &&& (9223372036854775807 : Int64))), .second, .unset, .unset, .unset, .unset] [(.long w0)])) _
    refine XS.lload X0.here hx rfl (hb hby at_8) rfl ?_
    show Steps p.tables e below (s₁.setTop (mkF m 10 #[.val (.long w0), .second, .val (.long w1), .second, .val (.long (w1 &&& (9223372036854775807 : Int64))), .second, .unset, .unset, .unset, .unset] [(.long (w1 &&& (9223372036854775807 : Int64))), (.long w0)])) _
    refine XS.ladd X0.here hx rfl (hb hby at_10) rfl ?_
    show Steps p.tables e below (s₁.setTop (mkF m 11 #[.val (.long w0), .second, .val (.long w1), .second, .val (.long (w1 &&& (9223372036854775807 : Int64))), .second, .unset, .unset, .unset, .unset] [(.long (w0 + (w1 &&& (9223372036854775807 : Int64))))])) _
    refine XS.lstore X0.here hx rfl (hb hby at_11) rfl (l' := #[.val (.long w0), .second, .val (.long w1), .second, .val (.long (w1 &&& (9223372036854775807 : Int64))), .second, .val (.long (w0 + (w1 &&& (9223372036854775807 : Int64)))), .second, .unset, .unset]) rfl ?_
    exact k)
  have pre2 : ∀ t, Steps p.tables e below (s₁.setTop (mkF m 32 #[.val (.long w0), .second, .val (.long w1), .second, .val (.long (w1 &&& (9223372036854775807 : Int64))), .second, .val (.long (w0 + (w1 &&& (9223372036854775807 : Int64)))), .second, .val (.long (j0_13L8 w0 w1)), .second] [])) t → Steps p.tables e below (s₁.setTop (entryFrame m #[(.long w0), (.long w1)] maxLocals)) t := by
    have pre3 : ∀ t, Steps p.tables e below (s₁.setTop (mkF m 17 #[.val (.long w0), .second, .val (.long w1), .second, .val (.long (w1 &&& (9223372036854775807 : Int64))), .second, .val (.long (w0 + (w1 &&& (9223372036854775807 : Int64)))), .second, .unset, .unset] [(.int (lcmpW (w0 + (w1 &&& (9223372036854775807 : Int64))) w0))])) t → Steps p.tables e below (s₁.setTop (entryFrame m #[(.long w0), (.long w1)] maxLocals)) t := fun t k => pre1 t (by
      show Steps p.tables e below (s₁.setTop (mkF m 13 #[.val (.long w0), .second, .val (.long w1), .second, .val (.long (w1 &&& (9223372036854775807 : Int64))), .second, .val (.long (w0 + (w1 &&& (9223372036854775807 : Int64)))), .second, .unset, .unset] [])) _
      refine XS.lload X0.here hx rfl (hb hby at_13) rfl ?_
      show Steps p.tables e below (s₁.setTop (mkF m 15 #[.val (.long w0), .second, .val (.long w1), .second, .val (.long (w1 &&& (9223372036854775807 : Int64))), .second, .val (.long (w0 + (w1 &&& (9223372036854775807 : Int64)))), .second, .unset, .unset] [(.long (w0 + (w1 &&& (9223372036854775807 : Int64))))])) _
      refine XS.lloadN X0.here hx rfl (hb hby at_15) rfl ?_
      show Steps p.tables e below (s₁.setTop (mkF m 16 #[.val (.long w0), .second, .val (.long w1), .second, .val (.long (w1 &&& (9223372036854775807 : Int64))), .second, .val (.long (w0 + (w1 &&& (9223372036854775807 : Int64)))), .second, .unset, .unset] [(.long w0), (.long (w0 + (w1 &&& (9223372036854775807 : Int64))))])) _
      refine XS.lcmp X0.here hx rfl (hb hby at_16) rfl ?_
      exact k)
    by_cases hc17 : (lcmpW (w0 + (w1 &&& (9223372036854775807 : Int64))) w0) < (0 : Int32)
    · -- pc 17: (lcmpW (w0 + (w1 &&& (9223372036854775807 : Int64))) w0) < (0 : Int32)
      intro t k
      have qL8 : (j0_13L8 w0 w1) = (9223372036854775807 : Int64) := (if_pos hc17).trans (rfl)
      rw [qL8] at k
      refine pre3 t ?_
      show Steps p.tables e below (s₁.setTop (mkF m 17 #[.val (.long w0), .second, .val (.long w1), .second, .val (.long (w1 &&& (9223372036854775807 : Int64))), .second, .val (.long (w0 + (w1 &&& (9223372036854775807 : Int64)))), .second, .unset, .unset] [(.int (lcmpW (w0 + (w1 &&& (9223372036854775807 : Int64))) w0))])) _
      refine XS.ifNo X0.here hx rfl (hb hby at_17) rfl ((if0 _ _).trans (tlt hc17).2.1) ?_
      show Steps p.tables e below (s₁.setTop (mkF m 20 #[.val (.long w0), .second, .val (.long w1), .second, .val (.long (w1 &&& (9223372036854775807 : Int64))), .second, .val (.long (w0 + (w1 &&& (9223372036854775807 : Int64)))), .second, .unset, .unset] [])) _
      refine X0.ldc2Long hx hown (mvT hZ (hw _ (List.mem_of_getElem? (i := 0) rfl))) (g := (mkF m 20 #[.val (.long w0), .second, .val (.long w1), .second, .val (.long (w1 &&& (9223372036854775807 : Int64))), .second, .val (.long (w0 + (w1 &&& (9223372036854775807 : Int64)))), .second, .unset, .unset] [])) rfl (hb hby at_20) _ ?_
      show Steps p.tables e below (s₁.setTop (mkF m 23 #[.val (.long w0), .second, .val (.long w1), .second, .val (.long (w1 &&& (9223372036854775807 : Int64))), .second, .val (.long (w0 + (w1 &&& (9223372036854775807 : Int64)))), .second, .unset, .unset] [(.long (9223372036854775807 : Int64))])) _
      refine XS.lstore X0.here hx rfl (hb hby at_23) rfl (l' := #[.val (.long w0), .second, .val (.long w1), .second, .val (.long (w1 &&& (9223372036854775807 : Int64))), .second, .val (.long (w0 + (w1 &&& (9223372036854775807 : Int64)))), .second, .val (.long (9223372036854775807 : Int64)), .second]) rfl ?_
      show Steps p.tables e below (s₁.setTop (mkF m 25 #[.val (.long w0), .second, .val (.long w1), .second, .val (.long (w1 &&& (9223372036854775807 : Int64))), .second, .val (.long (w0 + (w1 &&& (9223372036854775807 : Int64)))), .second, .val (.long (9223372036854775807 : Int64)), .second] [])) _
      refine XS.goto X0.here hx rfl (pc0 := 25) (pc' := 32) rfl (hb hby at_25) (by decide) (by decide) ?_
      exact k
    · -- pc 17: not (lcmpW (w0 + (w1 &&& (9223372036854775807 : Int64))) w0) < (0 : Int32)
      intro t k
      have qL8 : (j0_13L8 w0 w1) = (w0 + (w1 &&& (9223372036854775807 : Int64))) := (if_neg hc17).trans (rfl)
      rw [qL8] at k
      refine pre3 t ?_
      show Steps p.tables e below (s₁.setTop (mkF m 17 #[.val (.long w0), .second, .val (.long w1), .second, .val (.long (w1 &&& (9223372036854775807 : Int64))), .second, .val (.long (w0 + (w1 &&& (9223372036854775807 : Int64)))), .second, .unset, .unset] [(.int (lcmpW (w0 + (w1 &&& (9223372036854775807 : Int64))) w0))])) _
      refine XS.ifYes X0.here hx rfl (pc0 := 17) (pc' := 28) rfl (hb hby at_17) rfl ((if0 _ _).trans (flt hc17).2.1) (by decide) (by decide) ?_
      show Steps p.tables e below (s₁.setTop (mkF m 28 #[.val (.long w0), .second, .val (.long w1), .second, .val (.long (w1 &&& (9223372036854775807 : Int64))), .second, .val (.long (w0 + (w1 &&& (9223372036854775807 : Int64)))), .second, .unset, .unset] [])) _
      refine XS.lload X0.here hx rfl (hb hby at_28) rfl ?_
      show Steps p.tables e below (s₁.setTop (mkF m 30 #[.val (.long w0), .second, .val (.long w1), .second, .val (.long (w1 &&& (9223372036854775807 : Int64))), .second, .val (.long (w0 + (w1 &&& (9223372036854775807 : Int64)))), .second, .unset, .unset] [(.long (w0 + (w1 &&& (9223372036854775807 : Int64))))])) _
      refine XS.lstore X0.here hx rfl (hb hby at_30) rfl (l' := #[.val (.long w0), .second, .val (.long w1), .second, .val (.long (w1 &&& (9223372036854775807 : Int64))), .second, .val (.long (w0 + (w1 &&& (9223372036854775807 : Int64)))), .second, .val (.long (w0 + (w1 &&& (9223372036854775807 : Int64)))), .second]) rfl ?_
      exact k
  obtain ⟨_, _, ⟨T4, L4, k4, n4⟩, -, X4, ⟨Lc4, hQ4, l4, y4, z4⟩, st4⟩ := Jvm.LawKit.callS X0 hx (y := (⟨"com/example/sendlimitd/sendlimitd/core/Saturating", "sum", "(JJ)J"⟩ : MethodName)) hown (mvT hZ (hw _ (List.mem_of_getElem? (i := 1) rfl))) (mvT hZ (hw _ (List.mem_of_getElem? (i := 2) rfl))) (mvT hZ (hw _ (List.mem_of_getElem? (i := 3) rfl))) (mvT hZ (hw _ (List.mem_of_getElem? (i := 4) rfl))) (by decide) (backOf (W := 0) (rm1 l Z a0 hw [] w0 (w1 &&& (9223372036854775807 : Int64))  h0 n0 Z0 ) hZ (hw _ (List.mem_of_getElem? (i := 4) rfl)) (hw _ (List.mem_of_getElem? (i := 3) rfl)) (by decide) (by decide)) (g := (mkF m 35 #[.val (.long w0), .second, .val (.long w1), .second, .val (.long (w1 &&& (9223372036854775807 : Int64))), .second, .val (.long (w0 + (w1 &&& (9223372036854775807 : Int64)))), .second, .val (.long (j0_13L8 w0 w1)), .second] [(.long (w1 &&& (9223372036854775807 : Int64))), (.long w0)])) rfl (by rw [hml]; rfl) (argsL := [(.long w0), (.long (w1 &&& (9223372036854775807 : Int64)))]) (rest := []) (lenOf pd_0 rfl) rfl (by show 2 * 0 + _ ≤ _; exact Nat.le_of_eq rfl) (hb hby at_35) (fun _ _ => ⟨rfl, e0, (by decide : 0 + 0 ≤ _), (by decide : 0 + 0 ≤ _)⟩)
  dsimp only [Pt.U, Pt.locs, Pt.cells, Pt.slots] at X4 l4 y4 z4 st4 hQ4
  subst l4 y4 z4
  obtain ⟨rfl, N4q, e4⟩ := hQ4
  have N4 := Fr.app N0 N4q
  have pre5 : ∀ t, Steps p.tables e below (T4.setTop (mkF m 41 #[.val (.long w0), .second, .val (.long w1), .second, .val (.long (w1 &&& (9223372036854775807 : Int64))), .second, .val (.long (w0 + (w1 &&& (9223372036854775807 : Int64)))), .second, .val (.long (j0_13L8 w0 w1)), .second] [(.int (lcmpW (f1 w0 (w1 &&& (9223372036854775807 : Int64))) (j0_13L8 w0 w1)))])) t → Steps p.tables e below (s₁.setTop (entryFrame m #[(.long w0), (.long w1)] maxLocals)) t := fun t k => pre2 t (by
    show Steps p.tables e below (s₁.setTop (mkF m 32 #[.val (.long w0), .second, .val (.long w1), .second, .val (.long (w1 &&& (9223372036854775807 : Int64))), .second, .val (.long (w0 + (w1 &&& (9223372036854775807 : Int64)))), .second, .val (.long (j0_13L8 w0 w1)), .second] [])) _
    refine XS.lloadN X0.here hx rfl (hb hby at_32) rfl ?_
    show Steps p.tables e below (s₁.setTop (mkF m 33 #[.val (.long w0), .second, .val (.long w1), .second, .val (.long (w1 &&& (9223372036854775807 : Int64))), .second, .val (.long (w0 + (w1 &&& (9223372036854775807 : Int64)))), .second, .val (.long (j0_13L8 w0 w1)), .second] [(.long w0)])) _
    refine XS.lload X0.here hx rfl (hb hby at_33) rfl ?_
    show Steps p.tables e below (s₁.setTop (mkF m 35 #[.val (.long w0), .second, .val (.long w1), .second, .val (.long (w1 &&& (9223372036854775807 : Int64))), .second, .val (.long (w0 + (w1 &&& (9223372036854775807 : Int64)))), .second, .val (.long (j0_13L8 w0 w1)), .second] [(.long (w1 &&& (9223372036854775807 : Int64))), (.long w0)])) _
    refine st4 _ ?_
    show Steps p.tables e below (T4.setTop (mkF m 38 #[.val (.long w0), .second, .val (.long w1), .second, .val (.long (w1 &&& (9223372036854775807 : Int64))), .second, .val (.long (w0 + (w1 &&& (9223372036854775807 : Int64)))), .second, .val (.long (j0_13L8 w0 w1)), .second] [(.long (f1 w0 (w1 &&& (9223372036854775807 : Int64))))])) _
    refine XS.lload X4.here hx rfl (hb hby at_38) rfl ?_
    show Steps p.tables e below (T4.setTop (mkF m 40 #[.val (.long w0), .second, .val (.long w1), .second, .val (.long (w1 &&& (9223372036854775807 : Int64))), .second, .val (.long (w0 + (w1 &&& (9223372036854775807 : Int64)))), .second, .val (.long (j0_13L8 w0 w1)), .second] [(.long (j0_13L8 w0 w1)), (.long (f1 w0 (w1 &&& (9223372036854775807 : Int64))))])) _
    refine XS.lcmp X4.here hx rfl (hb hby at_40) rfl ?_
    exact k)
  by_cases hc41 : (lcmpW (f1 w0 (w1 &&& (9223372036854775807 : Int64))) (j0_13L8 w0 w1)) = (0 : Int32)
  · -- pc 41: (lcmpW (f1 w0 (w1 &&& (9223372036854775807 : Int64))) (j0_13L8 w0 w1)) = (0 : Int32)
    obtain ⟨fs, hr, hrun, hended, hW, hsame⟩ := X4.leave (v := (some (.int (1 : Int32)))) (fun h => by rw [Bd.returns] at h; cases h)
    refine ⟨_, _, pre5 _ ?_, hrun, hended, _, _, rfl, ?_, ⟨_, rfl⟩, hW, hsame.mono (by decide) (by decide)⟩
    · show Steps p.tables e below (T4.setTop (mkF m 41 #[.val (.long w0), .second, .val (.long w1), .second, .val (.long (w1 &&& (9223372036854775807 : Int64))), .second, .val (.long (w0 + (w1 &&& (9223372036854775807 : Int64)))), .second, .val (.long (j0_13L8 w0 w1)), .second] [(.int (lcmpW (f1 w0 (w1 &&& (9223372036854775807 : Int64))) (j0_13L8 w0 w1)))])) _
      refine XS.ifNo X4.here hx rfl (hb hby at_41) rfl ((if0 _ _).trans (teq hc41).2) ?_
      show Steps p.tables e below (T4.setTop (mkF m 44 #[.val (.long w0), .second, .val (.long w1), .second, .val (.long (w1 &&& (9223372036854775807 : Int64))), .second, .val (.long (w0 + (w1 &&& (9223372036854775807 : Int64)))), .second, .val (.long (j0_13L8 w0 w1)), .second] [])) _
      refine XS.iconst X4.here hx rfl (hb hby at_44) ?_
      show Steps p.tables e below (T4.setTop (mkF m 45 #[.val (.long w0), .second, .val (.long w1), .second, .val (.long (w1 &&& (9223372036854775807 : Int64))), .second, .val (.long (w0 + (w1 &&& (9223372036854775807 : Int64)))), .second, .val (.long (j0_13L8 w0 w1)), .second] [(.int (1 : Int32))])) _
      refine XS.goto X4.here hx rfl (pc0 := 45) (pc' := 49) rfl (hb hby at_45) (by decide) (by decide) ?_
      show Steps p.tables e below (T4.setTop (mkF m 49 #[.val (.long w0), .second, .val (.long w1), .second, .val (.long (w1 &&& (9223372036854775807 : Int64))), .second, .val (.long (w0 + (w1 &&& (9223372036854775807 : Int64)))), .second, .val (.long (j0_13L8 w0 w1)), .second] [(.int (1 : Int32))])) _
      exact retN X4 hx (t := .boolean) Bd.returns (by simp) (hb hby at_49) hr
    · show QP (some (.int (f0 w0 w1))) h0 n0 _ T4.heap _
      rw [e4]
      exact ⟨congrArg (fun z => some (Value.int z)) (Eq.symm (show (f0 w0 w1) = (1 : Int32) from (if_pos hc41).trans (rfl))), N4, rfl⟩
  · -- pc 41: not (lcmpW (f1 w0 (w1 &&& (9223372036854775807 : Int64))) (j0_13L8 w0 w1)) = (0 : Int32)
    obtain ⟨fs, hr, hrun, hended, hW, hsame⟩ := X4.leave (v := (some (.int (0 : Int32)))) (fun h => by rw [Bd.returns] at h; cases h)
    refine ⟨_, _, pre5 _ ?_, hrun, hended, _, _, rfl, ?_, ⟨_, rfl⟩, hW, hsame.mono (by decide) (by decide)⟩
    · show Steps p.tables e below (T4.setTop (mkF m 41 #[.val (.long w0), .second, .val (.long w1), .second, .val (.long (w1 &&& (9223372036854775807 : Int64))), .second, .val (.long (w0 + (w1 &&& (9223372036854775807 : Int64)))), .second, .val (.long (j0_13L8 w0 w1)), .second] [(.int (lcmpW (f1 w0 (w1 &&& (9223372036854775807 : Int64))) (j0_13L8 w0 w1)))])) _
      refine XS.ifYes X4.here hx rfl (pc0 := 41) (pc' := 48) rfl (hb hby at_41) rfl ((if0 _ _).trans (feq hc41).2) (by decide) (by decide) ?_
      show Steps p.tables e below (T4.setTop (mkF m 48 #[.val (.long w0), .second, .val (.long w1), .second, .val (.long (w1 &&& (9223372036854775807 : Int64))), .second, .val (.long (w0 + (w1 &&& (9223372036854775807 : Int64)))), .second, .val (.long (j0_13L8 w0 w1)), .second] [])) _
      refine XS.iconst X4.here hx rfl (hb hby at_48) ?_
      show Steps p.tables e below (T4.setTop (mkF m 49 #[.val (.long w0), .second, .val (.long w1), .second, .val (.long (w1 &&& (9223372036854775807 : Int64))), .second, .val (.long (w0 + (w1 &&& (9223372036854775807 : Int64)))), .second, .val (.long (j0_13L8 w0 w1)), .second] [(.int (0 : Int32))])) _
      exact retN X4 hx (t := .boolean) Bd.returns (by simp) (hb hby at_49) hr
    · show QP (some (.int (f0 w0 w1))) h0 n0 _ T4.heap _
      rw [e4]
      exact ⟨congrArg (fun z => some (Value.int z)) (Eq.symm (show (f0 w0 w1) = (0 : Int32) from (if_neg hc41).trans (rfl))), N4, rfl⟩
theorem law_val (w0 w1 : Int64) : f0 w0 w1 = 1 := by
  refine if_pos ((lw_eq _ _).mpr ?_)
  unfold f1 j0_13L8
  simp only [lw_gt, lw_lt, Int64.lt_iff_toInt_lt]
  have hb := c_maskL w1 9223372036854775807 63 (by decide) (by decide)
  have h1 := c_lsub 9223372036854775807 (w1 &&& 9223372036854775807)
  have h2 := c_ladd w0 (w1 &&& 9223372036854775807)
  have r1 := rng64 w0
  have r2 := rng64 (w1 &&& 9223372036854775807)
  have r3 := rng64 (9223372036854775807 - (w1 &&& 9223372036854775807))
  have r4 := rng64 (w0 + (w1 &&& 9223372036854775807))
  rw [show (9223372036854775807 : Int64).toInt = 9223372036854775807 from rfl] at h1
  split <;> split <;> first | rfl | (exfalso; omega)
set_option maxRecDepth 65536 in
set_option maxHeartbeats 40000000 in
theorem comes_1 {Post : Tables → Env → Array Value → State → Outcome → State → Prop} (hpost : ∀ tb e args s v u, (limb_1_1.after args s (.returned v) u = true ∧ limb_1_2.after args s (.returned v) u = true ∧ True) → FrameEnd s (.returned v) u (Jvm.fieldLocs frame_1_writes args s ++ Jvm.arrayLocs frame_1_arrays args s ++ Jvm.staticLocs frame_1_statics s) 0 0 → Post tb e args s (.returned v) u) :
    ArmFor flags0 classFile x code maxLocals ret World_1 tables_1 room_1 Calls_1 rest_1 Pre_1 Post := by
  intro l hfl _ _ p e ha hc hk s m args below hf hA hF happ hP
  obtain ⟨hcalls, hrest, hpre⟩ := hP
  obtain ⟨-, -, -, hnamed, -, -, -, hat⟩ := (Spec.applies_iff hf).mp happ
  obtain ⟨hg, hn⟩ := and_e (Cond.before_iff.mp (show (Jvm.Cond.and given_1 narrow_1).before args s = true from hpre))
  obtain ⟨g0, G0⟩ := and_e hg
  obtain ⟨v0, G1⟩ := and_e G0
  have v1 := G1
  obtain ⟨w0, w1, rfl⟩ : ∃ w0 w1 : Value, args = #[w0, w1] := by
    have hs : args.size = 2 := by simpa [Cond.value, given_1] using g0
    obtain ⟨L⟩ := args
    match L, hs with
    | [w0, w1], _ => exact ⟨w0, w1, rfl⟩
  have hw := fun d (hd : d ∈ tables_1) => atoms_spec (ws := Jvm.Cond.code x code maxLocals ret :: tables_1) hat d (List.mem_cons_of_mem _ hd)
  have hfit : Fit s := fun {y c} hc i hi => by
    obtain ⟨ha, rfl⟩ := Array.getElem?_eq_some_iff.mp hc
    have q := List.all_eq_true.mp ((Array.all_eq_true_iff_forall_mem.mp hF) _ (Array.getElem_mem ha)) i (List.mem_range.mpr hi)
    simpa [Array.getElem?_eq_getElem hi] using q
  obtain ⟨i0, ei0⟩ := isL_v v0
  obtain rfl : w0 = (.long i0) := Option.some.inj ei0
  obtain ⟨i1, ei1⟩ := isL_v v1
  obtain rfl : w1 = (.long i1) := Option.some.inj ei1
  obtain ⟨n, o, h1, h2, h3, _, L, rfl, ⟨rfl, N, -⟩, hq⟩ := rm0 l s _ hw tables_1 i0 i1  s.heap s.heap.size (Nat.le_refl _)  p e ha hc hk s m _ below hf ((Spec.applies_iff_loose hf).mp happ).1 ⟨rfl, State.Warmed39.refl s, rfl⟩ trivial
  refine ⟨n, _, h1, h2, h3, hpost _ _ _ _ _ _ ⟨Cond.after_iff.mpr rfl, Cond.after_iff.mpr (eq_i res_at (Term.int_eval (1)) (congrArg Value.int (law_val i0 i1))), trivial⟩ ⟨hq.1, hq.2.1, (hq.2.2.sift fun y hy => Or.inr (N y hy)).mono (by decide) (by decide)⟩⟩
theorem main_1_1 : Claimed_1_1 := comes_1 fun _ _ _ _ _ _ h hF => ⟨h.1, hF⟩
theorem main_1_2 : Claimed_1_2 := comes_1 fun _ _ _ _ _ _ h hF => ⟨h.2.1, hF⟩
end Jvm.Pilot.@@N@@
namespace Jvm.Pilot.@@N@@
open Jvm Jvm.ClassFile Sem Op Lib Jvm.Free Jvm.Stand Jvm.Pilot.@@N@@.Jvm.D
/-! MADE BY PROGRAM (witnessworld.py) out of the Statement's table words and the real class files: 9 classes; the members and pool entries that the words name. The judged class is class 1, her method 1. -/
namespace start1
open Jvm.ClassFile
def u (s : String) : CpInfo := .utf8 (stringToUtf16 s)
/-- a pool by its gaps: so many unusable entries, then the entry; so many at the end -/
def gap : Nat → List CpInfo → List CpInfo
  | 0, r => r
  | n + 1, r => .unusable :: gap n r
def poolList (es : List (Nat × CpInfo)) (last : Nat) : List CpInfo := es.foldr (fun e r => gap e.1 (e.2 :: r)) (gap last [])
def pool (es : List (Nat × CpInfo)) (last : Nat) : Array CpInfo := ⟨poolList es last⟩
def fileOf (pool : Array CpInfo) (this : Nat) (attrs : Array Attribute := #[]) (ms : Array MethodInfo := #[]) (fl : Nat := 33) (sup : Nat := 0) (ifs : Array Nat := #[]) (fds : Array FieldInfo := #[]) : ClassFile where
  minorVersion := 0
  majorVersion := 65
  constantPool := pool
  accessFlags := fl
  thisClass := this
  superClass := sup
  interfaces := ifs
  fields := fds
  methods := ms
  attributes := attrs
def plain (name : String) (sup : Option ClassId) : Class where
  name := name
  kind := .ordinary
  loader := none
  accessFlags := 33
  super := sup
  interfaces := #[]
  cf := none
  fields := #[]
  methods := #[]
  instanceTypes := #[]
  staticTypes := #[]
  resolved := #[]
  callSites := []
  init := .initialized
  statics := none
  mirror := none

def pool0 : Array CpInfo := pool [(5, u "<init>"), (0, u "()V"), (1, .class_ 10), (1, u "java/lang/Object")] 113

def k0m0 : Method := { name := "<init>", desc := "()V", sig := { parameters := [], returnType := none }, accessFlags := 1, code := none }
/-- java/lang/Object -/
def k0 : Class := { plain "java/lang/Object" none with
  accessFlags := 33
  interfaces := #[]
  cf := some (fileOf pool0 8 #[] #[{ accessFlags := 1, nameIndex := 5, descriptorIndex := 6, attributes := #[] }] 33 0 #[] #[])
  fields := #[]
  methods := #[k0m0]
  instanceTypes := #[]
  staticTypes := #[]
  resolved := Array.replicate 124 none
  statics := none }

def pool1 : Array CpInfo := pool [(2, .class_ 4), (1, u "java/lang/Object"), (0, u "<init>"), (0, u "()V"), (2, .long 9223372036854775807), (1, .methodref 12 13), (0, .class_ 14), (0, .nameAndType 15 16), (0, u "com/example/sendlimitd/sendlimitd/core/Saturating"), (0, u "sum"), (0, u "(JJ)J"), (0, .class_ 18), (0, u "com/example/sendlimitd/sendlimitd/core/SaturatingSumPinLaw"), (2, u "law"), (0, u "(JJ)Z")] 3

def k1m0 : Method := { name := "<init>", desc := "()V", sig := { parameters := [], returnType := none }, accessFlags := 2, code := none }
def k1c1 : Code := { maxStack := 4, maxLocals := 10, code := code, exceptionTable := #[], attributes := #[] }
def k1m1 : Method := { name := "law", desc := "(JJ)Z", sig := { parameters := [.long, .long], returnType := some .boolean }, accessFlags := 9, code := some k1c1 }
/-- com/example/sendlimitd/sendlimitd/core/SaturatingSumPinLaw -/
def k1 : Class := { plain "com/example/sendlimitd/sendlimitd/core/SaturatingSumPinLaw" (some 0) with
  accessFlags := 49
  interfaces := #[]
  cf := some (fileOf pool1 17 #[] #[{ accessFlags := 2, nameIndex := 5, descriptorIndex := 6, attributes := #[] }, { accessFlags := 9, nameIndex := 21, descriptorIndex := 22, attributes := #[] }] 49 2 #[] #[])
  fields := #[]
  methods := #[k1m0, k1m1]
  instanceTypes := #[]
  staticTypes := #[]
  resolved := Array.replicate 26 none
  statics := none }

def pool2 : Array CpInfo := pool [(2, .class_ 4), (1, u "java/lang/Object"), (0, u "<init>"), (0, u "()V"), (2, .long 9223372036854775807), (15, .class_ 26), (0, u "com/example/sendlimitd/sendlimitd/core/Saturating"), (5, u "sum"), (0, u "(JJ)J")] 2

def k2m0 : Method := { name := "<init>", desc := "()V", sig := { parameters := [], returnType := none }, accessFlags := 2, code := none }
def k2c1 : Code := { maxStack := 6, maxLocals := 4, code := prog_43_method_3_code, exceptionTable := #[], attributes := #[] }
def k2m1 : Method := { name := "sum", desc := "(JJ)J", sig := { parameters := [.long, .long], returnType := some .long }, accessFlags := 8, code := some k2c1 }
/-- com/example/sendlimitd/sendlimitd/core/Saturating -/
def k2 : Class := { plain "com/example/sendlimitd/sendlimitd/core/Saturating" (some 0) with
  accessFlags := 48
  interfaces := #[]
  cf := some (fileOf pool2 25 #[] #[{ accessFlags := 2, nameIndex := 5, descriptorIndex := 6, attributes := #[] }, { accessFlags := 8, nameIndex := 32, descriptorIndex := 33, attributes := #[] }] 48 2 #[] #[])
  fields := #[]
  methods := #[k2m0, k2m1]
  instanceTypes := #[]
  staticTypes := #[]
  resolved := Array.replicate 36 none
  statics := none }

def pool3 : Array CpInfo := pool [(1, u "java/lang/Cloneable"), (0, .class_ 1), (0, u "java/lang/Object"), (0, .class_ 3)] 3

/-- java/lang/Cloneable -/
def k3 : Class := { plain "java/lang/Cloneable" (some 0) with
  accessFlags := 1537
  interfaces := #[]
  cf := some (fileOf pool3 2 #[] #[] 1537 4 #[] #[])
  fields := #[]
  methods := #[]
  instanceTypes := #[]
  staticTypes := #[]
  resolved := Array.replicate 8 none
  statics := none }

def pool4 : Array CpInfo := pool [(1, u "java/io/Serializable"), (0, .class_ 1), (0, u "java/lang/Object"), (0, .class_ 3)] 3

/-- java/io/Serializable -/
def k4 : Class := { plain "java/io/Serializable" (some 0) with
  accessFlags := 1537
  interfaces := #[]
  cf := some (fileOf pool4 2 #[] #[] 1537 4 #[] #[])
  fields := #[]
  methods := #[]
  instanceTypes := #[]
  staticTypes := #[]
  resolved := Array.replicate 8 none
  statics := none }

/-- the primitive byte -/
def k5 : Class := { plain "byte" none with kind := .primitive 'B', accessFlags := 0x411 }
/-- [B -/
def k6 : Class := { plain "[B" (some 0) with kind := .array 5 .byte, interfaces := #[3, 4], accessFlags := 1041 }

/-- the primitive int -/
def k7 : Class := { plain "int" none with kind := .primitive 'I', accessFlags := 0x411 }
/-- [I -/
def k8 : Class := { plain "[I" (some 0) with kind := .array 7 .int, interfaces := #[3, 4], accessFlags := 1041 }

def heap : Heap := #[]
def classes : Array Class := #[k0, k1, k2, k3, k4, k5, k6, k7, k8]
def interned : List (Array UInt16 × Addr) := []
def slotsUsed : Nat := 0
def theMethod : MethodId := ⟨1, 1⟩
def args0 : Array Value := #[.long 5, .long 7]
def aboutOver (below : List Frame) : State where
  vm := { classes := classes, interned := interned.toArray }
  heap := heap
  slotsUsed := slotsUsed
  threads := #[{ frames := .invoking theMethod args0 :: below }]
def below0 : List Frame := [.native { method := ⟨0, 0⟩, args := #[] }]
def about1 : State := aboutOver below0
def p0 : Program := .bare "" "" ""
def e0 : Env := launch0.env 0 0 0
theorem w_frames : about1.frames = Frame.invoking theMethod args0 :: below0 := rfl
set_option maxRecDepth 65536 in
theorem w_args : argsFit about1.vm theMethod args0 = true := by decide +kernel
set_option maxRecDepth 65536 in
theorem w_heap : heapFits about1 = true := by decide +kernel
set_option maxRecDepth 65536 in
theorem w_runnable : about1.curStatus? = some .runnable := by decide +kernel
set_option maxRecDepth 65536 in
theorem w_alone : about1.alone = true := by decide +kernel
set_option maxRecDepth 65536 in
theorem w_named : about1.methodNamed? x = some theMethod := by decide +kernel
set_option maxRecDepth 65536 in
theorem w_hears : about1.hears theMethod below0 = true := by decide +kernel
set_option maxRecDepth 65536 in
theorem w_ripe : about1.ripe theMethod args0 below0 = true := by decide +kernel
theorem w_running : about1.status = .running := rfl
set_option maxRecDepth 65536 in
theorem w_room : about1.hasRoom e0.platform room_1 = true :=
  launch0.hasRoom_least _ room_1 (by decide +kernel) (by decide +kernel) (by decide +kernel) (by decide +kernel) (by decide +kernel) (by decide +kernel)
theorem allAtoms_all (ts : List Jvm.Cond) (a : Array Jvm.Value) (st : Jvm.State) : (allAtoms ts).before a st = ts.all (fun c => c.before a st) := by
  induction ts with
  | nil => rfl
  | cons c t ih =>
    show (Jvm.Cond.and c (allAtoms t)).before a st = _
    rw [Jvm.Cond.before_and, ih, List.all_cons]
def words1 : List Jvm.Cond := Jvm.Cond.code x code maxLocals ret :: tables_1
/-- a 'code' word, met by the world's own term for the bytes: nothing is compared byte by byte -/
theorem code_word {y : MethodName} {bytes : ByteArray} {mx : Nat} {rt : Option FieldType} {a : Array Value} {s : State} {m : MethodId} {meth : Method} {c : Code} (h1 : s.methodNamed? y = some m) (h2 : s.vm.method? m = some meth) (h3 : meth.code = some c) (h4 : c.code = bytes)
    (h5 : (c.maxLocals == mx && c.exceptionTable.isEmpty && decide (c.maxStack ≤ mostOperands) && decide (meth.sig.returnType = rt) && !meth.locks && decide (parseMethodDescriptor y.desc = some meth.sig)) = true) : (Jvm.Cond.code y bytes mx rt).before a s = true := by
  simp only [Bool.and_eq_true, beq_iff_eq, Bool.not_eq_true', decide_eq_true_eq] at h5
  obtain ⟨⟨⟨⟨⟨g1, g2⟩, g3⟩, g4⟩, g5⟩, g6⟩ := h5
  simp [Cond.before, Cond.holds, Cond.value, h1, h2, h3, h4, g1, g2, g3, g4, g5, g6]
def isCode : Jvm.Cond → Bool
  | .code _ _ _ _ => true
  | _ => false
theorem all_split {L : List Jvm.Cond} {P : Jvm.Cond → Bool} (h1 : L.all (fun c => isCode c || P c) = true) (h2 : ∀ c ∈ L.filter isCode, P c = true) : L.all P = true := by
  refine List.all_eq_true.mpr fun c hc => ?_
  have h := List.all_eq_true.mp h1 c hc
  rcases Bool.eq_false_or_eq_true (isCode c) with hi | hi
  · exact h2 c (List.mem_filter.mpr ⟨hc, hi⟩)
  · simpa [hi] using h
set_option maxRecDepth 65536 in
theorem w_c0 : (Jvm.Cond.code x code maxLocals ret).before args0 about1 = true := code_word (m := ⟨1, 1⟩) (meth := k1m1) (c := k1c1) (by decide +kernel) rfl rfl rfl (by decide +kernel)
set_option maxRecDepth 65536 in
theorem w_c1 : (Jvm.Cond.code ({ cls := "com/example/sendlimitd/sendlimitd/core/Saturating", name := "sum", desc := "(JJ)J" } : Jvm.MethodName) prog_43_method_3_code (4 : Nat) (Option.some Jvm.ClassFile.FieldType.long)).before args0 about1 = true := code_word (m := ⟨2, 1⟩) (meth := k2m1) (c := k2c1) (by decide +kernel) rfl rfl rfl (by decide +kernel)
def codes1 : List Jvm.Cond := [Jvm.Cond.code x code maxLocals ret, Jvm.Cond.code ({ cls := "com/example/sendlimitd/sendlimitd/core/Saturating", name := "sum", desc := "(JJ)J" } : Jvm.MethodName) prog_43_method_3_code (4 : Nat) (Option.some Jvm.ClassFile.FieldType.long)]
set_option maxRecDepth 65536 in
theorem codes_eq : words1.filter isCode = codes1 := rfl
theorem w_codes : ∀ c ∈ words1.filter isCode, c.before args0 about1 = true := by
  rw [codes_eq]
  intro c hc
  simp only [codes1, List.mem_cons, List.not_mem_nil, or_false] at hc
  rcases hc with rfl | rfl
  · exact w_c0
  · exact w_c1
set_option maxRecDepth 65536 in
theorem w_t1 : words1.all (fun c => isCode c || c.before args0 about1) = true := by decide +kernel
theorem w_tables : (allAtoms (Jvm.Cond.code x code maxLocals ret :: tables_1)).before args0 about1 = true := by
  rw [allAtoms_all]
  show words1.all (fun c => c.before args0 about1) = true
  refine all_split ?_ w_codes
  rw [w_t1]
set_option maxRecDepth 65536 in
theorem w_case : (Jvm.Cond.and given_1 narrow_1).before args0 about1 = true := by decide +kernel
theorem w_applies : (headSpec (Jvm.Cond.code x code maxLocals ret :: tables_1) room_1).applies x e0.platform about1 = true :=
  (Spec.applies_iff w_frames).mpr ⟨w_running, w_runnable, w_alone, w_named, w_hears, w_ripe, w_room, w_tables⟩
theorem atStart : AtStart classFile x code maxLocals ret World_1 tables_1 room_1 Calls_1 rest_1 Pre_1 launch0 p0 e0 about1 theMethod args0 below0 :=
  ⟨lists_1, trivial, launch0.admits_env _ _ _, launch0.least_env, fairChoices_fair.cas, fairChoices_fair.clock, w_frames, w_args, w_heap, w_applies, trivial, trivial, w_case⟩
end start1
theorem witness_1 : WitnessClaimed_1 := ⟨start1.p0, start1.e0, start1.about1, start1.theMethod, start1.args0, start1.below0, start1.atStart⟩
end Jvm.Pilot.@@N@@
