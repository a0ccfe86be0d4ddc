import JvmDerived
import JvmDerived.Pilot.@@N@@Statement
import JvmDerived.Pilot.@@N@@Code
set_option linter.unusedVariables false
set_option linter.unusedSimpArgs false
namespace Jvm.RoadKit
open Sem ClassFile Op Lib Jvm.Stand Jvm.Free Jvm.LawKit
section New
variable {p : Program} {l : Launch} {e : Env} {R : Room} {s : State} {m : MethodId} {args : Array Value} {below : List Frame} {meth : Method} {c : Code} {T : State} {locs : List Loc} {cells slots : Nat}
theorem retI (X : Stand p l e R s m args below meth c T locs cells slots) (hx : p.tables.exec = Jvm.exec) {pc : Nat} {Ls : Array Slot} {z : Int32} {rest : List Value} (hret : meth.sig.returnType = some .int) (hd : decode c.code pc = .ok (.ireturn, 1)) {fs : List Frame}
    (hl : ∀ (f : JFrame) (acts : List Action), f.method = m → f.locked = none → f.entered = [] → (doReturn e (T.setTop f) acts (some (.int z))).1 = T.setFrames fs) : Steps p.tables e below (T.setTop (mkF m pc Ls (.int z :: rest))) (T.setFrames fs) :=
  retOut X hx hret rfl (Or.inl ⟨rfl, Or.inl rfl, z, rfl⟩) hd hl
end New
end Jvm.RoadKit
namespace Jvm.Pilot.@@N@@
open Jvm Jvm.ClassFile Sem Op Lib Jvm.Free Jvm.Stand Jvm.LawKit Jvm.RoadKit Bundle Jvm.Pilot.@@N@@.Jvm.D
def QL (n0 : Nat) (v : Option Value) (h : Heap) (L : List Loc) : Prop := v = some (.int 1) ∧ Fr n0 L
def QP (r : Option Value) (h0 : Heap) (n0 : Nat) (v : Option Value) (h : Heap) (L : List Loc) : Prop := v = r ∧ Fr n0 L ∧ h = h0
theorem d1_0 : decode method_3_code 0 = .ok (.lload_n 0, 1) := by decide +kernel
theorem d1_1 : decode method_3_code 1 = .ok (.ldc2_w 22, 3) := by decide +kernel
theorem d1_4 : decode method_3_code 4 = .ok (.lcmp, 1) := by decide +kernel
theorem d1_5 : decode method_3_code 5 = .ok (.ifCond .ge 5, 3) := by decide +kernel
theorem d1_8 : decode method_3_code 8 = .ok (.iconst 1, 1) := by decide +kernel
theorem d1_9 : decode method_3_code 9 = .ok (.ireturn, 1) := by decide +kernel
theorem d1_10 : decode method_3_code 10 = .ok (.lload_n 0, 1) := by decide +kernel
theorem d1_11 : decode method_3_code 11 = .ok (.ldc2_w 24, 3) := by decide +kernel
theorem d1_14 : decode method_3_code 14 = .ok (.lcmp, 1) := by decide +kernel
theorem d1_15 : decode method_3_code 15 = .ok (.ifCond .ge 5, 3) := by decide +kernel
theorem d1_18 : decode method_3_code 18 = .ok (.iconst 2, 1) := by decide +kernel
theorem d1_19 : decode method_3_code 19 = .ok (.ireturn, 1) := by decide +kernel
theorem d1_20 : decode method_3_code 20 = .ok (.lload_n 0, 1) := by decide +kernel
theorem d1_21 : decode method_3_code 21 = .ok (.ldc2_w 26, 3) := by decide +kernel
theorem d1_24 : decode method_3_code 24 = .ok (.lcmp, 1) := by decide +kernel
theorem d1_25 : decode method_3_code 25 = .ok (.ifCond .ge 5, 3) := by decide +kernel
theorem d1_28 : decode method_3_code 28 = .ok (.iconst 3, 1) := by decide +kernel
theorem d1_29 : decode method_3_code 29 = .ok (.ireturn, 1) := by decide +kernel
theorem d1_30 : decode method_3_code 30 = .ok (.lload_n 0, 1) := by decide +kernel
theorem d1_31 : decode method_3_code 31 = .ok (.ldc2_w 28, 3) := by decide +kernel
theorem d1_34 : decode method_3_code 34 = .ok (.lcmp, 1) := by decide +kernel
theorem d1_35 : decode method_3_code 35 = .ok (.ifCond .ge 5, 3) := by decide +kernel
theorem d1_38 : decode method_3_code 38 = .ok (.iconst 4, 1) := by decide +kernel
theorem d1_39 : decode method_3_code 39 = .ok (.ireturn, 1) := by decide +kernel
theorem d1_40 : decode method_3_code 40 = .ok (.lload_n 0, 1) := by decide +kernel
theorem d1_41 : decode method_3_code 41 = .ok (.ldc2_w 30, 3) := by decide +kernel
theorem d1_44 : decode method_3_code 44 = .ok (.lcmp, 1) := by decide +kernel
theorem d1_45 : decode method_3_code 45 = .ok (.ifCond .ge 5, 3) := by decide +kernel
theorem d1_48 : decode method_3_code 48 = .ok (.iconst 5, 1) := by decide +kernel
theorem d1_49 : decode method_3_code 49 = .ok (.ireturn, 1) := by decide +kernel
theorem d1_50 : decode method_3_code 50 = .ok (.lload_n 0, 1) := by decide +kernel
theorem d1_51 : decode method_3_code 51 = .ok (.ldc2_w 32, 3) := by decide +kernel
theorem d1_54 : decode method_3_code 54 = .ok (.lcmp, 1) := by decide +kernel
theorem d1_55 : decode method_3_code 55 = .ok (.ifCond .ge 6, 3) := by decide +kernel
theorem d1_58 : decode method_3_code 58 = .ok (.bipush 6, 2) := by decide +kernel
theorem d1_60 : decode method_3_code 60 = .ok (.ireturn, 1) := by decide +kernel
theorem d1_61 : decode method_3_code 61 = .ok (.lload_n 0, 1) := by decide +kernel
theorem d1_62 : decode method_3_code 62 = .ok (.ldc2_w 34, 3) := by decide +kernel
theorem d1_65 : decode method_3_code 65 = .ok (.lcmp, 1) := by decide +kernel
theorem d1_66 : decode method_3_code 66 = .ok (.ifCond .ge 6, 3) := by decide +kernel
theorem d1_69 : decode method_3_code 69 = .ok (.bipush 7, 2) := by decide +kernel
theorem d1_71 : decode method_3_code 71 = .ok (.ireturn, 1) := by decide +kernel
theorem d1_72 : decode method_3_code 72 = .ok (.lload_n 0, 1) := by decide +kernel
theorem d1_73 : decode method_3_code 73 = .ok (.ldc2_w 36, 3) := by decide +kernel
theorem d1_76 : decode method_3_code 76 = .ok (.lcmp, 1) := by decide +kernel
theorem d1_77 : decode method_3_code 77 = .ok (.ifCond .ge 6, 3) := by decide +kernel
theorem d1_80 : decode method_3_code 80 = .ok (.bipush 8, 2) := by decide +kernel
theorem d1_82 : decode method_3_code 82 = .ok (.ireturn, 1) := by decide +kernel
theorem d1_83 : decode method_3_code 83 = .ok (.bipush 9, 2) := by decide +kernel
theorem d1_85 : decode method_3_code 85 = .ok (.ireturn, 1) := by decide +kernel
theorem pn_1 : plainName "com/example/klave/klave/coding/BerOidSizePinLaw" = true := by first | (simp [plainName, overriddenIn]; done) | decide +kernel
theorem ef_1 (m : MethodId) (x0 : Int64) : entryFrame m #[(.long x0)] 2 = mkF m 0 #[.val (.long x0), .second] [] := by first | (simp [entryFrame, mkF, argsToLocals, Value.category]; done) | rfl
def f1 (w0 : Int64) : Int32 := (if (lcmpW w0 (128 : Int64)) < (0 : Int32) then (1 : Int32) else (if (lcmpW w0 (16384 : Int64)) < (0 : Int32) then (2 : Int32) else (if (lcmpW w0 (2097152 : Int64)) < (0 : Int32) then (3 : Int32) else (if (lcmpW w0 (268435456 : Int64)) < (0 : Int32) then (4 : Int32) else (if (lcmpW w0 (34359738368 : Int64)) < (0 : Int32) then (5 : Int32) else (if (lcmpW w0 (4398046511104 : Int64)) < (0 : Int32) then (6 : Int32) else (if (lcmpW w0 (562949953421312 : Int64)) < (0 : Int32) then (7 : Int32) else (if (lcmpW w0 (72057594037927936 : Int64)) < (0 : Int32) then (8 : Int32) else (9 : Int32)))))))))
set_option maxRecDepth 65536 in
set_option maxHeartbeats 40000000 in
theorem rm1 (l : Launch) (Z : State) (a0 : Array Value) (hw : ∀ d ∈ tables_1, d.before a0 Z = true) (ws : List Jvm.Cond) (w0 : Int64) (h0 : Heap) (n0 : Nat) (Z0 : n0 ≤ h0.size) :
    MetFree l (⟨"com/example/klave/klave/coding/BerOidSizePinLaw", "reference", "(J)I"⟩ : MethodName) (head1 (Jvm.Cond.code (⟨"com/example/klave/klave/coding/BerOidSizePinLaw", "reference", "(J)I"⟩ : MethodName) method_3_code 2 (some .int) :: ws) ({ frames := 0, cells := 0, slots := 0, locals := 0 } : Room)) (fun a U => a = #[(.long w0)] ∧ Z.Warmed39 U.vm ∧ U.heap = h0) (fun _ _ _ _ _ => True) (fun _ U o U' => ∃ v L, o = .returned v ∧ QP (some (.int (f1 w0))) h0 n0 v U'.heap L ∧ FrameEnd U o U' L 0 0) := by
  refine MetFree.of_bodySF (plainFor_of_name pn_1) hisR ?_
  intro p e s m args below meth c s₁ Bd hml0 hP hK
  obtain ⟨rfl, hZ, hh⟩ := hP
  have hx := Bd.exec
  have hby := Bd.bytes
  have hml : c.maxLocals = 2 := hml0
  have hown : s.vm.findClass "com/example/klave/klave/coding/BerOidSizePinLaw" = some m.cls := findClass_of_methodNamed Bd.named
  have hnm := (name_of_methodNamed Bd.named Bd.method).1
  have X0 : Stand p l e ({ frames := 0, cells := 0, slots := 0, locals := 0 } : Room) s m #[(.long w0)] below meth c s₁ [] 0 0 := Stand.of_body Bd
  have e0 : s₁.heap = h0 := by rw [← hh, Bd.state]; rfl
  have N0 := Fr.nil n0
  have pre0 : ∀ t, Steps p.tables e below (s₁.setTop (mkF m 0 #[.val (.long w0), .second] [])) t → Steps p.tables e below (s₁.setTop (entryFrame m #[(.long w0)] 2)) t := fun t k => castTop (ef_1 m w0) k
  have pre1 : ∀ t, Steps p.tables e below (s₁.setTop (mkF m 5 #[.val (.long w0), .second] [(.int (lcmpW w0 (128 : Int64)))])) t → Steps p.tables e below (s₁.setTop (entryFrame m #[(.long w0)] 2)) t := fun t k => pre0 t (by
    show Steps p.tables e below (s₁.setTop (mkF m 0 #[.val (.long w0), .second] [])) _
    refine XS.lloadN X0.here hx rfl (hb hby d1_0) rfl ?_
    show Steps p.tables e below (s₁.setTop (mkF m 1 #[.val (.long w0), .second] [(.long w0)])) _
    refine X0.ldc2Long hx hown (mvT hZ (hw _ (List.mem_of_getElem? (i := 5) rfl))) (g := (mkF m 1 #[.val (.long w0), .second] [(.long w0)])) rfl (hb hby d1_1) _ ?_
    show Steps p.tables e below (s₁.setTop (mkF m 4 #[.val (.long w0), .second] [(.long (128 : Int64)), (.long w0)])) _
    refine XS.lcmp X0.here hx rfl (hb hby d1_4) rfl ?_
    exact k)
  by_cases hc5 : (lcmpW w0 (128 : Int64)) < (0 : Int32)
  · -- pc 5: (lcmpW w0 (128 : Int64)) < (0 : Int32)
    obtain ⟨fs, hr, hrun, hended, hW, hsame⟩ := X0.leave (v := (some (.int (1 : Int32)))) (fun h => by rw [Bd.returns] at h; cases h)
    refine ⟨_, _, pre1 _ ?_, hrun, hended, _, _, rfl, ?_, ⟨_, rfl⟩, hW, hsame.mono (by decide) (by decide)⟩
    · show Steps p.tables e below (s₁.setTop (mkF m 5 #[.val (.long w0), .second] [(.int (lcmpW w0 (128 : Int64)))])) _
      refine XS.ifNo X0.here hx rfl (hb hby d1_5) rfl ((if0 _ _).trans (tlt hc5).2.1) ?_
      show Steps p.tables e below (s₁.setTop (mkF m 8 #[.val (.long w0), .second] [])) _
      refine XS.iconst X0.here hx rfl (hb hby d1_8) ?_
      show Steps p.tables e below (s₁.setTop (mkF m 9 #[.val (.long w0), .second] [(.int (1 : Int32))])) _
      exact retI X0 hx Bd.returns (hb hby d1_9) hr
    · show QP (some (.int (f1 w0))) h0 n0 _ s₁.heap _
      rw [e0]
      exact ⟨congrArg (fun z => some (Value.int z)) (Eq.symm (show (f1 w0) = (1 : Int32) from (if_pos hc5).trans (rfl))), N0, rfl⟩
  · -- pc 5: not (lcmpW w0 (128 : Int64)) < (0 : Int32)
    have pre2 : ∀ t, Steps p.tables e below (s₁.setTop (mkF m 15 #[.val (.long w0), .second] [(.int (lcmpW w0 (16384 : Int64)))])) t → Steps p.tables e below (s₁.setTop (entryFrame m #[(.long w0)] 2)) t := fun t k => pre1 t (by
      show Steps p.tables e below (s₁.setTop (mkF m 5 #[.val (.long w0), .second] [(.int (lcmpW w0 (128 : Int64)))])) _
      refine XS.ifYes X0.here hx rfl (pc0 := 5) (pc' := 10) rfl (hb hby d1_5) rfl ((if0 _ _).trans (flt hc5).2.1) (by decide) (by decide) ?_
      show Steps p.tables e below (s₁.setTop (mkF m 10 #[.val (.long w0), .second] [])) _
      refine XS.lloadN X0.here hx rfl (hb hby d1_10) rfl ?_
      show Steps p.tables e below (s₁.setTop (mkF m 11 #[.val (.long w0), .second] [(.long w0)])) _
      refine X0.ldc2Long hx hown (mvT hZ (hw _ (List.mem_of_getElem? (i := 10) rfl))) (g := (mkF m 11 #[.val (.long w0), .second] [(.long w0)])) rfl (hb hby d1_11) _ ?_
      show Steps p.tables e below (s₁.setTop (mkF m 14 #[.val (.long w0), .second] [(.long (16384 : Int64)), (.long w0)])) _
      refine XS.lcmp X0.here hx rfl (hb hby d1_14) rfl ?_
      exact k)
    by_cases hc15 : (lcmpW w0 (16384 : Int64)) < (0 : Int32)
    · -- pc 15: (lcmpW w0 (16384 : Int64)) < (0 : Int32)
      obtain ⟨fs, hr, hrun, hended, hW, hsame⟩ := X0.leave (v := (some (.int (2 : Int32)))) (fun h => by rw [Bd.returns] at h; cases h)
      refine ⟨_, _, pre2 _ ?_, hrun, hended, _, _, rfl, ?_, ⟨_, rfl⟩, hW, hsame.mono (by decide) (by decide)⟩
      · show Steps p.tables e below (s₁.setTop (mkF m 15 #[.val (.long w0), .second] [(.int (lcmpW w0 (16384 : Int64)))])) _
        refine XS.ifNo X0.here hx rfl (hb hby d1_15) rfl ((if0 _ _).trans (tlt hc15).2.1) ?_
        show Steps p.tables e below (s₁.setTop (mkF m 18 #[.val (.long w0), .second] [])) _
        refine XS.iconst X0.here hx rfl (hb hby d1_18) ?_
        show Steps p.tables e below (s₁.setTop (mkF m 19 #[.val (.long w0), .second] [(.int (2 : Int32))])) _
        exact retI X0 hx Bd.returns (hb hby d1_19) hr
      · show QP (some (.int (f1 w0))) h0 n0 _ s₁.heap _
        rw [e0]
        exact ⟨congrArg (fun z => some (Value.int z)) (Eq.symm (show (f1 w0) = (2 : Int32) from (if_neg hc5).trans ((if_pos hc15).trans (rfl)))), N0, rfl⟩
    · -- pc 15: not (lcmpW w0 (16384 : Int64)) < (0 : Int32)
      have pre3 : ∀ t, Steps p.tables e below (s₁.setTop (mkF m 25 #[.val (.long w0), .second] [(.int (lcmpW w0 (2097152 : Int64)))])) t → Steps p.tables e below (s₁.setTop (entryFrame m #[(.long w0)] 2)) t := fun t k => pre2 t (by
        show Steps p.tables e below (s₁.setTop (mkF m 15 #[.val (.long w0), .second] [(.int (lcmpW w0 (16384 : Int64)))])) _
        refine XS.ifYes X0.here hx rfl (pc0 := 15) (pc' := 20) rfl (hb hby d1_15) rfl ((if0 _ _).trans (flt hc15).2.1) (by decide) (by decide) ?_
        show Steps p.tables e below (s₁.setTop (mkF m 20 #[.val (.long w0), .second] [])) _
        refine XS.lloadN X0.here hx rfl (hb hby d1_20) rfl ?_
        show Steps p.tables e below (s₁.setTop (mkF m 21 #[.val (.long w0), .second] [(.long w0)])) _
        refine X0.ldc2Long hx hown (mvT hZ (hw _ (List.mem_of_getElem? (i := 11) rfl))) (g := (mkF m 21 #[.val (.long w0), .second] [(.long w0)])) rfl (hb hby d1_21) _ ?_
        show Steps p.tables e below (s₁.setTop (mkF m 24 #[.val (.long w0), .second] [(.long (2097152 : Int64)), (.long w0)])) _
        refine XS.lcmp X0.here hx rfl (hb hby d1_24) rfl ?_
        exact k)
      by_cases hc25 : (lcmpW w0 (2097152 : Int64)) < (0 : Int32)
      · -- pc 25: (lcmpW w0 (2097152 : Int64)) < (0 : Int32)
        obtain ⟨fs, hr, hrun, hended, hW, hsame⟩ := X0.leave (v := (some (.int (3 : Int32)))) (fun h => by rw [Bd.returns] at h; cases h)
        refine ⟨_, _, pre3 _ ?_, hrun, hended, _, _, rfl, ?_, ⟨_, rfl⟩, hW, hsame.mono (by decide) (by decide)⟩
        · show Steps p.tables e below (s₁.setTop (mkF m 25 #[.val (.long w0), .second] [(.int (lcmpW w0 (2097152 : Int64)))])) _
          refine XS.ifNo X0.here hx rfl (hb hby d1_25) rfl ((if0 _ _).trans (tlt hc25).2.1) ?_
          show Steps p.tables e below (s₁.setTop (mkF m 28 #[.val (.long w0), .second] [])) _
          refine XS.iconst X0.here hx rfl (hb hby d1_28) ?_
          show Steps p.tables e below (s₁.setTop (mkF m 29 #[.val (.long w0), .second] [(.int (3 : Int32))])) _
          exact retI X0 hx Bd.returns (hb hby d1_29) hr
        · show QP (some (.int (f1 w0))) h0 n0 _ s₁.heap _
          rw [e0]
          exact ⟨congrArg (fun z => some (Value.int z)) (Eq.symm (show (f1 w0) = (3 : Int32) from (if_neg hc5).trans ((if_neg hc15).trans ((if_pos hc25).trans (rfl))))), N0, rfl⟩
      · -- pc 25: not (lcmpW w0 (2097152 : Int64)) < (0 : Int32)
        have pre4 : ∀ t, Steps p.tables e below (s₁.setTop (mkF m 35 #[.val (.long w0), .second] [(.int (lcmpW w0 (268435456 : Int64)))])) t → Steps p.tables e below (s₁.setTop (entryFrame m #[(.long w0)] 2)) t := fun t k => pre3 t (by
          show Steps p.tables e below (s₁.setTop (mkF m 25 #[.val (.long w0), .second] [(.int (lcmpW w0 (2097152 : Int64)))])) _
          refine XS.ifYes X0.here hx rfl (pc0 := 25) (pc' := 30) rfl (hb hby d1_25) rfl ((if0 _ _).trans (flt hc25).2.1) (by decide) (by decide) ?_
          show Steps p.tables e below (s₁.setTop (mkF m 30 #[.val (.long w0), .second] [])) _
          refine XS.lloadN X0.here hx rfl (hb hby d1_30) rfl ?_
          show Steps p.tables e below (s₁.setTop (mkF m 31 #[.val (.long w0), .second] [(.long w0)])) _
          refine X0.ldc2Long hx hown (mvT hZ (hw _ (List.mem_of_getElem? (i := 12) rfl))) (g := (mkF m 31 #[.val (.long w0), .second] [(.long w0)])) rfl (hb hby d1_31) _ ?_
          show Steps p.tables e below (s₁.setTop (mkF m 34 #[.val (.long w0), .second] [(.long (268435456 : Int64)), (.long w0)])) _
          refine XS.lcmp X0.here hx rfl (hb hby d1_34) rfl ?_
          exact k)
        by_cases hc35 : (lcmpW w0 (268435456 : Int64)) < (0 : Int32)
        · -- pc 35: (lcmpW w0 (268435456 : Int64)) < (0 : Int32)
          obtain ⟨fs, hr, hrun, hended, hW, hsame⟩ := X0.leave (v := (some (.int (4 : Int32)))) (fun h => by rw [Bd.returns] at h; cases h)
          refine ⟨_, _, pre4 _ ?_, hrun, hended, _, _, rfl, ?_, ⟨_, rfl⟩, hW, hsame.mono (by decide) (by decide)⟩
          · show Steps p.tables e below (s₁.setTop (mkF m 35 #[.val (.long w0), .second] [(.int (lcmpW w0 (268435456 : Int64)))])) _
            refine XS.ifNo X0.here hx rfl (hb hby d1_35) rfl ((if0 _ _).trans (tlt hc35).2.1) ?_
            show Steps p.tables e below (s₁.setTop (mkF m 38 #[.val (.long w0), .second] [])) _
            refine XS.iconst X0.here hx rfl (hb hby d1_38) ?_
            show Steps p.tables e below (s₁.setTop (mkF m 39 #[.val (.long w0), .second] [(.int (4 : Int32))])) _
            exact retI X0 hx Bd.returns (hb hby d1_39) hr
          · show QP (some (.int (f1 w0))) h0 n0 _ s₁.heap _
            rw [e0]
            exact ⟨congrArg (fun z => some (Value.int z)) (Eq.symm (show (f1 w0) = (4 : Int32) from (if_neg hc5).trans ((if_neg hc15).trans ((if_neg hc25).trans ((if_pos hc35).trans (rfl)))))), N0, rfl⟩
        · -- pc 35: not (lcmpW w0 (268435456 : Int64)) < (0 : Int32)
          have pre5 : ∀ t, Steps p.tables e below (s₁.setTop (mkF m 45 #[.val (.long w0), .second] [(.int (lcmpW w0 (34359738368 : Int64)))])) t → Steps p.tables e below (s₁.setTop (entryFrame m #[(.long w0)] 2)) t := fun t k => pre4 t (by
            show Steps p.tables e below (s₁.setTop (mkF m 35 #[.val (.long w0), .second] [(.int (lcmpW w0 (268435456 : Int64)))])) _
            refine XS.ifYes X0.here hx rfl (pc0 := 35) (pc' := 40) rfl (hb hby d1_35) rfl ((if0 _ _).trans (flt hc35).2.1) (by decide) (by decide) ?_
            show Steps p.tables e below (s₁.setTop (mkF m 40 #[.val (.long w0), .second] [])) _
            refine XS.lloadN X0.here hx rfl (hb hby d1_40) rfl ?_
            show Steps p.tables e below (s₁.setTop (mkF m 41 #[.val (.long w0), .second] [(.long w0)])) _
            refine X0.ldc2Long hx hown (mvT hZ (hw _ (List.mem_of_getElem? (i := 13) rfl))) (g := (mkF m 41 #[.val (.long w0), .second] [(.long w0)])) rfl (hb hby d1_41) _ ?_
            show Steps p.tables e below (s₁.setTop (mkF m 44 #[.val (.long w0), .second] [(.long (34359738368 : Int64)), (.long w0)])) _
            refine XS.lcmp X0.here hx rfl (hb hby d1_44) rfl ?_
            exact k)
          by_cases hc45 : (lcmpW w0 (34359738368 : Int64)) < (0 : Int32)
          · -- pc 45: (lcmpW w0 (34359738368 : Int64)) < (0 : Int32)
            obtain ⟨fs, hr, hrun, hended, hW, hsame⟩ := X0.leave (v := (some (.int (5 : Int32)))) (fun h => by rw [Bd.returns] at h; cases h)
            refine ⟨_, _, pre5 _ ?_, hrun, hended, _, _, rfl, ?_, ⟨_, rfl⟩, hW, hsame.mono (by decide) (by decide)⟩
            · show Steps p.tables e below (s₁.setTop (mkF m 45 #[.val (.long w0), .second] [(.int (lcmpW w0 (34359738368 : Int64)))])) _
              refine XS.ifNo X0.here hx rfl (hb hby d1_45) rfl ((if0 _ _).trans (tlt hc45).2.1) ?_
              show Steps p.tables e below (s₁.setTop (mkF m 48 #[.val (.long w0), .second] [])) _
              refine XS.iconst X0.here hx rfl (hb hby d1_48) ?_
              show Steps p.tables e below (s₁.setTop (mkF m 49 #[.val (.long w0), .second] [(.int (5 : Int32))])) _
              exact retI X0 hx Bd.returns (hb hby d1_49) hr
            · show QP (some (.int (f1 w0))) h0 n0 _ s₁.heap _
              rw [e0]
              exact ⟨congrArg (fun z => some (Value.int z)) (Eq.symm (show (f1 w0) = (5 : Int32) from (if_neg hc5).trans ((if_neg hc15).trans ((if_neg hc25).trans ((if_neg hc35).trans ((if_pos hc45).trans (rfl))))))), N0, rfl⟩
          · -- pc 45: not (lcmpW w0 (34359738368 : Int64)) < (0 : Int32)
            have pre6 : ∀ t, Steps p.tables e below (s₁.setTop (mkF m 55 #[.val (.long w0), .second] [(.int (lcmpW w0 (4398046511104 : Int64)))])) t → Steps p.tables e below (s₁.setTop (entryFrame m #[(.long w0)] 2)) t := fun t k => pre5 t (by
              show Steps p.tables e below (s₁.setTop (mkF m 45 #[.val (.long w0), .second] [(.int (lcmpW w0 (34359738368 : Int64)))])) _
              refine XS.ifYes X0.here hx rfl (pc0 := 45) (pc' := 50) rfl (hb hby d1_45) rfl ((if0 _ _).trans (flt hc45).2.1) (by decide) (by decide) ?_
              show Steps p.tables e below (s₁.setTop (mkF m 50 #[.val (.long w0), .second] [])) _
              refine XS.lloadN X0.here hx rfl (hb hby d1_50) rfl ?_
              show Steps p.tables e below (s₁.setTop (mkF m 51 #[.val (.long w0), .second] [(.long w0)])) _
              refine X0.ldc2Long hx hown (mvT hZ (hw _ (List.mem_of_getElem? (i := 14) rfl))) (g := (mkF m 51 #[.val (.long w0), .second] [(.long w0)])) rfl (hb hby d1_51) _ ?_
              show Steps p.tables e below (s₁.setTop (mkF m 54 #[.val (.long w0), .second] [(.long (4398046511104 : Int64)), (.long w0)])) _
              refine XS.lcmp X0.here hx rfl (hb hby d1_54) rfl ?_
              exact k)
            by_cases hc55 : (lcmpW w0 (4398046511104 : Int64)) < (0 : Int32)
            · -- pc 55: (lcmpW w0 (4398046511104 : Int64)) < (0 : Int32)
              obtain ⟨fs, hr, hrun, hended, hW, hsame⟩ := X0.leave (v := (some (.int (6 : Int32)))) (fun h => by rw [Bd.returns] at h; cases h)
              refine ⟨_, _, pre6 _ ?_, hrun, hended, _, _, rfl, ?_, ⟨_, rfl⟩, hW, hsame.mono (by decide) (by decide)⟩
              · show Steps p.tables e below (s₁.setTop (mkF m 55 #[.val (.long w0), .second] [(.int (lcmpW w0 (4398046511104 : Int64)))])) _
                refine XS.ifNo X0.here hx rfl (hb hby d1_55) rfl ((if0 _ _).trans (tlt hc55).2.1) ?_
                show Steps p.tables e below (s₁.setTop (mkF m 58 #[.val (.long w0), .second] [])) _
                refine XS.bipush X0.here hx rfl (hb hby d1_58) ?_
                show Steps p.tables e below (s₁.setTop (mkF m 60 #[.val (.long w0), .second] [(.int (6 : Int32))])) _
                exact retI X0 hx Bd.returns (hb hby d1_60) hr
              · show QP (some (.int (f1 w0))) h0 n0 _ s₁.heap _
                rw [e0]
                exact ⟨congrArg (fun z => some (Value.int z)) (Eq.symm (show (f1 w0) = (6 : Int32) from (if_neg hc5).trans ((if_neg hc15).trans ((if_neg hc25).trans ((if_neg hc35).trans ((if_neg hc45).trans ((if_pos hc55).trans (rfl)))))))), N0, rfl⟩
            · -- pc 55: not (lcmpW w0 (4398046511104 : Int64)) < (0 : Int32)
              have pre7 : ∀ t, Steps p.tables e below (s₁.setTop (mkF m 66 #[.val (.long w0), .second] [(.int (lcmpW w0 (562949953421312 : Int64)))])) t → Steps p.tables e below (s₁.setTop (entryFrame m #[(.long w0)] 2)) t := fun t k => pre6 t (by
                show Steps p.tables e below (s₁.setTop (mkF m 55 #[.val (.long w0), .second] [(.int (lcmpW w0 (4398046511104 : Int64)))])) _
                refine XS.ifYes X0.here hx rfl (pc0 := 55) (pc' := 61) rfl (hb hby d1_55) rfl ((if0 _ _).trans (flt hc55).2.1) (by decide) (by decide) ?_
                show Steps p.tables e below (s₁.setTop (mkF m 61 #[.val (.long w0), .second] [])) _
                refine XS.lloadN X0.here hx rfl (hb hby d1_61) rfl ?_
                show Steps p.tables e below (s₁.setTop (mkF m 62 #[.val (.long w0), .second] [(.long w0)])) _
                refine X0.ldc2Long hx hown (mvT hZ (hw _ (List.mem_of_getElem? (i := 15) rfl))) (g := (mkF m 62 #[.val (.long w0), .second] [(.long w0)])) rfl (hb hby d1_62) _ ?_
                show Steps p.tables e below (s₁.setTop (mkF m 65 #[.val (.long w0), .second] [(.long (562949953421312 : Int64)), (.long w0)])) _
                refine XS.lcmp X0.here hx rfl (hb hby d1_65) rfl ?_
                exact k)
              by_cases hc66 : (lcmpW w0 (562949953421312 : Int64)) < (0 : Int32)
              · -- pc 66: (lcmpW w0 (562949953421312 : Int64)) < (0 : Int32)
                obtain ⟨fs, hr, hrun, hended, hW, hsame⟩ := X0.leave (v := (some (.int (7 : Int32)))) (fun h => by rw [Bd.returns] at h; cases h)
                refine ⟨_, _, pre7 _ ?_, hrun, hended, _, _, rfl, ?_, ⟨_, rfl⟩, hW, hsame.mono (by decide) (by decide)⟩
                · show Steps p.tables e below (s₁.setTop (mkF m 66 #[.val (.long w0), .second] [(.int (lcmpW w0 (562949953421312 : Int64)))])) _
                  refine XS.ifNo X0.here hx rfl (hb hby d1_66) rfl ((if0 _ _).trans (tlt hc66).2.1) ?_
                  show Steps p.tables e below (s₁.setTop (mkF m 69 #[.val (.long w0), .second] [])) _
                  refine XS.bipush X0.here hx rfl (hb hby d1_69) ?_
                  show Steps p.tables e below (s₁.setTop (mkF m 71 #[.val (.long w0), .second] [(.int (7 : Int32))])) _
                  exact retI X0 hx Bd.returns (hb hby d1_71) hr
                · show QP (some (.int (f1 w0))) h0 n0 _ s₁.heap _
                  rw [e0]
                  exact ⟨congrArg (fun z => some (Value.int z)) (Eq.symm (show (f1 w0) = (7 : Int32) from (if_neg hc5).trans ((if_neg hc15).trans ((if_neg hc25).trans ((if_neg hc35).trans ((if_neg hc45).trans ((if_neg hc55).trans ((if_pos hc66).trans (rfl))))))))), N0, rfl⟩
              · -- pc 66: not (lcmpW w0 (562949953421312 : Int64)) < (0 : Int32)
                have pre8 : ∀ t, Steps p.tables e below (s₁.setTop (mkF m 77 #[.val (.long w0), .second] [(.int (lcmpW w0 (72057594037927936 : Int64)))])) t → Steps p.tables e below (s₁.setTop (entryFrame m #[(.long w0)] 2)) t := fun t k => pre7 t (by
                  show Steps p.tables e below (s₁.setTop (mkF m 66 #[.val (.long w0), .second] [(.int (lcmpW w0 (562949953421312 : Int64)))])) _
                  refine XS.ifYes X0.here hx rfl (pc0 := 66) (pc' := 72) rfl (hb hby d1_66) rfl ((if0 _ _).trans (flt hc66).2.1) (by decide) (by decide) ?_
                  show Steps p.tables e below (s₁.setTop (mkF m 72 #[.val (.long w0), .second] [])) _
                  refine XS.lloadN X0.here hx rfl (hb hby d1_72) rfl ?_
                  show Steps p.tables e below (s₁.setTop (mkF m 73 #[.val (.long w0), .second] [(.long w0)])) _
                  refine X0.ldc2Long hx hown (mvT hZ (hw _ (List.mem_of_getElem? (i := 16) rfl))) (g := (mkF m 73 #[.val (.long w0), .second] [(.long w0)])) rfl (hb hby d1_73) _ ?_
                  show Steps p.tables e below (s₁.setTop (mkF m 76 #[.val (.long w0), .second] [(.long (72057594037927936 : Int64)), (.long w0)])) _
                  refine XS.lcmp X0.here hx rfl (hb hby d1_76) rfl ?_
                  exact k)
                by_cases hc77 : (lcmpW w0 (72057594037927936 : Int64)) < (0 : Int32)
                · -- pc 77: (lcmpW w0 (72057594037927936 : Int64)) < (0 : Int32)
                  obtain ⟨fs, hr, hrun, hended, hW, hsame⟩ := X0.leave (v := (some (.int (8 : Int32)))) (fun h => by rw [Bd.returns] at h; cases h)
                  refine ⟨_, _, pre8 _ ?_, hrun, hended, _, _, rfl, ?_, ⟨_, rfl⟩, hW, hsame.mono (by decide) (by decide)⟩
                  · show Steps p.tables e below (s₁.setTop (mkF m 77 #[.val (.long w0), .second] [(.int (lcmpW w0 (72057594037927936 : Int64)))])) _
                    refine XS.ifNo X0.here hx rfl (hb hby d1_77) rfl ((if0 _ _).trans (tlt hc77).2.1) ?_
                    show Steps p.tables e below (s₁.setTop (mkF m 80 #[.val (.long w0), .second] [])) _
                    refine XS.bipush X0.here hx rfl (hb hby d1_80) ?_
                    show Steps p.tables e below (s₁.setTop (mkF m 82 #[.val (.long w0), .second] [(.int (8 : Int32))])) _
                    exact retI X0 hx Bd.returns (hb hby d1_82) hr
                  · show QP (some (.int (f1 w0))) h0 n0 _ s₁.heap _
                    rw [e0]
                    exact ⟨congrArg (fun z => some (Value.int z)) (Eq.symm (show (f1 w0) = (8 : Int32) from (if_neg hc5).trans ((if_neg hc15).trans ((if_neg hc25).trans ((if_neg hc35).trans ((if_neg hc45).trans ((if_neg hc55).trans ((if_neg hc66).trans ((if_pos hc77).trans (rfl)))))))))), N0, rfl⟩
                · -- pc 77: not (lcmpW w0 (72057594037927936 : Int64)) < (0 : Int32)
                  obtain ⟨fs, hr, hrun, hended, hW, hsame⟩ := X0.leave (v := (some (.int (9 : Int32)))) (fun h => by rw [Bd.returns] at h; cases h)
                  refine ⟨_, _, pre8 _ ?_, hrun, hended, _, _, rfl, ?_, ⟨_, rfl⟩, hW, hsame.mono (by decide) (by decide)⟩
                  · show Steps p.tables e below (s₁.setTop (mkF m 77 #[.val (.long w0), .second] [(.int (lcmpW w0 (72057594037927936 : Int64)))])) _
                    refine XS.ifYes X0.here hx rfl (pc0 := 77) (pc' := 83) rfl (hb hby d1_77) rfl ((if0 _ _).trans (flt hc77).2.1) (by decide) (by decide) ?_
                    show Steps p.tables e below (s₁.setTop (mkF m 83 #[.val (.long w0), .second] [])) _
                    refine XS.bipush X0.here hx rfl (hb hby d1_83) ?_
                    show Steps p.tables e below (s₁.setTop (mkF m 85 #[.val (.long w0), .second] [(.int (9 : Int32))])) _
                    exact retI X0 hx Bd.returns (hb hby d1_85) hr
                  · show QP (some (.int (f1 w0))) h0 n0 _ s₁.heap _
                    rw [e0]
                    exact ⟨congrArg (fun z => some (Value.int z)) (Eq.symm (show (f1 w0) = (9 : Int32) from (if_neg hc5).trans ((if_neg hc15).trans ((if_neg hc25).trans ((if_neg hc35).trans ((if_neg hc45).trans ((if_neg hc55).trans ((if_neg hc66).trans ((if_neg hc77).trans (rfl)))))))))), N0, rfl⟩
theorem own_nine (w : Int64) (hv : 0 ≤ w.toInt) : lcmpW ((((((((((((((((((w.toUInt64 >>> ((7 : Int32) &&& 0x3f).toInt64.toUInt64).toInt64).toUInt64 >>> ((7 : Int32) &&& 0x3f).toInt64.toUInt64).toInt64).toUInt64 >>> ((7 : Int32) &&& 0x3f).toInt64.toUInt64).toInt64).toUInt64 >>> ((7 : Int32) &&& 0x3f).toInt64.toUInt64).toInt64).toUInt64 >>> ((7 : Int32) &&& 0x3f).toInt64.toUInt64).toInt64).toUInt64 >>> ((7 : Int32) &&& 0x3f).toInt64.toUInt64).toInt64).toUInt64 >>> ((7 : Int32) &&& 0x3f).toInt64.toUInt64).toInt64).toUInt64 >>> ((7 : Int32) &&& 0x3f).toInt64.toUInt64).toInt64).toUInt64 >>> ((7 : Int32) &&& 0x3f).toInt64.toUInt64).toInt64) (0 : Int64) = 0 := by
  have r0 := rng64 w
  have h1 := c_lushr w 7 7 (by decide) (by decide)
  have h2 := c_lushr ((w.toUInt64 >>> ((7 : Int32) &&& 0x3f).toInt64.toUInt64).toInt64) 7 7 (by decide) (by decide)
  have h3 := c_lushr ((((w.toUInt64 >>> ((7 : Int32) &&& 0x3f).toInt64.toUInt64).toInt64).toUInt64 >>> ((7 : Int32) &&& 0x3f).toInt64.toUInt64).toInt64) 7 7 (by decide) (by decide)
  have h4 := c_lushr ((((((w.toUInt64 >>> ((7 : Int32) &&& 0x3f).toInt64.toUInt64).toInt64).toUInt64 >>> ((7 : Int32) &&& 0x3f).toInt64.toUInt64).toInt64).toUInt64 >>> ((7 : Int32) &&& 0x3f).toInt64.toUInt64).toInt64) 7 7 (by decide) (by decide)
  have h5 := c_lushr ((((((((w.toUInt64 >>> ((7 : Int32) &&& 0x3f).toInt64.toUInt64).toInt64).toUInt64 >>> ((7 : Int32) &&& 0x3f).toInt64.toUInt64).toInt64).toUInt64 >>> ((7 : Int32) &&& 0x3f).toInt64.toUInt64).toInt64).toUInt64 >>> ((7 : Int32) &&& 0x3f).toInt64.toUInt64).toInt64) 7 7 (by decide) (by decide)
  have h6 := c_lushr ((((((((((w.toUInt64 >>> ((7 : Int32) &&& 0x3f).toInt64.toUInt64).toInt64).toUInt64 >>> ((7 : Int32) &&& 0x3f).toInt64.toUInt64).toInt64).toUInt64 >>> ((7 : Int32) &&& 0x3f).toInt64.toUInt64).toInt64).toUInt64 >>> ((7 : Int32) &&& 0x3f).toInt64.toUInt64).toInt64).toUInt64 >>> ((7 : Int32) &&& 0x3f).toInt64.toUInt64).toInt64) 7 7 (by decide) (by decide)
  have h7 := c_lushr ((((((((((((w.toUInt64 >>> ((7 : Int32) &&& 0x3f).toInt64.toUInt64).toInt64).toUInt64 >>> ((7 : Int32) &&& 0x3f).toInt64.toUInt64).toInt64).toUInt64 >>> ((7 : Int32) &&& 0x3f).toInt64.toUInt64).toInt64).toUInt64 >>> ((7 : Int32) &&& 0x3f).toInt64.toUInt64).toInt64).toUInt64 >>> ((7 : Int32) &&& 0x3f).toInt64.toUInt64).toInt64).toUInt64 >>> ((7 : Int32) &&& 0x3f).toInt64.toUInt64).toInt64) 7 7 (by decide) (by decide)
  have h8 := c_lushr ((((((((((((((w.toUInt64 >>> ((7 : Int32) &&& 0x3f).toInt64.toUInt64).toInt64).toUInt64 >>> ((7 : Int32) &&& 0x3f).toInt64.toUInt64).toInt64).toUInt64 >>> ((7 : Int32) &&& 0x3f).toInt64.toUInt64).toInt64).toUInt64 >>> ((7 : Int32) &&& 0x3f).toInt64.toUInt64).toInt64).toUInt64 >>> ((7 : Int32) &&& 0x3f).toInt64.toUInt64).toInt64).toUInt64 >>> ((7 : Int32) &&& 0x3f).toInt64.toUInt64).toInt64).toUInt64 >>> ((7 : Int32) &&& 0x3f).toInt64.toUInt64).toInt64) 7 7 (by decide) (by decide)
  have h9 := c_lushr ((((((((((((((((w.toUInt64 >>> ((7 : Int32) &&& 0x3f).toInt64.toUInt64).toInt64).toUInt64 >>> ((7 : Int32) &&& 0x3f).toInt64.toUInt64).toInt64).toUInt64 >>> ((7 : Int32) &&& 0x3f).toInt64.toUInt64).toInt64).toUInt64 >>> ((7 : Int32) &&& 0x3f).toInt64.toUInt64).toInt64).toUInt64 >>> ((7 : Int32) &&& 0x3f).toInt64.toUInt64).toInt64).toUInt64 >>> ((7 : Int32) &&& 0x3f).toInt64.toUInt64).toInt64).toUInt64 >>> ((7 : Int32) &&& 0x3f).toInt64.toUInt64).toInt64).toUInt64 >>> ((7 : Int32) &&& 0x3f).toInt64.toUInt64).toInt64) 7 7 (by decide) (by decide)
  refine (lw_eq _ _).mpr (Int64.toInt_inj.mp ?_)
  generalize ((w.toUInt64 >>> ((7 : Int32) &&& 0x3f).toInt64.toUInt64).toInt64) = r1 at *
  generalize ((r1.toUInt64 >>> ((7 : Int32) &&& 0x3f).toInt64.toUInt64).toInt64) = r2 at *
  generalize ((r2.toUInt64 >>> ((7 : Int32) &&& 0x3f).toInt64.toUInt64).toInt64) = r3 at *
  generalize ((r3.toUInt64 >>> ((7 : Int32) &&& 0x3f).toInt64.toUInt64).toInt64) = r4 at *
  generalize ((r4.toUInt64 >>> ((7 : Int32) &&& 0x3f).toInt64.toUInt64).toInt64) = r5 at *
  generalize ((r5.toUInt64 >>> ((7 : Int32) &&& 0x3f).toInt64.toUInt64).toInt64) = r6 at *
  generalize ((r6.toUInt64 >>> ((7 : Int32) &&& 0x3f).toInt64.toUInt64).toInt64) = r7 at *
  generalize ((r7.toUInt64 >>> ((7 : Int32) &&& 0x3f).toInt64.toUInt64).toInt64) = r8 at *
  generalize ((r8.toUInt64 >>> ((7 : Int32) &&& 0x3f).toInt64.toUInt64).toInt64) = r9 at *
  rw [show (0 : Int64).toInt = 0 from rfl]
  omega
theorem d2_0 : decode prog_7_method_3_code 0 = .ok (.iconst 1, 1) := by decide +kernel
theorem d2_1 : decode prog_7_method_3_code 1 = .ok (.istore_n 2, 1) := by decide +kernel
theorem d2_2 : decode prog_7_method_3_code 2 = .ok (.lload_n 0, 1) := by decide +kernel
theorem d2_3 : decode prog_7_method_3_code 3 = .ok (.bipush 7, 2) := by decide +kernel
theorem d2_5 : decode prog_7_method_3_code 5 = .ok (.lushr, 1) := by decide +kernel
theorem d2_6 : decode prog_7_method_3_code 6 = .ok (.lstore_n 3, 1) := by decide +kernel
theorem d2_7 : decode prog_7_method_3_code 7 = .ok (.lload_n 3, 1) := by decide +kernel
theorem d2_8 : decode prog_7_method_3_code 8 = .ok (.lconst 0, 1) := by decide +kernel
theorem d2_9 : decode prog_7_method_3_code 9 = .ok (.lcmp, 1) := by decide +kernel
theorem d2_10 : decode prog_7_method_3_code 10 = .ok (.ifCond .eq 14, 3) := by decide +kernel
theorem d2_13 : decode prog_7_method_3_code 13 = .ok (.iinc 2 1, 3) := by decide +kernel
theorem d2_16 : decode prog_7_method_3_code 16 = .ok (.lload_n 3, 1) := by decide +kernel
theorem d2_17 : decode prog_7_method_3_code 17 = .ok (.bipush 7, 2) := by decide +kernel
theorem d2_19 : decode prog_7_method_3_code 19 = .ok (.lushr, 1) := by decide +kernel
theorem d2_20 : decode prog_7_method_3_code 20 = .ok (.lstore_n 3, 1) := by decide +kernel
theorem d2_21 : decode prog_7_method_3_code 21 = .ok (.goto (-14), 3) := by decide +kernel
theorem d2_24 : decode prog_7_method_3_code 24 = .ok (.iload_n 2, 1) := by decide +kernel
theorem d2_25 : decode prog_7_method_3_code 25 = .ok (.ireturn, 1) := by decide +kernel
theorem pn_2 : plainName "com/example/klave/klave/coding/BerOid" = true := by first | (simp [plainName, overriddenIn]; done) | decide +kernel
theorem ef_2 (m : MethodId) (x0 : Int64) : entryFrame m #[(.long x0)] 5 = mkF m 0 #[.val (.long x0), .second, .unset, .unset, .unset] [] := by first | (simp [entryFrame, mkF, argsToLocals, Value.category]; done) | rfl
def f2 (w0 : Int64) : Int32 := (if (lcmpW ((w0.toUInt64 >>> ((7 : Int32) &&& 0x3f).toInt64.toUInt64).toInt64) (0 : Int64)) = (0 : Int32) then (1 : Int32) else (if (lcmpW ((((w0.toUInt64 >>> ((7 : Int32) &&& 0x3f).toInt64.toUInt64).toInt64).toUInt64 >>> ((7 : Int32) &&& 0x3f).toInt64.toUInt64).toInt64) (0 : Int64)) = (0 : Int32) then ((1 : Int32) + (1 : Int32)) else (if (lcmpW ((((((w0.toUInt64 >>> ((7 : Int32) &&& 0x3f).toInt64.toUInt64).toInt64).toUInt64 >>> ((7 : Int32) &&& 0x3f).toInt64.toUInt64).toInt64).toUInt64 >>> ((7 : Int32) &&& 0x3f).toInt64.toUInt64).toInt64) (0 : Int64)) = (0 : Int32) then (((1 : Int32) + (1 : Int32)) + (1 : Int32)) else (if (lcmpW ((((((((w0.toUInt64 >>> ((7 : Int32) &&& 0x3f).toInt64.toUInt64).toInt64).toUInt64 >>> ((7 : Int32) &&& 0x3f).toInt64.toUInt64).toInt64).toUInt64 >>> ((7 : Int32) &&& 0x3f).toInt64.toUInt64).toInt64).toUInt64 >>> ((7 : Int32) &&& 0x3f).toInt64.toUInt64).toInt64) (0 : Int64)) = (0 : Int32) then ((((1 : Int32) + (1 : Int32)) + (1 : Int32)) + (1 : Int32)) else (if (lcmpW ((((((((((w0.toUInt64 >>> ((7 : Int32) &&& 0x3f).toInt64.toUInt64).toInt64).toUInt64 >>> ((7 : Int32) &&& 0x3f).toInt64.toUInt64).toInt64).toUInt64 >>> ((7 : Int32) &&& 0x3f).toInt64.toUInt64).toInt64).toUInt64 >>> ((7 : Int32) &&& 0x3f).toInt64.toUInt64).toInt64).toUInt64 >>> ((7 : Int32) &&& 0x3f).toInt64.toUInt64).toInt64) (0 : Int64)) = (0 : Int32) then (((((1 : Int32) + (1 : Int32)) + (1 : Int32)) + (1 : Int32)) + (1 : Int32)) else (if (lcmpW ((((((((((((w0.toUInt64 >>> ((7 : Int32) &&& 0x3f).toInt64.toUInt64).toInt64).toUInt64 >>> ((7 : Int32) &&& 0x3f).toInt64.toUInt64).toInt64).toUInt64 >>> ((7 : Int32) &&& 0x3f).toInt64.toUInt64).toInt64).toUInt64 >>> ((7 : Int32) &&& 0x3f).toInt64.toUInt64).toInt64).toUInt64 >>> ((7 : Int32) &&& 0x3f).toInt64.toUInt64).toInt64).toUInt64 >>> ((7 : Int32) &&& 0x3f).toInt64.toUInt64).toInt64) (0 : Int64)) = (0 : Int32) then ((((((1 : Int32) + (1 : Int32)) + (1 : Int32)) + (1 : Int32)) + (1 : Int32)) + (1 : Int32)) else (if (lcmpW ((((((((((((((w0.toUInt64 >>> ((7 : Int32) &&& 0x3f).toInt64.toUInt64).toInt64).toUInt64 >>> ((7 : Int32) &&& 0x3f).toInt64.toUInt64).toInt64).toUInt64 >>> ((7 : Int32) &&& 0x3f).toInt64.toUInt64).toInt64).toUInt64 >>> ((7 : Int32) &&& 0x3f).toInt64.toUInt64).toInt64).toUInt64 >>> ((7 : Int32) &&& 0x3f).toInt64.toUInt64).toInt64).toUInt64 >>> ((7 : Int32) &&& 0x3f).toInt64.toUInt64).toInt64).toUInt64 >>> ((7 : Int32) &&& 0x3f).toInt64.toUInt64).toInt64) (0 : Int64)) = (0 : Int32) then (((((((1 : Int32) + (1 : Int32)) + (1 : Int32)) + (1 : Int32)) + (1 : Int32)) + (1 : Int32)) + (1 : Int32)) else (if (lcmpW ((((((((((((((((w0.toUInt64 >>> ((7 : Int32) &&& 0x3f).toInt64.toUInt64).toInt64).toUInt64 >>> ((7 : Int32) &&& 0x3f).toInt64.toUInt64).toInt64).toUInt64 >>> ((7 : Int32) &&& 0x3f).toInt64.toUInt64).toInt64).toUInt64 >>> ((7 : Int32) &&& 0x3f).toInt64.toUInt64).toInt64).toUInt64 >>> ((7 : Int32) &&& 0x3f).toInt64.toUInt64).toInt64).toUInt64 >>> ((7 : Int32) &&& 0x3f).toInt64.toUInt64).toInt64).toUInt64 >>> ((7 : Int32) &&& 0x3f).toInt64.toUInt64).toInt64).toUInt64 >>> ((7 : Int32) &&& 0x3f).toInt64.toUInt64).toInt64) (0 : Int64)) = (0 : Int32) then ((((((((1 : Int32) + (1 : Int32)) + (1 : Int32)) + (1 : Int32)) + (1 : Int32)) + (1 : Int32)) + (1 : Int32)) + (1 : Int32)) else (((((((((1 : Int32) + (1 : Int32)) + (1 : Int32)) + (1 : Int32)) + (1 : Int32)) + (1 : Int32)) + (1 : Int32)) + (1 : Int32)) + (1 : Int32))))))))))
set_option maxRecDepth 65536 in
set_option maxHeartbeats 40000000 in
theorem rm2 (l : Launch) (Z : State) (a0 : Array Value) (hw : ∀ d ∈ tables_1, d.before a0 Z = true) (ws : List Jvm.Cond) (w0 : Int64) (h0 : Heap) (n0 : Nat) (Z0 : n0 ≤ h0.size) (hv : 0 ≤ w0.toInt) :
    MetFree l (⟨"com/example/klave/klave/coding/BerOid", "size", "(J)I"⟩ : MethodName) (head1 (Jvm.Cond.code (⟨"com/example/klave/klave/coding/BerOid", "size", "(J)I"⟩ : MethodName) prog_7_method_3_code 5 (some .int) :: ws) ({ frames := 0, cells := 0, slots := 0, locals := 0 } : Room)) (fun a U => a = #[(.long w0)] ∧ Z.Warmed39 U.vm ∧ U.heap = h0) (fun _ _ _ _ _ => True) (fun _ U o U' => ∃ v L, o = .returned v ∧ QP (some (.int (f2 w0))) h0 n0 v U'.heap L ∧ FrameEnd U o U' L 0 0) := by
  refine MetFree.of_bodySF (plainFor_of_name pn_2) hisR ?_
  intro p e s m args below meth c s₁ Bd hml0 hP hK
  obtain ⟨rfl, hZ, hh⟩ := hP
  have hx := Bd.exec
  have hby := Bd.bytes
  have hml : c.maxLocals = 5 := hml0
  have hown : s.vm.findClass "com/example/klave/klave/coding/BerOid" = some m.cls := findClass_of_methodNamed Bd.named
  have hnm := (name_of_methodNamed Bd.named Bd.method).1
  have X0 : Stand p l e ({ frames := 0, cells := 0, slots := 0, locals := 0 } : Room) s m #[(.long w0)] below meth c s₁ [] 0 0 := Stand.of_body Bd
  have e0 : s₁.heap = h0 := by rw [← hh, Bd.state]; rfl
  have N0 := Fr.nil n0
  have pre0 : ∀ t, Steps p.tables e below (s₁.setTop (mkF m 0 #[.val (.long w0), .second, .unset, .unset, .unset] [])) t → Steps p.tables e below (s₁.setTop (entryFrame m #[(.long w0)] 5)) t := fun t k => castTop (ef_2 m w0) k
  have pre1 : ∀ t, Steps p.tables e below (s₁.setTop (mkF m 10 #[.val (.long w0), .second, .val (.int (1 : Int32)), .val (.long ((w0.toUInt64 >>> ((7 : Int32) &&& 0x3f).toInt64.toUInt64).toInt64)), .second] [(.int (lcmpW ((w0.toUInt64 >>> ((7 : Int32) &&& 0x3f).toInt64.toUInt64).toInt64) (0 : Int64)))])) t → Steps p.tables e below (s₁.setTop (entryFrame m #[(.long w0)] 5)) t := fun t k => pre0 t (by
    show Steps p.tables e below (s₁.setTop (mkF m 0 #[.val (.long w0), .second, .unset, .unset, .unset] [])) _
    refine XS.iconst X0.here hx rfl (hb hby d2_0) ?_
    show Steps p.tables e below (s₁.setTop (mkF m 1 #[.val (.long w0), .second, .unset, .unset, .unset] [(.int (1 : Int32))])) _
    refine XS.istoreN X0.here hx rfl (hb hby d2_1) rfl (l' := #[.val (.long w0), .second, .val (.int (1 : Int32)), .unset, .unset]) rfl ?_
    show Steps p.tables e below (s₁.setTop (mkF m 2 #[.val (.long w0), .second, .val (.int (1 : Int32)), .unset, .unset] [])) _
    refine XS.lloadN X0.here hx rfl (hb hby d2_2) rfl ?_
    show Steps p.tables e below (s₁.setTop (mkF m 3 #[.val (.long w0), .second, .val (.int (1 : Int32)), .unset, .unset] [(.long w0)])) _
    refine XS.bipush X0.here hx rfl (hb hby d2_3) ?_
    show Steps p.tables e below (s₁.setTop (mkF m 5 #[.val (.long w0), .second, .val (.int (1 : Int32)), .unset, .unset] [(.int (7 : Int32)), (.long w0)])) _
    refine XS.lushr X0.here hx rfl (hb hby d2_5) rfl ?_
    show Steps p.tables e below (s₁.setTop (mkF m 6 #[.val (.long w0), .second, .val (.int (1 : Int32)), .unset, .unset] [(.long ((w0.toUInt64 >>> ((7 : Int32) &&& 0x3f).toInt64.toUInt64).toInt64))])) _
    refine XS.lstoreN X0.here hx rfl (hb hby d2_6) rfl (l' := #[.val (.long w0), .second, .val (.int (1 : Int32)), .val (.long ((w0.toUInt64 >>> ((7 : Int32) &&& 0x3f).toInt64.toUInt64).toInt64)), .second]) rfl ?_
    show Steps p.tables e below (s₁.setTop (mkF m 7 #[.val (.long w0), .second, .val (.int (1 : Int32)), .val (.long ((w0.toUInt64 >>> ((7 : Int32) &&& 0x3f).toInt64.toUInt64).toInt64)), .second] [])) _
    refine XS.lloadN X0.here hx rfl (hb hby d2_7) rfl ?_
    show Steps p.tables e below (s₁.setTop (mkF m 8 #[.val (.long w0), .second, .val (.int (1 : Int32)), .val (.long ((w0.toUInt64 >>> ((7 : Int32) &&& 0x3f).toInt64.toUInt64).toInt64)), .second] [(.long ((w0.toUInt64 >>> ((7 : Int32) &&& 0x3f).toInt64.toUInt64).toInt64))])) _
    refine XS.lconst X0.here hx rfl (hb hby d2_8) ?_
    show Steps p.tables e below (s₁.setTop (mkF m 9 #[.val (.long w0), .second, .val (.int (1 : Int32)), .val (.long ((w0.toUInt64 >>> ((7 : Int32) &&& 0x3f).toInt64.toUInt64).toInt64)), .second] [(.long (0 : Int64)), (.long ((w0.toUInt64 >>> ((7 : Int32) &&& 0x3f).toInt64.toUInt64).toInt64))])) _
    refine XS.lcmp X0.here hx rfl (hb hby d2_9) rfl ?_
    exact k)
  by_cases hc10 : (lcmpW ((w0.toUInt64 >>> ((7 : Int32) &&& 0x3f).toInt64.toUInt64).toInt64) (0 : Int64)) = (0 : Int32)
  · -- pc 10: (lcmpW ((w0.toUInt64 >>> ((7 : Int32) &&& 0x3f).toInt64.toUInt64).toInt64) (0 : Int64)) = (0 : Int32)
    obtain ⟨fs, hr, hrun, hended, hW, hsame⟩ := X0.leave (v := (some (.int (1 : Int32)))) (fun h => by rw [Bd.returns] at h; cases h)
    refine ⟨_, _, pre1 _ ?_, hrun, hended, _, _, rfl, ?_, ⟨_, rfl⟩, hW, hsame.mono (by decide) (by decide)⟩
    · show Steps p.tables e below (s₁.setTop (mkF m 10 #[.val (.long w0), .second, .val (.int (1 : Int32)), .val (.long ((w0.toUInt64 >>> ((7 : Int32) &&& 0x3f).toInt64.toUInt64).toInt64)), .second] [(.int (lcmpW ((w0.toUInt64 >>> ((7 : Int32) &&& 0x3f).toInt64.toUInt64).toInt64) (0 : Int64)))])) _
      refine XS.ifYes X0.here hx rfl (pc0 := 10) (pc' := 24) rfl (hb hby d2_10) rfl ((if0 _ _).trans (teq hc10).1) (by decide) (by decide) ?_
      show Steps p.tables e below (s₁.setTop (mkF m 24 #[.val (.long w0), .second, .val (.int (1 : Int32)), .val (.long ((w0.toUInt64 >>> ((7 : Int32) &&& 0x3f).toInt64.toUInt64).toInt64)), .second] [])) _
      refine XS.iloadN X0.here hx rfl (hb hby d2_24) rfl ?_
      show Steps p.tables e below (s₁.setTop (mkF m 25 #[.val (.long w0), .second, .val (.int (1 : Int32)), .val (.long ((w0.toUInt64 >>> ((7 : Int32) &&& 0x3f).toInt64.toUInt64).toInt64)), .second] [(.int (1 : Int32))])) _
      exact retI X0 hx Bd.returns (hb hby d2_25) hr
    · show QP (some (.int (f2 w0))) h0 n0 _ s₁.heap _
      rw [e0]
      exact ⟨congrArg (fun z => some (Value.int z)) (Eq.symm (show (f2 w0) = (1 : Int32) from (if_pos hc10).trans (rfl))), N0, rfl⟩
  · -- pc 10: not (lcmpW ((w0.toUInt64 >>> ((7 : Int32) &&& 0x3f).toInt64.toUInt64).toInt64) (0 : Int64)) = (0 : Int32)
    have pre2 : ∀ t, Steps p.tables e below (s₁.setTop (mkF m 10 #[.val (.long w0), .second, .val (.int ((1 : Int32) + (1 : Int32))), .val (.long ((((w0.toUInt64 >>> ((7 : Int32) &&& 0x3f).toInt64.toUInt64).toInt64).toUInt64 >>> ((7 : Int32) &&& 0x3f).toInt64.toUInt64).toInt64)), .second] [(.int (lcmpW ((((w0.toUInt64 >>> ((7 : Int32) &&& 0x3f).toInt64.toUInt64).toInt64).toUInt64 >>> ((7 : Int32) &&& 0x3f).toInt64.toUInt64).toInt64) (0 : Int64)))])) t → Steps p.tables e below (s₁.setTop (entryFrame m #[(.long w0)] 5)) t := fun t k => pre1 t (by
      show Steps p.tables e below (s₁.setTop (mkF m 10 #[.val (.long w0), .second, .val (.int (1 : Int32)), .val (.long ((w0.toUInt64 >>> ((7 : Int32) &&& 0x3f).toInt64.toUInt64).toInt64)), .second] [(.int (lcmpW ((w0.toUInt64 >>> ((7 : Int32) &&& 0x3f).toInt64.toUInt64).toInt64) (0 : Int64)))])) _
      refine XS.ifNo X0.here hx rfl (hb hby d2_10) rfl ((if0 _ _).trans (feq hc10).1) ?_
      show Steps p.tables e below (s₁.setTop (mkF m 13 #[.val (.long w0), .second, .val (.int (1 : Int32)), .val (.long ((w0.toUInt64 >>> ((7 : Int32) &&& 0x3f).toInt64.toUInt64).toInt64)), .second] [])) _
      refine XS.iinc X0.here hx rfl (hb hby d2_13) rfl (l' := #[.val (.long w0), .second, .val (.int ((1 : Int32) + (1 : Int32))), .val (.long ((w0.toUInt64 >>> ((7 : Int32) &&& 0x3f).toInt64.toUInt64).toInt64)), .second]) rfl ?_
      show Steps p.tables e below (s₁.setTop (mkF m 16 #[.val (.long w0), .second, .val (.int ((1 : Int32) + (1 : Int32))), .val (.long ((w0.toUInt64 >>> ((7 : Int32) &&& 0x3f).toInt64.toUInt64).toInt64)), .second] [])) _
      refine XS.lloadN X0.here hx rfl (hb hby d2_16) rfl ?_
      show Steps p.tables e below (s₁.setTop (mkF m 17 #[.val (.long w0), .second, .val (.int ((1 : Int32) + (1 : Int32))), .val (.long ((w0.toUInt64 >>> ((7 : Int32) &&& 0x3f).toInt64.toUInt64).toInt64)), .second] [(.long ((w0.toUInt64 >>> ((7 : Int32) &&& 0x3f).toInt64.toUInt64).toInt64))])) _
      refine XS.bipush X0.here hx rfl (hb hby d2_17) ?_
      show Steps p.tables e below (s₁.setTop (mkF m 19 #[.val (.long w0), .second, .val (.int ((1 : Int32) + (1 : Int32))), .val (.long ((w0.toUInt64 >>> ((7 : Int32) &&& 0x3f).toInt64.toUInt64).toInt64)), .second] [(.int (7 : Int32)), (.long ((w0.toUInt64 >>> ((7 : Int32) &&& 0x3f).toInt64.toUInt64).toInt64))])) _
      refine XS.lushr X0.here hx rfl (hb hby d2_19) rfl ?_
      show Steps p.tables e below (s₁.setTop (mkF m 20 #[.val (.long w0), .second, .val (.int ((1 : Int32) + (1 : Int32))), .val (.long ((w0.toUInt64 >>> ((7 : Int32) &&& 0x3f).toInt64.toUInt64).toInt64)), .second] [(.long ((((w0.toUInt64 >>> ((7 : Int32) &&& 0x3f).toInt64.toUInt64).toInt64).toUInt64 >>> ((7 : Int32) &&& 0x3f).toInt64.toUInt64).toInt64))])) _
      refine XS.lstoreN X0.here hx rfl (hb hby d2_20) rfl (l' := #[.val (.long w0), .second, .val (.int ((1 : Int32) + (1 : Int32))), .val (.long ((((w0.toUInt64 >>> ((7 : Int32) &&& 0x3f).toInt64.toUInt64).toInt64).toUInt64 >>> ((7 : Int32) &&& 0x3f).toInt64.toUInt64).toInt64)), .second]) rfl ?_
      show Steps p.tables e below (s₁.setTop (mkF m 21 #[.val (.long w0), .second, .val (.int ((1 : Int32) + (1 : Int32))), .val (.long ((((w0.toUInt64 >>> ((7 : Int32) &&& 0x3f).toInt64.toUInt64).toInt64).toUInt64 >>> ((7 : Int32) &&& 0x3f).toInt64.toUInt64).toInt64)), .second] [])) _
      refine XS.goto X0.here hx rfl (pc0 := 21) (pc' := 7) rfl (hb hby d2_21) (by decide) (by decide) ?_
      show Steps p.tables e below (s₁.setTop (mkF m 7 #[.val (.long w0), .second, .val (.int ((1 : Int32) + (1 : Int32))), .val (.long ((((w0.toUInt64 >>> ((7 : Int32) &&& 0x3f).toInt64.toUInt64).toInt64).toUInt64 >>> ((7 : Int32) &&& 0x3f).toInt64.toUInt64).toInt64)), .second] [])) _
      refine XS.lloadN X0.here hx rfl (hb hby d2_7) rfl ?_
      show Steps p.tables e below (s₁.setTop (mkF m 8 #[.val (.long w0), .second, .val (.int ((1 : Int32) + (1 : Int32))), .val (.long ((((w0.toUInt64 >>> ((7 : Int32) &&& 0x3f).toInt64.toUInt64).toInt64).toUInt64 >>> ((7 : Int32) &&& 0x3f).toInt64.toUInt64).toInt64)), .second] [(.long ((((w0.toUInt64 >>> ((7 : Int32) &&& 0x3f).toInt64.toUInt64).toInt64).toUInt64 >>> ((7 : Int32) &&& 0x3f).toInt64.toUInt64).toInt64))])) _
      refine XS.lconst X0.here hx rfl (hb hby d2_8) ?_
      show Steps p.tables e below (s₁.setTop (mkF m 9 #[.val (.long w0), .second, .val (.int ((1 : Int32) + (1 : Int32))), .val (.long ((((w0.toUInt64 >>> ((7 : Int32) &&& 0x3f).toInt64.toUInt64).toInt64).toUInt64 >>> ((7 : Int32) &&& 0x3f).toInt64.toUInt64).toInt64)), .second] [(.long (0 : Int64)), (.long ((((w0.toUInt64 >>> ((7 : Int32) &&& 0x3f).toInt64.toUInt64).toInt64).toUInt64 >>> ((7 : Int32) &&& 0x3f).toInt64.toUInt64).toInt64))])) _
      refine XS.lcmp X0.here hx rfl (hb hby d2_9) rfl ?_
      exact k)
    by_cases hc10' : (lcmpW ((((w0.toUInt64 >>> ((7 : Int32) &&& 0x3f).toInt64.toUInt64).toInt64).toUInt64 >>> ((7 : Int32) &&& 0x3f).toInt64.toUInt64).toInt64) (0 : Int64)) = (0 : Int32)
    · -- pc 10: (lcmpW ((((w0.toUInt64 >>> ((7 : Int32) &&& 0x3f).toInt64.toUInt64).toInt64).toUInt64 >>> ((7 : Int32) &&& 0x3f).toInt64.toUInt64).toInt64) (0 : Int64)) = (0 : Int32)
      obtain ⟨fs, hr, hrun, hended, hW, hsame⟩ := X0.leave (v := (some (.int ((1 : Int32) + (1 : Int32))))) (fun h => by rw [Bd.returns] at h; cases h)
      refine ⟨_, _, pre2 _ ?_, hrun, hended, _, _, rfl, ?_, ⟨_, rfl⟩, hW, hsame.mono (by decide) (by decide)⟩
      · show Steps p.tables e below (s₁.setTop (mkF m 10 #[.val (.long w0), .second, .val (.int ((1 : Int32) + (1 : Int32))), .val (.long ((((w0.toUInt64 >>> ((7 : Int32) &&& 0x3f).toInt64.toUInt64).toInt64).toUInt64 >>> ((7 : Int32) &&& 0x3f).toInt64.toUInt64).toInt64)), .second] [(.int (lcmpW ((((w0.toUInt64 >>> ((7 : Int32) &&& 0x3f).toInt64.toUInt64).toInt64).toUInt64 >>> ((7 : Int32) &&& 0x3f).toInt64.toUInt64).toInt64) (0 : Int64)))])) _
        refine XS.ifYes X0.here hx rfl (pc0 := 10) (pc' := 24) rfl (hb hby d2_10) rfl ((if0 _ _).trans (teq hc10').1) (by decide) (by decide) ?_
        show Steps p.tables e below (s₁.setTop (mkF m 24 #[.val (.long w0), .second, .val (.int ((1 : Int32) + (1 : Int32))), .val (.long ((((w0.toUInt64 >>> ((7 : Int32) &&& 0x3f).toInt64.toUInt64).toInt64).toUInt64 >>> ((7 : Int32) &&& 0x3f).toInt64.toUInt64).toInt64)), .second] [])) _
        refine XS.iloadN X0.here hx rfl (hb hby d2_24) rfl ?_
        show Steps p.tables e below (s₁.setTop (mkF m 25 #[.val (.long w0), .second, .val (.int ((1 : Int32) + (1 : Int32))), .val (.long ((((w0.toUInt64 >>> ((7 : Int32) &&& 0x3f).toInt64.toUInt64).toInt64).toUInt64 >>> ((7 : Int32) &&& 0x3f).toInt64.toUInt64).toInt64)), .second] [(.int ((1 : Int32) + (1 : Int32)))])) _
        exact retI X0 hx Bd.returns (hb hby d2_25) hr
      · show QP (some (.int (f2 w0))) h0 n0 _ s₁.heap _
        rw [e0]
        exact ⟨congrArg (fun z => some (Value.int z)) (Eq.symm (show (f2 w0) = ((1 : Int32) + (1 : Int32)) from (if_neg hc10).trans ((if_pos hc10').trans (rfl)))), N0, rfl⟩
    · -- pc 10: not (lcmpW ((((w0.toUInt64 >>> ((7 : Int32) &&& 0x3f).toInt64.toUInt64).toInt64).toUInt64 >>> ((7 : Int32) &&& 0x3f).toInt64.toUInt64).toInt64) (0 : Int64)) = (0 : Int32)
      have pre3 : ∀ t, Steps p.tables e below (s₁.setTop (mkF m 10 #[.val (.long w0), .second, .val (.int (((1 : Int32) + (1 : Int32)) + (1 : Int32))), .val (.long ((((((w0.toUInt64 >>> ((7 : Int32) &&& 0x3f).toInt64.toUInt64).toInt64).toUInt64 >>> ((7 : Int32) &&& 0x3f).toInt64.toUInt64).toInt64).toUInt64 >>> ((7 : Int32) &&& 0x3f).toInt64.toUInt64).toInt64)), .second] [(.int (lcmpW ((((((w0.toUInt64 >>> ((7 : Int32) &&& 0x3f).toInt64.toUInt64).toInt64).toUInt64 >>> ((7 : Int32) &&& 0x3f).toInt64.toUInt64).toInt64).toUInt64 >>> ((7 : Int32) &&& 0x3f).toInt64.toUInt64).toInt64) (0 : Int64)))])) t → Steps p.tables e below (s₁.setTop (entryFrame m #[(.long w0)] 5)) t := fun t k => pre2 t (by
        show Steps p.tables e below (s₁.setTop (mkF m 10 #[.val (.long w0), .second, .val (.int ((1 : Int32) + (1 : Int32))), .val (.long ((((w0.toUInt64 >>> ((7 : Int32) &&& 0x3f).toInt64.toUInt64).toInt64).toUInt64 >>> ((7 : Int32) &&& 0x3f).toInt64.toUInt64).toInt64)), .second] [(.int (lcmpW ((((w0.toUInt64 >>> ((7 : Int32) &&& 0x3f).toInt64.toUInt64).toInt64).toUInt64 >>> ((7 : Int32) &&& 0x3f).toInt64.toUInt64).toInt64) (0 : Int64)))])) _
        refine XS.ifNo X0.here hx rfl (hb hby d2_10) rfl ((if0 _ _).trans (feq hc10').1) ?_
        show Steps p.tables e below (s₁.setTop (mkF m 13 #[.val (.long w0), .second, .val (.int ((1 : Int32) + (1 : Int32))), .val (.long ((((w0.toUInt64 >>> ((7 : Int32) &&& 0x3f).toInt64.toUInt64).toInt64).toUInt64 >>> ((7 : Int32) &&& 0x3f).toInt64.toUInt64).toInt64)), .second] [])) _
        refine XS.iinc X0.here hx rfl (hb hby d2_13) rfl (l' := #[.val (.long w0), .second, .val (.int (((1 : Int32) + (1 : Int32)) + (1 : Int32))), .val (.long ((((w0.toUInt64 >>> ((7 : Int32) &&& 0x3f).toInt64.toUInt64).toInt64).toUInt64 >>> ((7 : Int32) &&& 0x3f).toInt64.toUInt64).toInt64)), .second]) rfl ?_
        show Steps p.tables e below (s₁.setTop (mkF m 16 #[.val (.long w0), .second, .val (.int (((1 : Int32) + (1 : Int32)) + (1 : Int32))), .val (.long ((((w0.toUInt64 >>> ((7 : Int32) &&& 0x3f).toInt64.toUInt64).toInt64).toUInt64 >>> ((7 : Int32) &&& 0x3f).toInt64.toUInt64).toInt64)), .second] [])) _
        refine XS.lloadN X0.here hx rfl (hb hby d2_16) rfl ?_
        show Steps p.tables e below (s₁.setTop (mkF m 17 #[.val (.long w0), .second, .val (.int (((1 : Int32) + (1 : Int32)) + (1 : Int32))), .val (.long ((((w0.toUInt64 >>> ((7 : Int32) &&& 0x3f).toInt64.toUInt64).toInt64).toUInt64 >>> ((7 : Int32) &&& 0x3f).toInt64.toUInt64).toInt64)), .second] [(.long ((((w0.toUInt64 >>> ((7 : Int32) &&& 0x3f).toInt64.toUInt64).toInt64).toUInt64 >>> ((7 : Int32) &&& 0x3f).toInt64.toUInt64).toInt64))])) _
        refine XS.bipush X0.here hx rfl (hb hby d2_17) ?_
        show Steps p.tables e below (s₁.setTop (mkF m 19 #[.val (.long w0), .second, .val (.int (((1 : Int32) + (1 : Int32)) + (1 : Int32))), .val (.long ((((w0.toUInt64 >>> ((7 : Int32) &&& 0x3f).toInt64.toUInt64).toInt64).toUInt64 >>> ((7 : Int32) &&& 0x3f).toInt64.toUInt64).toInt64)), .second] [(.int (7 : Int32)), (.long ((((w0.toUInt64 >>> ((7 : Int32) &&& 0x3f).toInt64.toUInt64).toInt64).toUInt64 >>> ((7 : Int32) &&& 0x3f).toInt64.toUInt64).toInt64))])) _
        refine XS.lushr X0.here hx rfl (hb hby d2_19) rfl ?_
        show Steps p.tables e below (s₁.setTop (mkF m 20 #[.val (.long w0), .second, .val (.int (((1 : Int32) + (1 : Int32)) + (1 : Int32))), .val (.long ((((w0.toUInt64 >>> ((7 : Int32) &&& 0x3f).toInt64.toUInt64).toInt64).toUInt64 >>> ((7 : Int32) &&& 0x3f).toInt64.toUInt64).toInt64)), .second] [(.long ((((((w0.toUInt64 >>> ((7 : Int32) &&& 0x3f).toInt64.toUInt64).toInt64).toUInt64 >>> ((7 : Int32) &&& 0x3f).toInt64.toUInt64).toInt64).toUInt64 >>> ((7 : Int32) &&& 0x3f).toInt64.toUInt64).toInt64))])) _
        refine XS.lstoreN X0.here hx rfl (hb hby d2_20) rfl (l' := #[.val (.long w0), .second, .val (.int (((1 : Int32) + (1 : Int32)) + (1 : Int32))), .val (.long ((((((w0.toUInt64 >>> ((7 : Int32) &&& 0x3f).toInt64.toUInt64).toInt64).toUInt64 >>> ((7 : Int32) &&& 0x3f).toInt64.toUInt64).toInt64).toUInt64 >>> ((7 : Int32) &&& 0x3f).toInt64.toUInt64).toInt64)), .second]) rfl ?_
        show Steps p.tables e below (s₁.setTop (mkF m 21 #[.val (.long w0), .second, .val (.int (((1 : Int32) + (1 : Int32)) + (1 : Int32))), .val (.long ((((((w0.toUInt64 >>> ((7 : Int32) &&& 0x3f).toInt64.toUInt64).toInt64).toUInt64 >>> ((7 : Int32) &&& 0x3f).toInt64.toUInt64).toInt64).toUInt64 >>> ((7 : Int32) &&& 0x3f).toInt64.toUInt64).toInt64)), .second] [])) _
        refine XS.goto X0.here hx rfl (pc0 := 21) (pc' := 7) rfl (hb hby d2_21) (by decide) (by decide) ?_
        show Steps p.tables e below (s₁.setTop (mkF m 7 #[.val (.long w0), .second, .val (.int (((1 : Int32) + (1 : Int32)) + (1 : Int32))), .val (.long ((((((w0.toUInt64 >>> ((7 : Int32) &&& 0x3f).toInt64.toUInt64).toInt64).toUInt64 >>> ((7 : Int32) &&& 0x3f).toInt64.toUInt64).toInt64).toUInt64 >>> ((7 : Int32) &&& 0x3f).toInt64.toUInt64).toInt64)), .second] [])) _
        refine XS.lloadN X0.here hx rfl (hb hby d2_7) rfl ?_
        show Steps p.tables e below (s₁.setTop (mkF m 8 #[.val (.long w0), .second, .val (.int (((1 : Int32) + (1 : Int32)) + (1 : Int32))), .val (.long ((((((w0.toUInt64 >>> ((7 : Int32) &&& 0x3f).toInt64.toUInt64).toInt64).toUInt64 >>> ((7 : Int32) &&& 0x3f).toInt64.toUInt64).toInt64).toUInt64 >>> ((7 : Int32) &&& 0x3f).toInt64.toUInt64).toInt64)), .second] [(.long ((((((w0.toUInt64 >>> ((7 : Int32) &&& 0x3f).toInt64.toUInt64).toInt64).toUInt64 >>> ((7 : Int32) &&& 0x3f).toInt64.toUInt64).toInt64).toUInt64 >>> ((7 : Int32) &&& 0x3f).toInt64.toUInt64).toInt64))])) _
        refine XS.lconst X0.here hx rfl (hb hby d2_8) ?_
        show Steps p.tables e below (s₁.setTop (mkF m 9 #[.val (.long w0), .second, .val (.int (((1 : Int32) + (1 : Int32)) + (1 : Int32))), .val (.long ((((((w0.toUInt64 >>> ((7 : Int32) &&& 0x3f).toInt64.toUInt64).toInt64).toUInt64 >>> ((7 : Int32) &&& 0x3f).toInt64.toUInt64).toInt64).toUInt64 >>> ((7 : Int32) &&& 0x3f).toInt64.toUInt64).toInt64)), .second] [(.long (0 : Int64)), (.long ((((((w0.toUInt64 >>> ((7 : Int32) &&& 0x3f).toInt64.toUInt64).toInt64).toUInt64 >>> ((7 : Int32) &&& 0x3f).toInt64.toUInt64).toInt64).toUInt64 >>> ((7 : Int32) &&& 0x3f).toInt64.toUInt64).toInt64))])) _
        refine XS.lcmp X0.here hx rfl (hb hby d2_9) rfl ?_
        exact k)
      by_cases hc10'' : (lcmpW ((((((w0.toUInt64 >>> ((7 : Int32) &&& 0x3f).toInt64.toUInt64).toInt64).toUInt64 >>> ((7 : Int32) &&& 0x3f).toInt64.toUInt64).toInt64).toUInt64 >>> ((7 : Int32) &&& 0x3f).toInt64.toUInt64).toInt64) (0 : Int64)) = (0 : Int32)
      · -- pc 10: (lcmpW ((((((w0.toUInt64 >>> ((7 : Int32) &&& 0x3f).toInt64.toUInt64).toInt64).toUInt64 >>> ((7 : Int32) &&& 0x3f).toInt64.toUInt64).toInt64).toUInt64 >>> ((7 : Int32) &&& 0x3f).toInt64.toUInt64).toInt64) (0 : Int64)) = (0 : Int32)
        obtain ⟨fs, hr, hrun, hended, hW, hsame⟩ := X0.leave (v := (some (.int (((1 : Int32) + (1 : Int32)) + (1 : Int32))))) (fun h => by rw [Bd.returns] at h; cases h)
        refine ⟨_, _, pre3 _ ?_, hrun, hended, _, _, rfl, ?_, ⟨_, rfl⟩, hW, hsame.mono (by decide) (by decide)⟩
        · show Steps p.tables e below (s₁.setTop (mkF m 10 #[.val (.long w0), .second, .val (.int (((1 : Int32) + (1 : Int32)) + (1 : Int32))), .val (.long ((((((w0.toUInt64 >>> ((7 : Int32) &&& 0x3f).toInt64.toUInt64).toInt64).toUInt64 >>> ((7 : Int32) &&& 0x3f).toInt64.toUInt64).toInt64).toUInt64 >>> ((7 : Int32) &&& 0x3f).toInt64.toUInt64).toInt64)), .second] [(.int (lcmpW ((((((w0.toUInt64 >>> ((7 : Int32) &&& 0x3f).toInt64.toUInt64).toInt64).toUInt64 >>> ((7 : Int32) &&& 0x3f).toInt64.toUInt64).toInt64).toUInt64 >>> ((7 : Int32) &&& 0x3f).toInt64.toUInt64).toInt64) (0 : Int64)))])) _
          refine XS.ifYes X0.here hx rfl (pc0 := 10) (pc' := 24) rfl (hb hby d2_10) rfl ((if0 _ _).trans (teq hc10'').1) (by decide) (by decide) ?_
          show Steps p.tables e below (s₁.setTop (mkF m 24 #[.val (.long w0), .second, .val (.int (((1 : Int32) + (1 : Int32)) + (1 : Int32))), .val (.long ((((((w0.toUInt64 >>> ((7 : Int32) &&& 0x3f).toInt64.toUInt64).toInt64).toUInt64 >>> ((7 : Int32) &&& 0x3f).toInt64.toUInt64).toInt64).toUInt64 >>> ((7 : Int32) &&& 0x3f).toInt64.toUInt64).toInt64)), .second] [])) _
          refine XS.iloadN X0.here hx rfl (hb hby d2_24) rfl ?_
          show Steps p.tables e below (s₁.setTop (mkF m 25 #[.val (.long w0), .second, .val (.int (((1 : Int32) + (1 : Int32)) + (1 : Int32))), .val (.long ((((((w0.toUInt64 >>> ((7 : Int32) &&& 0x3f).toInt64.toUInt64).toInt64).toUInt64 >>> ((7 : Int32) &&& 0x3f).toInt64.toUInt64).toInt64).toUInt64 >>> ((7 : Int32) &&& 0x3f).toInt64.toUInt64).toInt64)), .second] [(.int (((1 : Int32) + (1 : Int32)) + (1 : Int32)))])) _
          exact retI X0 hx Bd.returns (hb hby d2_25) hr
        · show QP (some (.int (f2 w0))) h0 n0 _ s₁.heap _
          rw [e0]
          exact ⟨congrArg (fun z => some (Value.int z)) (Eq.symm (show (f2 w0) = (((1 : Int32) + (1 : Int32)) + (1 : Int32)) from (if_neg hc10).trans ((if_neg hc10').trans ((if_pos hc10'').trans (rfl))))), N0, rfl⟩
      · -- pc 10: not (lcmpW ((((((w0.toUInt64 >>> ((7 : Int32) &&& 0x3f).toInt64.toUInt64).toInt64).toUInt64 >>> ((7 : Int32) &&& 0x3f).toInt64.toUInt64).toInt64).toUInt64 >>> ((7 : Int32) &&& 0x3f).toInt64.toUInt64).toInt64) (0 : Int64)) = (0 : Int32)
        have pre4 : ∀ t, Steps p.tables e below (s₁.setTop (mkF m 10 #[.val (.long w0), .second, .val (.int ((((1 : Int32) + (1 : Int32)) + (1 : Int32)) + (1 : Int32))), .val (.long ((((((((w0.toUInt64 >>> ((7 : Int32) &&& 0x3f).toInt64.toUInt64).toInt64).toUInt64 >>> ((7 : Int32) &&& 0x3f).toInt64.toUInt64).toInt64).toUInt64 >>> ((7 : Int32) &&& 0x3f).toInt64.toUInt64).toInt64).toUInt64 >>> ((7 : Int32) &&& 0x3f).toInt64.toUInt64).toInt64)), .second] [(.int (lcmpW ((((((((w0.toUInt64 >>> ((7 : Int32) &&& 0x3f).toInt64.toUInt64).toInt64).toUInt64 >>> ((7 : Int32) &&& 0x3f).toInt64.toUInt64).toInt64).toUInt64 >>> ((7 : Int32) &&& 0x3f).toInt64.toUInt64).toInt64).toUInt64 >>> ((7 : Int32) &&& 0x3f).toInt64.toUInt64).toInt64) (0 : Int64)))])) t → Steps p.tables e below (s₁.setTop (entryFrame m #[(.long w0)] 5)) t := fun t k => pre3 t (by
          show Steps p.tables e below (s₁.setTop (mkF m 10 #[.val (.long w0), .second, .val (.int (((1 : Int32) + (1 : Int32)) + (1 : Int32))), .val (.long ((((((w0.toUInt64 >>> ((7 : Int32) &&& 0x3f).toInt64.toUInt64).toInt64).toUInt64 >>> ((7 : Int32) &&& 0x3f).toInt64.toUInt64).toInt64).toUInt64 >>> ((7 : Int32) &&& 0x3f).toInt64.toUInt64).toInt64)), .second] [(.int (lcmpW ((((((w0.toUInt64 >>> ((7 : Int32) &&& 0x3f).toInt64.toUInt64).toInt64).toUInt64 >>> ((7 : Int32) &&& 0x3f).toInt64.toUInt64).toInt64).toUInt64 >>> ((7 : Int32) &&& 0x3f).toInt64.toUInt64).toInt64) (0 : Int64)))])) _
          refine XS.ifNo X0.here hx rfl (hb hby d2_10) rfl ((if0 _ _).trans (feq hc10'').1) ?_
          show Steps p.tables e below (s₁.setTop (mkF m 13 #[.val (.long w0), .second, .val (.int (((1 : Int32) + (1 : Int32)) + (1 : Int32))), .val (.long ((((((w0.toUInt64 >>> ((7 : Int32) &&& 0x3f).toInt64.toUInt64).toInt64).toUInt64 >>> ((7 : Int32) &&& 0x3f).toInt64.toUInt64).toInt64).toUInt64 >>> ((7 : Int32) &&& 0x3f).toInt64.toUInt64).toInt64)), .second] [])) _
          refine XS.iinc X0.here hx rfl (hb hby d2_13) rfl (l' := #[.val (.long w0), .second, .val (.int ((((1 : Int32) + (1 : Int32)) + (1 : Int32)) + (1 : Int32))), .val (.long ((((((w0.toUInt64 >>> ((7 : Int32) &&& 0x3f).toInt64.toUInt64).toInt64).toUInt64 >>> ((7 : Int32) &&& 0x3f).toInt64.toUInt64).toInt64).toUInt64 >>> ((7 : Int32) &&& 0x3f).toInt64.toUInt64).toInt64)), .second]) rfl ?_
          show Steps p.tables e below (s₁.setTop (mkF m 16 #[.val (.long w0), .second, .val (.int ((((1 : Int32) + (1 : Int32)) + (1 : Int32)) + (1 : Int32))), .val (.long ((((((w0.toUInt64 >>> ((7 : Int32) &&& 0x3f).toInt64.toUInt64).toInt64).toUInt64 >>> ((7 : Int32) &&& 0x3f).toInt64.toUInt64).toInt64).toUInt64 >>> ((7 : Int32) &&& 0x3f).toInt64.toUInt64).toInt64)), .second] [])) _
          refine XS.lloadN X0.here hx rfl (hb hby d2_16) rfl ?_
          show Steps p.tables e below (s₁.setTop (mkF m 17 #[.val (.long w0), .second, .val (.int ((((1 : Int32) + (1 : Int32)) + (1 : Int32)) + (1 : Int32))), .val (.long ((((((w0.toUInt64 >>> ((7 : Int32) &&& 0x3f).toInt64.toUInt64).toInt64).toUInt64 >>> ((7 : Int32) &&& 0x3f).toInt64.toUInt64).toInt64).toUInt64 >>> ((7 : Int32) &&& 0x3f).toInt64.toUInt64).toInt64)), .second] [(.long ((((((w0.toUInt64 >>> ((7 : Int32) &&& 0x3f).toInt64.toUInt64).toInt64).toUInt64 >>> ((7 : Int32) &&& 0x3f).toInt64.toUInt64).toInt64).toUInt64 >>> ((7 : Int32) &&& 0x3f).toInt64.toUInt64).toInt64))])) _
          refine XS.bipush X0.here hx rfl (hb hby d2_17) ?_
          show Steps p.tables e below (s₁.setTop (mkF m 19 #[.val (.long w0), .second, .val (.int ((((1 : Int32) + (1 : Int32)) + (1 : Int32)) + (1 : Int32))), .val (.long ((((((w0.toUInt64 >>> ((7 : Int32) &&& 0x3f).toInt64.toUInt64).toInt64).toUInt64 >>> ((7 : Int32) &&& 0x3f).toInt64.toUInt64).toInt64).toUInt64 >>> ((7 : Int32) &&& 0x3f).toInt64.toUInt64).toInt64)), .second] [(.int (7 : Int32)), (.long ((((((w0.toUInt64 >>> ((7 : Int32) &&& 0x3f).toInt64.toUInt64).toInt64).toUInt64 >>> ((7 : Int32) &&& 0x3f).toInt64.toUInt64).toInt64).toUInt64 >>> ((7 : Int32) &&& 0x3f).toInt64.toUInt64).toInt64))])) _
          refine XS.lushr X0.here hx rfl (hb hby d2_19) rfl ?_
          show Steps p.tables e below (s₁.setTop (mkF m 20 #[.val (.long w0), .second, .val (.int ((((1 : Int32) + (1 : Int32)) + (1 : Int32)) + (1 : Int32))), .val (.long ((((((w0.toUInt64 >>> ((7 : Int32) &&& 0x3f).toInt64.toUInt64).toInt64).toUInt64 >>> ((7 : Int32) &&& 0x3f).toInt64.toUInt64).toInt64).toUInt64 >>> ((7 : Int32) &&& 0x3f).toInt64.toUInt64).toInt64)), .second] [(.long ((((((((w0.toUInt64 >>> ((7 : Int32) &&& 0x3f).toInt64.toUInt64).toInt64).toUInt64 >>> ((7 : Int32) &&& 0x3f).toInt64.toUInt64).toInt64).toUInt64 >>> ((7 : Int32) &&& 0x3f).toInt64.toUInt64).toInt64).toUInt64 >>> ((7 : Int32) &&& 0x3f).toInt64.toUInt64).toInt64))])) _
          refine XS.lstoreN X0.here hx rfl (hb hby d2_20) rfl (l' := #[.val (.long w0), .second, .val (.int ((((1 : Int32) + (1 : Int32)) + (1 : Int32)) + (1 : Int32))), .val (.long ((((((((w0.toUInt64 >>> ((7 : Int32) &&& 0x3f).toInt64.toUInt64).toInt64).toUInt64 >>> ((7 : Int32) &&& 0x3f).toInt64.toUInt64).toInt64).toUInt64 >>> ((7 : Int32) &&& 0x3f).toInt64.toUInt64).toInt64).toUInt64 >>> ((7 : Int32) &&& 0x3f).toInt64.toUInt64).toInt64)), .second]) rfl ?_
          show Steps p.tables e below (s₁.setTop (mkF m 21 #[.val (.long w0), .second, .val (.int ((((1 : Int32) + (1 : Int32)) + (1 : Int32)) + (1 : Int32))), .val (.long ((((((((w0.toUInt64 >>> ((7 : Int32) &&& 0x3f).toInt64.toUInt64).toInt64).toUInt64 >>> ((7 : Int32) &&& 0x3f).toInt64.toUInt64).toInt64).toUInt64 >>> ((7 : Int32) &&& 0x3f).toInt64.toUInt64).toInt64).toUInt64 >>> ((7 : Int32) &&& 0x3f).toInt64.toUInt64).toInt64)), .second] [])) _
          refine XS.goto X0.here hx rfl (pc0 := 21) (pc' := 7) rfl (hb hby d2_21) (by decide) (by decide) ?_
          show Steps p.tables e below (s₁.setTop (mkF m 7 #[.val (.long w0), .second, .val (.int ((((1 : Int32) + (1 : Int32)) + (1 : Int32)) + (1 : Int32))), .val (.long ((((((((w0.toUInt64 >>> ((7 : Int32) &&& 0x3f).toInt64.toUInt64).toInt64).toUInt64 >>> ((7 : Int32) &&& 0x3f).toInt64.toUInt64).toInt64).toUInt64 >>> ((7 : Int32) &&& 0x3f).toInt64.toUInt64).toInt64).toUInt64 >>> ((7 : Int32) &&& 0x3f).toInt64.toUInt64).toInt64)), .second] [])) _
          refine XS.lloadN X0.here hx rfl (hb hby d2_7) rfl ?_
          show Steps p.tables e below (s₁.setTop (mkF m 8 #[.val (.long w0), .second, .val (.int ((((1 : Int32) + (1 : Int32)) + (1 : Int32)) + (1 : Int32))), .val (.long ((((((((w0.toUInt64 >>> ((7 : Int32) &&& 0x3f).toInt64.toUInt64).toInt64).toUInt64 >>> ((7 : Int32) &&& 0x3f).toInt64.toUInt64).toInt64).toUInt64 >>> ((7 : Int32) &&& 0x3f).toInt64.toUInt64).toInt64).toUInt64 >>> ((7 : Int32) &&& 0x3f).toInt64.toUInt64).toInt64)), .second] [(.long ((((((((w0.toUInt64 >>> ((7 : Int32) &&& 0x3f).toInt64.toUInt64).toInt64).toUInt64 >>> ((7 : Int32) &&& 0x3f).toInt64.toUInt64).toInt64).toUInt64 >>> ((7 : Int32) &&& 0x3f).toInt64.toUInt64).toInt64).toUInt64 >>> ((7 : Int32) &&& 0x3f).toInt64.toUInt64).toInt64))])) _
          refine XS.lconst X0.here hx rfl (hb hby d2_8) ?_
          show Steps p.tables e below (s₁.setTop (mkF m 9 #[.val (.long w0), .second, .val (.int ((((1 : Int32) + (1 : Int32)) + (1 : Int32)) + (1 : Int32))), .val (.long ((((((((w0.toUInt64 >>> ((7 : Int32) &&& 0x3f).toInt64.toUInt64).toInt64).toUInt64 >>> ((7 : Int32) &&& 0x3f).toInt64.toUInt64).toInt64).toUInt64 >>> ((7 : Int32) &&& 0x3f).toInt64.toUInt64).toInt64).toUInt64 >>> ((7 : Int32) &&& 0x3f).toInt64.toUInt64).toInt64)), .second] [(.long (0 : Int64)), (.long ((((((((w0.toUInt64 >>> ((7 : Int32) &&& 0x3f).toInt64.toUInt64).toInt64).toUInt64 >>> ((7 : Int32) &&& 0x3f).toInt64.toUInt64).toInt64).toUInt64 >>> ((7 : Int32) &&& 0x3f).toInt64.toUInt64).toInt64).toUInt64 >>> ((7 : Int32) &&& 0x3f).toInt64.toUInt64).toInt64))])) _
          refine XS.lcmp X0.here hx rfl (hb hby d2_9) rfl ?_
          exact k)
        by_cases hc10''' : (lcmpW ((((((((w0.toUInt64 >>> ((7 : Int32) &&& 0x3f).toInt64.toUInt64).toInt64).toUInt64 >>> ((7 : Int32) &&& 0x3f).toInt64.toUInt64).toInt64).toUInt64 >>> ((7 : Int32) &&& 0x3f).toInt64.toUInt64).toInt64).toUInt64 >>> ((7 : Int32) &&& 0x3f).toInt64.toUInt64).toInt64) (0 : Int64)) = (0 : Int32)
        · -- pc 10: (lcmpW ((((((((w0.toUInt64 >>> ((7 : Int32) &&& 0x3f).toInt64.toUInt64).toInt64).toUInt64 >>> ((7 : Int32) &&& 0x3f).toInt64.toUInt64).toInt64).toUInt64 >>> ((7 : Int32) &&& 0x3f).toInt64.toUInt64).toInt64).toUInt64 >>> ((7 : Int32) &&& 0x3f).toInt64.toUInt64).toInt64) (0 : Int64)) = (0 : Int32)
          obtain ⟨fs, hr, hrun, hended, hW, hsame⟩ := X0.leave (v := (some (.int ((((1 : Int32) + (1 : Int32)) + (1 : Int32)) + (1 : Int32))))) (fun h => by rw [Bd.returns] at h; cases h)
          refine ⟨_, _, pre4 _ ?_, hrun, hended, _, _, rfl, ?_, ⟨_, rfl⟩, hW, hsame.mono (by decide) (by decide)⟩
          · show Steps p.tables e below (s₁.setTop (mkF m 10 #[.val (.long w0), .second, .val (.int ((((1 : Int32) + (1 : Int32)) + (1 : Int32)) + (1 : Int32))), .val (.long ((((((((w0.toUInt64 >>> ((7 : Int32) &&& 0x3f).toInt64.toUInt64).toInt64).toUInt64 >>> ((7 : Int32) &&& 0x3f).toInt64.toUInt64).toInt64).toUInt64 >>> ((7 : Int32) &&& 0x3f).toInt64.toUInt64).toInt64).toUInt64 >>> ((7 : Int32) &&& 0x3f).toInt64.toUInt64).toInt64)), .second] [(.int (lcmpW ((((((((w0.toUInt64 >>> ((7 : Int32) &&& 0x3f).toInt64.toUInt64).toInt64).toUInt64 >>> ((7 : Int32) &&& 0x3f).toInt64.toUInt64).toInt64).toUInt64 >>> ((7 : Int32) &&& 0x3f).toInt64.toUInt64).toInt64).toUInt64 >>> ((7 : Int32) &&& 0x3f).toInt64.toUInt64).toInt64) (0 : Int64)))])) _
            refine XS.ifYes X0.here hx rfl (pc0 := 10) (pc' := 24) rfl (hb hby d2_10) rfl ((if0 _ _).trans (teq hc10''').1) (by decide) (by decide) ?_
            show Steps p.tables e below (s₁.setTop (mkF m 24 #[.val (.long w0), .second, .val (.int ((((1 : Int32) + (1 : Int32)) + (1 : Int32)) + (1 : Int32))), .val (.long ((((((((w0.toUInt64 >>> ((7 : Int32) &&& 0x3f).toInt64.toUInt64).toInt64).toUInt64 >>> ((7 : Int32) &&& 0x3f).toInt64.toUInt64).toInt64).toUInt64 >>> ((7 : Int32) &&& 0x3f).toInt64.toUInt64).toInt64).toUInt64 >>> ((7 : Int32) &&& 0x3f).toInt64.toUInt64).toInt64)), .second] [])) _
            refine XS.iloadN X0.here hx rfl (hb hby d2_24) rfl ?_
            show Steps p.tables e below (s₁.setTop (mkF m 25 #[.val (.long w0), .second, .val (.int ((((1 : Int32) + (1 : Int32)) + (1 : Int32)) + (1 : Int32))), .val (.long ((((((((w0.toUInt64 >>> ((7 : Int32) &&& 0x3f).toInt64.toUInt64).toInt64).toUInt64 >>> ((7 : Int32) &&& 0x3f).toInt64.toUInt64).toInt64).toUInt64 >>> ((7 : Int32) &&& 0x3f).toInt64.toUInt64).toInt64).toUInt64 >>> ((7 : Int32) &&& 0x3f).toInt64.toUInt64).toInt64)), .second] [(.int ((((1 : Int32) + (1 : Int32)) + (1 : Int32)) + (1 : Int32)))])) _
            exact retI X0 hx Bd.returns (hb hby d2_25) hr
          · show QP (some (.int (f2 w0))) h0 n0 _ s₁.heap _
            rw [e0]
            exact ⟨congrArg (fun z => some (Value.int z)) (Eq.symm (show (f2 w0) = ((((1 : Int32) + (1 : Int32)) + (1 : Int32)) + (1 : Int32)) from (if_neg hc10).trans ((if_neg hc10').trans ((if_neg hc10'').trans ((if_pos hc10''').trans (rfl)))))), N0, rfl⟩
        · -- pc 10: not (lcmpW ((((((((w0.toUInt64 >>> ((7 : Int32) &&& 0x3f).toInt64.toUInt64).toInt64).toUInt64 >>> ((7 : Int32) &&& 0x3f).toInt64.toUInt64).toInt64).toUInt64 >>> ((7 : Int32) &&& 0x3f).toInt64.toUInt64).toInt64).toUInt64 >>> ((7 : Int32) &&& 0x3f).toInt64.toUInt64).toInt64) (0 : Int64)) = (0 : Int32)
          have pre5 : ∀ t, Steps p.tables e below (s₁.setTop (mkF m 10 #[.val (.long w0), .second, .val (.int (((((1 : Int32) + (1 : Int32)) + (1 : Int32)) + (1 : Int32)) + (1 : Int32))), .val (.long ((((((((((w0.toUInt64 >>> ((7 : Int32) &&& 0x3f).toInt64.toUInt64).toInt64).toUInt64 >>> ((7 : Int32) &&& 0x3f).toInt64.toUInt64).toInt64).toUInt64 >>> ((7 : Int32) &&& 0x3f).toInt64.toUInt64).toInt64).toUInt64 >>> ((7 : Int32) &&& 0x3f).toInt64.toUInt64).toInt64).toUInt64 >>> ((7 : Int32) &&& 0x3f).toInt64.toUInt64).toInt64)), .second] [(.int (lcmpW ((((((((((w0.toUInt64 >>> ((7 : Int32) &&& 0x3f).toInt64.toUInt64).toInt64).toUInt64 >>> ((7 : Int32) &&& 0x3f).toInt64.toUInt64).toInt64).toUInt64 >>> ((7 : Int32) &&& 0x3f).toInt64.toUInt64).toInt64).toUInt64 >>> ((7 : Int32) &&& 0x3f).toInt64.toUInt64).toInt64).toUInt64 >>> ((7 : Int32) &&& 0x3f).toInt64.toUInt64).toInt64) (0 : Int64)))])) t → Steps p.tables e below (s₁.setTop (entryFrame m #[(.long w0)] 5)) t := fun t k => pre4 t (by
            show Steps p.tables e below (s₁.setTop (mkF m 10 #[.val (.long w0), .second, .val (.int ((((1 : Int32) + (1 : Int32)) + (1 : Int32)) + (1 : Int32))), .val (.long ((((((((w0.toUInt64 >>> ((7 : Int32) &&& 0x3f).toInt64.toUInt64).toInt64).toUInt64 >>> ((7 : Int32) &&& 0x3f).toInt64.toUInt64).toInt64).toUInt64 >>> ((7 : Int32) &&& 0x3f).toInt64.toUInt64).toInt64).toUInt64 >>> ((7 : Int32) &&& 0x3f).toInt64.toUInt64).toInt64)), .second] [(.int (lcmpW ((((((((w0.toUInt64 >>> ((7 : Int32) &&& 0x3f).toInt64.toUInt64).toInt64).toUInt64 >>> ((7 : Int32) &&& 0x3f).toInt64.toUInt64).toInt64).toUInt64 >>> ((7 : Int32) &&& 0x3f).toInt64.toUInt64).toInt64).toUInt64 >>> ((7 : Int32) &&& 0x3f).toInt64.toUInt64).toInt64) (0 : Int64)))])) _
            refine XS.ifNo X0.here hx rfl (hb hby d2_10) rfl ((if0 _ _).trans (feq hc10''').1) ?_
            show Steps p.tables e below (s₁.setTop (mkF m 13 #[.val (.long w0), .second, .val (.int ((((1 : Int32) + (1 : Int32)) + (1 : Int32)) + (1 : Int32))), .val (.long ((((((((w0.toUInt64 >>> ((7 : Int32) &&& 0x3f).toInt64.toUInt64).toInt64).toUInt64 >>> ((7 : Int32) &&& 0x3f).toInt64.toUInt64).toInt64).toUInt64 >>> ((7 : Int32) &&& 0x3f).toInt64.toUInt64).toInt64).toUInt64 >>> ((7 : Int32) &&& 0x3f).toInt64.toUInt64).toInt64)), .second] [])) _
            refine XS.iinc X0.here hx rfl (hb hby d2_13) rfl (l' := #[.val (.long w0), .second, .val (.int (((((1 : Int32) + (1 : Int32)) + (1 : Int32)) + (1 : Int32)) + (1 : Int32))), .val (.long ((((((((w0.toUInt64 >>> ((7 : Int32) &&& 0x3f).toInt64.toUInt64).toInt64).toUInt64 >>> ((7 : Int32) &&& 0x3f).toInt64.toUInt64).toInt64).toUInt64 >>> ((7 : Int32) &&& 0x3f).toInt64.toUInt64).toInt64).toUInt64 >>> ((7 : Int32) &&& 0x3f).toInt64.toUInt64).toInt64)), .second]) rfl ?_
            show Steps p.tables e below (s₁.setTop (mkF m 16 #[.val (.long w0), .second, .val (.int (((((1 : Int32) + (1 : Int32)) + (1 : Int32)) + (1 : Int32)) + (1 : Int32))), .val (.long ((((((((w0.toUInt64 >>> ((7 : Int32) &&& 0x3f).toInt64.toUInt64).toInt64).toUInt64 >>> ((7 : Int32) &&& 0x3f).toInt64.toUInt64).toInt64).toUInt64 >>> ((7 : Int32) &&& 0x3f).toInt64.toUInt64).toInt64).toUInt64 >>> ((7 : Int32) &&& 0x3f).toInt64.toUInt64).toInt64)), .second] [])) _
            refine XS.lloadN X0.here hx rfl (hb hby d2_16) rfl ?_
            show Steps p.tables e below (s₁.setTop (mkF m 17 #[.val (.long w0), .second, .val (.int (((((1 : Int32) + (1 : Int32)) + (1 : Int32)) + (1 : Int32)) + (1 : Int32))), .val (.long ((((((((w0.toUInt64 >>> ((7 : Int32) &&& 0x3f).toInt64.toUInt64).toInt64).toUInt64 >>> ((7 : Int32) &&& 0x3f).toInt64.toUInt64).toInt64).toUInt64 >>> ((7 : Int32) &&& 0x3f).toInt64.toUInt64).toInt64).toUInt64 >>> ((7 : Int32) &&& 0x3f).toInt64.toUInt64).toInt64)), .second] [(.long ((((((((w0.toUInt64 >>> ((7 : Int32) &&& 0x3f).toInt64.toUInt64).toInt64).toUInt64 >>> ((7 : Int32) &&& 0x3f).toInt64.toUInt64).toInt64).toUInt64 >>> ((7 : Int32) &&& 0x3f).toInt64.toUInt64).toInt64).toUInt64 >>> ((7 : Int32) &&& 0x3f).toInt64.toUInt64).toInt64))])) _
            refine XS.bipush X0.here hx rfl (hb hby d2_17) ?_
            show Steps p.tables e below (s₁.setTop (mkF m 19 #[.val (.long w0), .second, .val (.int (((((1 : Int32) + (1 : Int32)) + (1 : Int32)) + (1 : Int32)) + (1 : Int32))), .val (.long ((((((((w0.toUInt64 >>> ((7 : Int32) &&& 0x3f).toInt64.toUInt64).toInt64).toUInt64 >>> ((7 : Int32) &&& 0x3f).toInt64.toUInt64).toInt64).toUInt64 >>> ((7 : Int32) &&& 0x3f).toInt64.toUInt64).toInt64).toUInt64 >>> ((7 : Int32) &&& 0x3f).toInt64.toUInt64).toInt64)), .second] [(.int (7 : Int32)), (.long ((((((((w0.toUInt64 >>> ((7 : Int32) &&& 0x3f).toInt64.toUInt64).toInt64).toUInt64 >>> ((7 : Int32) &&& 0x3f).toInt64.toUInt64).toInt64).toUInt64 >>> ((7 : Int32) &&& 0x3f).toInt64.toUInt64).toInt64).toUInt64 >>> ((7 : Int32) &&& 0x3f).toInt64.toUInt64).toInt64))])) _
            refine XS.lushr X0.here hx rfl (hb hby d2_19) rfl ?_
            show Steps p.tables e below (s₁.setTop (mkF m 20 #[.val (.long w0), .second, .val (.int (((((1 : Int32) + (1 : Int32)) + (1 : Int32)) + (1 : Int32)) + (1 : Int32))), .val (.long ((((((((w0.toUInt64 >>> ((7 : Int32) &&& 0x3f).toInt64.toUInt64).toInt64).toUInt64 >>> ((7 : Int32) &&& 0x3f).toInt64.toUInt64).toInt64).toUInt64 >>> ((7 : Int32) &&& 0x3f).toInt64.toUInt64).toInt64).toUInt64 >>> ((7 : Int32) &&& 0x3f).toInt64.toUInt64).toInt64)), .second] [(.long ((((((((((w0.toUInt64 >>> ((7 : Int32) &&& 0x3f).toInt64.toUInt64).toInt64).toUInt64 >>> ((7 : Int32) &&& 0x3f).toInt64.toUInt64).toInt64).toUInt64 >>> ((7 : Int32) &&& 0x3f).toInt64.toUInt64).toInt64).toUInt64 >>> ((7 : Int32) &&& 0x3f).toInt64.toUInt64).toInt64).toUInt64 >>> ((7 : Int32) &&& 0x3f).toInt64.toUInt64).toInt64))])) _
            refine XS.lstoreN X0.here hx rfl (hb hby d2_20) rfl (l' := #[.val (.long w0), .second, .val (.int (((((1 : Int32) + (1 : Int32)) + (1 : Int32)) + (1 : Int32)) + (1 : Int32))), .val (.long ((((((((((w0.toUInt64 >>> ((7 : Int32) &&& 0x3f).toInt64.toUInt64).toInt64).toUInt64 >>> ((7 : Int32) &&& 0x3f).toInt64.toUInt64).toInt64).toUInt64 >>> ((7 : Int32) &&& 0x3f).toInt64.toUInt64).toInt64).toUInt64 >>> ((7 : Int32) &&& 0x3f).toInt64.toUInt64).toInt64).toUInt64 >>> ((7 : Int32) &&& 0x3f).toInt64.toUInt64).toInt64)), .second]) rfl ?_
            show Steps p.tables e below (s₁.setTop (mkF m 21 #[.val (.long w0), .second, .val (.int (((((1 : Int32) + (1 : Int32)) + (1 : Int32)) + (1 : Int32)) + (1 : Int32))), .val (.long ((((((((((w0.toUInt64 >>> ((7 : Int32) &&& 0x3f).toInt64.toUInt64).toInt64).toUInt64 >>> ((7 : Int32) &&& 0x3f).toInt64.toUInt64).toInt64).toUInt64 >>> ((7 : Int32) &&& 0x3f).toInt64.toUInt64).toInt64).toUInt64 >>> ((7 : Int32) &&& 0x3f).toInt64.toUInt64).toInt64).toUInt64 >>> ((7 : Int32) &&& 0x3f).toInt64.toUInt64).toInt64)), .second] [])) _
            refine XS.goto X0.here hx rfl (pc0 := 21) (pc' := 7) rfl (hb hby d2_21) (by decide) (by decide) ?_
            show Steps p.tables e below (s₁.setTop (mkF m 7 #[.val (.long w0), .second, .val (.int (((((1 : Int32) + (1 : Int32)) + (1 : Int32)) + (1 : Int32)) + (1 : Int32))), .val (.long ((((((((((w0.toUInt64 >>> ((7 : Int32) &&& 0x3f).toInt64.toUInt64).toInt64).toUInt64 >>> ((7 : Int32) &&& 0x3f).toInt64.toUInt64).toInt64).toUInt64 >>> ((7 : Int32) &&& 0x3f).toInt64.toUInt64).toInt64).toUInt64 >>> ((7 : Int32) &&& 0x3f).toInt64.toUInt64).toInt64).toUInt64 >>> ((7 : Int32) &&& 0x3f).toInt64.toUInt64).toInt64)), .second] [])) _
            refine XS.lloadN X0.here hx rfl (hb hby d2_7) rfl ?_
            show Steps p.tables e below (s₁.setTop (mkF m 8 #[.val (.long w0), .second, .val (.int (((((1 : Int32) + (1 : Int32)) + (1 : Int32)) + (1 : Int32)) + (1 : Int32))), .val (.long ((((((((((w0.toUInt64 >>> ((7 : Int32) &&& 0x3f).toInt64.toUInt64).toInt64).toUInt64 >>> ((7 : Int32) &&& 0x3f).toInt64.toUInt64).toInt64).toUInt64 >>> ((7 : Int32) &&& 0x3f).toInt64.toUInt64).toInt64).toUInt64 >>> ((7 : Int32) &&& 0x3f).toInt64.toUInt64).toInt64).toUInt64 >>> ((7 : Int32) &&& 0x3f).toInt64.toUInt64).toInt64)), .second] [(.long ((((((((((w0.toUInt64 >>> ((7 : Int32) &&& 0x3f).toInt64.toUInt64).toInt64).toUInt64 >>> ((7 : Int32) &&& 0x3f).toInt64.toUInt64).toInt64).toUInt64 >>> ((7 : Int32) &&& 0x3f).toInt64.toUInt64).toInt64).toUInt64 >>> ((7 : Int32) &&& 0x3f).toInt64.toUInt64).toInt64).toUInt64 >>> ((7 : Int32) &&& 0x3f).toInt64.toUInt64).toInt64))])) _
            refine XS.lconst X0.here hx rfl (hb hby d2_8) ?_
            show Steps p.tables e below (s₁.setTop (mkF m 9 #[.val (.long w0), .second, .val (.int (((((1 : Int32) + (1 : Int32)) + (1 : Int32)) + (1 : Int32)) + (1 : Int32))), .val (.long ((((((((((w0.toUInt64 >>> ((7 : Int32) &&& 0x3f).toInt64.toUInt64).toInt64).toUInt64 >>> ((7 : Int32) &&& 0x3f).toInt64.toUInt64).toInt64).toUInt64 >>> ((7 : Int32) &&& 0x3f).toInt64.toUInt64).toInt64).toUInt64 >>> ((7 : Int32) &&& 0x3f).toInt64.toUInt64).toInt64).toUInt64 >>> ((7 : Int32) &&& 0x3f).toInt64.toUInt64).toInt64)), .second] [(.long (0 : Int64)), (.long ((((((((((w0.toUInt64 >>> ((7 : Int32) &&& 0x3f).toInt64.toUInt64).toInt64).toUInt64 >>> ((7 : Int32) &&& 0x3f).toInt64.toUInt64).toInt64).toUInt64 >>> ((7 : Int32) &&& 0x3f).toInt64.toUInt64).toInt64).toUInt64 >>> ((7 : Int32) &&& 0x3f).toInt64.toUInt64).toInt64).toUInt64 >>> ((7 : Int32) &&& 0x3f).toInt64.toUInt64).toInt64))])) _
            refine XS.lcmp X0.here hx rfl (hb hby d2_9) rfl ?_
            exact k)
          by_cases hc10'''' : (lcmpW ((((((((((w0.toUInt64 >>> ((7 : Int32) &&& 0x3f).toInt64.toUInt64).toInt64).toUInt64 >>> ((7 : Int32) &&& 0x3f).toInt64.toUInt64).toInt64).toUInt64 >>> ((7 : Int32) &&& 0x3f).toInt64.toUInt64).toInt64).toUInt64 >>> ((7 : Int32) &&& 0x3f).toInt64.toUInt64).toInt64).toUInt64 >>> ((7 : Int32) &&& 0x3f).toInt64.toUInt64).toInt64) (0 : Int64)) = (0 : Int32)
          · -- pc 10: (lcmpW ((((((((((w0.toUInt64 >>> ((7 : Int32) &&& 0x3f).toInt64.toUInt64).toInt64).toUInt64 >>> ((7 : Int32) &&& 0x3f).toInt64.toUInt64).toInt64).toUInt64 >>> ((7 : Int32) &&& 0x3f).toInt64.toUInt64).toInt64).toUInt64 >>> ((7 : Int32) &&& 0x3f).toInt64.toUInt64).toInt64).toUInt64 >>> ((7 : Int32) &&& 0x3f).toInt64.toUInt64).toInt64) (0 : Int64)) = (0 : Int32)
            obtain ⟨fs, hr, hrun, hended, hW, hsame⟩ := X0.leave (v := (some (.int (((((1 : Int32) + (1 : Int32)) + (1 : Int32)) + (1 : Int32)) + (1 : Int32))))) (fun h => by rw [Bd.returns] at h; cases h)
            refine ⟨_, _, pre5 _ ?_, hrun, hended, _, _, rfl, ?_, ⟨_, rfl⟩, hW, hsame.mono (by decide) (by decide)⟩
            · show Steps p.tables e below (s₁.setTop (mkF m 10 #[.val (.long w0), .second, .val (.int (((((1 : Int32) + (1 : Int32)) + (1 : Int32)) + (1 : Int32)) + (1 : Int32))), .val (.long ((((((((((w0.toUInt64 >>> ((7 : Int32) &&& 0x3f).toInt64.toUInt64).toInt64).toUInt64 >>> ((7 : Int32) &&& 0x3f).toInt64.toUInt64).toInt64).toUInt64 >>> ((7 : Int32) &&& 0x3f).toInt64.toUInt64).toInt64).toUInt64 >>> ((7 : Int32) &&& 0x3f).toInt64.toUInt64).toInt64).toUInt64 >>> ((7 : Int32) &&& 0x3f).toInt64.toUInt64).toInt64)), .second] [(.int (lcmpW ((((((((((w0.toUInt64 >>> ((7 : Int32) &&& 0x3f).toInt64.toUInt64).toInt64).toUInt64 >>> ((7 : Int32) &&& 0x3f).toInt64.toUInt64).toInt64).toUInt64 >>> ((7 : Int32) &&& 0x3f).toInt64.toUInt64).toInt64).toUInt64 >>> ((7 : Int32) &&& 0x3f).toInt64.toUInt64).toInt64).toUInt64 >>> ((7 : Int32) &&& 0x3f).toInt64.toUInt64).toInt64) (0 : Int64)))])) _
              refine XS.ifYes X0.here hx rfl (pc0 := 10) (pc' := 24) rfl (hb hby d2_10) rfl ((if0 _ _).trans (teq hc10'''').1) (by decide) (by decide) ?_
              show Steps p.tables e below (s₁.setTop (mkF m 24 #[.val (.long w0), .second, .val (.int (((((1 : Int32) + (1 : Int32)) + (1 : Int32)) + (1 : Int32)) + (1 : Int32))), .val (.long ((((((((((w0.toUInt64 >>> ((7 : Int32) &&& 0x3f).toInt64.toUInt64).toInt64).toUInt64 >>> ((7 : Int32) &&& 0x3f).toInt64.toUInt64).toInt64).toUInt64 >>> ((7 : Int32) &&& 0x3f).toInt64.toUInt64).toInt64).toUInt64 >>> ((7 : Int32) &&& 0x3f).toInt64.toUInt64).toInt64).toUInt64 >>> ((7 : Int32) &&& 0x3f).toInt64.toUInt64).toInt64)), .second] [])) _
              refine XS.iloadN X0.here hx rfl (hb hby d2_24) rfl ?_
              show Steps p.tables e below (s₁.setTop (mkF m 25 #[.val (.long w0), .second, .val (.int (((((1 : Int32) + (1 : Int32)) + (1 : Int32)) + (1 : Int32)) + (1 : Int32))), .val (.long ((((((((((w0.toUInt64 >>> ((7 : Int32) &&& 0x3f).toInt64.toUInt64).toInt64).toUInt64 >>> ((7 : Int32) &&& 0x3f).toInt64.toUInt64).toInt64).toUInt64 >>> ((7 : Int32) &&& 0x3f).toInt64.toUInt64).toInt64).toUInt64 >>> ((7 : Int32) &&& 0x3f).toInt64.toUInt64).toInt64).toUInt64 >>> ((7 : Int32) &&& 0x3f).toInt64.toUInt64).toInt64)), .second] [(.int (((((1 : Int32) + (1 : Int32)) + (1 : Int32)) + (1 : Int32)) + (1 : Int32)))])) _
              exact retI X0 hx Bd.returns (hb hby d2_25) hr
            · show QP (some (.int (f2 w0))) h0 n0 _ s₁.heap _
              rw [e0]
              exact ⟨congrArg (fun z => some (Value.int z)) (Eq.symm (show (f2 w0) = (((((1 : Int32) + (1 : Int32)) + (1 : Int32)) + (1 : Int32)) + (1 : Int32)) from (if_neg hc10).trans ((if_neg hc10').trans ((if_neg hc10'').trans ((if_neg hc10''').trans ((if_pos hc10'''').trans (rfl))))))), N0, rfl⟩
          · -- pc 10: not (lcmpW ((((((((((w0.toUInt64 >>> ((7 : Int32) &&& 0x3f).toInt64.toUInt64).toInt64).toUInt64 >>> ((7 : Int32) &&& 0x3f).toInt64.toUInt64).toInt64).toUInt64 >>> ((7 : Int32) &&& 0x3f).toInt64.toUInt64).toInt64).toUInt64 >>> ((7 : Int32) &&& 0x3f).toInt64.toUInt64).toInt64).toUInt64 >>> ((7 : Int32) &&& 0x3f).toInt64.toUInt64).toInt64) (0 : Int64)) = (0 : Int32)
            have pre6 : ∀ t, Steps p.tables e below (s₁.setTop (mkF m 10 #[.val (.long w0), .second, .val (.int ((((((1 : Int32) + (1 : Int32)) + (1 : Int32)) + (1 : Int32)) + (1 : Int32)) + (1 : Int32))), .val (.long ((((((((((((w0.toUInt64 >>> ((7 : Int32) &&& 0x3f).toInt64.toUInt64).toInt64).toUInt64 >>> ((7 : Int32) &&& 0x3f).toInt64.toUInt64).toInt64).toUInt64 >>> ((7 : Int32) &&& 0x3f).toInt64.toUInt64).toInt64).toUInt64 >>> ((7 : Int32) &&& 0x3f).toInt64.toUInt64).toInt64).toUInt64 >>> ((7 : Int32) &&& 0x3f).toInt64.toUInt64).toInt64).toUInt64 >>> ((7 : Int32) &&& 0x3f).toInt64.toUInt64).toInt64)), .second] [(.int (lcmpW ((((((((((((w0.toUInt64 >>> ((7 : Int32) &&& 0x3f).toInt64.toUInt64).toInt64).toUInt64 >>> ((7 : Int32) &&& 0x3f).toInt64.toUInt64).toInt64).toUInt64 >>> ((7 : Int32) &&& 0x3f).toInt64.toUInt64).toInt64).toUInt64 >>> ((7 : Int32) &&& 0x3f).toInt64.toUInt64).toInt64).toUInt64 >>> ((7 : Int32) &&& 0x3f).toInt64.toUInt64).toInt64).toUInt64 >>> ((7 : Int32) &&& 0x3f).toInt64.toUInt64).toInt64) (0 : Int64)))])) t → Steps p.tables e below (s₁.setTop (entryFrame m #[(.long w0)] 5)) t := fun t k => pre5 t (by
              show Steps p.tables e below (s₁.setTop (mkF m 10 #[.val (.long w0), .second, .val (.int (((((1 : Int32) + (1 : Int32)) + (1 : Int32)) + (1 : Int32)) + (1 : Int32))), .val (.long ((((((((((w0.toUInt64 >>> ((7 : Int32) &&& 0x3f).toInt64.toUInt64).toInt64).toUInt64 >>> ((7 : Int32) &&& 0x3f).toInt64.toUInt64).toInt64).toUInt64 >>> ((7 : Int32) &&& 0x3f).toInt64.toUInt64).toInt64).toUInt64 >>> ((7 : Int32) &&& 0x3f).toInt64.toUInt64).toInt64).toUInt64 >>> ((7 : Int32) &&& 0x3f).toInt64.toUInt64).toInt64)), .second] [(.int (lcmpW ((((((((((w0.toUInt64 >>> ((7 : Int32) &&& 0x3f).toInt64.toUInt64).toInt64).toUInt64 >>> ((7 : Int32) &&& 0x3f).toInt64.toUInt64).toInt64).toUInt64 >>> ((7 : Int32) &&& 0x3f).toInt64.toUInt64).toInt64).toUInt64 >>> ((7 : Int32) &&& 0x3f).toInt64.toUInt64).toInt64).toUInt64 >>> ((7 : Int32) &&& 0x3f).toInt64.toUInt64).toInt64) (0 : Int64)))])) _
              refine XS.ifNo X0.here hx rfl (hb hby d2_10) rfl ((if0 _ _).trans (feq hc10'''').1) ?_
              show Steps p.tables e below (s₁.setTop (mkF m 13 #[.val (.long w0), .second, .val (.int (((((1 : Int32) + (1 : Int32)) + (1 : Int32)) + (1 : Int32)) + (1 : Int32))), .val (.long ((((((((((w0.toUInt64 >>> ((7 : Int32) &&& 0x3f).toInt64.toUInt64).toInt64).toUInt64 >>> ((7 : Int32) &&& 0x3f).toInt64.toUInt64).toInt64).toUInt64 >>> ((7 : Int32) &&& 0x3f).toInt64.toUInt64).toInt64).toUInt64 >>> ((7 : Int32) &&& 0x3f).toInt64.toUInt64).toInt64).toUInt64 >>> ((7 : Int32) &&& 0x3f).toInt64.toUInt64).toInt64)), .second] [])) _
              refine XS.iinc X0.here hx rfl (hb hby d2_13) rfl (l' := #[.val (.long w0), .second, .val (.int ((((((1 : Int32) + (1 : Int32)) + (1 : Int32)) + (1 : Int32)) + (1 : Int32)) + (1 : Int32))), .val (.long ((((((((((w0.toUInt64 >>> ((7 : Int32) &&& 0x3f).toInt64.toUInt64).toInt64).toUInt64 >>> ((7 : Int32) &&& 0x3f).toInt64.toUInt64).toInt64).toUInt64 >>> ((7 : Int32) &&& 0x3f).toInt64.toUInt64).toInt64).toUInt64 >>> ((7 : Int32) &&& 0x3f).toInt64.toUInt64).toInt64).toUInt64 >>> ((7 : Int32) &&& 0x3f).toInt64.toUInt64).toInt64)), .second]) rfl ?_
              show Steps p.tables e below (s₁.setTop (mkF m 16 #[.val (.long w0), .second, .val (.int ((((((1 : Int32) + (1 : Int32)) + (1 : Int32)) + (1 : Int32)) + (1 : Int32)) + (1 : Int32))), .val (.long ((((((((((w0.toUInt64 >>> ((7 : Int32) &&& 0x3f).toInt64.toUInt64).toInt64).toUInt64 >>> ((7 : Int32) &&& 0x3f).toInt64.toUInt64).toInt64).toUInt64 >>> ((7 : Int32) &&& 0x3f).toInt64.toUInt64).toInt64).toUInt64 >>> ((7 : Int32) &&& 0x3f).toInt64.toUInt64).toInt64).toUInt64 >>> ((7 : Int32) &&& 0x3f).toInt64.toUInt64).toInt64)), .second] [])) _
              refine XS.lloadN X0.here hx rfl (hb hby d2_16) rfl ?_
              show Steps p.tables e below (s₁.setTop (mkF m 17 #[.val (.long w0), .second, .val (.int ((((((1 : Int32) + (1 : Int32)) + (1 : Int32)) + (1 : Int32)) + (1 : Int32)) + (1 : Int32))), .val (.long ((((((((((w0.toUInt64 >>> ((7 : Int32) &&& 0x3f).toInt64.toUInt64).toInt64).toUInt64 >>> ((7 : Int32) &&& 0x3f).toInt64.toUInt64).toInt64).toUInt64 >>> ((7 : Int32) &&& 0x3f).toInt64.toUInt64).toInt64).toUInt64 >>> ((7 : Int32) &&& 0x3f).toInt64.toUInt64).toInt64).toUInt64 >>> ((7 : Int32) &&& 0x3f).toInt64.toUInt64).toInt64)), .second] [(.long ((((((((((w0.toUInt64 >>> ((7 : Int32) &&& 0x3f).toInt64.toUInt64).toInt64).toUInt64 >>> ((7 : Int32) &&& 0x3f).toInt64.toUInt64).toInt64).toUInt64 >>> ((7 : Int32) &&& 0x3f).toInt64.toUInt64).toInt64).toUInt64 >>> ((7 : Int32) &&& 0x3f).toInt64.toUInt64).toInt64).toUInt64 >>> ((7 : Int32) &&& 0x3f).toInt64.toUInt64).toInt64))])) _
              refine XS.bipush X0.here hx rfl (hb hby d2_17) ?_
              show Steps p.tables e below (s₁.setTop (mkF m 19 #[.val (.long w0), .second, .val (.int ((((((1 : Int32) + (1 : Int32)) + (1 : Int32)) + (1 : Int32)) + (1 : Int32)) + (1 : Int32))), .val (.long ((((((((((w0.toUInt64 >>> ((7 : Int32) &&& 0x3f).toInt64.toUInt64).toInt64).toUInt64 >>> ((7 : Int32) &&& 0x3f).toInt64.toUInt64).toInt64).toUInt64 >>> ((7 : Int32) &&& 0x3f).toInt64.toUInt64).toInt64).toUInt64 >>> ((7 : Int32) &&& 0x3f).toInt64.toUInt64).toInt64).toUInt64 >>> ((7 : Int32) &&& 0x3f).toInt64.toUInt64).toInt64)), .second] [(.int (7 : Int32)), (.long ((((((((((w0.toUInt64 >>> ((7 : Int32) &&& 0x3f).toInt64.toUInt64).toInt64).toUInt64 >>> ((7 : Int32) &&& 0x3f).toInt64.toUInt64).toInt64).toUInt64 >>> ((7 : Int32) &&& 0x3f).toInt64.toUInt64).toInt64).toUInt64 >>> ((7 : Int32) &&& 0x3f).toInt64.toUInt64).toInt64).toUInt64 >>> ((7 : Int32) &&& 0x3f).toInt64.toUInt64).toInt64))])) _
              refine XS.lushr X0.here hx rfl (hb hby d2_19) rfl ?_
              show Steps p.tables e below (s₁.setTop (mkF m 20 #[.val (.long w0), .second, .val (.int ((((((1 : Int32) + (1 : Int32)) + (1 : Int32)) + (1 : Int32)) + (1 : Int32)) + (1 : Int32))), .val (.long ((((((((((w0.toUInt64 >>> ((7 : Int32) &&& 0x3f).toInt64.toUInt64).toInt64).toUInt64 >>> ((7 : Int32) &&& 0x3f).toInt64.toUInt64).toInt64).toUInt64 >>> ((7 : Int32) &&& 0x3f).toInt64.toUInt64).toInt64).toUInt64 >>> ((7 : Int32) &&& 0x3f).toInt64.toUInt64).toInt64).toUInt64 >>> ((7 : Int32) &&& 0x3f).toInt64.toUInt64).toInt64)), .second] [(.long ((((((((((((w0.toUInt64 >>> ((7 : Int32) &&& 0x3f).toInt64.toUInt64).toInt64).toUInt64 >>> ((7 : Int32) &&& 0x3f).toInt64.toUInt64).toInt64).toUInt64 >>> ((7 : Int32) &&& 0x3f).toInt64.toUInt64).toInt64).toUInt64 >>> ((7 : Int32) &&& 0x3f).toInt64.toUInt64).toInt64).toUInt64 >>> ((7 : Int32) &&& 0x3f).toInt64.toUInt64).toInt64).toUInt64 >>> ((7 : Int32) &&& 0x3f).toInt64.toUInt64).toInt64))])) _
              refine XS.lstoreN X0.here hx rfl (hb hby d2_20) rfl (l' := #[.val (.long w0), .second, .val (.int ((((((1 : Int32) + (1 : Int32)) + (1 : Int32)) + (1 : Int32)) + (1 : Int32)) + (1 : Int32))), .val (.long ((((((((((((w0.toUInt64 >>> ((7 : Int32) &&& 0x3f).toInt64.toUInt64).toInt64).toUInt64 >>> ((7 : Int32) &&& 0x3f).toInt64.toUInt64).toInt64).toUInt64 >>> ((7 : Int32) &&& 0x3f).toInt64.toUInt64).toInt64).toUInt64 >>> ((7 : Int32) &&& 0x3f).toInt64.toUInt64).toInt64).toUInt64 >>> ((7 : Int32) &&& 0x3f).toInt64.toUInt64).toInt64).toUInt64 >>> ((7 : Int32) &&& 0x3f).toInt64.toUInt64).toInt64)), .second]) rfl ?_
              show Steps p.tables e below (s₁.setTop (mkF m 21 #[.val (.long w0), .second, .val (.int ((((((1 : Int32) + (1 : Int32)) + (1 : Int32)) + (1 : Int32)) + (1 : Int32)) + (1 : Int32))), .val (.long ((((((((((((w0.toUInt64 >>> ((7 : Int32) &&& 0x3f).toInt64.toUInt64).toInt64).toUInt64 >>> ((7 : Int32) &&& 0x3f).toInt64.toUInt64).toInt64).toUInt64 >>> ((7 : Int32) &&& 0x3f).toInt64.toUInt64).toInt64).toUInt64 >>> ((7 : Int32) &&& 0x3f).toInt64.toUInt64).toInt64).toUInt64 >>> ((7 : Int32) &&& 0x3f).toInt64.toUInt64).toInt64).toUInt64 >>> ((7 : Int32) &&& 0x3f).toInt64.toUInt64).toInt64)), .second] [])) _
              refine XS.goto X0.here hx rfl (pc0 := 21) (pc' := 7) rfl (hb hby d2_21) (by decide) (by decide) ?_
              show Steps p.tables e below (s₁.setTop (mkF m 7 #[.val (.long w0), .second, .val (.int ((((((1 : Int32) + (1 : Int32)) + (1 : Int32)) + (1 : Int32)) + (1 : Int32)) + (1 : Int32))), .val (.long ((((((((((((w0.toUInt64 >>> ((7 : Int32) &&& 0x3f).toInt64.toUInt64).toInt64).toUInt64 >>> ((7 : Int32) &&& 0x3f).toInt64.toUInt64).toInt64).toUInt64 >>> ((7 : Int32) &&& 0x3f).toInt64.toUInt64).toInt64).toUInt64 >>> ((7 : Int32) &&& 0x3f).toInt64.toUInt64).toInt64).toUInt64 >>> ((7 : Int32) &&& 0x3f).toInt64.toUInt64).toInt64).toUInt64 >>> ((7 : Int32) &&& 0x3f).toInt64.toUInt64).toInt64)), .second] [])) _
              refine XS.lloadN X0.here hx rfl (hb hby d2_7) rfl ?_
              show Steps p.tables e below (s₁.setTop (mkF m 8 #[.val (.long w0), .second, .val (.int ((((((1 : Int32) + (1 : Int32)) + (1 : Int32)) + (1 : Int32)) + (1 : Int32)) + (1 : Int32))), .val (.long ((((((((((((w0.toUInt64 >>> ((7 : Int32) &&& 0x3f).toInt64.toUInt64).toInt64).toUInt64 >>> ((7 : Int32) &&& 0x3f).toInt64.toUInt64).toInt64).toUInt64 >>> ((7 : Int32) &&& 0x3f).toInt64.toUInt64).toInt64).toUInt64 >>> ((7 : Int32) &&& 0x3f).toInt64.toUInt64).toInt64).toUInt64 >>> ((7 : Int32) &&& 0x3f).toInt64.toUInt64).toInt64).toUInt64 >>> ((7 : Int32) &&& 0x3f).toInt64.toUInt64).toInt64)), .second] [(.long ((((((((((((w0.toUInt64 >>> ((7 : Int32) &&& 0x3f).toInt64.toUInt64).toInt64).toUInt64 >>> ((7 : Int32) &&& 0x3f).toInt64.toUInt64).toInt64).toUInt64 >>> ((7 : Int32) &&& 0x3f).toInt64.toUInt64).toInt64).toUInt64 >>> ((7 : Int32) &&& 0x3f).toInt64.toUInt64).toInt64).toUInt64 >>> ((7 : Int32) &&& 0x3f).toInt64.toUInt64).toInt64).toUInt64 >>> ((7 : Int32) &&& 0x3f).toInt64.toUInt64).toInt64))])) _
              refine XS.lconst X0.here hx rfl (hb hby d2_8) ?_
              show Steps p.tables e below (s₁.setTop (mkF m 9 #[.val (.long w0), .second, .val (.int ((((((1 : Int32) + (1 : Int32)) + (1 : Int32)) + (1 : Int32)) + (1 : Int32)) + (1 : Int32))), .val (.long ((((((((((((w0.toUInt64 >>> ((7 : Int32) &&& 0x3f).toInt64.toUInt64).toInt64).toUInt64 >>> ((7 : Int32) &&& 0x3f).toInt64.toUInt64).toInt64).toUInt64 >>> ((7 : Int32) &&& 0x3f).toInt64.toUInt64).toInt64).toUInt64 >>> ((7 : Int32) &&& 0x3f).toInt64.toUInt64).toInt64).toUInt64 >>> ((7 : Int32) &&& 0x3f).toInt64.toUInt64).toInt64).toUInt64 >>> ((7 : Int32) &&& 0x3f).toInt64.toUInt64).toInt64)), .second] [(.long (0 : Int64)), (.long ((((((((((((w0.toUInt64 >>> ((7 : Int32) &&& 0x3f).toInt64.toUInt64).toInt64).toUInt64 >>> ((7 : Int32) &&& 0x3f).toInt64.toUInt64).toInt64).toUInt64 >>> ((7 : Int32) &&& 0x3f).toInt64.toUInt64).toInt64).toUInt64 >>> ((7 : Int32) &&& 0x3f).toInt64.toUInt64).toInt64).toUInt64 >>> ((7 : Int32) &&& 0x3f).toInt64.toUInt64).toInt64).toUInt64 >>> ((7 : Int32) &&& 0x3f).toInt64.toUInt64).toInt64))])) _
              refine XS.lcmp X0.here hx rfl (hb hby d2_9) rfl ?_
              exact k)
            by_cases hc10''''' : (lcmpW ((((((((((((w0.toUInt64 >>> ((7 : Int32) &&& 0x3f).toInt64.toUInt64).toInt64).toUInt64 >>> ((7 : Int32) &&& 0x3f).toInt64.toUInt64).toInt64).toUInt64 >>> ((7 : Int32) &&& 0x3f).toInt64.toUInt64).toInt64).toUInt64 >>> ((7 : Int32) &&& 0x3f).toInt64.toUInt64).toInt64).toUInt64 >>> ((7 : Int32) &&& 0x3f).toInt64.toUInt64).toInt64).toUInt64 >>> ((7 : Int32) &&& 0x3f).toInt64.toUInt64).toInt64) (0 : Int64)) = (0 : Int32)
            · -- pc 10: (lcmpW ((((((((((((w0.toUInt64 >>> ((7 : Int32) &&& 0x3f).toInt64.toUInt64).toInt64).toUInt64 >>> ((7 : Int32) &&& 0x3f).toInt64.toUInt64).toInt64).toUInt64 >>> ((7 : Int32) &&& 0x3f).toInt64.toUInt64).toInt64).toUInt64 >>> ((7 : Int32) &&& 0x3f).toInt64.toUInt64).toInt64).toUInt64 >>> ((7 : Int32) &&& 0x3f).toInt64.toUInt64).toInt64).toUInt64 >>> ((7 : Int32) &&& 0x3f).toInt64.toUInt64).toInt64) (0 : Int64)) = (0 : Int32)
              obtain ⟨fs, hr, hrun, hended, hW, hsame⟩ := X0.leave (v := (some (.int ((((((1 : Int32) + (1 : Int32)) + (1 : Int32)) + (1 : Int32)) + (1 : Int32)) + (1 : Int32))))) (fun h => by rw [Bd.returns] at h; cases h)
              refine ⟨_, _, pre6 _ ?_, hrun, hended, _, _, rfl, ?_, ⟨_, rfl⟩, hW, hsame.mono (by decide) (by decide)⟩
              · show Steps p.tables e below (s₁.setTop (mkF m 10 #[.val (.long w0), .second, .val (.int ((((((1 : Int32) + (1 : Int32)) + (1 : Int32)) + (1 : Int32)) + (1 : Int32)) + (1 : Int32))), .val (.long ((((((((((((w0.toUInt64 >>> ((7 : Int32) &&& 0x3f).toInt64.toUInt64).toInt64).toUInt64 >>> ((7 : Int32) &&& 0x3f).toInt64.toUInt64).toInt64).toUInt64 >>> ((7 : Int32) &&& 0x3f).toInt64.toUInt64).toInt64).toUInt64 >>> ((7 : Int32) &&& 0x3f).toInt64.toUInt64).toInt64).toUInt64 >>> ((7 : Int32) &&& 0x3f).toInt64.toUInt64).toInt64).toUInt64 >>> ((7 : Int32) &&& 0x3f).toInt64.toUInt64).toInt64)), .second] [(.int (lcmpW ((((((((((((w0.toUInt64 >>> ((7 : Int32) &&& 0x3f).toInt64.toUInt64).toInt64).toUInt64 >>> ((7 : Int32) &&& 0x3f).toInt64.toUInt64).toInt64).toUInt64 >>> ((7 : Int32) &&& 0x3f).toInt64.toUInt64).toInt64).toUInt64 >>> ((7 : Int32) &&& 0x3f).toInt64.toUInt64).toInt64).toUInt64 >>> ((7 : Int32) &&& 0x3f).toInt64.toUInt64).toInt64).toUInt64 >>> ((7 : Int32) &&& 0x3f).toInt64.toUInt64).toInt64) (0 : Int64)))])) _
                refine XS.ifYes X0.here hx rfl (pc0 := 10) (pc' := 24) rfl (hb hby d2_10) rfl ((if0 _ _).trans (teq hc10''''').1) (by decide) (by decide) ?_
                show Steps p.tables e below (s₁.setTop (mkF m 24 #[.val (.long w0), .second, .val (.int ((((((1 : Int32) + (1 : Int32)) + (1 : Int32)) + (1 : Int32)) + (1 : Int32)) + (1 : Int32))), .val (.long ((((((((((((w0.toUInt64 >>> ((7 : Int32) &&& 0x3f).toInt64.toUInt64).toInt64).toUInt64 >>> ((7 : Int32) &&& 0x3f).toInt64.toUInt64).toInt64).toUInt64 >>> ((7 : Int32) &&& 0x3f).toInt64.toUInt64).toInt64).toUInt64 >>> ((7 : Int32) &&& 0x3f).toInt64.toUInt64).toInt64).toUInt64 >>> ((7 : Int32) &&& 0x3f).toInt64.toUInt64).toInt64).toUInt64 >>> ((7 : Int32) &&& 0x3f).toInt64.toUInt64).toInt64)), .second] [])) _
                refine XS.iloadN X0.here hx rfl (hb hby d2_24) rfl ?_
                show Steps p.tables e below (s₁.setTop (mkF m 25 #[.val (.long w0), .second, .val (.int ((((((1 : Int32) + (1 : Int32)) + (1 : Int32)) + (1 : Int32)) + (1 : Int32)) + (1 : Int32))), .val (.long ((((((((((((w0.toUInt64 >>> ((7 : Int32) &&& 0x3f).toInt64.toUInt64).toInt64).toUInt64 >>> ((7 : Int32) &&& 0x3f).toInt64.toUInt64).toInt64).toUInt64 >>> ((7 : Int32) &&& 0x3f).toInt64.toUInt64).toInt64).toUInt64 >>> ((7 : Int32) &&& 0x3f).toInt64.toUInt64).toInt64).toUInt64 >>> ((7 : Int32) &&& 0x3f).toInt64.toUInt64).toInt64).toUInt64 >>> ((7 : Int32) &&& 0x3f).toInt64.toUInt64).toInt64)), .second] [(.int ((((((1 : Int32) + (1 : Int32)) + (1 : Int32)) + (1 : Int32)) + (1 : Int32)) + (1 : Int32)))])) _
                exact retI X0 hx Bd.returns (hb hby d2_25) hr
              · show QP (some (.int (f2 w0))) h0 n0 _ s₁.heap _
                rw [e0]
                exact ⟨congrArg (fun z => some (Value.int z)) (Eq.symm (show (f2 w0) = ((((((1 : Int32) + (1 : Int32)) + (1 : Int32)) + (1 : Int32)) + (1 : Int32)) + (1 : Int32)) from (if_neg hc10).trans ((if_neg hc10').trans ((if_neg hc10'').trans ((if_neg hc10''').trans ((if_neg hc10'''').trans ((if_pos hc10''''').trans (rfl)))))))), N0, rfl⟩
            · -- pc 10: not (lcmpW ((((((((((((w0.toUInt64 >>> ((7 : Int32) &&& 0x3f).toInt64.toUInt64).toInt64).toUInt64 >>> ((7 : Int32) &&& 0x3f).toInt64.toUInt64).toInt64).toUInt64 >>> ((7 : Int32) &&& 0x3f).toInt64.toUInt64).toInt64).toUInt64 >>> ((7 : Int32) &&& 0x3f).toInt64.toUInt64).toInt64).toUInt64 >>> ((7 : Int32) &&& 0x3f).toInt64.toUInt64).toInt64).toUInt64 >>> ((7 : Int32) &&& 0x3f).toInt64.toUInt64).toInt64) (0 : Int64)) = (0 : Int32)
              have pre7 : ∀ t, Steps p.tables e below (s₁.setTop (mkF m 10 #[.val (.long w0), .second, .val (.int (((((((1 : Int32) + (1 : Int32)) + (1 : Int32)) + (1 : Int32)) + (1 : Int32)) + (1 : Int32)) + (1 : Int32))), .val (.long ((((((((((((((w0.toUInt64 >>> ((7 : Int32) &&& 0x3f).toInt64.toUInt64).toInt64).toUInt64 >>> ((7 : Int32) &&& 0x3f).toInt64.toUInt64).toInt64).toUInt64 >>> ((7 : Int32) &&& 0x3f).toInt64.toUInt64).toInt64).toUInt64 >>> ((7 : Int32) &&& 0x3f).toInt64.toUInt64).toInt64).toUInt64 >>> ((7 : Int32) &&& 0x3f).toInt64.toUInt64).toInt64).toUInt64 >>> ((7 : Int32) &&& 0x3f).toInt64.toUInt64).toInt64).toUInt64 >>> ((7 : Int32) &&& 0x3f).toInt64.toUInt64).toInt64)), .second] [(.int (lcmpW ((((((((((((((w0.toUInt64 >>> ((7 : Int32) &&& 0x3f).toInt64.toUInt64).toInt64).toUInt64 >>> ((7 : Int32) &&& 0x3f).toInt64.toUInt64).toInt64).toUInt64 >>> ((7 : Int32) &&& 0x3f).toInt64.toUInt64).toInt64).toUInt64 >>> ((7 : Int32) &&& 0x3f).toInt64.toUInt64).toInt64).toUInt64 >>> ((7 : Int32) &&& 0x3f).toInt64.toUInt64).toInt64).toUInt64 >>> ((7 : Int32) &&& 0x3f).toInt64.toUInt64).toInt64).toUInt64 >>> ((7 : Int32) &&& 0x3f).toInt64.toUInt64).toInt64) (0 : Int64)))])) t → Steps p.tables e below (s₁.setTop (entryFrame m #[(.long w0)] 5)) t := fun t k => pre6 t (by
                show Steps p.tables e below (s₁.setTop (mkF m 10 #[.val (.long w0), .second, .val (.int ((((((1 : Int32) + (1 : Int32)) + (1 : Int32)) + (1 : Int32)) + (1 : Int32)) + (1 : Int32))), .val (.long ((((((((((((w0.toUInt64 >>> ((7 : Int32) &&& 0x3f).toInt64.toUInt64).toInt64).toUInt64 >>> ((7 : Int32) &&& 0x3f).toInt64.toUInt64).toInt64).toUInt64 >>> ((7 : Int32) &&& 0x3f).toInt64.toUInt64).toInt64).toUInt64 >>> ((7 : Int32) &&& 0x3f).toInt64.toUInt64).toInt64).toUInt64 >>> ((7 : Int32) &&& 0x3f).toInt64.toUInt64).toInt64).toUInt64 >>> ((7 : Int32) &&& 0x3f).toInt64.toUInt64).toInt64)), .second] [(.int (lcmpW ((((((((((((w0.toUInt64 >>> ((7 : Int32) &&& 0x3f).toInt64.toUInt64).toInt64).toUInt64 >>> ((7 : Int32) &&& 0x3f).toInt64.toUInt64).toInt64).toUInt64 >>> ((7 : Int32) &&& 0x3f).toInt64.toUInt64).toInt64).toUInt64 >>> ((7 : Int32) &&& 0x3f).toInt64.toUInt64).toInt64).toUInt64 >>> ((7 : Int32) &&& 0x3f).toInt64.toUInt64).toInt64).toUInt64 >>> ((7 : Int32) &&& 0x3f).toInt64.toUInt64).toInt64) (0 : Int64)))])) _
                refine XS.ifNo X0.here hx rfl (hb hby d2_10) rfl ((if0 _ _).trans (feq hc10''''').1) ?_
                show Steps p.tables e below (s₁.setTop (mkF m 13 #[.val (.long w0), .second, .val (.int ((((((1 : Int32) + (1 : Int32)) + (1 : Int32)) + (1 : Int32)) + (1 : Int32)) + (1 : Int32))), .val (.long ((((((((((((w0.toUInt64 >>> ((7 : Int32) &&& 0x3f).toInt64.toUInt64).toInt64).toUInt64 >>> ((7 : Int32) &&& 0x3f).toInt64.toUInt64).toInt64).toUInt64 >>> ((7 : Int32) &&& 0x3f).toInt64.toUInt64).toInt64).toUInt64 >>> ((7 : Int32) &&& 0x3f).toInt64.toUInt64).toInt64).toUInt64 >>> ((7 : Int32) &&& 0x3f).toInt64.toUInt64).toInt64).toUInt64 >>> ((7 : Int32) &&& 0x3f).toInt64.toUInt64).toInt64)), .second] [])) _
                refine XS.iinc X0.here hx rfl (hb hby d2_13) rfl (l' := #[.val (.long w0), .second, .val (.int (((((((1 : Int32) + (1 : Int32)) + (1 : Int32)) + (1 : Int32)) + (1 : Int32)) + (1 : Int32)) + (1 : Int32))), .val (.long ((((((((((((w0.toUInt64 >>> ((7 : Int32) &&& 0x3f).toInt64.toUInt64).toInt64).toUInt64 >>> ((7 : Int32) &&& 0x3f).toInt64.toUInt64).toInt64).toUInt64 >>> ((7 : Int32) &&& 0x3f).toInt64.toUInt64).toInt64).toUInt64 >>> ((7 : Int32) &&& 0x3f).toInt64.toUInt64).toInt64).toUInt64 >>> ((7 : Int32) &&& 0x3f).toInt64.toUInt64).toInt64).toUInt64 >>> ((7 : Int32) &&& 0x3f).toInt64.toUInt64).toInt64)), .second]) rfl ?_
                show Steps p.tables e below (s₁.setTop (mkF m 16 #[.val (.long w0), .second, .val (.int (((((((1 : Int32) + (1 : Int32)) + (1 : Int32)) + (1 : Int32)) + (1 : Int32)) + (1 : Int32)) + (1 : Int32))), .val (.long ((((((((((((w0.toUInt64 >>> ((7 : Int32) &&& 0x3f).toInt64.toUInt64).toInt64).toUInt64 >>> ((7 : Int32) &&& 0x3f).toInt64.toUInt64).toInt64).toUInt64 >>> ((7 : Int32) &&& 0x3f).toInt64.toUInt64).toInt64).toUInt64 >>> ((7 : Int32) &&& 0x3f).toInt64.toUInt64).toInt64).toUInt64 >>> ((7 : Int32) &&& 0x3f).toInt64.toUInt64).toInt64).toUInt64 >>> ((7 : Int32) &&& 0x3f).toInt64.toUInt64).toInt64)), .second] [])) _
                refine XS.lloadN X0.here hx rfl (hb hby d2_16) rfl ?_
                show Steps p.tables e below (s₁.setTop (mkF m 17 #[.val (.long w0), .second, .val (.int (((((((1 : Int32) + (1 : Int32)) + (1 : Int32)) + (1 : Int32)) + (1 : Int32)) + (1 : Int32)) + (1 : Int32))), .val (.long ((((((((((((w0.toUInt64 >>> ((7 : Int32) &&& 0x3f).toInt64.toUInt64).toInt64).toUInt64 >>> ((7 : Int32) &&& 0x3f).toInt64.toUInt64).toInt64).toUInt64 >>> ((7 : Int32) &&& 0x3f).toInt64.toUInt64).toInt64).toUInt64 >>> ((7 : Int32) &&& 0x3f).toInt64.toUInt64).toInt64).toUInt64 >>> ((7 : Int32) &&& 0x3f).toInt64.toUInt64).toInt64).toUInt64 >>> ((7 : Int32) &&& 0x3f).toInt64.toUInt64).toInt64)), .second] [(.long ((((((((((((w0.toUInt64 >>> ((7 : Int32) &&& 0x3f).toInt64.toUInt64).toInt64).toUInt64 >>> ((7 : Int32) &&& 0x3f).toInt64.toUInt64).toInt64).toUInt64 >>> ((7 : Int32) &&& 0x3f).toInt64.toUInt64).toInt64).toUInt64 >>> ((7 : Int32) &&& 0x3f).toInt64.toUInt64).toInt64).toUInt64 >>> ((7 : Int32) &&& 0x3f).toInt64.toUInt64).toInt64).toUInt64 >>> ((7 : Int32) &&& 0x3f).toInt64.toUInt64).toInt64))])) _
                refine XS.bipush X0.here hx rfl (hb hby d2_17) ?_
                show Steps p.tables e below (s₁.setTop (mkF m 19 #[.val (.long w0), .second, .val (.int (((((((1 : Int32) + (1 : Int32)) + (1 : Int32)) + (1 : Int32)) + (1 : Int32)) + (1 : Int32)) + (1 : Int32))), .val (.long ((((((((((((w0.toUInt64 >>> ((7 : Int32) &&& 0x3f).toInt64.toUInt64).toInt64).toUInt64 >>> ((7 : Int32) &&& 0x3f).toInt64.toUInt64).toInt64).toUInt64 >>> ((7 : Int32) &&& 0x3f).toInt64.toUInt64).toInt64).toUInt64 >>> ((7 : Int32) &&& 0x3f).toInt64.toUInt64).toInt64).toUInt64 >>> ((7 : Int32) &&& 0x3f).toInt64.toUInt64).toInt64).toUInt64 >>> ((7 : Int32) &&& 0x3f).toInt64.toUInt64).toInt64)), .second] [(.int (7 : Int32)), (.long ((((((((((((w0.toUInt64 >>> ((7 : Int32) &&& 0x3f).toInt64.toUInt64).toInt64).toUInt64 >>> ((7 : Int32) &&& 0x3f).toInt64.toUInt64).toInt64).toUInt64 >>> ((7 : Int32) &&& 0x3f).toInt64.toUInt64).toInt64).toUInt64 >>> ((7 : Int32) &&& 0x3f).toInt64.toUInt64).toInt64).toUInt64 >>> ((7 : Int32) &&& 0x3f).toInt64.toUInt64).toInt64).toUInt64 >>> ((7 : Int32) &&& 0x3f).toInt64.toUInt64).toInt64))])) _
                refine XS.lushr X0.here hx rfl (hb hby d2_19) rfl ?_
                show Steps p.tables e below (s₁.setTop (mkF m 20 #[.val (.long w0), .second, .val (.int (((((((1 : Int32) + (1 : Int32)) + (1 : Int32)) + (1 : Int32)) + (1 : Int32)) + (1 : Int32)) + (1 : Int32))), .val (.long ((((((((((((w0.toUInt64 >>> ((7 : Int32) &&& 0x3f).toInt64.toUInt64).toInt64).toUInt64 >>> ((7 : Int32) &&& 0x3f).toInt64.toUInt64).toInt64).toUInt64 >>> ((7 : Int32) &&& 0x3f).toInt64.toUInt64).toInt64).toUInt64 >>> ((7 : Int32) &&& 0x3f).toInt64.toUInt64).toInt64).toUInt64 >>> ((7 : Int32) &&& 0x3f).toInt64.toUInt64).toInt64).toUInt64 >>> ((7 : Int32) &&& 0x3f).toInt64.toUInt64).toInt64)), .second] [(.long ((((((((((((((w0.toUInt64 >>> ((7 : Int32) &&& 0x3f).toInt64.toUInt64).toInt64).toUInt64 >>> ((7 : Int32) &&& 0x3f).toInt64.toUInt64).toInt64).toUInt64 >>> ((7 : Int32) &&& 0x3f).toInt64.toUInt64).toInt64).toUInt64 >>> ((7 : Int32) &&& 0x3f).toInt64.toUInt64).toInt64).toUInt64 >>> ((7 : Int32) &&& 0x3f).toInt64.toUInt64).toInt64).toUInt64 >>> ((7 : Int32) &&& 0x3f).toInt64.toUInt64).toInt64).toUInt64 >>> ((7 : Int32) &&& 0x3f).toInt64.toUInt64).toInt64))])) _
                refine XS.lstoreN X0.here hx rfl (hb hby d2_20) rfl (l' := #[.val (.long w0), .second, .val (.int (((((((1 : Int32) + (1 : Int32)) + (1 : Int32)) + (1 : Int32)) + (1 : Int32)) + (1 : Int32)) + (1 : Int32))), .val (.long ((((((((((((((w0.toUInt64 >>> ((7 : Int32) &&& 0x3f).toInt64.toUInt64).toInt64).toUInt64 >>> ((7 : Int32) &&& 0x3f).toInt64.toUInt64).toInt64).toUInt64 >>> ((7 : Int32) &&& 0x3f).toInt64.toUInt64).toInt64).toUInt64 >>> ((7 : Int32) &&& 0x3f).toInt64.toUInt64).toInt64).toUInt64 >>> ((7 : Int32) &&& 0x3f).toInt64.toUInt64).toInt64).toUInt64 >>> ((7 : Int32) &&& 0x3f).toInt64.toUInt64).toInt64).toUInt64 >>> ((7 : Int32) &&& 0x3f).toInt64.toUInt64).toInt64)), .second]) rfl ?_
                show Steps p.tables e below (s₁.setTop (mkF m 21 #[.val (.long w0), .second, .val (.int (((((((1 : Int32) + (1 : Int32)) + (1 : Int32)) + (1 : Int32)) + (1 : Int32)) + (1 : Int32)) + (1 : Int32))), .val (.long ((((((((((((((w0.toUInt64 >>> ((7 : Int32) &&& 0x3f).toInt64.toUInt64).toInt64).toUInt64 >>> ((7 : Int32) &&& 0x3f).toInt64.toUInt64).toInt64).toUInt64 >>> ((7 : Int32) &&& 0x3f).toInt64.toUInt64).toInt64).toUInt64 >>> ((7 : Int32) &&& 0x3f).toInt64.toUInt64).toInt64).toUInt64 >>> ((7 : Int32) &&& 0x3f).toInt64.toUInt64).toInt64).toUInt64 >>> ((7 : Int32) &&& 0x3f).toInt64.toUInt64).toInt64).toUInt64 >>> ((7 : Int32) &&& 0x3f).toInt64.toUInt64).toInt64)), .second] [])) _
                refine XS.goto X0.here hx rfl (pc0 := 21) (pc' := 7) rfl (hb hby d2_21) (by decide) (by decide) ?_
                show Steps p.tables e below (s₁.setTop (mkF m 7 #[.val (.long w0), .second, .val (.int (((((((1 : Int32) + (1 : Int32)) + (1 : Int32)) + (1 : Int32)) + (1 : Int32)) + (1 : Int32)) + (1 : Int32))), .val (.long ((((((((((((((w0.toUInt64 >>> ((7 : Int32) &&& 0x3f).toInt64.toUInt64).toInt64).toUInt64 >>> ((7 : Int32) &&& 0x3f).toInt64.toUInt64).toInt64).toUInt64 >>> ((7 : Int32) &&& 0x3f).toInt64.toUInt64).toInt64).toUInt64 >>> ((7 : Int32) &&& 0x3f).toInt64.toUInt64).toInt64).toUInt64 >>> ((7 : Int32) &&& 0x3f).toInt64.toUInt64).toInt64).toUInt64 >>> ((7 : Int32) &&& 0x3f).toInt64.toUInt64).toInt64).toUInt64 >>> ((7 : Int32) &&& 0x3f).toInt64.toUInt64).toInt64)), .second] [])) _
                refine XS.lloadN X0.here hx rfl (hb hby d2_7) rfl ?_
                show Steps p.tables e below (s₁.setTop (mkF m 8 #[.val (.long w0), .second, .val (.int (((((((1 : Int32) + (1 : Int32)) + (1 : Int32)) + (1 : Int32)) + (1 : Int32)) + (1 : Int32)) + (1 : Int32))), .val (.long ((((((((((((((w0.toUInt64 >>> ((7 : Int32) &&& 0x3f).toInt64.toUInt64).toInt64).toUInt64 >>> ((7 : Int32) &&& 0x3f).toInt64.toUInt64).toInt64).toUInt64 >>> ((7 : Int32) &&& 0x3f).toInt64.toUInt64).toInt64).toUInt64 >>> ((7 : Int32) &&& 0x3f).toInt64.toUInt64).toInt64).toUInt64 >>> ((7 : Int32) &&& 0x3f).toInt64.toUInt64).toInt64).toUInt64 >>> ((7 : Int32) &&& 0x3f).toInt64.toUInt64).toInt64).toUInt64 >>> ((7 : Int32) &&& 0x3f).toInt64.toUInt64).toInt64)), .second] [(.long ((((((((((((((w0.toUInt64 >>> ((7 : Int32) &&& 0x3f).toInt64.toUInt64).toInt64).toUInt64 >>> ((7 : Int32) &&& 0x3f).toInt64.toUInt64).toInt64).toUInt64 >>> ((7 : Int32) &&& 0x3f).toInt64.toUInt64).toInt64).toUInt64 >>> ((7 : Int32) &&& 0x3f).toInt64.toUInt64).toInt64).toUInt64 >>> ((7 : Int32) &&& 0x3f).toInt64.toUInt64).toInt64).toUInt64 >>> ((7 : Int32) &&& 0x3f).toInt64.toUInt64).toInt64).toUInt64 >>> ((7 : Int32) &&& 0x3f).toInt64.toUInt64).toInt64))])) _
                refine XS.lconst X0.here hx rfl (hb hby d2_8) ?_
                show Steps p.tables e below (s₁.setTop (mkF m 9 #[.val (.long w0), .second, .val (.int (((((((1 : Int32) + (1 : Int32)) + (1 : Int32)) + (1 : Int32)) + (1 : Int32)) + (1 : Int32)) + (1 : Int32))), .val (.long ((((((((((((((w0.toUInt64 >>> ((7 : Int32) &&& 0x3f).toInt64.toUInt64).toInt64).toUInt64 >>> ((7 : Int32) &&& 0x3f).toInt64.toUInt64).toInt64).toUInt64 >>> ((7 : Int32) &&& 0x3f).toInt64.toUInt64).toInt64).toUInt64 >>> ((7 : Int32) &&& 0x3f).toInt64.toUInt64).toInt64).toUInt64 >>> ((7 : Int32) &&& 0x3f).toInt64.toUInt64).toInt64).toUInt64 >>> ((7 : Int32) &&& 0x3f).toInt64.toUInt64).toInt64).toUInt64 >>> ((7 : Int32) &&& 0x3f).toInt64.toUInt64).toInt64)), .second] [(.long (0 : Int64)), (.long ((((((((((((((w0.toUInt64 >>> ((7 : Int32) &&& 0x3f).toInt64.toUInt64).toInt64).toUInt64 >>> ((7 : Int32) &&& 0x3f).toInt64.toUInt64).toInt64).toUInt64 >>> ((7 : Int32) &&& 0x3f).toInt64.toUInt64).toInt64).toUInt64 >>> ((7 : Int32) &&& 0x3f).toInt64.toUInt64).toInt64).toUInt64 >>> ((7 : Int32) &&& 0x3f).toInt64.toUInt64).toInt64).toUInt64 >>> ((7 : Int32) &&& 0x3f).toInt64.toUInt64).toInt64).toUInt64 >>> ((7 : Int32) &&& 0x3f).toInt64.toUInt64).toInt64))])) _
                refine XS.lcmp X0.here hx rfl (hb hby d2_9) rfl ?_
                exact k)
              by_cases hc10'''''' : (lcmpW ((((((((((((((w0.toUInt64 >>> ((7 : Int32) &&& 0x3f).toInt64.toUInt64).toInt64).toUInt64 >>> ((7 : Int32) &&& 0x3f).toInt64.toUInt64).toInt64).toUInt64 >>> ((7 : Int32) &&& 0x3f).toInt64.toUInt64).toInt64).toUInt64 >>> ((7 : Int32) &&& 0x3f).toInt64.toUInt64).toInt64).toUInt64 >>> ((7 : Int32) &&& 0x3f).toInt64.toUInt64).toInt64).toUInt64 >>> ((7 : Int32) &&& 0x3f).toInt64.toUInt64).toInt64).toUInt64 >>> ((7 : Int32) &&& 0x3f).toInt64.toUInt64).toInt64) (0 : Int64)) = (0 : Int32)
              · -- pc 10: (lcmpW ((((((((((((((w0.toUInt64 >>> ((7 : Int32) &&& 0x3f).toInt64.toUInt64).toInt64).toUInt64 >>> ((7 : Int32) &&& 0x3f).toInt64.toUInt64).toInt64).toUInt64 >>> ((7 : Int32) &&& 0x3f).toInt64.toUInt64).toInt64).toUInt64 >>> ((7 : Int32) &&& 0x3f).toInt64.toUInt64).toInt64).toUInt64 >>> ((7 : Int32) &&& 0x3f).toInt64.toUInt64).toInt64).toUInt64 >>> ((7 : Int32) &&& 0x3f).toInt64.toUInt64).toInt64).toUInt64 >>> ((7 : Int32) &&& 0x3f).toInt64.toUInt64).toInt64) (0 : Int64)) = (0 : Int32)
                obtain ⟨fs, hr, hrun, hended, hW, hsame⟩ := X0.leave (v := (some (.int (((((((1 : Int32) + (1 : Int32)) + (1 : Int32)) + (1 : Int32)) + (1 : Int32)) + (1 : Int32)) + (1 : Int32))))) (fun h => by rw [Bd.returns] at h; cases h)
                refine ⟨_, _, pre7 _ ?_, hrun, hended, _, _, rfl, ?_, ⟨_, rfl⟩, hW, hsame.mono (by decide) (by decide)⟩
                · show Steps p.tables e below (s₁.setTop (mkF m 10 #[.val (.long w0), .second, .val (.int (((((((1 : Int32) + (1 : Int32)) + (1 : Int32)) + (1 : Int32)) + (1 : Int32)) + (1 : Int32)) + (1 : Int32))), .val (.long ((((((((((((((w0.toUInt64 >>> ((7 : Int32) &&& 0x3f).toInt64.toUInt64).toInt64).toUInt64 >>> ((7 : Int32) &&& 0x3f).toInt64.toUInt64).toInt64).toUInt64 >>> ((7 : Int32) &&& 0x3f).toInt64.toUInt64).toInt64).toUInt64 >>> ((7 : Int32) &&& 0x3f).toInt64.toUInt64).toInt64).toUInt64 >>> ((7 : Int32) &&& 0x3f).toInt64.toUInt64).toInt64).toUInt64 >>> ((7 : Int32) &&& 0x3f).toInt64.toUInt64).toInt64).toUInt64 >>> ((7 : Int32) &&& 0x3f).toInt64.toUInt64).toInt64)), .second] [(.int (lcmpW ((((((((((((((w0.toUInt64 >>> ((7 : Int32) &&& 0x3f).toInt64.toUInt64).toInt64).toUInt64 >>> ((7 : Int32) &&& 0x3f).toInt64.toUInt64).toInt64).toUInt64 >>> ((7 : Int32) &&& 0x3f).toInt64.toUInt64).toInt64).toUInt64 >>> ((7 : Int32) &&& 0x3f).toInt64.toUInt64).toInt64).toUInt64 >>> ((7 : Int32) &&& 0x3f).toInt64.toUInt64).toInt64).toUInt64 >>> ((7 : Int32) &&& 0x3f).toInt64.toUInt64).toInt64).toUInt64 >>> ((7 : Int32) &&& 0x3f).toInt64.toUInt64).toInt64) (0 : Int64)))])) _
                  refine XS.ifYes X0.here hx rfl (pc0 := 10) (pc' := 24) rfl (hb hby d2_10) rfl ((if0 _ _).trans (teq hc10'''''').1) (by decide) (by decide) ?_
                  show Steps p.tables e below (s₁.setTop (mkF m 24 #[.val (.long w0), .second, .val (.int (((((((1 : Int32) + (1 : Int32)) + (1 : Int32)) + (1 : Int32)) + (1 : Int32)) + (1 : Int32)) + (1 : Int32))), .val (.long ((((((((((((((w0.toUInt64 >>> ((7 : Int32) &&& 0x3f).toInt64.toUInt64).toInt64).toUInt64 >>> ((7 : Int32) &&& 0x3f).toInt64.toUInt64).toInt64).toUInt64 >>> ((7 : Int32) &&& 0x3f).toInt64.toUInt64).toInt64).toUInt64 >>> ((7 : Int32) &&& 0x3f).toInt64.toUInt64).toInt64).toUInt64 >>> ((7 : Int32) &&& 0x3f).toInt64.toUInt64).toInt64).toUInt64 >>> ((7 : Int32) &&& 0x3f).toInt64.toUInt64).toInt64).toUInt64 >>> ((7 : Int32) &&& 0x3f).toInt64.toUInt64).toInt64)), .second] [])) _
                  refine XS.iloadN X0.here hx rfl (hb hby d2_24) rfl ?_
                  show Steps p.tables e below (s₁.setTop (mkF m 25 #[.val (.long w0), .second, .val (.int (((((((1 : Int32) + (1 : Int32)) + (1 : Int32)) + (1 : Int32)) + (1 : Int32)) + (1 : Int32)) + (1 : Int32))), .val (.long ((((((((((((((w0.toUInt64 >>> ((7 : Int32) &&& 0x3f).toInt64.toUInt64).toInt64).toUInt64 >>> ((7 : Int32) &&& 0x3f).toInt64.toUInt64).toInt64).toUInt64 >>> ((7 : Int32) &&& 0x3f).toInt64.toUInt64).toInt64).toUInt64 >>> ((7 : Int32) &&& 0x3f).toInt64.toUInt64).toInt64).toUInt64 >>> ((7 : Int32) &&& 0x3f).toInt64.toUInt64).toInt64).toUInt64 >>> ((7 : Int32) &&& 0x3f).toInt64.toUInt64).toInt64).toUInt64 >>> ((7 : Int32) &&& 0x3f).toInt64.toUInt64).toInt64)), .second] [(.int (((((((1 : Int32) + (1 : Int32)) + (1 : Int32)) + (1 : Int32)) + (1 : Int32)) + (1 : Int32)) + (1 : Int32)))])) _
                  exact retI X0 hx Bd.returns (hb hby d2_25) hr
                · show QP (some (.int (f2 w0))) h0 n0 _ s₁.heap _
                  rw [e0]
                  exact ⟨congrArg (fun z => some (Value.int z)) (Eq.symm (show (f2 w0) = (((((((1 : Int32) + (1 : Int32)) + (1 : Int32)) + (1 : Int32)) + (1 : Int32)) + (1 : Int32)) + (1 : Int32)) from (if_neg hc10).trans ((if_neg hc10').trans ((if_neg hc10'').trans ((if_neg hc10''').trans ((if_neg hc10'''').trans ((if_neg hc10''''').trans ((if_pos hc10'''''').trans (rfl))))))))), N0, rfl⟩
              · -- pc 10: not (lcmpW ((((((((((((((w0.toUInt64 >>> ((7 : Int32) &&& 0x3f).toInt64.toUInt64).toInt64).toUInt64 >>> ((7 : Int32) &&& 0x3f).toInt64.toUInt64).toInt64).toUInt64 >>> ((7 : Int32) &&& 0x3f).toInt64.toUInt64).toInt64).toUInt64 >>> ((7 : Int32) &&& 0x3f).toInt64.toUInt64).toInt64).toUInt64 >>> ((7 : Int32) &&& 0x3f).toInt64.toUInt64).toInt64).toUInt64 >>> ((7 : Int32) &&& 0x3f).toInt64.toUInt64).toInt64).toUInt64 >>> ((7 : Int32) &&& 0x3f).toInt64.toUInt64).toInt64) (0 : Int64)) = (0 : Int32)
                have pre8 : ∀ t, Steps p.tables e below (s₁.setTop (mkF m 10 #[.val (.long w0), .second, .val (.int ((((((((1 : Int32) + (1 : Int32)) + (1 : Int32)) + (1 : Int32)) + (1 : Int32)) + (1 : Int32)) + (1 : Int32)) + (1 : Int32))), .val (.long ((((((((((((((((w0.toUInt64 >>> ((7 : Int32) &&& 0x3f).toInt64.toUInt64).toInt64).toUInt64 >>> ((7 : Int32) &&& 0x3f).toInt64.toUInt64).toInt64).toUInt64 >>> ((7 : Int32) &&& 0x3f).toInt64.toUInt64).toInt64).toUInt64 >>> ((7 : Int32) &&& 0x3f).toInt64.toUInt64).toInt64).toUInt64 >>> ((7 : Int32) &&& 0x3f).toInt64.toUInt64).toInt64).toUInt64 >>> ((7 : Int32) &&& 0x3f).toInt64.toUInt64).toInt64).toUInt64 >>> ((7 : Int32) &&& 0x3f).toInt64.toUInt64).toInt64).toUInt64 >>> ((7 : Int32) &&& 0x3f).toInt64.toUInt64).toInt64)), .second] [(.int (lcmpW ((((((((((((((((w0.toUInt64 >>> ((7 : Int32) &&& 0x3f).toInt64.toUInt64).toInt64).toUInt64 >>> ((7 : Int32) &&& 0x3f).toInt64.toUInt64).toInt64).toUInt64 >>> ((7 : Int32) &&& 0x3f).toInt64.toUInt64).toInt64).toUInt64 >>> ((7 : Int32) &&& 0x3f).toInt64.toUInt64).toInt64).toUInt64 >>> ((7 : Int32) &&& 0x3f).toInt64.toUInt64).toInt64).toUInt64 >>> ((7 : Int32) &&& 0x3f).toInt64.toUInt64).toInt64).toUInt64 >>> ((7 : Int32) &&& 0x3f).toInt64.toUInt64).toInt64).toUInt64 >>> ((7 : Int32) &&& 0x3f).toInt64.toUInt64).toInt64) (0 : Int64)))])) t → Steps p.tables e below (s₁.setTop (entryFrame m #[(.long w0)] 5)) t := fun t k => pre7 t (by
                  show Steps p.tables e below (s₁.setTop (mkF m 10 #[.val (.long w0), .second, .val (.int (((((((1 : Int32) + (1 : Int32)) + (1 : Int32)) + (1 : Int32)) + (1 : Int32)) + (1 : Int32)) + (1 : Int32))), .val (.long ((((((((((((((w0.toUInt64 >>> ((7 : Int32) &&& 0x3f).toInt64.toUInt64).toInt64).toUInt64 >>> ((7 : Int32) &&& 0x3f).toInt64.toUInt64).toInt64).toUInt64 >>> ((7 : Int32) &&& 0x3f).toInt64.toUInt64).toInt64).toUInt64 >>> ((7 : Int32) &&& 0x3f).toInt64.toUInt64).toInt64).toUInt64 >>> ((7 : Int32) &&& 0x3f).toInt64.toUInt64).toInt64).toUInt64 >>> ((7 : Int32) &&& 0x3f).toInt64.toUInt64).toInt64).toUInt64 >>> ((7 : Int32) &&& 0x3f).toInt64.toUInt64).toInt64)), .second] [(.int (lcmpW ((((((((((((((w0.toUInt64 >>> ((7 : Int32) &&& 0x3f).toInt64.toUInt64).toInt64).toUInt64 >>> ((7 : Int32) &&& 0x3f).toInt64.toUInt64).toInt64).toUInt64 >>> ((7 : Int32) &&& 0x3f).toInt64.toUInt64).toInt64).toUInt64 >>> ((7 : Int32) &&& 0x3f).toInt64.toUInt64).toInt64).toUInt64 >>> ((7 : Int32) &&& 0x3f).toInt64.toUInt64).toInt64).toUInt64 >>> ((7 : Int32) &&& 0x3f).toInt64.toUInt64).toInt64).toUInt64 >>> ((7 : Int32) &&& 0x3f).toInt64.toUInt64).toInt64) (0 : Int64)))])) _
                  refine XS.ifNo X0.here hx rfl (hb hby d2_10) rfl ((if0 _ _).trans (feq hc10'''''').1) ?_
                  show Steps p.tables e below (s₁.setTop (mkF m 13 #[.val (.long w0), .second, .val (.int (((((((1 : Int32) + (1 : Int32)) + (1 : Int32)) + (1 : Int32)) + (1 : Int32)) + (1 : Int32)) + (1 : Int32))), .val (.long ((((((((((((((w0.toUInt64 >>> ((7 : Int32) &&& 0x3f).toInt64.toUInt64).toInt64).toUInt64 >>> ((7 : Int32) &&& 0x3f).toInt64.toUInt64).toInt64).toUInt64 >>> ((7 : Int32) &&& 0x3f).toInt64.toUInt64).toInt64).toUInt64 >>> ((7 : Int32) &&& 0x3f).toInt64.toUInt64).toInt64).toUInt64 >>> ((7 : Int32) &&& 0x3f).toInt64.toUInt64).toInt64).toUInt64 >>> ((7 : Int32) &&& 0x3f).toInt64.toUInt64).toInt64).toUInt64 >>> ((7 : Int32) &&& 0x3f).toInt64.toUInt64).toInt64)), .second] [])) _
                  refine XS.iinc X0.here hx rfl (hb hby d2_13) rfl (l' := #[.val (.long w0), .second, .val (.int ((((((((1 : Int32) + (1 : Int32)) + (1 : Int32)) + (1 : Int32)) + (1 : Int32)) + (1 : Int32)) + (1 : Int32)) + (1 : Int32))), .val (.long ((((((((((((((w0.toUInt64 >>> ((7 : Int32) &&& 0x3f).toInt64.toUInt64).toInt64).toUInt64 >>> ((7 : Int32) &&& 0x3f).toInt64.toUInt64).toInt64).toUInt64 >>> ((7 : Int32) &&& 0x3f).toInt64.toUInt64).toInt64).toUInt64 >>> ((7 : Int32) &&& 0x3f).toInt64.toUInt64).toInt64).toUInt64 >>> ((7 : Int32) &&& 0x3f).toInt64.toUInt64).toInt64).toUInt64 >>> ((7 : Int32) &&& 0x3f).toInt64.toUInt64).toInt64).toUInt64 >>> ((7 : Int32) &&& 0x3f).toInt64.toUInt64).toInt64)), .second]) rfl ?_
                  show Steps p.tables e below (s₁.setTop (mkF m 16 #[.val (.long w0), .second, .val (.int ((((((((1 : Int32) + (1 : Int32)) + (1 : Int32)) + (1 : Int32)) + (1 : Int32)) + (1 : Int32)) + (1 : Int32)) + (1 : Int32))), .val (.long ((((((((((((((w0.toUInt64 >>> ((7 : Int32) &&& 0x3f).toInt64.toUInt64).toInt64).toUInt64 >>> ((7 : Int32) &&& 0x3f).toInt64.toUInt64).toInt64).toUInt64 >>> ((7 : Int32) &&& 0x3f).toInt64.toUInt64).toInt64).toUInt64 >>> ((7 : Int32) &&& 0x3f).toInt64.toUInt64).toInt64).toUInt64 >>> ((7 : Int32) &&& 0x3f).toInt64.toUInt64).toInt64).toUInt64 >>> ((7 : Int32) &&& 0x3f).toInt64.toUInt64).toInt64).toUInt64 >>> ((7 : Int32) &&& 0x3f).toInt64.toUInt64).toInt64)), .second] [])) _
                  refine XS.lloadN X0.here hx rfl (hb hby d2_16) rfl ?_
                  show Steps p.tables e below (s₁.setTop (mkF m 17 #[.val (.long w0), .second, .val (.int ((((((((1 : Int32) + (1 : Int32)) + (1 : Int32)) + (1 : Int32)) + (1 : Int32)) + (1 : Int32)) + (1 : Int32)) + (1 : Int32))), .val (.long ((((((((((((((w0.toUInt64 >>> ((7 : Int32) &&& 0x3f).toInt64.toUInt64).toInt64).toUInt64 >>> ((7 : Int32) &&& 0x3f).toInt64.toUInt64).toInt64).toUInt64 >>> ((7 : Int32) &&& 0x3f).toInt64.toUInt64).toInt64).toUInt64 >>> ((7 : Int32) &&& 0x3f).toInt64.toUInt64).toInt64).toUInt64 >>> ((7 : Int32) &&& 0x3f).toInt64.toUInt64).toInt64).toUInt64 >>> ((7 : Int32) &&& 0x3f).toInt64.toUInt64).toInt64).toUInt64 >>> ((7 : Int32) &&& 0x3f).toInt64.toUInt64).toInt64)), .second] [(.long ((((((((((((((w0.toUInt64 >>> ((7 : Int32) &&& 0x3f).toInt64.toUInt64).toInt64).toUInt64 >>> ((7 : Int32) &&& 0x3f).toInt64.toUInt64).toInt64).toUInt64 >>> ((7 : Int32) &&& 0x3f).toInt64.toUInt64).toInt64).toUInt64 >>> ((7 : Int32) &&& 0x3f).toInt64.toUInt64).toInt64).toUInt64 >>> ((7 : Int32) &&& 0x3f).toInt64.toUInt64).toInt64).toUInt64 >>> ((7 : Int32) &&& 0x3f).toInt64.toUInt64).toInt64).toUInt64 >>> ((7 : Int32) &&& 0x3f).toInt64.toUInt64).toInt64))])) _
                  refine XS.bipush X0.here hx rfl (hb hby d2_17) ?_
                  show Steps p.tables e below (s₁.setTop (mkF m 19 #[.val (.long w0), .second, .val (.int ((((((((1 : Int32) + (1 : Int32)) + (1 : Int32)) + (1 : Int32)) + (1 : Int32)) + (1 : Int32)) + (1 : Int32)) + (1 : Int32))), .val (.long ((((((((((((((w0.toUInt64 >>> ((7 : Int32) &&& 0x3f).toInt64.toUInt64).toInt64).toUInt64 >>> ((7 : Int32) &&& 0x3f).toInt64.toUInt64).toInt64).toUInt64 >>> ((7 : Int32) &&& 0x3f).toInt64.toUInt64).toInt64).toUInt64 >>> ((7 : Int32) &&& 0x3f).toInt64.toUInt64).toInt64).toUInt64 >>> ((7 : Int32) &&& 0x3f).toInt64.toUInt64).toInt64).toUInt64 >>> ((7 : Int32) &&& 0x3f).toInt64.toUInt64).toInt64).toUInt64 >>> ((7 : Int32) &&& 0x3f).toInt64.toUInt64).toInt64)), .second] [(.int (7 : Int32)), (.long ((((((((((((((w0.toUInt64 >>> ((7 : Int32) &&& 0x3f).toInt64.toUInt64).toInt64).toUInt64 >>> ((7 : Int32) &&& 0x3f).toInt64.toUInt64).toInt64).toUInt64 >>> ((7 : Int32) &&& 0x3f).toInt64.toUInt64).toInt64).toUInt64 >>> ((7 : Int32) &&& 0x3f).toInt64.toUInt64).toInt64).toUInt64 >>> ((7 : Int32) &&& 0x3f).toInt64.toUInt64).toInt64).toUInt64 >>> ((7 : Int32) &&& 0x3f).toInt64.toUInt64).toInt64).toUInt64 >>> ((7 : Int32) &&& 0x3f).toInt64.toUInt64).toInt64))])) _
                  refine XS.lushr X0.here hx rfl (hb hby d2_19) rfl ?_
                  show Steps p.tables e below (s₁.setTop (mkF m 20 #[.val (.long w0), .second, .val (.int ((((((((1 : Int32) + (1 : Int32)) + (1 : Int32)) + (1 : Int32)) + (1 : Int32)) + (1 : Int32)) + (1 : Int32)) + (1 : Int32))), .val (.long ((((((((((((((w0.toUInt64 >>> ((7 : Int32) &&& 0x3f).toInt64.toUInt64).toInt64).toUInt64 >>> ((7 : Int32) &&& 0x3f).toInt64.toUInt64).toInt64).toUInt64 >>> ((7 : Int32) &&& 0x3f).toInt64.toUInt64).toInt64).toUInt64 >>> ((7 : Int32) &&& 0x3f).toInt64.toUInt64).toInt64).toUInt64 >>> ((7 : Int32) &&& 0x3f).toInt64.toUInt64).toInt64).toUInt64 >>> ((7 : Int32) &&& 0x3f).toInt64.toUInt64).toInt64).toUInt64 >>> ((7 : Int32) &&& 0x3f).toInt64.toUInt64).toInt64)), .second] [(.long ((((((((((((((((w0.toUInt64 >>> ((7 : Int32) &&& 0x3f).toInt64.toUInt64).toInt64).toUInt64 >>> ((7 : Int32) &&& 0x3f).toInt64.toUInt64).toInt64).toUInt64 >>> ((7 : Int32) &&& 0x3f).toInt64.toUInt64).toInt64).toUInt64 >>> ((7 : Int32) &&& 0x3f).toInt64.toUInt64).toInt64).toUInt64 >>> ((7 : Int32) &&& 0x3f).toInt64.toUInt64).toInt64).toUInt64 >>> ((7 : Int32) &&& 0x3f).toInt64.toUInt64).toInt64).toUInt64 >>> ((7 : Int32) &&& 0x3f).toInt64.toUInt64).toInt64).toUInt64 >>> ((7 : Int32) &&& 0x3f).toInt64.toUInt64).toInt64))])) _
                  refine XS.lstoreN X0.here hx rfl (hb hby d2_20) rfl (l' := #[.val (.long w0), .second, .val (.int ((((((((1 : Int32) + (1 : Int32)) + (1 : Int32)) + (1 : Int32)) + (1 : Int32)) + (1 : Int32)) + (1 : Int32)) + (1 : Int32))), .val (.long ((((((((((((((((w0.toUInt64 >>> ((7 : Int32) &&& 0x3f).toInt64.toUInt64).toInt64).toUInt64 >>> ((7 : Int32) &&& 0x3f).toInt64.toUInt64).toInt64).toUInt64 >>> ((7 : Int32) &&& 0x3f).toInt64.toUInt64).toInt64).toUInt64 >>> ((7 : Int32) &&& 0x3f).toInt64.toUInt64).toInt64).toUInt64 >>> ((7 : Int32) &&& 0x3f).toInt64.toUInt64).toInt64).toUInt64 >>> ((7 : Int32) &&& 0x3f).toInt64.toUInt64).toInt64).toUInt64 >>> ((7 : Int32) &&& 0x3f).toInt64.toUInt64).toInt64).toUInt64 >>> ((7 : Int32) &&& 0x3f).toInt64.toUInt64).toInt64)), .second]) rfl ?_
                  show Steps p.tables e below (s₁.setTop (mkF m 21 #[.val (.long w0), .second, .val (.int ((((((((1 : Int32) + (1 : Int32)) + (1 : Int32)) + (1 : Int32)) + (1 : Int32)) + (1 : Int32)) + (1 : Int32)) + (1 : Int32))), .val (.long ((((((((((((((((w0.toUInt64 >>> ((7 : Int32) &&& 0x3f).toInt64.toUInt64).toInt64).toUInt64 >>> ((7 : Int32) &&& 0x3f).toInt64.toUInt64).toInt64).toUInt64 >>> ((7 : Int32) &&& 0x3f).toInt64.toUInt64).toInt64).toUInt64 >>> ((7 : Int32) &&& 0x3f).toInt64.toUInt64).toInt64).toUInt64 >>> ((7 : Int32) &&& 0x3f).toInt64.toUInt64).toInt64).toUInt64 >>> ((7 : Int32) &&& 0x3f).toInt64.toUInt64).toInt64).toUInt64 >>> ((7 : Int32) &&& 0x3f).toInt64.toUInt64).toInt64).toUInt64 >>> ((7 : Int32) &&& 0x3f).toInt64.toUInt64).toInt64)), .second] [])) _
                  refine XS.goto X0.here hx rfl (pc0 := 21) (pc' := 7) rfl (hb hby d2_21) (by decide) (by decide) ?_
                  show Steps p.tables e below (s₁.setTop (mkF m 7 #[.val (.long w0), .second, .val (.int ((((((((1 : Int32) + (1 : Int32)) + (1 : Int32)) + (1 : Int32)) + (1 : Int32)) + (1 : Int32)) + (1 : Int32)) + (1 : Int32))), .val (.long ((((((((((((((((w0.toUInt64 >>> ((7 : Int32) &&& 0x3f).toInt64.toUInt64).toInt64).toUInt64 >>> ((7 : Int32) &&& 0x3f).toInt64.toUInt64).toInt64).toUInt64 >>> ((7 : Int32) &&& 0x3f).toInt64.toUInt64).toInt64).toUInt64 >>> ((7 : Int32) &&& 0x3f).toInt64.toUInt64).toInt64).toUInt64 >>> ((7 : Int32) &&& 0x3f).toInt64.toUInt64).toInt64).toUInt64 >>> ((7 : Int32) &&& 0x3f).toInt64.toUInt64).toInt64).toUInt64 >>> ((7 : Int32) &&& 0x3f).toInt64.toUInt64).toInt64).toUInt64 >>> ((7 : Int32) &&& 0x3f).toInt64.toUInt64).toInt64)), .second] [])) _
                  refine XS.lloadN X0.here hx rfl (hb hby d2_7) rfl ?_
                  show Steps p.tables e below (s₁.setTop (mkF m 8 #[.val (.long w0), .second, .val (.int ((((((((1 : Int32) + (1 : Int32)) + (1 : Int32)) + (1 : Int32)) + (1 : Int32)) + (1 : Int32)) + (1 : Int32)) + (1 : Int32))), .val (.long ((((((((((((((((w0.toUInt64 >>> ((7 : Int32) &&& 0x3f).toInt64.toUInt64).toInt64).toUInt64 >>> ((7 : Int32) &&& 0x3f).toInt64.toUInt64).toInt64).toUInt64 >>> ((7 : Int32) &&& 0x3f).toInt64.toUInt64).toInt64).toUInt64 >>> ((7 : Int32) &&& 0x3f).toInt64.toUInt64).toInt64).toUInt64 >>> ((7 : Int32) &&& 0x3f).toInt64.toUInt64).toInt64).toUInt64 >>> ((7 : Int32) &&& 0x3f).toInt64.toUInt64).toInt64).toUInt64 >>> ((7 : Int32) &&& 0x3f).toInt64.toUInt64).toInt64).toUInt64 >>> ((7 : Int32) &&& 0x3f).toInt64.toUInt64).toInt64)), .second] [(.long ((((((((((((((((w0.toUInt64 >>> ((7 : Int32) &&& 0x3f).toInt64.toUInt64).toInt64).toUInt64 >>> ((7 : Int32) &&& 0x3f).toInt64.toUInt64).toInt64).toUInt64 >>> ((7 : Int32) &&& 0x3f).toInt64.toUInt64).toInt64).toUInt64 >>> ((7 : Int32) &&& 0x3f).toInt64.toUInt64).toInt64).toUInt64 >>> ((7 : Int32) &&& 0x3f).toInt64.toUInt64).toInt64).toUInt64 >>> ((7 : Int32) &&& 0x3f).toInt64.toUInt64).toInt64).toUInt64 >>> ((7 : Int32) &&& 0x3f).toInt64.toUInt64).toInt64).toUInt64 >>> ((7 : Int32) &&& 0x3f).toInt64.toUInt64).toInt64))])) _
                  refine XS.lconst X0.here hx rfl (hb hby d2_8) ?_
                  show Steps p.tables e below (s₁.setTop (mkF m 9 #[.val (.long w0), .second, .val (.int ((((((((1 : Int32) + (1 : Int32)) + (1 : Int32)) + (1 : Int32)) + (1 : Int32)) + (1 : Int32)) + (1 : Int32)) + (1 : Int32))), .val (.long ((((((((((((((((w0.toUInt64 >>> ((7 : Int32) &&& 0x3f).toInt64.toUInt64).toInt64).toUInt64 >>> ((7 : Int32) &&& 0x3f).toInt64.toUInt64).toInt64).toUInt64 >>> ((7 : Int32) &&& 0x3f).toInt64.toUInt64).toInt64).toUInt64 >>> ((7 : Int32) &&& 0x3f).toInt64.toUInt64).toInt64).toUInt64 >>> ((7 : Int32) &&& 0x3f).toInt64.toUInt64).toInt64).toUInt64 >>> ((7 : Int32) &&& 0x3f).toInt64.toUInt64).toInt64).toUInt64 >>> ((7 : Int32) &&& 0x3f).toInt64.toUInt64).toInt64).toUInt64 >>> ((7 : Int32) &&& 0x3f).toInt64.toUInt64).toInt64)), .second] [(.long (0 : Int64)), (.long ((((((((((((((((w0.toUInt64 >>> ((7 : Int32) &&& 0x3f).toInt64.toUInt64).toInt64).toUInt64 >>> ((7 : Int32) &&& 0x3f).toInt64.toUInt64).toInt64).toUInt64 >>> ((7 : Int32) &&& 0x3f).toInt64.toUInt64).toInt64).toUInt64 >>> ((7 : Int32) &&& 0x3f).toInt64.toUInt64).toInt64).toUInt64 >>> ((7 : Int32) &&& 0x3f).toInt64.toUInt64).toInt64).toUInt64 >>> ((7 : Int32) &&& 0x3f).toInt64.toUInt64).toInt64).toUInt64 >>> ((7 : Int32) &&& 0x3f).toInt64.toUInt64).toInt64).toUInt64 >>> ((7 : Int32) &&& 0x3f).toInt64.toUInt64).toInt64))])) _
                  refine XS.lcmp X0.here hx rfl (hb hby d2_9) rfl ?_
                  exact k)
                by_cases hc10''''''' : (lcmpW ((((((((((((((((w0.toUInt64 >>> ((7 : Int32) &&& 0x3f).toInt64.toUInt64).toInt64).toUInt64 >>> ((7 : Int32) &&& 0x3f).toInt64.toUInt64).toInt64).toUInt64 >>> ((7 : Int32) &&& 0x3f).toInt64.toUInt64).toInt64).toUInt64 >>> ((7 : Int32) &&& 0x3f).toInt64.toUInt64).toInt64).toUInt64 >>> ((7 : Int32) &&& 0x3f).toInt64.toUInt64).toInt64).toUInt64 >>> ((7 : Int32) &&& 0x3f).toInt64.toUInt64).toInt64).toUInt64 >>> ((7 : Int32) &&& 0x3f).toInt64.toUInt64).toInt64).toUInt64 >>> ((7 : Int32) &&& 0x3f).toInt64.toUInt64).toInt64) (0 : Int64)) = (0 : Int32)
                · -- pc 10: (lcmpW ((((((((((((((((w0.toUInt64 >>> ((7 : Int32) &&& 0x3f).toInt64.toUInt64).toInt64).toUInt64 >>> ((7 : Int32) &&& 0x3f).toInt64.toUInt64).toInt64).toUInt64 >>> ((7 : Int32) &&& 0x3f).toInt64.toUInt64).toInt64).toUInt64 >>> ((7 : Int32) &&& 0x3f).toInt64.toUInt64).toInt64).toUInt64 >>> ((7 : Int32) &&& 0x3f).toInt64.toUInt64).toInt64).toUInt64 >>> ((7 : Int32) &&& 0x3f).toInt64.toUInt64).toInt64).toUInt64 >>> ((7 : Int32) &&& 0x3f).toInt64.toUInt64).toInt64).toUInt64 >>> ((7 : Int32) &&& 0x3f).toInt64.toUInt64).toInt64) (0 : Int64)) = (0 : Int32)
                  obtain ⟨fs, hr, hrun, hended, hW, hsame⟩ := X0.leave (v := (some (.int ((((((((1 : Int32) + (1 : Int32)) + (1 : Int32)) + (1 : Int32)) + (1 : Int32)) + (1 : Int32)) + (1 : Int32)) + (1 : Int32))))) (fun h => by rw [Bd.returns] at h; cases h)
                  refine ⟨_, _, pre8 _ ?_, hrun, hended, _, _, rfl, ?_, ⟨_, rfl⟩, hW, hsame.mono (by decide) (by decide)⟩
                  · show Steps p.tables e below (s₁.setTop (mkF m 10 #[.val (.long w0), .second, .val (.int ((((((((1 : Int32) + (1 : Int32)) + (1 : Int32)) + (1 : Int32)) + (1 : Int32)) + (1 : Int32)) + (1 : Int32)) + (1 : Int32))), .val (.long ((((((((((((((((w0.toUInt64 >>> ((7 : Int32) &&& 0x3f).toInt64.toUInt64).toInt64).toUInt64 >>> ((7 : Int32) &&& 0x3f).toInt64.toUInt64).toInt64).toUInt64 >>> ((7 : Int32) &&& 0x3f).toInt64.toUInt64).toInt64).toUInt64 >>> ((7 : Int32) &&& 0x3f).toInt64.toUInt64).toInt64).toUInt64 >>> ((7 : Int32) &&& 0x3f).toInt64.toUInt64).toInt64).toUInt64 >>> ((7 : Int32) &&& 0x3f).toInt64.toUInt64).toInt64).toUInt64 >>> ((7 : Int32) &&& 0x3f).toInt64.toUInt64).toInt64).toUInt64 >>> ((7 : Int32) &&& 0x3f).toInt64.toUInt64).toInt64)), .second] [(.int (lcmpW ((((((((((((((((w0.toUInt64 >>> ((7 : Int32) &&& 0x3f).toInt64.toUInt64).toInt64).toUInt64 >>> ((7 : Int32) &&& 0x3f).toInt64.toUInt64).toInt64).toUInt64 >>> ((7 : Int32) &&& 0x3f).toInt64.toUInt64).toInt64).toUInt64 >>> ((7 : Int32) &&& 0x3f).toInt64.toUInt64).toInt64).toUInt64 >>> ((7 : Int32) &&& 0x3f).toInt64.toUInt64).toInt64).toUInt64 >>> ((7 : Int32) &&& 0x3f).toInt64.toUInt64).toInt64).toUInt64 >>> ((7 : Int32) &&& 0x3f).toInt64.toUInt64).toInt64).toUInt64 >>> ((7 : Int32) &&& 0x3f).toInt64.toUInt64).toInt64) (0 : Int64)))])) _
                    refine XS.ifYes X0.here hx rfl (pc0 := 10) (pc' := 24) rfl (hb hby d2_10) rfl ((if0 _ _).trans (teq hc10''''''').1) (by decide) (by decide) ?_
                    show Steps p.tables e below (s₁.setTop (mkF m 24 #[.val (.long w0), .second, .val (.int ((((((((1 : Int32) + (1 : Int32)) + (1 : Int32)) + (1 : Int32)) + (1 : Int32)) + (1 : Int32)) + (1 : Int32)) + (1 : Int32))), .val (.long ((((((((((((((((w0.toUInt64 >>> ((7 : Int32) &&& 0x3f).toInt64.toUInt64).toInt64).toUInt64 >>> ((7 : Int32) &&& 0x3f).toInt64.toUInt64).toInt64).toUInt64 >>> ((7 : Int32) &&& 0x3f).toInt64.toUInt64).toInt64).toUInt64 >>> ((7 : Int32) &&& 0x3f).toInt64.toUInt64).toInt64).toUInt64 >>> ((7 : Int32) &&& 0x3f).toInt64.toUInt64).toInt64).toUInt64 >>> ((7 : Int32) &&& 0x3f).toInt64.toUInt64).toInt64).toUInt64 >>> ((7 : Int32) &&& 0x3f).toInt64.toUInt64).toInt64).toUInt64 >>> ((7 : Int32) &&& 0x3f).toInt64.toUInt64).toInt64)), .second] [])) _
                    refine XS.iloadN X0.here hx rfl (hb hby d2_24) rfl ?_
                    show Steps p.tables e below (s₁.setTop (mkF m 25 #[.val (.long w0), .second, .val (.int ((((((((1 : Int32) + (1 : Int32)) + (1 : Int32)) + (1 : Int32)) + (1 : Int32)) + (1 : Int32)) + (1 : Int32)) + (1 : Int32))), .val (.long ((((((((((((((((w0.toUInt64 >>> ((7 : Int32) &&& 0x3f).toInt64.toUInt64).toInt64).toUInt64 >>> ((7 : Int32) &&& 0x3f).toInt64.toUInt64).toInt64).toUInt64 >>> ((7 : Int32) &&& 0x3f).toInt64.toUInt64).toInt64).toUInt64 >>> ((7 : Int32) &&& 0x3f).toInt64.toUInt64).toInt64).toUInt64 >>> ((7 : Int32) &&& 0x3f).toInt64.toUInt64).toInt64).toUInt64 >>> ((7 : Int32) &&& 0x3f).toInt64.toUInt64).toInt64).toUInt64 >>> ((7 : Int32) &&& 0x3f).toInt64.toUInt64).toInt64).toUInt64 >>> ((7 : Int32) &&& 0x3f).toInt64.toUInt64).toInt64)), .second] [(.int ((((((((1 : Int32) + (1 : Int32)) + (1 : Int32)) + (1 : Int32)) + (1 : Int32)) + (1 : Int32)) + (1 : Int32)) + (1 : Int32)))])) _
                    exact retI X0 hx Bd.returns (hb hby d2_25) hr
                  · show QP (some (.int (f2 w0))) h0 n0 _ s₁.heap _
                    rw [e0]
                    exact ⟨congrArg (fun z => some (Value.int z)) (Eq.symm (show (f2 w0) = ((((((((1 : Int32) + (1 : Int32)) + (1 : Int32)) + (1 : Int32)) + (1 : Int32)) + (1 : Int32)) + (1 : Int32)) + (1 : Int32)) from (if_neg hc10).trans ((if_neg hc10').trans ((if_neg hc10'').trans ((if_neg hc10''').trans ((if_neg hc10'''').trans ((if_neg hc10''''').trans ((if_neg hc10'''''').trans ((if_pos hc10''''''').trans (rfl)))))))))), N0, rfl⟩
                · -- pc 10: not (lcmpW ((((((((((((((((w0.toUInt64 >>> ((7 : Int32) &&& 0x3f).toInt64.toUInt64).toInt64).toUInt64 >>> ((7 : Int32) &&& 0x3f).toInt64.toUInt64).toInt64).toUInt64 >>> ((7 : Int32) &&& 0x3f).toInt64.toUInt64).toInt64).toUInt64 >>> ((7 : Int32) &&& 0x3f).toInt64.toUInt64).toInt64).toUInt64 >>> ((7 : Int32) &&& 0x3f).toInt64.toUInt64).toInt64).toUInt64 >>> ((7 : Int32) &&& 0x3f).toInt64.toUInt64).toInt64).toUInt64 >>> ((7 : Int32) &&& 0x3f).toInt64.toUInt64).toInt64).toUInt64 >>> ((7 : Int32) &&& 0x3f).toInt64.toUInt64).toInt64) (0 : Int64)) = (0 : Int32)
                  have pre9 : ∀ t, Steps p.tables e below (s₁.setTop (mkF m 10 #[.val (.long w0), .second, .val (.int (((((((((1 : Int32) + (1 : Int32)) + (1 : Int32)) + (1 : Int32)) + (1 : Int32)) + (1 : Int32)) + (1 : Int32)) + (1 : Int32)) + (1 : Int32))), .val (.long ((((((((((((((((((w0.toUInt64 >>> ((7 : Int32) &&& 0x3f).toInt64.toUInt64).toInt64).toUInt64 >>> ((7 : Int32) &&& 0x3f).toInt64.toUInt64).toInt64).toUInt64 >>> ((7 : Int32) &&& 0x3f).toInt64.toUInt64).toInt64).toUInt64 >>> ((7 : Int32) &&& 0x3f).toInt64.toUInt64).toInt64).toUInt64 >>> ((7 : Int32) &&& 0x3f).toInt64.toUInt64).toInt64).toUInt64 >>> ((7 : Int32) &&& 0x3f).toInt64.toUInt64).toInt64).toUInt64 >>> ((7 : Int32) &&& 0x3f).toInt64.toUInt64).toInt64).toUInt64 >>> ((7 : Int32) &&& 0x3f).toInt64.toUInt64).toInt64).toUInt64 >>> ((7 : Int32) &&& 0x3f).toInt64.toUInt64).toInt64)), .second] [(.int (lcmpW ((((((((((((((((((w0.toUInt64 >>> ((7 : Int32) &&& 0x3f).toInt64.toUInt64).toInt64).toUInt64 >>> ((7 : Int32) &&& 0x3f).toInt64.toUInt64).toInt64).toUInt64 >>> ((7 : Int32) &&& 0x3f).toInt64.toUInt64).toInt64).toUInt64 >>> ((7 : Int32) &&& 0x3f).toInt64.toUInt64).toInt64).toUInt64 >>> ((7 : Int32) &&& 0x3f).toInt64.toUInt64).toInt64).toUInt64 >>> ((7 : Int32) &&& 0x3f).toInt64.toUInt64).toInt64).toUInt64 >>> ((7 : Int32) &&& 0x3f).toInt64.toUInt64).toInt64).toUInt64 >>> ((7 : Int32) &&& 0x3f).toInt64.toUInt64).toInt64).toUInt64 >>> ((7 : Int32) &&& 0x3f).toInt64.toUInt64).toInt64) (0 : Int64)))])) t → Steps p.tables e below (s₁.setTop (entryFrame m #[(.long w0)] 5)) t := fun t k => pre8 t (by
                    show Steps p.tables e below (s₁.setTop (mkF m 10 #[.val (.long w0), .second, .val (.int ((((((((1 : Int32) + (1 : Int32)) + (1 : Int32)) + (1 : Int32)) + (1 : Int32)) + (1 : Int32)) + (1 : Int32)) + (1 : Int32))), .val (.long ((((((((((((((((w0.toUInt64 >>> ((7 : Int32) &&& 0x3f).toInt64.toUInt64).toInt64).toUInt64 >>> ((7 : Int32) &&& 0x3f).toInt64.toUInt64).toInt64).toUInt64 >>> ((7 : Int32) &&& 0x3f).toInt64.toUInt64).toInt64).toUInt64 >>> ((7 : Int32) &&& 0x3f).toInt64.toUInt64).toInt64).toUInt64 >>> ((7 : Int32) &&& 0x3f).toInt64.toUInt64).toInt64).toUInt64 >>> ((7 : Int32) &&& 0x3f).toInt64.toUInt64).toInt64).toUInt64 >>> ((7 : Int32) &&& 0x3f).toInt64.toUInt64).toInt64).toUInt64 >>> ((7 : Int32) &&& 0x3f).toInt64.toUInt64).toInt64)), .second] [(.int (lcmpW ((((((((((((((((w0.toUInt64 >>> ((7 : Int32) &&& 0x3f).toInt64.toUInt64).toInt64).toUInt64 >>> ((7 : Int32) &&& 0x3f).toInt64.toUInt64).toInt64).toUInt64 >>> ((7 : Int32) &&& 0x3f).toInt64.toUInt64).toInt64).toUInt64 >>> ((7 : Int32) &&& 0x3f).toInt64.toUInt64).toInt64).toUInt64 >>> ((7 : Int32) &&& 0x3f).toInt64.toUInt64).toInt64).toUInt64 >>> ((7 : Int32) &&& 0x3f).toInt64.toUInt64).toInt64).toUInt64 >>> ((7 : Int32) &&& 0x3f).toInt64.toUInt64).toInt64).toUInt64 >>> ((7 : Int32) &&& 0x3f).toInt64.toUInt64).toInt64) (0 : Int64)))])) _
                    refine XS.ifNo X0.here hx rfl (hb hby d2_10) rfl ((if0 _ _).trans (feq hc10''''''').1) ?_
                    show Steps p.tables e below (s₁.setTop (mkF m 13 #[.val (.long w0), .second, .val (.int ((((((((1 : Int32) + (1 : Int32)) + (1 : Int32)) + (1 : Int32)) + (1 : Int32)) + (1 : Int32)) + (1 : Int32)) + (1 : Int32))), .val (.long ((((((((((((((((w0.toUInt64 >>> ((7 : Int32) &&& 0x3f).toInt64.toUInt64).toInt64).toUInt64 >>> ((7 : Int32) &&& 0x3f).toInt64.toUInt64).toInt64).toUInt64 >>> ((7 : Int32) &&& 0x3f).toInt64.toUInt64).toInt64).toUInt64 >>> ((7 : Int32) &&& 0x3f).toInt64.toUInt64).toInt64).toUInt64 >>> ((7 : Int32) &&& 0x3f).toInt64.toUInt64).toInt64).toUInt64 >>> ((7 : Int32) &&& 0x3f).toInt64.toUInt64).toInt64).toUInt64 >>> ((7 : Int32) &&& 0x3f).toInt64.toUInt64).toInt64).toUInt64 >>> ((7 : Int32) &&& 0x3f).toInt64.toUInt64).toInt64)), .second] [])) _
                    refine XS.iinc X0.here hx rfl (hb hby d2_13) rfl (l' := #[.val (.long w0), .second, .val (.int (((((((((1 : Int32) + (1 : Int32)) + (1 : Int32)) + (1 : Int32)) + (1 : Int32)) + (1 : Int32)) + (1 : Int32)) + (1 : Int32)) + (1 : Int32))), .val (.long ((((((((((((((((w0.toUInt64 >>> ((7 : Int32) &&& 0x3f).toInt64.toUInt64).toInt64).toUInt64 >>> ((7 : Int32) &&& 0x3f).toInt64.toUInt64).toInt64).toUInt64 >>> ((7 : Int32) &&& 0x3f).toInt64.toUInt64).toInt64).toUInt64 >>> ((7 : Int32) &&& 0x3f).toInt64.toUInt64).toInt64).toUInt64 >>> ((7 : Int32) &&& 0x3f).toInt64.toUInt64).toInt64).toUInt64 >>> ((7 : Int32) &&& 0x3f).toInt64.toUInt64).toInt64).toUInt64 >>> ((7 : Int32) &&& 0x3f).toInt64.toUInt64).toInt64).toUInt64 >>> ((7 : Int32) &&& 0x3f).toInt64.toUInt64).toInt64)), .second]) rfl ?_
                    show Steps p.tables e below (s₁.setTop (mkF m 16 #[.val (.long w0), .second, .val (.int (((((((((1 : Int32) + (1 : Int32)) + (1 : Int32)) + (1 : Int32)) + (1 : Int32)) + (1 : Int32)) + (1 : Int32)) + (1 : Int32)) + (1 : Int32))), .val (.long ((((((((((((((((w0.toUInt64 >>> ((7 : Int32) &&& 0x3f).toInt64.toUInt64).toInt64).toUInt64 >>> ((7 : Int32) &&& 0x3f).toInt64.toUInt64).toInt64).toUInt64 >>> ((7 : Int32) &&& 0x3f).toInt64.toUInt64).toInt64).toUInt64 >>> ((7 : Int32) &&& 0x3f).toInt64.toUInt64).toInt64).toUInt64 >>> ((7 : Int32) &&& 0x3f).toInt64.toUInt64).toInt64).toUInt64 >>> ((7 : Int32) &&& 0x3f).toInt64.toUInt64).toInt64).toUInt64 >>> ((7 : Int32) &&& 0x3f).toInt64.toUInt64).toInt64).toUInt64 >>> ((7 : Int32) &&& 0x3f).toInt64.toUInt64).toInt64)), .second] [])) _
                    refine XS.lloadN X0.here hx rfl (hb hby d2_16) rfl ?_
                    show Steps p.tables e below (s₁.setTop (mkF m 17 #[.val (.long w0), .second, .val (.int (((((((((1 : Int32) + (1 : Int32)) + (1 : Int32)) + (1 : Int32)) + (1 : Int32)) + (1 : Int32)) + (1 : Int32)) + (1 : Int32)) + (1 : Int32))), .val (.long ((((((((((((((((w0.toUInt64 >>> ((7 : Int32) &&& 0x3f).toInt64.toUInt64).toInt64).toUInt64 >>> ((7 : Int32) &&& 0x3f).toInt64.toUInt64).toInt64).toUInt64 >>> ((7 : Int32) &&& 0x3f).toInt64.toUInt64).toInt64).toUInt64 >>> ((7 : Int32) &&& 0x3f).toInt64.toUInt64).toInt64).toUInt64 >>> ((7 : Int32) &&& 0x3f).toInt64.toUInt64).toInt64).toUInt64 >>> ((7 : Int32) &&& 0x3f).toInt64.toUInt64).toInt64).toUInt64 >>> ((7 : Int32) &&& 0x3f).toInt64.toUInt64).toInt64).toUInt64 >>> ((7 : Int32) &&& 0x3f).toInt64.toUInt64).toInt64)), .second] [(.long ((((((((((((((((w0.toUInt64 >>> ((7 : Int32) &&& 0x3f).toInt64.toUInt64).toInt64).toUInt64 >>> ((7 : Int32) &&& 0x3f).toInt64.toUInt64).toInt64).toUInt64 >>> ((7 : Int32) &&& 0x3f).toInt64.toUInt64).toInt64).toUInt64 >>> ((7 : Int32) &&& 0x3f).toInt64.toUInt64).toInt64).toUInt64 >>> ((7 : Int32) &&& 0x3f).toInt64.toUInt64).toInt64).toUInt64 >>> ((7 : Int32) &&& 0x3f).toInt64.toUInt64).toInt64).toUInt64 >>> ((7 : Int32) &&& 0x3f).toInt64.toUInt64).toInt64).toUInt64 >>> ((7 : Int32) &&& 0x3f).toInt64.toUInt64).toInt64))])) _
                    refine XS.bipush X0.here hx rfl (hb hby d2_17) ?_
                    show Steps p.tables e below (s₁.setTop (mkF m 19 #[.val (.long w0), .second, .val (.int (((((((((1 : Int32) + (1 : Int32)) + (1 : Int32)) + (1 : Int32)) + (1 : Int32)) + (1 : Int32)) + (1 : Int32)) + (1 : Int32)) + (1 : Int32))), .val (.long ((((((((((((((((w0.toUInt64 >>> ((7 : Int32) &&& 0x3f).toInt64.toUInt64).toInt64).toUInt64 >>> ((7 : Int32) &&& 0x3f).toInt64.toUInt64).toInt64).toUInt64 >>> ((7 : Int32) &&& 0x3f).toInt64.toUInt64).toInt64).toUInt64 >>> ((7 : Int32) &&& 0x3f).toInt64.toUInt64).toInt64).toUInt64 >>> ((7 : Int32) &&& 0x3f).toInt64.toUInt64).toInt64).toUInt64 >>> ((7 : Int32) &&& 0x3f).toInt64.toUInt64).toInt64).toUInt64 >>> ((7 : Int32) &&& 0x3f).toInt64.toUInt64).toInt64).toUInt64 >>> ((7 : Int32) &&& 0x3f).toInt64.toUInt64).toInt64)), .second] [(.int (7 : Int32)), (.long ((((((((((((((((w0.toUInt64 >>> ((7 : Int32) &&& 0x3f).toInt64.toUInt64).toInt64).toUInt64 >>> ((7 : Int32) &&& 0x3f).toInt64.toUInt64).toInt64).toUInt64 >>> ((7 : Int32) &&& 0x3f).toInt64.toUInt64).toInt64).toUInt64 >>> ((7 : Int32) &&& 0x3f).toInt64.toUInt64).toInt64).toUInt64 >>> ((7 : Int32) &&& 0x3f).toInt64.toUInt64).toInt64).toUInt64 >>> ((7 : Int32) &&& 0x3f).toInt64.toUInt64).toInt64).toUInt64 >>> ((7 : Int32) &&& 0x3f).toInt64.toUInt64).toInt64).toUInt64 >>> ((7 : Int32) &&& 0x3f).toInt64.toUInt64).toInt64))])) _
                    refine XS.lushr X0.here hx rfl (hb hby d2_19) rfl ?_
                    show Steps p.tables e below (s₁.setTop (mkF m 20 #[.val (.long w0), .second, .val (.int (((((((((1 : Int32) + (1 : Int32)) + (1 : Int32)) + (1 : Int32)) + (1 : Int32)) + (1 : Int32)) + (1 : Int32)) + (1 : Int32)) + (1 : Int32))), .val (.long ((((((((((((((((w0.toUInt64 >>> ((7 : Int32) &&& 0x3f).toInt64.toUInt64).toInt64).toUInt64 >>> ((7 : Int32) &&& 0x3f).toInt64.toUInt64).toInt64).toUInt64 >>> ((7 : Int32) &&& 0x3f).toInt64.toUInt64).toInt64).toUInt64 >>> ((7 : Int32) &&& 0x3f).toInt64.toUInt64).toInt64).toUInt64 >>> ((7 : Int32) &&& 0x3f).toInt64.toUInt64).toInt64).toUInt64 >>> ((7 : Int32) &&& 0x3f).toInt64.toUInt64).toInt64).toUInt64 >>> ((7 : Int32) &&& 0x3f).toInt64.toUInt64).toInt64).toUInt64 >>> ((7 : Int32) &&& 0x3f).toInt64.toUInt64).toInt64)), .second] [(.long ((((((((((((((((((w0.toUInt64 >>> ((7 : Int32) &&& 0x3f).toInt64.toUInt64).toInt64).toUInt64 >>> ((7 : Int32) &&& 0x3f).toInt64.toUInt64).toInt64).toUInt64 >>> ((7 : Int32) &&& 0x3f).toInt64.toUInt64).toInt64).toUInt64 >>> ((7 : Int32) &&& 0x3f).toInt64.toUInt64).toInt64).toUInt64 >>> ((7 : Int32) &&& 0x3f).toInt64.toUInt64).toInt64).toUInt64 >>> ((7 : Int32) &&& 0x3f).toInt64.toUInt64).toInt64).toUInt64 >>> ((7 : Int32) &&& 0x3f).toInt64.toUInt64).toInt64).toUInt64 >>> ((7 : Int32) &&& 0x3f).toInt64.toUInt64).toInt64).toUInt64 >>> ((7 : Int32) &&& 0x3f).toInt64.toUInt64).toInt64))])) _
                    refine XS.lstoreN X0.here hx rfl (hb hby d2_20) rfl (l' := #[.val (.long w0), .second, .val (.int (((((((((1 : Int32) + (1 : Int32)) + (1 : Int32)) + (1 : Int32)) + (1 : Int32)) + (1 : Int32)) + (1 : Int32)) + (1 : Int32)) + (1 : Int32))), .val (.long ((((((((((((((((((w0.toUInt64 >>> ((7 : Int32) &&& 0x3f).toInt64.toUInt64).toInt64).toUInt64 >>> ((7 : Int32) &&& 0x3f).toInt64.toUInt64).toInt64).toUInt64 >>> ((7 : Int32) &&& 0x3f).toInt64.toUInt64).toInt64).toUInt64 >>> ((7 : Int32) &&& 0x3f).toInt64.toUInt64).toInt64).toUInt64 >>> ((7 : Int32) &&& 0x3f).toInt64.toUInt64).toInt64).toUInt64 >>> ((7 : Int32) &&& 0x3f).toInt64.toUInt64).toInt64).toUInt64 >>> ((7 : Int32) &&& 0x3f).toInt64.toUInt64).toInt64).toUInt64 >>> ((7 : Int32) &&& 0x3f).toInt64.toUInt64).toInt64).toUInt64 >>> ((7 : Int32) &&& 0x3f).toInt64.toUInt64).toInt64)), .second]) rfl ?_
                    show Steps p.tables e below (s₁.setTop (mkF m 21 #[.val (.long w0), .second, .val (.int (((((((((1 : Int32) + (1 : Int32)) + (1 : Int32)) + (1 : Int32)) + (1 : Int32)) + (1 : Int32)) + (1 : Int32)) + (1 : Int32)) + (1 : Int32))), .val (.long ((((((((((((((((((w0.toUInt64 >>> ((7 : Int32) &&& 0x3f).toInt64.toUInt64).toInt64).toUInt64 >>> ((7 : Int32) &&& 0x3f).toInt64.toUInt64).toInt64).toUInt64 >>> ((7 : Int32) &&& 0x3f).toInt64.toUInt64).toInt64).toUInt64 >>> ((7 : Int32) &&& 0x3f).toInt64.toUInt64).toInt64).toUInt64 >>> ((7 : Int32) &&& 0x3f).toInt64.toUInt64).toInt64).toUInt64 >>> ((7 : Int32) &&& 0x3f).toInt64.toUInt64).toInt64).toUInt64 >>> ((7 : Int32) &&& 0x3f).toInt64.toUInt64).toInt64).toUInt64 >>> ((7 : Int32) &&& 0x3f).toInt64.toUInt64).toInt64).toUInt64 >>> ((7 : Int32) &&& 0x3f).toInt64.toUInt64).toInt64)), .second] [])) _
                    refine XS.goto X0.here hx rfl (pc0 := 21) (pc' := 7) rfl (hb hby d2_21) (by decide) (by decide) ?_
                    show Steps p.tables e below (s₁.setTop (mkF m 7 #[.val (.long w0), .second, .val (.int (((((((((1 : Int32) + (1 : Int32)) + (1 : Int32)) + (1 : Int32)) + (1 : Int32)) + (1 : Int32)) + (1 : Int32)) + (1 : Int32)) + (1 : Int32))), .val (.long ((((((((((((((((((w0.toUInt64 >>> ((7 : Int32) &&& 0x3f).toInt64.toUInt64).toInt64).toUInt64 >>> ((7 : Int32) &&& 0x3f).toInt64.toUInt64).toInt64).toUInt64 >>> ((7 : Int32) &&& 0x3f).toInt64.toUInt64).toInt64).toUInt64 >>> ((7 : Int32) &&& 0x3f).toInt64.toUInt64).toInt64).toUInt64 >>> ((7 : Int32) &&& 0x3f).toInt64.toUInt64).toInt64).toUInt64 >>> ((7 : Int32) &&& 0x3f).toInt64.toUInt64).toInt64).toUInt64 >>> ((7 : Int32) &&& 0x3f).toInt64.toUInt64).toInt64).toUInt64 >>> ((7 : Int32) &&& 0x3f).toInt64.toUInt64).toInt64).toUInt64 >>> ((7 : Int32) &&& 0x3f).toInt64.toUInt64).toInt64)), .second] [])) _
                    refine XS.lloadN X0.here hx rfl (hb hby d2_7) rfl ?_
                    show Steps p.tables e below (s₁.setTop (mkF m 8 #[.val (.long w0), .second, .val (.int (((((((((1 : Int32) + (1 : Int32)) + (1 : Int32)) + (1 : Int32)) + (1 : Int32)) + (1 : Int32)) + (1 : Int32)) + (1 : Int32)) + (1 : Int32))), .val (.long ((((((((((((((((((w0.toUInt64 >>> ((7 : Int32) &&& 0x3f).toInt64.toUInt64).toInt64).toUInt64 >>> ((7 : Int32) &&& 0x3f).toInt64.toUInt64).toInt64).toUInt64 >>> ((7 : Int32) &&& 0x3f).toInt64.toUInt64).toInt64).toUInt64 >>> ((7 : Int32) &&& 0x3f).toInt64.toUInt64).toInt64).toUInt64 >>> ((7 : Int32) &&& 0x3f).toInt64.toUInt64).toInt64).toUInt64 >>> ((7 : Int32) &&& 0x3f).toInt64.toUInt64).toInt64).toUInt64 >>> ((7 : Int32) &&& 0x3f).toInt64.toUInt64).toInt64).toUInt64 >>> ((7 : Int32) &&& 0x3f).toInt64.toUInt64).toInt64).toUInt64 >>> ((7 : Int32) &&& 0x3f).toInt64.toUInt64).toInt64)), .second] [(.long ((((((((((((((((((w0.toUInt64 >>> ((7 : Int32) &&& 0x3f).toInt64.toUInt64).toInt64).toUInt64 >>> ((7 : Int32) &&& 0x3f).toInt64.toUInt64).toInt64).toUInt64 >>> ((7 : Int32) &&& 0x3f).toInt64.toUInt64).toInt64).toUInt64 >>> ((7 : Int32) &&& 0x3f).toInt64.toUInt64).toInt64).toUInt64 >>> ((7 : Int32) &&& 0x3f).toInt64.toUInt64).toInt64).toUInt64 >>> ((7 : Int32) &&& 0x3f).toInt64.toUInt64).toInt64).toUInt64 >>> ((7 : Int32) &&& 0x3f).toInt64.toUInt64).toInt64).toUInt64 >>> ((7 : Int32) &&& 0x3f).toInt64.toUInt64).toInt64).toUInt64 >>> ((7 : Int32) &&& 0x3f).toInt64.toUInt64).toInt64))])) _
                    refine XS.lconst X0.here hx rfl (hb hby d2_8) ?_
                    show Steps p.tables e below (s₁.setTop (mkF m 9 #[.val (.long w0), .second, .val (.int (((((((((1 : Int32) + (1 : Int32)) + (1 : Int32)) + (1 : Int32)) + (1 : Int32)) + (1 : Int32)) + (1 : Int32)) + (1 : Int32)) + (1 : Int32))), .val (.long ((((((((((((((((((w0.toUInt64 >>> ((7 : Int32) &&& 0x3f).toInt64.toUInt64).toInt64).toUInt64 >>> ((7 : Int32) &&& 0x3f).toInt64.toUInt64).toInt64).toUInt64 >>> ((7 : Int32) &&& 0x3f).toInt64.toUInt64).toInt64).toUInt64 >>> ((7 : Int32) &&& 0x3f).toInt64.toUInt64).toInt64).toUInt64 >>> ((7 : Int32) &&& 0x3f).toInt64.toUInt64).toInt64).toUInt64 >>> ((7 : Int32) &&& 0x3f).toInt64.toUInt64).toInt64).toUInt64 >>> ((7 : Int32) &&& 0x3f).toInt64.toUInt64).toInt64).toUInt64 >>> ((7 : Int32) &&& 0x3f).toInt64.toUInt64).toInt64).toUInt64 >>> ((7 : Int32) &&& 0x3f).toInt64.toUInt64).toInt64)), .second] [(.long (0 : Int64)), (.long ((((((((((((((((((w0.toUInt64 >>> ((7 : Int32) &&& 0x3f).toInt64.toUInt64).toInt64).toUInt64 >>> ((7 : Int32) &&& 0x3f).toInt64.toUInt64).toInt64).toUInt64 >>> ((7 : Int32) &&& 0x3f).toInt64.toUInt64).toInt64).toUInt64 >>> ((7 : Int32) &&& 0x3f).toInt64.toUInt64).toInt64).toUInt64 >>> ((7 : Int32) &&& 0x3f).toInt64.toUInt64).toInt64).toUInt64 >>> ((7 : Int32) &&& 0x3f).toInt64.toUInt64).toInt64).toUInt64 >>> ((7 : Int32) &&& 0x3f).toInt64.toUInt64).toInt64).toUInt64 >>> ((7 : Int32) &&& 0x3f).toInt64.toUInt64).toInt64).toUInt64 >>> ((7 : Int32) &&& 0x3f).toInt64.toUInt64).toInt64))])) _
                    refine XS.lcmp X0.here hx rfl (hb hby d2_9) rfl ?_
                    exact k)
                  by_cases hc10'''''''' : (lcmpW ((((((((((((((((((w0.toUInt64 >>> ((7 : Int32) &&& 0x3f).toInt64.toUInt64).toInt64).toUInt64 >>> ((7 : Int32) &&& 0x3f).toInt64.toUInt64).toInt64).toUInt64 >>> ((7 : Int32) &&& 0x3f).toInt64.toUInt64).toInt64).toUInt64 >>> ((7 : Int32) &&& 0x3f).toInt64.toUInt64).toInt64).toUInt64 >>> ((7 : Int32) &&& 0x3f).toInt64.toUInt64).toInt64).toUInt64 >>> ((7 : Int32) &&& 0x3f).toInt64.toUInt64).toInt64).toUInt64 >>> ((7 : Int32) &&& 0x3f).toInt64.toUInt64).toInt64).toUInt64 >>> ((7 : Int32) &&& 0x3f).toInt64.toUInt64).toInt64).toUInt64 >>> ((7 : Int32) &&& 0x3f).toInt64.toUInt64).toInt64) (0 : Int64)) = (0 : Int32)
                  · -- pc 10: (lcmpW ((((((((((((((((((w0.toUInt64 >>> ((7 : Int32) &&& 0x3f).toInt64.toUInt64).toInt64).toUInt64 >>> ((7 : Int32) &&& 0x3f).toInt64.toUInt64).toInt64).toUInt64 >>> ((7 : Int32) &&& 0x3f).toInt64.toUInt64).toInt64).toUInt64 >>> ((7 : Int32) &&& 0x3f).toInt64.toUInt64).toInt64).toUInt64 >>> ((7 : Int32) &&& 0x3f).toInt64.toUInt64).toInt64).toUInt64 >>> ((7 : Int32) &&& 0x3f).toInt64.toUInt64).toInt64).toUInt64 >>> ((7 : Int32) &&& 0x3f).toInt64.toUInt64).toInt64).toUInt64 >>> ((7 : Int32) &&& 0x3f).toInt64.toUInt64).toInt64).toUInt64 >>> ((7 : Int32) &&& 0x3f).toInt64.toUInt64).toInt64) (0 : Int64)) = (0 : Int32)
                    obtain ⟨fs, hr, hrun, hended, hW, hsame⟩ := X0.leave (v := (some (.int (((((((((1 : Int32) + (1 : Int32)) + (1 : Int32)) + (1 : Int32)) + (1 : Int32)) + (1 : Int32)) + (1 : Int32)) + (1 : Int32)) + (1 : Int32))))) (fun h => by rw [Bd.returns] at h; cases h)
                    refine ⟨_, _, pre9 _ ?_, hrun, hended, _, _, rfl, ?_, ⟨_, rfl⟩, hW, hsame.mono (by decide) (by decide)⟩
                    · show Steps p.tables e below (s₁.setTop (mkF m 10 #[.val (.long w0), .second, .val (.int (((((((((1 : Int32) + (1 : Int32)) + (1 : Int32)) + (1 : Int32)) + (1 : Int32)) + (1 : Int32)) + (1 : Int32)) + (1 : Int32)) + (1 : Int32))), .val (.long ((((((((((((((((((w0.toUInt64 >>> ((7 : Int32) &&& 0x3f).toInt64.toUInt64).toInt64).toUInt64 >>> ((7 : Int32) &&& 0x3f).toInt64.toUInt64).toInt64).toUInt64 >>> ((7 : Int32) &&& 0x3f).toInt64.toUInt64).toInt64).toUInt64 >>> ((7 : Int32) &&& 0x3f).toInt64.toUInt64).toInt64).toUInt64 >>> ((7 : Int32) &&& 0x3f).toInt64.toUInt64).toInt64).toUInt64 >>> ((7 : Int32) &&& 0x3f).toInt64.toUInt64).toInt64).toUInt64 >>> ((7 : Int32) &&& 0x3f).toInt64.toUInt64).toInt64).toUInt64 >>> ((7 : Int32) &&& 0x3f).toInt64.toUInt64).toInt64).toUInt64 >>> ((7 : Int32) &&& 0x3f).toInt64.toUInt64).toInt64)), .second] [(.int (lcmpW ((((((((((((((((((w0.toUInt64 >>> ((7 : Int32) &&& 0x3f).toInt64.toUInt64).toInt64).toUInt64 >>> ((7 : Int32) &&& 0x3f).toInt64.toUInt64).toInt64).toUInt64 >>> ((7 : Int32) &&& 0x3f).toInt64.toUInt64).toInt64).toUInt64 >>> ((7 : Int32) &&& 0x3f).toInt64.toUInt64).toInt64).toUInt64 >>> ((7 : Int32) &&& 0x3f).toInt64.toUInt64).toInt64).toUInt64 >>> ((7 : Int32) &&& 0x3f).toInt64.toUInt64).toInt64).toUInt64 >>> ((7 : Int32) &&& 0x3f).toInt64.toUInt64).toInt64).toUInt64 >>> ((7 : Int32) &&& 0x3f).toInt64.toUInt64).toInt64).toUInt64 >>> ((7 : Int32) &&& 0x3f).toInt64.toUInt64).toInt64) (0 : Int64)))])) _
                      refine XS.ifYes X0.here hx rfl (pc0 := 10) (pc' := 24) rfl (hb hby d2_10) rfl ((if0 _ _).trans (teq hc10'''''''').1) (by decide) (by decide) ?_
                      show Steps p.tables e below (s₁.setTop (mkF m 24 #[.val (.long w0), .second, .val (.int (((((((((1 : Int32) + (1 : Int32)) + (1 : Int32)) + (1 : Int32)) + (1 : Int32)) + (1 : Int32)) + (1 : Int32)) + (1 : Int32)) + (1 : Int32))), .val (.long ((((((((((((((((((w0.toUInt64 >>> ((7 : Int32) &&& 0x3f).toInt64.toUInt64).toInt64).toUInt64 >>> ((7 : Int32) &&& 0x3f).toInt64.toUInt64).toInt64).toUInt64 >>> ((7 : Int32) &&& 0x3f).toInt64.toUInt64).toInt64).toUInt64 >>> ((7 : Int32) &&& 0x3f).toInt64.toUInt64).toInt64).toUInt64 >>> ((7 : Int32) &&& 0x3f).toInt64.toUInt64).toInt64).toUInt64 >>> ((7 : Int32) &&& 0x3f).toInt64.toUInt64).toInt64).toUInt64 >>> ((7 : Int32) &&& 0x3f).toInt64.toUInt64).toInt64).toUInt64 >>> ((7 : Int32) &&& 0x3f).toInt64.toUInt64).toInt64).toUInt64 >>> ((7 : Int32) &&& 0x3f).toInt64.toUInt64).toInt64)), .second] [])) _
                      refine XS.iloadN X0.here hx rfl (hb hby d2_24) rfl ?_
                      show Steps p.tables e below (s₁.setTop (mkF m 25 #[.val (.long w0), .second, .val (.int (((((((((1 : Int32) + (1 : Int32)) + (1 : Int32)) + (1 : Int32)) + (1 : Int32)) + (1 : Int32)) + (1 : Int32)) + (1 : Int32)) + (1 : Int32))), .val (.long ((((((((((((((((((w0.toUInt64 >>> ((7 : Int32) &&& 0x3f).toInt64.toUInt64).toInt64).toUInt64 >>> ((7 : Int32) &&& 0x3f).toInt64.toUInt64).toInt64).toUInt64 >>> ((7 : Int32) &&& 0x3f).toInt64.toUInt64).toInt64).toUInt64 >>> ((7 : Int32) &&& 0x3f).toInt64.toUInt64).toInt64).toUInt64 >>> ((7 : Int32) &&& 0x3f).toInt64.toUInt64).toInt64).toUInt64 >>> ((7 : Int32) &&& 0x3f).toInt64.toUInt64).toInt64).toUInt64 >>> ((7 : Int32) &&& 0x3f).toInt64.toUInt64).toInt64).toUInt64 >>> ((7 : Int32) &&& 0x3f).toInt64.toUInt64).toInt64).toUInt64 >>> ((7 : Int32) &&& 0x3f).toInt64.toUInt64).toInt64)), .second] [(.int (((((((((1 : Int32) + (1 : Int32)) + (1 : Int32)) + (1 : Int32)) + (1 : Int32)) + (1 : Int32)) + (1 : Int32)) + (1 : Int32)) + (1 : Int32)))])) _
                      exact retI X0 hx Bd.returns (hb hby d2_25) hr
                    · show QP (some (.int (f2 w0))) h0 n0 _ s₁.heap _
                      rw [e0]
                      exact ⟨congrArg (fun z => some (Value.int z)) (Eq.symm (show (f2 w0) = (((((((((1 : Int32) + (1 : Int32)) + (1 : Int32)) + (1 : Int32)) + (1 : Int32)) + (1 : Int32)) + (1 : Int32)) + (1 : Int32)) + (1 : Int32)) from (if_neg hc10).trans ((if_neg hc10').trans ((if_neg hc10'').trans ((if_neg hc10''').trans ((if_neg hc10'''').trans ((if_neg hc10''''').trans ((if_neg hc10'''''').trans ((if_neg hc10''''''').trans (rfl)))))))))), N0, rfl⟩
                  · -- pc 10: not (lcmpW ((((((((((((((((((w0.toUInt64 >>> ((7 : Int32) &&& 0x3f).toInt64.toUInt64).toInt64).toUInt64 >>> ((7 : Int32) &&& 0x3f).toInt64.toUInt64).toInt64).toUInt64 >>> ((7 : Int32) &&& 0x3f).toInt64.toUInt64).toInt64).toUInt64 >>> ((7 : Int32) &&& 0x3f).toInt64.toUInt64).toInt64).toUInt64 >>> ((7 : Int32) &&& 0x3f).toInt64.toUInt64).toInt64).toUInt64 >>> ((7 : Int32) &&& 0x3f).toInt64.toUInt64).toInt64).toUInt64 >>> ((7 : Int32) &&& 0x3f).toInt64.toUInt64).toInt64).toUInt64 >>> ((7 : Int32) &&& 0x3f).toInt64.toUInt64).toInt64).toUInt64 >>> ((7 : Int32) &&& 0x3f).toInt64.toUInt64).toInt64) (0 : Int64)) = (0 : Int32)
                    exact absurd (own_nine w0 hv) hc10''''''''
theorem own_A1 (w : Int64) (hv : 0 ≤ w.toInt) : lcmpW ((w.toUInt64 >>> ((7 : Int32) &&& 0x3f).toInt64.toUInt64).toInt64) (0 : Int64) = (0 : Int32) ↔ lcmpW w (128 : Int64) < (0 : Int32) := by
  have r0 := rng64 w
  have h1 := c_lushr w 7 7 (by decide) (by decide)
  rw [lw_eq, lw_lt, Int64.lt_iff_toInt_lt, ← Int64.toInt_inj, show (0 : Int64).toInt = 0 from rfl, show (128 : Int64).toInt = 128 from rfl]
  generalize ((w.toUInt64 >>> ((7 : Int32) &&& 0x3f).toInt64.toUInt64).toInt64) = r1 at *
  omega
theorem own_A2 (w : Int64) (hv : 0 ≤ w.toInt) : lcmpW ((((w.toUInt64 >>> ((7 : Int32) &&& 0x3f).toInt64.toUInt64).toInt64).toUInt64 >>> ((7 : Int32) &&& 0x3f).toInt64.toUInt64).toInt64) (0 : Int64) = (0 : Int32) ↔ lcmpW w (16384 : Int64) < (0 : Int32) := by
  have r0 := rng64 w
  have h1 := c_lushr w 7 7 (by decide) (by decide)
  have h2 := c_lushr ((w.toUInt64 >>> ((7 : Int32) &&& 0x3f).toInt64.toUInt64).toInt64) 7 7 (by decide) (by decide)
  rw [lw_eq, lw_lt, Int64.lt_iff_toInt_lt, ← Int64.toInt_inj, show (0 : Int64).toInt = 0 from rfl, show (16384 : Int64).toInt = 16384 from rfl]
  generalize ((w.toUInt64 >>> ((7 : Int32) &&& 0x3f).toInt64.toUInt64).toInt64) = r1 at *
  generalize ((r1.toUInt64 >>> ((7 : Int32) &&& 0x3f).toInt64.toUInt64).toInt64) = r2 at *
  omega
theorem own_A3 (w : Int64) (hv : 0 ≤ w.toInt) : lcmpW ((((((w.toUInt64 >>> ((7 : Int32) &&& 0x3f).toInt64.toUInt64).toInt64).toUInt64 >>> ((7 : Int32) &&& 0x3f).toInt64.toUInt64).toInt64).toUInt64 >>> ((7 : Int32) &&& 0x3f).toInt64.toUInt64).toInt64) (0 : Int64) = (0 : Int32) ↔ lcmpW w (2097152 : Int64) < (0 : Int32) := by
  have r0 := rng64 w
  have h1 := c_lushr w 7 7 (by decide) (by decide)
  have h2 := c_lushr ((w.toUInt64 >>> ((7 : Int32) &&& 0x3f).toInt64.toUInt64).toInt64) 7 7 (by decide) (by decide)
  have h3 := c_lushr ((((w.toUInt64 >>> ((7 : Int32) &&& 0x3f).toInt64.toUInt64).toInt64).toUInt64 >>> ((7 : Int32) &&& 0x3f).toInt64.toUInt64).toInt64) 7 7 (by decide) (by decide)
  rw [lw_eq, lw_lt, Int64.lt_iff_toInt_lt, ← Int64.toInt_inj, show (0 : Int64).toInt = 0 from rfl, show (2097152 : Int64).toInt = 2097152 from rfl]
  generalize ((w.toUInt64 >>> ((7 : Int32) &&& 0x3f).toInt64.toUInt64).toInt64) = r1 at *
  generalize ((r1.toUInt64 >>> ((7 : Int32) &&& 0x3f).toInt64.toUInt64).toInt64) = r2 at *
  generalize ((r2.toUInt64 >>> ((7 : Int32) &&& 0x3f).toInt64.toUInt64).toInt64) = r3 at *
  omega
theorem own_A4 (w : Int64) (hv : 0 ≤ w.toInt) : lcmpW ((((((((w.toUInt64 >>> ((7 : Int32) &&& 0x3f).toInt64.toUInt64).toInt64).toUInt64 >>> ((7 : Int32) &&& 0x3f).toInt64.toUInt64).toInt64).toUInt64 >>> ((7 : Int32) &&& 0x3f).toInt64.toUInt64).toInt64).toUInt64 >>> ((7 : Int32) &&& 0x3f).toInt64.toUInt64).toInt64) (0 : Int64) = (0 : Int32) ↔ lcmpW w (268435456 : Int64) < (0 : Int32) := by
  have r0 := rng64 w
  have h1 := c_lushr w 7 7 (by decide) (by decide)
  have h2 := c_lushr ((w.toUInt64 >>> ((7 : Int32) &&& 0x3f).toInt64.toUInt64).toInt64) 7 7 (by decide) (by decide)
  have h3 := c_lushr ((((w.toUInt64 >>> ((7 : Int32) &&& 0x3f).toInt64.toUInt64).toInt64).toUInt64 >>> ((7 : Int32) &&& 0x3f).toInt64.toUInt64).toInt64) 7 7 (by decide) (by decide)
  have h4 := c_lushr ((((((w.toUInt64 >>> ((7 : Int32) &&& 0x3f).toInt64.toUInt64).toInt64).toUInt64 >>> ((7 : Int32) &&& 0x3f).toInt64.toUInt64).toInt64).toUInt64 >>> ((7 : Int32) &&& 0x3f).toInt64.toUInt64).toInt64) 7 7 (by decide) (by decide)
  rw [lw_eq, lw_lt, Int64.lt_iff_toInt_lt, ← Int64.toInt_inj, show (0 : Int64).toInt = 0 from rfl, show (268435456 : Int64).toInt = 268435456 from rfl]
  generalize ((w.toUInt64 >>> ((7 : Int32) &&& 0x3f).toInt64.toUInt64).toInt64) = r1 at *
  generalize ((r1.toUInt64 >>> ((7 : Int32) &&& 0x3f).toInt64.toUInt64).toInt64) = r2 at *
  generalize ((r2.toUInt64 >>> ((7 : Int32) &&& 0x3f).toInt64.toUInt64).toInt64) = r3 at *
  generalize ((r3.toUInt64 >>> ((7 : Int32) &&& 0x3f).toInt64.toUInt64).toInt64) = r4 at *
  omega
theorem own_A5 (w : Int64) (hv : 0 ≤ w.toInt) : lcmpW ((((((((((w.toUInt64 >>> ((7 : Int32) &&& 0x3f).toInt64.toUInt64).toInt64).toUInt64 >>> ((7 : Int32) &&& 0x3f).toInt64.toUInt64).toInt64).toUInt64 >>> ((7 : Int32) &&& 0x3f).toInt64.toUInt64).toInt64).toUInt64 >>> ((7 : Int32) &&& 0x3f).toInt64.toUInt64).toInt64).toUInt64 >>> ((7 : Int32) &&& 0x3f).toInt64.toUInt64).toInt64) (0 : Int64) = (0 : Int32) ↔ lcmpW w (34359738368 : Int64) < (0 : Int32) := by
  have r0 := rng64 w
  have h1 := c_lushr w 7 7 (by decide) (by decide)
  have h2 := c_lushr ((w.toUInt64 >>> ((7 : Int32) &&& 0x3f).toInt64.toUInt64).toInt64) 7 7 (by decide) (by decide)
  have h3 := c_lushr ((((w.toUInt64 >>> ((7 : Int32) &&& 0x3f).toInt64.toUInt64).toInt64).toUInt64 >>> ((7 : Int32) &&& 0x3f).toInt64.toUInt64).toInt64) 7 7 (by decide) (by decide)
  have h4 := c_lushr ((((((w.toUInt64 >>> ((7 : Int32) &&& 0x3f).toInt64.toUInt64).toInt64).toUInt64 >>> ((7 : Int32) &&& 0x3f).toInt64.toUInt64).toInt64).toUInt64 >>> ((7 : Int32) &&& 0x3f).toInt64.toUInt64).toInt64) 7 7 (by decide) (by decide)
  have h5 := c_lushr ((((((((w.toUInt64 >>> ((7 : Int32) &&& 0x3f).toInt64.toUInt64).toInt64).toUInt64 >>> ((7 : Int32) &&& 0x3f).toInt64.toUInt64).toInt64).toUInt64 >>> ((7 : Int32) &&& 0x3f).toInt64.toUInt64).toInt64).toUInt64 >>> ((7 : Int32) &&& 0x3f).toInt64.toUInt64).toInt64) 7 7 (by decide) (by decide)
  rw [lw_eq, lw_lt, Int64.lt_iff_toInt_lt, ← Int64.toInt_inj, show (0 : Int64).toInt = 0 from rfl, show (34359738368 : Int64).toInt = 34359738368 from rfl]
  generalize ((w.toUInt64 >>> ((7 : Int32) &&& 0x3f).toInt64.toUInt64).toInt64) = r1 at *
  generalize ((r1.toUInt64 >>> ((7 : Int32) &&& 0x3f).toInt64.toUInt64).toInt64) = r2 at *
  generalize ((r2.toUInt64 >>> ((7 : Int32) &&& 0x3f).toInt64.toUInt64).toInt64) = r3 at *
  generalize ((r3.toUInt64 >>> ((7 : Int32) &&& 0x3f).toInt64.toUInt64).toInt64) = r4 at *
  generalize ((r4.toUInt64 >>> ((7 : Int32) &&& 0x3f).toInt64.toUInt64).toInt64) = r5 at *
  omega
theorem own_A6 (w : Int64) (hv : 0 ≤ w.toInt) : lcmpW ((((((((((((w.toUInt64 >>> ((7 : Int32) &&& 0x3f).toInt64.toUInt64).toInt64).toUInt64 >>> ((7 : Int32) &&& 0x3f).toInt64.toUInt64).toInt64).toUInt64 >>> ((7 : Int32) &&& 0x3f).toInt64.toUInt64).toInt64).toUInt64 >>> ((7 : Int32) &&& 0x3f).toInt64.toUInt64).toInt64).toUInt64 >>> ((7 : Int32) &&& 0x3f).toInt64.toUInt64).toInt64).toUInt64 >>> ((7 : Int32) &&& 0x3f).toInt64.toUInt64).toInt64) (0 : Int64) = (0 : Int32) ↔ lcmpW w (4398046511104 : Int64) < (0 : Int32) := by
  have r0 := rng64 w
  have h1 := c_lushr w 7 7 (by decide) (by decide)
  have h2 := c_lushr ((w.toUInt64 >>> ((7 : Int32) &&& 0x3f).toInt64.toUInt64).toInt64) 7 7 (by decide) (by decide)
  have h3 := c_lushr ((((w.toUInt64 >>> ((7 : Int32) &&& 0x3f).toInt64.toUInt64).toInt64).toUInt64 >>> ((7 : Int32) &&& 0x3f).toInt64.toUInt64).toInt64) 7 7 (by decide) (by decide)
  have h4 := c_lushr ((((((w.toUInt64 >>> ((7 : Int32) &&& 0x3f).toInt64.toUInt64).toInt64).toUInt64 >>> ((7 : Int32) &&& 0x3f).toInt64.toUInt64).toInt64).toUInt64 >>> ((7 : Int32) &&& 0x3f).toInt64.toUInt64).toInt64) 7 7 (by decide) (by decide)
  have h5 := c_lushr ((((((((w.toUInt64 >>> ((7 : Int32) &&& 0x3f).toInt64.toUInt64).toInt64).toUInt64 >>> ((7 : Int32) &&& 0x3f).toInt64.toUInt64).toInt64).toUInt64 >>> ((7 : Int32) &&& 0x3f).toInt64.toUInt64).toInt64).toUInt64 >>> ((7 : Int32) &&& 0x3f).toInt64.toUInt64).toInt64) 7 7 (by decide) (by decide)
  have h6 := c_lushr ((((((((((w.toUInt64 >>> ((7 : Int32) &&& 0x3f).toInt64.toUInt64).toInt64).toUInt64 >>> ((7 : Int32) &&& 0x3f).toInt64.toUInt64).toInt64).toUInt64 >>> ((7 : Int32) &&& 0x3f).toInt64.toUInt64).toInt64).toUInt64 >>> ((7 : Int32) &&& 0x3f).toInt64.toUInt64).toInt64).toUInt64 >>> ((7 : Int32) &&& 0x3f).toInt64.toUInt64).toInt64) 7 7 (by decide) (by decide)
  rw [lw_eq, lw_lt, Int64.lt_iff_toInt_lt, ← Int64.toInt_inj, show (0 : Int64).toInt = 0 from rfl, show (4398046511104 : Int64).toInt = 4398046511104 from rfl]
  generalize ((w.toUInt64 >>> ((7 : Int32) &&& 0x3f).toInt64.toUInt64).toInt64) = r1 at *
  generalize ((r1.toUInt64 >>> ((7 : Int32) &&& 0x3f).toInt64.toUInt64).toInt64) = r2 at *
  generalize ((r2.toUInt64 >>> ((7 : Int32) &&& 0x3f).toInt64.toUInt64).toInt64) = r3 at *
  generalize ((r3.toUInt64 >>> ((7 : Int32) &&& 0x3f).toInt64.toUInt64).toInt64) = r4 at *
  generalize ((r4.toUInt64 >>> ((7 : Int32) &&& 0x3f).toInt64.toUInt64).toInt64) = r5 at *
  generalize ((r5.toUInt64 >>> ((7 : Int32) &&& 0x3f).toInt64.toUInt64).toInt64) = r6 at *
  omega
theorem own_A7 (w : Int64) (hv : 0 ≤ w.toInt) : lcmpW ((((((((((((((w.toUInt64 >>> ((7 : Int32) &&& 0x3f).toInt64.toUInt64).toInt64).toUInt64 >>> ((7 : Int32) &&& 0x3f).toInt64.toUInt64).toInt64).toUInt64 >>> ((7 : Int32) &&& 0x3f).toInt64.toUInt64).toInt64).toUInt64 >>> ((7 : Int32) &&& 0x3f).toInt64.toUInt64).toInt64).toUInt64 >>> ((7 : Int32) &&& 0x3f).toInt64.toUInt64).toInt64).toUInt64 >>> ((7 : Int32) &&& 0x3f).toInt64.toUInt64).toInt64).toUInt64 >>> ((7 : Int32) &&& 0x3f).toInt64.toUInt64).toInt64) (0 : Int64) = (0 : Int32) ↔ lcmpW w (562949953421312 : Int64) < (0 : Int32) := by
  have r0 := rng64 w
  have h1 := c_lushr w 7 7 (by decide) (by decide)
  have h2 := c_lushr ((w.toUInt64 >>> ((7 : Int32) &&& 0x3f).toInt64.toUInt64).toInt64) 7 7 (by decide) (by decide)
  have h3 := c_lushr ((((w.toUInt64 >>> ((7 : Int32) &&& 0x3f).toInt64.toUInt64).toInt64).toUInt64 >>> ((7 : Int32) &&& 0x3f).toInt64.toUInt64).toInt64) 7 7 (by decide) (by decide)
  have h4 := c_lushr ((((((w.toUInt64 >>> ((7 : Int32) &&& 0x3f).toInt64.toUInt64).toInt64).toUInt64 >>> ((7 : Int32) &&& 0x3f).toInt64.toUInt64).toInt64).toUInt64 >>> ((7 : Int32) &&& 0x3f).toInt64.toUInt64).toInt64) 7 7 (by decide) (by decide)
  have h5 := c_lushr ((((((((w.toUInt64 >>> ((7 : Int32) &&& 0x3f).toInt64.toUInt64).toInt64).toUInt64 >>> ((7 : Int32) &&& 0x3f).toInt64.toUInt64).toInt64).toUInt64 >>> ((7 : Int32) &&& 0x3f).toInt64.toUInt64).toInt64).toUInt64 >>> ((7 : Int32) &&& 0x3f).toInt64.toUInt64).toInt64) 7 7 (by decide) (by decide)
  have h6 := c_lushr ((((((((((w.toUInt64 >>> ((7 : Int32) &&& 0x3f).toInt64.toUInt64).toInt64).toUInt64 >>> ((7 : Int32) &&& 0x3f).toInt64.toUInt64).toInt64).toUInt64 >>> ((7 : Int32) &&& 0x3f).toInt64.toUInt64).toInt64).toUInt64 >>> ((7 : Int32) &&& 0x3f).toInt64.toUInt64).toInt64).toUInt64 >>> ((7 : Int32) &&& 0x3f).toInt64.toUInt64).toInt64) 7 7 (by decide) (by decide)
  have h7 := c_lushr ((((((((((((w.toUInt64 >>> ((7 : Int32) &&& 0x3f).toInt64.toUInt64).toInt64).toUInt64 >>> ((7 : Int32) &&& 0x3f).toInt64.toUInt64).toInt64).toUInt64 >>> ((7 : Int32) &&& 0x3f).toInt64.toUInt64).toInt64).toUInt64 >>> ((7 : Int32) &&& 0x3f).toInt64.toUInt64).toInt64).toUInt64 >>> ((7 : Int32) &&& 0x3f).toInt64.toUInt64).toInt64).toUInt64 >>> ((7 : Int32) &&& 0x3f).toInt64.toUInt64).toInt64) 7 7 (by decide) (by decide)
  rw [lw_eq, lw_lt, Int64.lt_iff_toInt_lt, ← Int64.toInt_inj, show (0 : Int64).toInt = 0 from rfl, show (562949953421312 : Int64).toInt = 562949953421312 from rfl]
  generalize ((w.toUInt64 >>> ((7 : Int32) &&& 0x3f).toInt64.toUInt64).toInt64) = r1 at *
  generalize ((r1.toUInt64 >>> ((7 : Int32) &&& 0x3f).toInt64.toUInt64).toInt64) = r2 at *
  generalize ((r2.toUInt64 >>> ((7 : Int32) &&& 0x3f).toInt64.toUInt64).toInt64) = r3 at *
  generalize ((r3.toUInt64 >>> ((7 : Int32) &&& 0x3f).toInt64.toUInt64).toInt64) = r4 at *
  generalize ((r4.toUInt64 >>> ((7 : Int32) &&& 0x3f).toInt64.toUInt64).toInt64) = r5 at *
  generalize ((r5.toUInt64 >>> ((7 : Int32) &&& 0x3f).toInt64.toUInt64).toInt64) = r6 at *
  generalize ((r6.toUInt64 >>> ((7 : Int32) &&& 0x3f).toInt64.toUInt64).toInt64) = r7 at *
  omega
theorem own_A8 (w : Int64) (hv : 0 ≤ w.toInt) : lcmpW ((((((((((((((((w.toUInt64 >>> ((7 : Int32) &&& 0x3f).toInt64.toUInt64).toInt64).toUInt64 >>> ((7 : Int32) &&& 0x3f).toInt64.toUInt64).toInt64).toUInt64 >>> ((7 : Int32) &&& 0x3f).toInt64.toUInt64).toInt64).toUInt64 >>> ((7 : Int32) &&& 0x3f).toInt64.toUInt64).toInt64).toUInt64 >>> ((7 : Int32) &&& 0x3f).toInt64.toUInt64).toInt64).toUInt64 >>> ((7 : Int32) &&& 0x3f).toInt64.toUInt64).toInt64).toUInt64 >>> ((7 : Int32) &&& 0x3f).toInt64.toUInt64).toInt64).toUInt64 >>> ((7 : Int32) &&& 0x3f).toInt64.toUInt64).toInt64) (0 : Int64) = (0 : Int32) ↔ lcmpW w (72057594037927936 : Int64) < (0 : Int32) := by
  have r0 := rng64 w
  have h1 := c_lushr w 7 7 (by decide) (by decide)
  have h2 := c_lushr ((w.toUInt64 >>> ((7 : Int32) &&& 0x3f).toInt64.toUInt64).toInt64) 7 7 (by decide) (by decide)
  have h3 := c_lushr ((((w.toUInt64 >>> ((7 : Int32) &&& 0x3f).toInt64.toUInt64).toInt64).toUInt64 >>> ((7 : Int32) &&& 0x3f).toInt64.toUInt64).toInt64) 7 7 (by decide) (by decide)
  have h4 := c_lushr ((((((w.toUInt64 >>> ((7 : Int32) &&& 0x3f).toInt64.toUInt64).toInt64).toUInt64 >>> ((7 : Int32) &&& 0x3f).toInt64.toUInt64).toInt64).toUInt64 >>> ((7 : Int32) &&& 0x3f).toInt64.toUInt64).toInt64) 7 7 (by decide) (by decide)
  have h5 := c_lushr ((((((((w.toUInt64 >>> ((7 : Int32) &&& 0x3f).toInt64.toUInt64).toInt64).toUInt64 >>> ((7 : Int32) &&& 0x3f).toInt64.toUInt64).toInt64).toUInt64 >>> ((7 : Int32) &&& 0x3f).toInt64.toUInt64).toInt64).toUInt64 >>> ((7 : Int32) &&& 0x3f).toInt64.toUInt64).toInt64) 7 7 (by decide) (by decide)
  have h6 := c_lushr ((((((((((w.toUInt64 >>> ((7 : Int32) &&& 0x3f).toInt64.toUInt64).toInt64).toUInt64 >>> ((7 : Int32) &&& 0x3f).toInt64.toUInt64).toInt64).toUInt64 >>> ((7 : Int32) &&& 0x3f).toInt64.toUInt64).toInt64).toUInt64 >>> ((7 : Int32) &&& 0x3f).toInt64.toUInt64).toInt64).toUInt64 >>> ((7 : Int32) &&& 0x3f).toInt64.toUInt64).toInt64) 7 7 (by decide) (by decide)
  have h7 := c_lushr ((((((((((((w.toUInt64 >>> ((7 : Int32) &&& 0x3f).toInt64.toUInt64).toInt64).toUInt64 >>> ((7 : Int32) &&& 0x3f).toInt64.toUInt64).toInt64).toUInt64 >>> ((7 : Int32) &&& 0x3f).toInt64.toUInt64).toInt64).toUInt64 >>> ((7 : Int32) &&& 0x3f).toInt64.toUInt64).toInt64).toUInt64 >>> ((7 : Int32) &&& 0x3f).toInt64.toUInt64).toInt64).toUInt64 >>> ((7 : Int32) &&& 0x3f).toInt64.toUInt64).toInt64) 7 7 (by decide) (by decide)
  have h8 := c_lushr ((((((((((((((w.toUInt64 >>> ((7 : Int32) &&& 0x3f).toInt64.toUInt64).toInt64).toUInt64 >>> ((7 : Int32) &&& 0x3f).toInt64.toUInt64).toInt64).toUInt64 >>> ((7 : Int32) &&& 0x3f).toInt64.toUInt64).toInt64).toUInt64 >>> ((7 : Int32) &&& 0x3f).toInt64.toUInt64).toInt64).toUInt64 >>> ((7 : Int32) &&& 0x3f).toInt64.toUInt64).toInt64).toUInt64 >>> ((7 : Int32) &&& 0x3f).toInt64.toUInt64).toInt64).toUInt64 >>> ((7 : Int32) &&& 0x3f).toInt64.toUInt64).toInt64) 7 7 (by decide) (by decide)
  rw [lw_eq, lw_lt, Int64.lt_iff_toInt_lt, ← Int64.toInt_inj, show (0 : Int64).toInt = 0 from rfl, show (72057594037927936 : Int64).toInt = 72057594037927936 from rfl]
  generalize ((w.toUInt64 >>> ((7 : Int32) &&& 0x3f).toInt64.toUInt64).toInt64) = r1 at *
  generalize ((r1.toUInt64 >>> ((7 : Int32) &&& 0x3f).toInt64.toUInt64).toInt64) = r2 at *
  generalize ((r2.toUInt64 >>> ((7 : Int32) &&& 0x3f).toInt64.toUInt64).toInt64) = r3 at *
  generalize ((r3.toUInt64 >>> ((7 : Int32) &&& 0x3f).toInt64.toUInt64).toInt64) = r4 at *
  generalize ((r4.toUInt64 >>> ((7 : Int32) &&& 0x3f).toInt64.toUInt64).toInt64) = r5 at *
  generalize ((r5.toUInt64 >>> ((7 : Int32) &&& 0x3f).toInt64.toUInt64).toInt64) = r6 at *
  generalize ((r6.toUInt64 >>> ((7 : Int32) &&& 0x3f).toInt64.toUInt64).toInt64) = r7 at *
  generalize ((r7.toUInt64 >>> ((7 : Int32) &&& 0x3f).toInt64.toUInt64).toInt64) = r8 at *
  omega
theorem own_same (w : Int64) (hv : 0 ≤ w.toInt) : f2 w = f1 w := by
  unfold f2 f1
  by_cases h1 : lcmpW w (128 : Int64) < (0 : Int32)
  · exact (if_pos ((own_A1 w hv).mpr h1)).trans ((show (1 : Int32) = (1 : Int32) by decide).trans (if_pos h1).symm)
  refine (if_neg (mt (own_A1 w hv).mp h1)).trans (Eq.trans ?_ (if_neg h1).symm)
  by_cases h2 : lcmpW w (16384 : Int64) < (0 : Int32)
  · exact (if_pos ((own_A2 w hv).mpr h2)).trans ((show ((1 : Int32) + (1 : Int32)) = (2 : Int32) by decide).trans (if_pos h2).symm)
  refine (if_neg (mt (own_A2 w hv).mp h2)).trans (Eq.trans ?_ (if_neg h2).symm)
  by_cases h3 : lcmpW w (2097152 : Int64) < (0 : Int32)
  · exact (if_pos ((own_A3 w hv).mpr h3)).trans ((show (((1 : Int32) + (1 : Int32)) + (1 : Int32)) = (3 : Int32) by decide).trans (if_pos h3).symm)
  refine (if_neg (mt (own_A3 w hv).mp h3)).trans (Eq.trans ?_ (if_neg h3).symm)
  by_cases h4 : lcmpW w (268435456 : Int64) < (0 : Int32)
  · exact (if_pos ((own_A4 w hv).mpr h4)).trans ((show ((((1 : Int32) + (1 : Int32)) + (1 : Int32)) + (1 : Int32)) = (4 : Int32) by decide).trans (if_pos h4).symm)
  refine (if_neg (mt (own_A4 w hv).mp h4)).trans (Eq.trans ?_ (if_neg h4).symm)
  by_cases h5 : lcmpW w (34359738368 : Int64) < (0 : Int32)
  · exact (if_pos ((own_A5 w hv).mpr h5)).trans ((show (((((1 : Int32) + (1 : Int32)) + (1 : Int32)) + (1 : Int32)) + (1 : Int32)) = (5 : Int32) by decide).trans (if_pos h5).symm)
  refine (if_neg (mt (own_A5 w hv).mp h5)).trans (Eq.trans ?_ (if_neg h5).symm)
  by_cases h6 : lcmpW w (4398046511104 : Int64) < (0 : Int32)
  · exact (if_pos ((own_A6 w hv).mpr h6)).trans ((show ((((((1 : Int32) + (1 : Int32)) + (1 : Int32)) + (1 : Int32)) + (1 : Int32)) + (1 : Int32)) = (6 : Int32) by decide).trans (if_pos h6).symm)
  refine (if_neg (mt (own_A6 w hv).mp h6)).trans (Eq.trans ?_ (if_neg h6).symm)
  by_cases h7 : lcmpW w (562949953421312 : Int64) < (0 : Int32)
  · exact (if_pos ((own_A7 w hv).mpr h7)).trans ((show (((((((1 : Int32) + (1 : Int32)) + (1 : Int32)) + (1 : Int32)) + (1 : Int32)) + (1 : Int32)) + (1 : Int32)) = (7 : Int32) by decide).trans (if_pos h7).symm)
  refine (if_neg (mt (own_A7 w hv).mp h7)).trans (Eq.trans ?_ (if_neg h7).symm)
  by_cases h8 : lcmpW w (72057594037927936 : Int64) < (0 : Int32)
  · exact (if_pos ((own_A8 w hv).mpr h8)).trans ((show ((((((((1 : Int32) + (1 : Int32)) + (1 : Int32)) + (1 : Int32)) + (1 : Int32)) + (1 : Int32)) + (1 : Int32)) + (1 : Int32)) = (8 : Int32) by decide).trans (if_pos h8).symm)
  refine (if_neg (mt (own_A8 w hv).mp h8)).trans (Eq.trans ?_ (if_neg h8).symm)
  decide
theorem own_nn (a : Int64) (q : Int32) (h : 0 ≤ a.toInt) : 0 ≤ ((a.toUInt64 >>> (q &&& 0x3f).toInt64.toUInt64).toInt64).toInt := by
  by_cases hk : q.toBitVec.toNat % 64 = 0
  · have e : (q &&& 0x3f).toInt64 = 0 := Int64.toBitVec_inj.mp ((sm64 q 0 hk).1)
    have e2 : (a.toUInt64 >>> (0 : UInt64)) = a.toUInt64 := UInt64.shiftRight_zero
    rw [e, show (0 : Int64).toUInt64 = 0 from rfl, e2, Int64.toInt64_toUInt64]
    exact h
  · rw [c_lushr a q _ rfl (by omega)]
    exact Int.ediv_nonneg (Int.emod_nonneg _ (by decide)) (Int.natCast_nonneg _)
theorem own_and (x : Int64) : 0 ≤ (x &&& (9223372036854775807 : Int64)).toInt := by
  have h := c_maskL x 9223372036854775807 63 (by decide) (by decide)
  omega
theorem pn_0 : plainName "com/example/klave/klave/coding/BerOidSizePinLaw" = true := by first | (simp [plainName, overriddenIn]; done) | decide +kernel
theorem ef_0 (m : MethodId) (x0 : Int64) (x1 : Int32) : entryFrame m #[(.long x0), (.int x1)] maxLocals = mkF m 0 #[.val (.long x0), .second, .val (.int x1), .unset, .unset, .unset] [] := by first | (simp [entryFrame, mkF, argsToLocals, Value.category, maxLocals]; done) | rfl
theorem pd_0 : parseMethodDescriptor "(J)I" = some ⟨[.long], some .int⟩ := by decide +kernel
set_option maxRecDepth 65536 in
set_option maxHeartbeats 40000000 in
theorem rm0 (l : Launch) (Z : State) (a0 : Array Value) (hw : ∀ d ∈ tables_1, d.before a0 Z = true) (ws : List Jvm.Cond) (w0 : Int64) (u1 : Int32) (h0 : Heap) (n0 : Nat) (Z0 : n0 ≤ h0.size) :
    MetFree l x (head1 (Jvm.Cond.code x code maxLocals ret :: ws) room_1) (fun a U => a = #[(.long w0), (.int u1)] ∧ Z.Warmed39 U.vm ∧ U.heap = h0) (fun _ _ _ _ _ => True) (fun _ U o U' => ∃ v L, o = .returned v ∧ QL n0 v U'.heap L ∧ FrameEnd U o U' L 0 0) := by
  refine MetFree.of_bodySF (plainFor_of_name pn_0) hisR ?_
  intro p e s m args below meth c s₁ Bd hml0 hP hK
  obtain ⟨rfl, hZ, hh⟩ := hP
  have hx := Bd.exec
  have hby := Bd.bytes
  have hml : c.maxLocals = 6 := hml0
  have hown : s.vm.findClass "com/example/klave/klave/coding/BerOidSizePinLaw" = some m.cls := findClass_of_methodNamed Bd.named
  have hnm := (name_of_methodNamed Bd.named Bd.method).1
  have X0 : Stand p l e room_1 s m #[(.long w0), (.int u1)] below meth c s₁ [] 0 0 := Stand.of_body Bd
  have e0 : s₁.heap = h0 := by rw [← hh, Bd.state]; rfl
  have N0 := Fr.nil n0
  have pre0 : ∀ t, Steps p.tables e below (s₁.setTop (mkF m 0 #[.val (.long w0), .second, .val (.int u1), .unset, .unset, .unset] [])) t → Steps p.tables e below (s₁.setTop (entryFrame m #[(.long w0), (.int u1)] maxLocals)) t := fun t k => castTop (ef_0 m w0 u1) k
  have pre1 : ∀ t, Steps p.tables e below (s₁.setTop (mkF m 11 #[.val (.long w0), .second, .val (.int u1), .val (.long (((w0 &&& (9223372036854775807 : Int64)).toUInt64 >>> ((u1 &&& (63 : Int32)) &&& 0x3f).toInt64.toUInt64).toInt64)), .second, .unset] [])) t → Steps p.tables e below (s₁.setTop (entryFrame m #[(.long w0), (.int u1)] maxLocals)) t := fun t k => pre0 t (by
    show Steps p.tables e below (s₁.setTop (mkF m 0 #[.val (.long w0), .second, .val (.int u1), .unset, .unset, .unset] [])) _
    refine XS.lloadN X0.here hx rfl (hb hby at_0) rfl ?_
    show Steps p.tables e below (s₁.setTop (mkF m 1 #[.val (.long w0), .second, .val (.int u1), .unset, .unset, .unset] [(.long w0)])) _
    refine X0.ldc2Long hx hown (mvT hZ (hw _ (List.mem_of_getElem? (i := 0) rfl))) (g := (mkF m 1 #[.val (.long w0), .second, .val (.int u1), .unset, .unset, .unset] [(.long w0)])) rfl (hb hby at_1) _ ?_
    show Steps p.tables e below (s₁.setTop (mkF m 4 #[.val (.long w0), .second, .val (.int u1), .unset, .unset, .unset] [(.long (9223372036854775807 : Int64)), (.long w0)])) _
    refine XS.land X0.here hx rfl (hb hby at_4) rfl ?_
    show Steps p.tables e below (s₁.setTop (mkF m 5 #[.val (.long w0), .second, .val (.int u1), .unset, .unset, .unset] [(.long (w0 &&& (9223372036854775807 : Int64)))])) _
    refine XS.iloadN X0.here hx rfl (hb hby at_5) rfl ?_
    show Steps p.tables e below (s₁.setTop (mkF m 6 #[.val (.long w0), .second, .val (.int u1), .unset, .unset, .unset] [(.int u1), (.long (w0 &&& (9223372036854775807 : Int64)))])) _
    refine XS.bipush X0.here hx rfl (hb hby at_6) ?_
    show Steps p.tables e below (s₁.setTop (mkF m 8 #[.val (.long w0), .second, .val (.int u1), .unset, .unset, .unset] [(.int (63 : Int32)), (.int u1), (.long (w0 &&& (9223372036854775807 : Int64)))])) _
    refine XS.iand X0.here hx rfl (hb hby at_8) rfl ?_
    show Steps p.tables e below (s₁.setTop (mkF m 9 #[.val (.long w0), .second, .val (.int u1), .unset, .unset, .unset] [(.int (u1 &&& (63 : Int32))), (.long (w0 &&& (9223372036854775807 : Int64)))])) _
    refine XS.lushr X0.here hx rfl (hb hby at_9) rfl ?_
    show Steps p.tables e below (s₁.setTop (mkF m 10 #[.val (.long w0), .second, .val (.int u1), .unset, .unset, .unset] [(.long (((w0 &&& (9223372036854775807 : Int64)).toUInt64 >>> ((u1 &&& (63 : Int32)) &&& 0x3f).toInt64.toUInt64).toInt64))])) _
    refine XS.lstoreN X0.here hx rfl (hb hby at_10) rfl (l' := #[.val (.long w0), .second, .val (.int u1), .val (.long (((w0 &&& (9223372036854775807 : Int64)).toUInt64 >>> ((u1 &&& (63 : Int32)) &&& 0x3f).toInt64.toUInt64).toInt64)), .second, .unset]) rfl ?_
    exact k)
  obtain ⟨vv, hvv, rvv⟩ : ∃ z : Int64, z = (((w0 &&& (9223372036854775807 : Int64)).toUInt64 >>> ((u1 &&& (63 : Int32)) &&& 0x3f).toInt64.toUInt64).toInt64) ∧ (0 ≤ z.toInt) := ⟨_, rfl, own_nn _ _ (own_and _)⟩
  rw [← hvv] at pre1
  obtain ⟨_, _, ⟨T2, L2, k2, n2⟩, -, X2, ⟨Lc2, hQ2, l2, y2, z2⟩, st2⟩ := Jvm.LawKit.callS X0 hx (y := (⟨"com/example/klave/klave/coding/BerOidSizePinLaw", "reference", "(J)I"⟩ : MethodName)) hown (mvT hZ (hw _ (List.mem_of_getElem? (i := 1) rfl))) (mvT hZ (hw _ (List.mem_of_getElem? (i := 2) rfl))) (mvT hZ (hw _ (List.mem_of_getElem? (i := 3) rfl))) (mvT hZ (hw _ (List.mem_of_getElem? (i := 4) rfl))) (by decide) (backOf (W := 0) (rm1 l Z a0 hw [] vv  h0 n0 Z0 ) hZ (hw _ (List.mem_of_getElem? (i := 4) rfl)) (hw _ (List.mem_of_getElem? (i := 3) rfl)) (by decide) (by decide)) (g := (mkF m 12 #[.val (.long w0), .second, .val (.int u1), .val (.long vv), .second, .unset] [(.long vv)])) rfl (by rw [hml]; rfl) (argsL := [(.long vv)]) (rest := []) (lenOf pd_0 rfl) rfl (by show 2 * 0 + _ ≤ _; exact Nat.le_of_eq rfl) (hb hby at_12) (fun _ _ => ⟨rfl, e0, (by decide : 0 + 0 ≤ _), (by decide : 0 + 0 ≤ _)⟩)
  dsimp only [Pt.U, Pt.locs, Pt.cells, Pt.slots] at X2 l2 y2 z2 st2 hQ2
  subst l2 y2 z2
  obtain ⟨rfl, N2q, e2⟩ := hQ2
  have N2 := Fr.app N0 N2q
  obtain ⟨_, _, ⟨T3, L3, k3, n3⟩, -, X3, ⟨Lc3, hQ3, l3, y3, z3⟩, st3⟩ := Jvm.LawKit.callS X2 hx (y := (⟨"com/example/klave/klave/coding/BerOid", "size", "(J)I"⟩ : MethodName)) hown (mvT hZ (hw _ (List.mem_of_getElem? (i := 6) rfl))) (mvT hZ (hw _ (List.mem_of_getElem? (i := 7) rfl))) (mvT hZ (hw _ (List.mem_of_getElem? (i := 8) rfl))) (mvT hZ (hw _ (List.mem_of_getElem? (i := 9) rfl))) (by decide) (backOf (W := 0) (rm2 l Z a0 hw [] vv  h0 n0 Z0 rvv) hZ (hw _ (List.mem_of_getElem? (i := 9) rfl)) (hw _ (List.mem_of_getElem? (i := 8) rfl)) (by decide) (by decide)) (g := (mkF m 18 #[.val (.long w0), .second, .val (.int u1), .val (.long vv), .second, .val (.int (f1 vv))] [(.long vv)])) rfl (by rw [hml]; rfl) (argsL := [(.long vv)]) (rest := []) (lenOf pd_0 rfl) rfl (by show 2 * 0 + _ ≤ _; exact Nat.le_of_eq rfl) (hb hby at_18) (fun _ _ => ⟨rfl, e2, (by decide : 0 + 0 ≤ _), (by decide : 0 + 0 ≤ _)⟩)
  dsimp only [Pt.U, Pt.locs, Pt.cells, Pt.slots] at X3 l3 y3 z3 st3 hQ3
  subst l3 y3 z3
  obtain ⟨rfl, N3q, e3⟩ := hQ3
  have N3 := Fr.app N2 N3q
  obtain ⟨fs, hr, hrun, hended, hW, hsame⟩ := X3.leave (v := (some (.int (1 : Int32)))) (fun h => by rw [Bd.returns] at h; cases h)
  refine ⟨_, _, pre1 _ ?_, hrun, hended, _, _, rfl, ?_, ⟨_, rfl⟩, hW, hsame.mono (by decide) (by decide)⟩
  · show Steps p.tables e below (s₁.setTop (mkF m 11 #[.val (.long w0), .second, .val (.int u1), .val (.long vv), .second, .unset] [])) _
    refine XS.lloadN X0.here hx rfl (hb hby at_11) rfl ?_
    show Steps p.tables e below (s₁.setTop (mkF m 12 #[.val (.long w0), .second, .val (.int u1), .val (.long vv), .second, .unset] [(.long vv)])) _
    refine st2 _ ?_
    show Steps p.tables e below (T2.setTop (mkF m 15 #[.val (.long w0), .second, .val (.int u1), .val (.long vv), .second, .unset] [(.int (f1 vv))])) _
    refine XS.istore X2.here hx rfl (hb hby at_15) rfl (l' := #[.val (.long w0), .second, .val (.int u1), .val (.long vv), .second, .val (.int (f1 vv))]) rfl ?_
    show Steps p.tables e below (T2.setTop (mkF m 17 #[.val (.long w0), .second, .val (.int u1), .val (.long vv), .second, .val (.int (f1 vv))] [])) _
    refine XS.lloadN X2.here hx rfl (hb hby at_17) rfl ?_
    show Steps p.tables e below (T2.setTop (mkF m 18 #[.val (.long w0), .second, .val (.int u1), .val (.long vv), .second, .val (.int (f1 vv))] [(.long vv)])) _
    refine st3 _ ?_
    show Steps p.tables e below (T3.setTop (mkF m 21 #[.val (.long w0), .second, .val (.int u1), .val (.long vv), .second, .val (.int (f1 vv))] [(.int (f2 vv))])) _
    refine XS.iload X3.here hx rfl (hb hby at_21) rfl ?_
    show Steps p.tables e below (T3.setTop (mkF m 23 #[.val (.long w0), .second, .val (.int u1), .val (.long vv), .second, .val (.int (f1 vv))] [(.int (f1 vv)), (.int (f2 vv))])) _
    refine XS.icmpNo X3.here hx rfl (hb hby at_23) rfl (teq (own_same _ rvv)).2 ?_
    show Steps p.tables e below (T3.setTop (mkF m 26 #[.val (.long w0), .second, .val (.int u1), .val (.long vv), .second, .val (.int (f1 vv))] [])) _
    refine XS.iconst X3.here hx rfl (hb hby at_26) ?_
    show Steps p.tables e below (T3.setTop (mkF m 27 #[.val (.long w0), .second, .val (.int u1), .val (.long vv), .second, .val (.int (f1 vv))] [(.int (1 : Int32))])) _
    refine XS.goto X3.here hx rfl (pc0 := 27) (pc' := 31) rfl (hb hby at_27) (by decide) (by decide) ?_
    show Steps p.tables e below (T3.setTop (mkF m 31 #[.val (.long w0), .second, .val (.int u1), .val (.long vv), .second, .val (.int (f1 vv))] [(.int (1 : Int32))])) _
    exact retN X3 hx (t := .boolean) Bd.returns (by simp) (hb hby at_31) hr
  · show QL n0 _ T3.heap _
    rw [e3]
    exact ⟨rfl, N3⟩
set_option maxRecDepth 65536 in
set_option maxHeartbeats 40000000 in
theorem comes_1 {Post : Tables → Env → Array Value → State → Outcome → State → Prop} (hpost : ∀ tb e args s v u, (limb_1_1.after args s (.returned v) u = true ∧ limb_1_2.after args s (.returned v) u = true ∧ True) → FrameEnd s (.returned v) u (Jvm.fieldLocs frame_1_writes args s ++ Jvm.arrayLocs frame_1_arrays args s ++ Jvm.staticLocs frame_1_statics s) 0 0 → Post tb e args s (.returned v) u) :
    ArmFor flags0 classFile x code maxLocals ret World_1 tables_1 room_1 Calls_1 rest_1 Pre_1 Post := by
  intro l hfl _ _ p e ha hc hk s m args below hf hA hF happ hP
  obtain ⟨hcalls, hrest, hpre⟩ := hP
  obtain ⟨-, -, -, hnamed, -, -, -, hat⟩ := (Spec.applies_iff hf).mp happ
  obtain ⟨hg, hn⟩ := and_e (Cond.before_iff.mp (show (Jvm.Cond.and given_1 narrow_1).before args s = true from hpre))
  obtain ⟨g0, G0⟩ := and_e hg
  obtain ⟨v0, G1⟩ := and_e G0
  have v1 := G1
  obtain ⟨w0, w1, rfl⟩ : ∃ w0 w1 : Value, args = #[w0, w1] := by
    have hs : args.size = 2 := by simpa [Cond.value, given_1] using g0
    obtain ⟨L⟩ := args
    match L, hs with
    | [w0, w1], _ => exact ⟨w0, w1, rfl⟩
  have hw := fun d (hd : d ∈ tables_1) => atoms_spec (ws := Jvm.Cond.code x code maxLocals ret :: tables_1) hat d (List.mem_cons_of_mem _ hd)
  have hfit : Fit s := fun {y c} hc i hi => by
    obtain ⟨ha, rfl⟩ := Array.getElem?_eq_some_iff.mp hc
    have q := List.all_eq_true.mp ((Array.all_eq_true_iff_forall_mem.mp hF) _ (Array.getElem_mem ha)) i (List.mem_range.mpr hi)
    simpa [Array.getElem?_eq_getElem hi] using q
  obtain ⟨i0, ei0⟩ := isL_v v0
  obtain rfl : w0 = (.long i0) := Option.some.inj ei0
  obtain ⟨i1, ei1⟩ := is_v v1
  obtain rfl : w1 = (.int i1) := Option.some.inj ei1
  obtain ⟨n, o, h1, h2, h3, _, L, rfl, ⟨rfl, N⟩, hq⟩ := rm0 l s _ hw tables_1 i0 i1  s.heap s.heap.size (Nat.le_refl _)  p e ha hc hk s m _ below hf ((Spec.applies_iff_loose hf).mp happ).1 ⟨rfl, State.Warmed39.refl s, rfl⟩ trivial
  refine ⟨n, _, h1, h2, h3, hpost _ _ _ _ _ _ ⟨Cond.after_iff.mpr rfl, Cond.after_iff.mpr (eq_i res_at (Term.int_eval (1)) rfl), trivial⟩ ⟨hq.1, hq.2.1, (hq.2.2.sift fun y hy => Or.inr (N y hy)).mono (by decide) (by decide)⟩⟩
theorem main_1_1 : Claimed_1_1 := comes_1 fun _ _ _ _ _ _ h hF => ⟨h.1, hF⟩
theorem main_1_2 : Claimed_1_2 := comes_1 fun _ _ _ _ _ _ h hF => ⟨h.2.1, hF⟩
end Jvm.Pilot.@@N@@
namespace Jvm.Pilot.@@N@@
open Jvm Jvm.ClassFile Sem Op Lib Jvm.Free Jvm.Stand Jvm.Pilot.@@N@@.Jvm.D
/-! MADE BY PROGRAM (witnessworld.py) out of the Statement's table words and the real class files: 9 classes; the members and pool entries that the words name. The judged class is class 1, her method 1. -/
namespace start1
open Jvm.ClassFile
def u (s : String) : CpInfo := .utf8 (stringToUtf16 s)
/-- a pool by its gaps: so many unusable entries, then the entry; so many at the end -/
def gap : Nat → List CpInfo → List CpInfo
  | 0, r => r
  | n + 1, r => .unusable :: gap n r
def poolList (es : List (Nat × CpInfo)) (last : Nat) : List CpInfo := es.foldr (fun e r => gap e.1 (e.2 :: r)) (gap last [])
def pool (es : List (Nat × CpInfo)) (last : Nat) : Array CpInfo := ⟨poolList es last⟩
def fileOf (pool : Array CpInfo) (this : Nat) (attrs : Array Attribute := #[]) (ms : Array MethodInfo := #[]) (fl : Nat := 33) (sup : Nat := 0) (ifs : Array Nat := #[]) (fds : Array FieldInfo := #[]) : ClassFile where
  minorVersion := 0
  majorVersion := 65
  constantPool := pool
  accessFlags := fl
  thisClass := this
  superClass := sup
  interfaces := ifs
  fields := fds
  methods := ms
  attributes := attrs
def plain (name : String) (sup : Option ClassId) : Class where
  name := name
  kind := .ordinary
  loader := none
  accessFlags := 33
  super := sup
  interfaces := #[]
  cf := none
  fields := #[]
  methods := #[]
  instanceTypes := #[]
  staticTypes := #[]
  resolved := #[]
  callSites := []
  init := .initialized
  statics := none
  mirror := none

def pool0 : Array CpInfo := pool [(5, u "<init>"), (0, u "()V"), (1, .class_ 10), (1, u "java/lang/Object")] 113

def k0m0 : Method := { name := "<init>", desc := "()V", sig := { parameters := [], returnType := none }, accessFlags := 1, code := none }
/-- java/lang/Object -/
def k0 : Class := { plain "java/lang/Object" none with
  accessFlags := 33
  interfaces := #[]
  cf := some (fileOf pool0 8 #[] #[{ accessFlags := 1, nameIndex := 5, descriptorIndex := 6, attributes := #[] }] 33 0 #[] #[])
  fields := #[]
  methods := #[k0m0]
  instanceTypes := #[]
  staticTypes := #[]
  resolved := Array.replicate 124 none
  statics := none }

def pool1 : Array CpInfo := pool [(2, .class_ 4), (1, u "java/lang/Object"), (0, u "<init>"), (0, u "()V"), (2, .long 9223372036854775807), (1, .methodref 12 13), (0, .class_ 14), (0, .nameAndType 15 16), (0, u "com/example/klave/klave/coding/BerOidSizePinLaw"), (0, u "reference"), (0, u "(J)I"), (0, .methodref 18 19), (0, .class_ 20), (0, .nameAndType 21 16), (0, u "com/example/klave/klave/coding/BerOid"), (0, u "size"), (0, .long 128), (1, .long 16384), (1, .long 2097152), (1, .long 268435456), (1, .long 34359738368), (1, .long 4398046511104), (1, .long 562949953421312), (1, .long 72057594037927936), (3, u "law"), (0, u "(JI)Z")] 3

def k1m0 : Method := { name := "<init>", desc := "()V", sig := { parameters := [], returnType := none }, accessFlags := 2, code := none }
def k1c1 : Code := { maxStack := 4, maxLocals := 6, code := code, exceptionTable := #[], attributes := #[] }
def k1m1 : Method := { name := "law", desc := "(JI)Z", sig := { parameters := [.long, .int], returnType := some .boolean }, accessFlags := 9, code := some k1c1 }
def k1c2 : Code := { maxStack := 4, maxLocals := 2, code := method_3_code, exceptionTable := #[], attributes := #[] }
def k1m2 : Method := { name := "reference", desc := "(J)I", sig := { parameters := [.long], returnType := some .int }, accessFlags := 10, code := some k1c2 }
/-- com/example/klave/klave/coding/BerOidSizePinLaw -/
def k1 : Class := { plain "com/example/klave/klave/coding/BerOidSizePinLaw" (some 0) with
  accessFlags := 49
  interfaces := #[]
  cf := some (fileOf pool1 12 #[] #[{ accessFlags := 2, nameIndex := 5, descriptorIndex := 6, attributes := #[] }, { accessFlags := 9, nameIndex := 40, descriptorIndex := 41, attributes := #[] }, { accessFlags := 10, nameIndex := 15, descriptorIndex := 16, attributes := #[] }] 49 2 #[] #[])
  fields := #[]
  methods := #[k1m0, k1m1, k1m2]
  instanceTypes := #[]
  staticTypes := #[]
  resolved := Array.replicate 45 none
  statics := none }

def pool2 : Array CpInfo := pool [(2, .class_ 4), (1, u "java/lang/Object"), (0, u "<init>"), (0, u "()V"), (11, .class_ 19), (0, u "com/example/klave/klave/coding/BerOid"), (13, u "size"), (0, u "(J)I"), (2, u "MAX_BYTES"), (0, u "I")] 29

def k2m0 : Method := { name := "<init>", desc := "()V", sig := { parameters := [], returnType := none }, accessFlags := 2, code := none }
def k2c1 : Code := { maxStack := 4, maxLocals := 5, code := prog_7_method_3_code, exceptionTable := #[], attributes := #[] }
def k2m1 : Method := { name := "size", desc := "(J)I", sig := { parameters := [.long], returnType := some .int }, accessFlags := 9, code := some k2c1 }
/-- com/example/klave/klave/coding/BerOid -/
def k2 : Class := { plain "com/example/klave/klave/coding/BerOid" (some 0) with
  accessFlags := 49
  interfaces := #[]
  cf := some (fileOf pool2 18 #[] #[{ accessFlags := 2, nameIndex := 5, descriptorIndex := 6, attributes := #[] }, { accessFlags := 9, nameIndex := 33, descriptorIndex := 34, attributes := #[] }] 49 2 #[] #[{ accessFlags := 26, nameIndex := 37, descriptorIndex := 38, attributes := #[] }])
  fields := #[{ name := "MAX_BYTES", type := .int, accessFlags := 26, slot := 0, constantValue := 0 }]
  methods := #[k2m0, k2m1]
  instanceTypes := #[]
  staticTypes := #[.int]
  resolved := Array.replicate 68 none
  statics := none }

def pool3 : Array CpInfo := pool [(1, u "java/lang/Cloneable"), (0, .class_ 1), (0, u "java/lang/Object"), (0, .class_ 3)] 3

/-- java/lang/Cloneable -/
def k3 : Class := { plain "java/lang/Cloneable" (some 0) with
  accessFlags := 1537
  interfaces := #[]
  cf := some (fileOf pool3 2 #[] #[] 1537 4 #[] #[])
  fields := #[]
  methods := #[]
  instanceTypes := #[]
  staticTypes := #[]
  resolved := Array.replicate 8 none
  statics := none }

def pool4 : Array CpInfo := pool [(1, u "java/io/Serializable"), (0, .class_ 1), (0, u "java/lang/Object"), (0, .class_ 3)] 3

/-- java/io/Serializable -/
def k4 : Class := { plain "java/io/Serializable" (some 0) with
  accessFlags := 1537
  interfaces := #[]
  cf := some (fileOf pool4 2 #[] #[] 1537 4 #[] #[])
  fields := #[]
  methods := #[]
  instanceTypes := #[]
  staticTypes := #[]
  resolved := Array.replicate 8 none
  statics := none }

/-- the primitive byte -/
def k5 : Class := { plain "byte" none with kind := .primitive 'B', accessFlags := 0x411 }
/-- [B -/
def k6 : Class := { plain "[B" (some 0) with kind := .array 5 .byte, interfaces := #[3, 4], accessFlags := 1041 }

/-- the primitive int -/
def k7 : Class := { plain "int" none with kind := .primitive 'I', accessFlags := 0x411 }
/-- [I -/
def k8 : Class := { plain "[I" (some 0) with kind := .array 7 .int, interfaces := #[3, 4], accessFlags := 1041 }

def heap : Heap := #[]
def classes : Array Class := #[k0, k1, k2, k3, k4, k5, k6, k7, k8]
def interned : List (Array UInt16 × Addr) := []
def slotsUsed : Nat := 0
def theMethod : MethodId := ⟨1, 1⟩
def args0 : Array Value := #[.long 500, .int 7]
def aboutOver (below : List Frame) : State where
  vm := { classes := classes, interned := interned.toArray }
  heap := heap
  slotsUsed := slotsUsed
  threads := #[{ frames := .invoking theMethod args0 :: below }]
def below0 : List Frame := [.native { method := ⟨0, 0⟩, args := #[] }]
def about1 : State := aboutOver below0
def p0 : Program := .bare "" "" ""
def e0 : Env := launch0.env 0 0 0
theorem w_frames : about1.frames = Frame.invoking theMethod args0 :: below0 := rfl
set_option maxRecDepth 65536 in
theorem w_args : argsFit about1.vm theMethod args0 = true := by decide +kernel
set_option maxRecDepth 65536 in
theorem w_heap : heapFits about1 = true := by decide +kernel
set_option maxRecDepth 65536 in
theorem w_runnable : about1.curStatus? = some .runnable := by decide +kernel
set_option maxRecDepth 65536 in
theorem w_alone : about1.alone = true := by decide +kernel
set_option maxRecDepth 65536 in
theorem w_named : about1.methodNamed? x = some theMethod := by decide +kernel
set_option maxRecDepth 65536 in
theorem w_hears : about1.hears theMethod below0 = true := by decide +kernel
set_option maxRecDepth 65536 in
theorem w_ripe : about1.ripe theMethod args0 below0 = true := by decide +kernel
theorem w_running : about1.status = .running := rfl
set_option maxRecDepth 65536 in
theorem w_room : about1.hasRoom e0.platform room_1 = true :=
  launch0.hasRoom_least _ room_1 (by decide +kernel) (by decide +kernel) (by decide +kernel) (by decide +kernel) (by decide +kernel) (by decide +kernel)
theorem allAtoms_all (ts : List Jvm.Cond) (a : Array Jvm.Value) (st : Jvm.State) : (allAtoms ts).before a st = ts.all (fun c => c.before a st) := by
  induction ts with
  | nil => rfl
  | cons c t ih =>
    show (Jvm.Cond.and c (allAtoms t)).before a st = _
    rw [Jvm.Cond.before_and, ih, List.all_cons]
def words1 : List Jvm.Cond := Jvm.Cond.code x code maxLocals ret :: tables_1
/-- a 'code' word, met by the world's own term for the bytes: nothing is compared byte by byte -/
theorem code_word {y : MethodName} {bytes : ByteArray} {mx : Nat} {rt : Option FieldType} {a : Array Value} {s : State} {m : MethodId} {meth : Method} {c : Code} (h1 : s.methodNamed? y = some m) (h2 : s.vm.method? m = some meth) (h3 : meth.code = some c) (h4 : c.code = bytes)
    (h5 : (c.maxLocals == mx && c.exceptionTable.isEmpty && decide (c.maxStack ≤ mostOperands) && decide (meth.sig.returnType = rt) && !meth.locks && decide (parseMethodDescriptor y.desc = some meth.sig)) = true) : (Jvm.Cond.code y bytes mx rt).before a s = true := by
  simp only [Bool.and_eq_true, beq_iff_eq, Bool.not_eq_true', decide_eq_true_eq] at h5
  obtain ⟨⟨⟨⟨⟨g1, g2⟩, g3⟩, g4⟩, g5⟩, g6⟩ := h5
  simp [Cond.before, Cond.holds, Cond.value, h1, h2, h3, h4, g1, g2, g3, g4, g5, g6]
def isCode : Jvm.Cond → Bool
  | .code _ _ _ _ => true
  | _ => false
theorem all_split {L : List Jvm.Cond} {P : Jvm.Cond → Bool} (h1 : L.all (fun c => isCode c || P c) = true) (h2 : ∀ c ∈ L.filter isCode, P c = true) : L.all P = true := by
  refine List.all_eq_true.mpr fun c hc => ?_
  have h := List.all_eq_true.mp h1 c hc
  rcases Bool.eq_false_or_eq_true (isCode c) with hi | hi
  · exact h2 c (List.mem_filter.mpr ⟨hc, hi⟩)
  · simpa [hi] using h
set_option maxRecDepth 65536 in
theorem w_c0 : (Jvm.Cond.code x code maxLocals ret).before args0 about1 = true := code_word (m := ⟨1, 1⟩) (meth := k1m1) (c := k1c1) (by decide +kernel) rfl rfl rfl (by decide +kernel)
set_option maxRecDepth 65536 in
theorem w_c1 : (Jvm.Cond.code ({ cls := "com/example/klave/klave/coding/BerOidSizePinLaw", name := "reference", desc := "(J)I" } : Jvm.MethodName) method_3_code (2 : Nat) (Option.some Jvm.ClassFile.FieldType.int)).before args0 about1 = true := code_word (m := ⟨1, 2⟩) (meth := k1m2) (c := k1c2) (by decide +kernel) rfl rfl rfl (by decide +kernel)
set_option maxRecDepth 65536 in
theorem w_c2 : (Jvm.Cond.code ({ cls := "com/example/klave/klave/coding/BerOid", name := "size", desc := "(J)I" } : Jvm.MethodName) prog_7_method_3_code (5 : Nat) (Option.some Jvm.ClassFile.FieldType.int)).before args0 about1 = true := code_word (m := ⟨2, 1⟩) (meth := k2m1) (c := k2c1) (by decide +kernel) rfl rfl rfl (by decide +kernel)
def codes1 : List Jvm.Cond := [Jvm.Cond.code x code maxLocals ret, Jvm.Cond.code ({ cls := "com/example/klave/klave/coding/BerOidSizePinLaw", name := "reference", desc := "(J)I" } : Jvm.MethodName) method_3_code (2 : Nat) (Option.some Jvm.ClassFile.FieldType.int), Jvm.Cond.code ({ cls := "com/example/klave/klave/coding/BerOid", name := "size", desc := "(J)I" } : Jvm.MethodName) prog_7_method_3_code (5 : Nat) (Option.some Jvm.ClassFile.FieldType.int)]
set_option maxRecDepth 65536 in
theorem codes_eq : words1.filter isCode = codes1 := rfl
theorem w_codes : ∀ c ∈ words1.filter isCode, c.before args0 about1 = true := by
  rw [codes_eq]
  intro c hc
  simp only [codes1, List.mem_cons, List.not_mem_nil, or_false] at hc
  rcases hc with rfl | rfl | rfl
  · exact w_c0
  · exact w_c1
  · exact w_c2
set_option maxRecDepth 65536 in
theorem w_t1 : words1.all (fun c => isCode c || c.before args0 about1) = true := by decide +kernel
theorem w_tables : (allAtoms (Jvm.Cond.code x code maxLocals ret :: tables_1)).before args0 about1 = true := by
  rw [allAtoms_all]
  show words1.all (fun c => c.before args0 about1) = true
  refine all_split ?_ w_codes
  rw [w_t1]
set_option maxRecDepth 65536 in
theorem w_case : (Jvm.Cond.and given_1 narrow_1).before args0 about1 = true := by decide +kernel
theorem w_applies : (headSpec (Jvm.Cond.code x code maxLocals ret :: tables_1) room_1).applies x e0.platform about1 = true :=
  (Spec.applies_iff w_frames).mpr ⟨w_running, w_runnable, w_alone, w_named, w_hears, w_ripe, w_room, w_tables⟩
theorem atStart : AtStart classFile x code maxLocals ret World_1 tables_1 room_1 Calls_1 rest_1 Pre_1 launch0 p0 e0 about1 theMethod args0 below0 :=
  ⟨lists_1, trivial, launch0.admits_env _ _ _, launch0.least_env, fairChoices_fair.cas, fairChoices_fair.clock, w_frames, w_args, w_heap, w_applies, trivial, trivial, w_case⟩
end start1
theorem witness_1 : WitnessClaimed_1 := ⟨start1.p0, start1.e0, start1.about1, start1.theMethod, start1.args0, start1.below0, start1.atStart⟩
end Jvm.Pilot.@@N@@
