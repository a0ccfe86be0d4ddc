import JvmDerived
import JvmDerived.Pilot.@@N@@Statement
import JvmDerived.Pilot.@@N@@Code
set_option linter.unusedVariables false
set_option linter.unusedSimpArgs false
namespace Jvm.RoadKit
open Sem ClassFile Op Lib Jvm.Stand Jvm.Free Jvm.LawKit
section New
variable {p : Program} {l : Launch} {e : Env} {R : Room} {s : State} {m : MethodId} {args : Array Value} {below : List Frame} {meth : Method} {c : Code} {T : State} {locs : List Loc} {cells slots : Nat}
theorem retI (X : Stand p l e R s m args below meth c T locs cells slots) (hx : p.tables.exec = Jvm.exec) {pc : Nat} {Ls : Array Slot} {z : Int32} {rest : List Value} (hret : meth.sig.returnType = some .int) (hd : decode c.code pc = .ok (.ireturn, 1)) {fs : List Frame}
    (hl : ∀ (f : JFrame) (acts : List Action), f.method = m → f.locked = none → f.entered = [] → (doReturn e (T.setTop f) acts (some (.int z))).1 = T.setFrames fs) : Steps p.tables e below (T.setTop (mkF m pc Ls (.int z :: rest))) (T.setFrames fs) :=
  retOut X hx hret rfl (Or.inl ⟨rfl, Or.inl rfl, z, rfl⟩) hd hl
end New
end Jvm.RoadKit
namespace Jvm.Pilot.@@N@@
open Jvm Jvm.ClassFile Sem Op Lib Jvm.Free Jvm.Stand Jvm.LawKit Jvm.RoadKit Bundle Jvm.Pilot.@@N@@.Jvm.D
def QL (n0 : Nat) (v : Option Value) (h : Heap) (L : List Loc) : Prop := v = some (.int 1) ∧ Fr n0 L
def QP (r : Option Value) (h0 : Heap) (n0 : Nat) (v : Option Value) (h : Heap) (L : List Loc) : Prop := v = r ∧ Fr n0 L ∧ h = h0
theorem own_eqI {args : Array Value} {first s : State} {o : Option Outcome} {idx : List Nat} {a : Term} {k : Int32} (h : (Cond.eq a (.int k)).value args first o s idx = some true) : a.eval args first o idx s = some (.int k) := by
  obtain ⟨x, y, h1, h2, h3, h4⟩ := cmp_v (Or.inl h)
  obtain rfl : Value.int k = y := Option.some.inj h2
  obtain ⟨z, rfl⟩ := h4
  have q : z = k := by simpa [Cond.value, h1, Term.eval] using h
  rw [h1, q]
theorem d1_0 : decode prog_19_method_9_code 0 = .ok (.aload_n 0, 1) := by decide +kernel
theorem d1_1 : decode prog_19_method_9_code 1 = .ok (.getstatic 7, 3) := by decide +kernel
theorem d1_4 : decode prog_19_method_9_code 4 = .ok (.if_acmp .ne 9, 3) := by decide +kernel
theorem d1_7 : decode prog_19_method_9_code 7 = .ok (.ldc2_w 108, 3) := by decide +kernel
theorem d1_10 : decode prog_19_method_9_code 10 = .ok (.goto 14, 3) := by decide +kernel
theorem d1_13 : decode prog_19_method_9_code 13 = .ok (.lconst 1, 1) := by decide +kernel
theorem d1_14 : decode prog_19_method_9_code 14 = .ok (.bipush 8, 2) := by decide +kernel
theorem d1_16 : decode prog_19_method_9_code 16 = .ok (.aload_n 0, 1) := by decide +kernel
theorem d1_17 : decode prog_19_method_9_code 17 = .ok (.getfield 39, 3) := by decide +kernel
theorem d1_20 : decode prog_19_method_9_code 20 = .ok (.imul, 1) := by decide +kernel
theorem d1_21 : decode prog_19_method_9_code 21 = .ok (.lshl, 1) := by decide +kernel
theorem d1_22 : decode prog_19_method_9_code 22 = .ok (.lconst 1, 1) := by decide +kernel
theorem d1_23 : decode prog_19_method_9_code 23 = .ok (.lsub, 1) := by decide +kernel
theorem d1_24 : decode prog_19_method_9_code 24 = .ok (.lreturn, 1) := by decide +kernel
theorem pn_1 : plainName "com/example/klave/klave/coding/TagCoding" = true := by first | (simp [plainName, overriddenIn]; done) | decide +kernel
theorem ef_1 (m : MethodId) (x0 : Addr) : entryFrame m #[(.ref x0)] 1 = mkF m 0 #[.val (.ref x0)] [] := by first | (simp [entryFrame, mkF, argsToLocals, Value.category]; done) | rfl
def f1 (r0 : Addr) (a_OID : Addr) (w : Int32) : Int64 := (if r0 = a_OID then (9223372036854775807 : Int64) else (((1 : Int64) <<< (((8 : Int32) * w) &&& 0x3f).toInt64) - (1 : Int64)))
set_option maxRecDepth 65536 in
set_option maxHeartbeats 40000000 in
theorem rm1 (l : Launch) (Z : State) (a0 : Array Value) (hw : ∀ d ∈ tables_1, d.before a0 Z = true) (ws : List Jvm.Cond) (r0 : Addr) (a_OID : Addr) (w : Int32) (h0 : Heap) (n0 : Nat) (Z0 : n0 ≤ h0.size) (S_OID : Sta Z h0 "com/example/klave/klave/coding/TagCoding" "OID" "Lcom/example/klave/klave/coding/TagCoding;" (.ref a_OID)) (F_size : Fld Z h0 r0 "com/example/klave/klave/coding/TagCoding" "size" "I" (.int w)) :
    MetFree l (⟨"com/example/klave/klave/coding/TagCoding", "maxTag", "()J"⟩ : MethodName) (head1 (Jvm.Cond.code (⟨"com/example/klave/klave/coding/TagCoding", "maxTag", "()J"⟩ : MethodName) prog_19_method_9_code 1 (some .long) :: ws) ({ frames := 0, cells := 0, slots := 0, locals := 0 } : Room)) (fun a U => a = #[(.ref r0)] ∧ Z.Warmed39 U.vm ∧ U.heap = h0) (fun _ _ _ _ _ => True) (fun _ U o U' => ∃ v L, o = .returned v ∧ QP (some (.long (f1 r0 a_OID w))) h0 n0 v U'.heap L ∧ FrameEnd U o U' L 0 0) := by
  refine MetFree.of_bodySF (plainFor_of_name pn_1) hisR ?_
  intro p e s m args below meth c s₁ Bd hml0 hP hK
  obtain ⟨rfl, hZ, hh⟩ := hP
  have hx := Bd.exec
  have hby := Bd.bytes
  have hml : c.maxLocals = 1 := hml0
  have hown : s.vm.findClass "com/example/klave/klave/coding/TagCoding" = some m.cls := findClass_of_methodNamed Bd.named
  have hnm := (name_of_methodNamed Bd.named Bd.method).1
  have X0 : Stand p l e ({ frames := 0, cells := 0, slots := 0, locals := 0 } : Room) s m #[(.ref r0)] below meth c s₁ [] 0 0 := Stand.of_body Bd
  have e0 : s₁.heap = h0 := by rw [← hh, Bd.state]; rfl
  have N0 := Fr.nil n0
  have pre0 : ∀ t, Steps p.tables e below (s₁.setTop (mkF m 0 #[.val (.ref r0)] [])) t → Steps p.tables e below (s₁.setTop (entryFrame m #[(.ref r0)] 1)) t := fun t k => castTop (ef_1 m r0) k
  obtain ⟨T1, X1, e1, st1⟩ := getS2 X0 hx hZ hown (host := "") (Or.inl (hw _ (List.mem_of_getElem? (i := 9) rfl))) Via.refl e0 S_OID (g := (mkF m 1 #[.val (.ref r0)] [(.ref r0)])) rfl (hb hby d1_1)
  have pre2 : ∀ t, Steps p.tables e below (T1.setTop (mkF m 4 #[.val (.ref r0)] [(.ref a_OID), (.ref r0)])) t → Steps p.tables e below (s₁.setTop (entryFrame m #[(.ref r0)] 1)) t := fun t k => pre0 t (by
    show Steps p.tables e below (s₁.setTop (mkF m 0 #[.val (.ref r0)] [])) _
    refine XS.aloadN X0.here hx rfl (hb hby d1_0) rfl rfl ?_
    show Steps p.tables e below (s₁.setTop (mkF m 1 #[.val (.ref r0)] [(.ref r0)])) _
    refine st1 _ ?_
    exact k)
  by_cases hc4 : r0 = a_OID
  · -- pc 4: r0 = a_OID
    obtain ⟨fs, hr, hrun, hended, hW, hsame⟩ := X1.leave (v := (some (.long (9223372036854775807 : Int64)))) (fun h => by rw [Bd.returns] at h; cases h)
    refine ⟨_, _, pre2 _ ?_, hrun, hended, _, _, rfl, ?_, ⟨_, rfl⟩, hW, hsame.mono (by decide) (by decide)⟩
    · show Steps p.tables e below (T1.setTop (mkF m 4 #[.val (.ref r0)] [(.ref a_OID), (.ref r0)])) _
      refine Jvm.RoadKit.acmp (g := (mkF m 4 #[.val (.ref r0)] [(.ref a_OID), (.ref r0)])) X1 hx rfl rfl rfl (pc0 := 4) (pc' := 7) (same := true) rfl (hb hby d1_4) rfl (decide_eq_true (congrArg Value.ref hc4)) (by decide) (by decide) ?_
      show Steps p.tables e below (T1.setTop (mkF m 7 #[.val (.ref r0)] [])) _
      refine X1.ldc2Long hx hown (mvT hZ (hw _ (List.mem_of_getElem? (i := 21) rfl))) (g := (mkF m 7 #[.val (.ref r0)] [])) rfl (hb hby d1_7) _ ?_
      show Steps p.tables e below (T1.setTop (mkF m 10 #[.val (.ref r0)] [(.long (9223372036854775807 : Int64))])) _
      refine XS.goto X1.here hx rfl (pc0 := 10) (pc' := 24) rfl (hb hby d1_10) (by decide) (by decide) ?_
      show Steps p.tables e below (T1.setTop (mkF m 24 #[.val (.ref r0)] [(.long (9223372036854775807 : Int64))])) _
      exact retOut X1 hx Bd.returns rfl (Or.inr (Or.inl ⟨rfl, rfl, _, rfl⟩)) (hb hby d1_24) hr
    · show QP (some (.long (f1 r0 a_OID w))) h0 n0 _ T1.heap _
      rw [e1]
      exact ⟨congrArg (fun z => some (Value.long z)) (Eq.symm (show (f1 r0 a_OID w) = (9223372036854775807 : Int64) from (if_pos hc4).trans (rfl))), N0, rfl⟩
  · -- pc 4: not r0 = a_OID
    obtain ⟨T3, X3, e3, st3⟩ := getF X1 hx hZ hown (host := "") (Or.inl (hw _ (List.mem_of_getElem? (i := 11) rfl))) Via.refl e1 F_size (g := (mkF m 17 #[.val (.ref r0)] [(.ref r0), (.int (8 : Int32)), (.long (1 : Int64))])) rfl rfl (hb hby d1_17)
    obtain ⟨fs, hr, hrun, hended, hW, hsame⟩ := X3.leave (v := (some (.long (((1 : Int64) <<< (((8 : Int32) * w) &&& 0x3f).toInt64) - (1 : Int64))))) (fun h => by rw [Bd.returns] at h; cases h)
    refine ⟨_, _, pre2 _ ?_, hrun, hended, _, _, rfl, ?_, ⟨_, rfl⟩, hW, hsame.mono (by decide) (by decide)⟩
    · show Steps p.tables e below (T1.setTop (mkF m 4 #[.val (.ref r0)] [(.ref a_OID), (.ref r0)])) _
      refine Jvm.RoadKit.acmp (g := (mkF m 4 #[.val (.ref r0)] [(.ref a_OID), (.ref r0)])) X1 hx rfl rfl rfl (pc0 := 4) (pc' := 13) (same := false) rfl (hb hby d1_4) rfl (decide_eq_false fun q => hc4 (Value.ref.inj q)) (by decide) (by decide) ?_
      show Steps p.tables e below (T1.setTop (mkF m 13 #[.val (.ref r0)] [])) _
      refine XS.lconst X1.here hx rfl (hb hby d1_13) ?_
      show Steps p.tables e below (T1.setTop (mkF m 14 #[.val (.ref r0)] [(.long (1 : Int64))])) _
      refine XS.bipush X1.here hx rfl (hb hby d1_14) ?_
      show Steps p.tables e below (T1.setTop (mkF m 16 #[.val (.ref r0)] [(.int (8 : Int32)), (.long (1 : Int64))])) _
      refine XS.aloadN X1.here hx rfl (hb hby d1_16) rfl rfl ?_
      show Steps p.tables e below (T1.setTop (mkF m 17 #[.val (.ref r0)] [(.ref r0), (.int (8 : Int32)), (.long (1 : Int64))])) _
      refine st3 _ ?_
      show Steps p.tables e below (T3.setTop (mkF m 20 #[.val (.ref r0)] [(.int w), (.int (8 : Int32)), (.long (1 : Int64))])) _
      refine XS.imul X3.here hx rfl (hb hby d1_20) rfl ?_
      show Steps p.tables e below (T3.setTop (mkF m 21 #[.val (.ref r0)] [(.int ((8 : Int32) * w)), (.long (1 : Int64))])) _
      refine XS.lshl X3.here hx rfl (hb hby d1_21) rfl ?_
      show Steps p.tables e below (T3.setTop (mkF m 22 #[.val (.ref r0)] [(.long ((1 : Int64) <<< (((8 : Int32) * w) &&& 0x3f).toInt64))])) _
      refine XS.lconst X3.here hx rfl (hb hby d1_22) ?_
      show Steps p.tables e below (T3.setTop (mkF m 23 #[.val (.ref r0)] [(.long (1 : Int64)), (.long ((1 : Int64) <<< (((8 : Int32) * w) &&& 0x3f).toInt64))])) _
      refine XS.lsub X3.here hx rfl (hb hby d1_23) rfl ?_
      show Steps p.tables e below (T3.setTop (mkF m 24 #[.val (.ref r0)] [(.long (((1 : Int64) <<< (((8 : Int32) * w) &&& 0x3f).toInt64) - (1 : Int64)))])) _
      exact retOut X3 hx Bd.returns rfl (Or.inr (Or.inl ⟨rfl, rfl, _, rfl⟩)) (hb hby d1_24) hr
    · show QP (some (.long (f1 r0 a_OID w))) h0 n0 _ T3.heap _
      rw [e3]
      exact ⟨congrArg (fun z => some (Value.long z)) (Eq.symm (show (f1 r0 a_OID w) = (((1 : Int64) <<< (((8 : Int32) * w) &&& 0x3f).toInt64) - (1 : Int64)) from (if_neg hc4).trans (rfl))), N0, rfl⟩
theorem pn_0 : plainName "com/example/klave/klave/coding/TagCodingMaxTagPinLaw" = true := by first | (simp [plainName, overriddenIn]; done) | decide +kernel
theorem ef_0 (m : MethodId) (x0 : Int32) : entryFrame m #[(.int x0)] maxLocals = mkF m 0 #[.val (.int x0), .unset, .unset, .unset, .unset] [] := by first | (simp [entryFrame, mkF, argsToLocals, Value.category, maxLocals]; done) | rfl
theorem pd_0 : parseMethodDescriptor "()J" = some ⟨[], some .long⟩ := by decide +kernel
set_option maxRecDepth 65536 in
set_option maxHeartbeats 40000000 in
theorem rm0 (l : Launch) (Z : State) (a0 : Array Value) (hw : ∀ d ∈ tables_1, d.before a0 Z = true) (ws : List Jvm.Cond) (u0 : Int32) (a_ONE : Addr) (a_OID : Addr) (a_TWO : Addr) (a_FOUR : Addr) (h0 : Heap) (n0 : Nat) (Z0 : n0 ≤ h0.size) (S_ONE : Sta Z h0 "com/example/klave/klave/coding/TagCoding" "ONE" "Lcom/example/klave/klave/coding/TagCoding;" (.ref a_ONE)) (E_ONE : Exa Z h0 a_ONE "com/example/klave/klave/coding/TagCoding") (F_ONE_size : Fld Z h0 a_ONE "com/example/klave/klave/coding/TagCoding" "size" "I" (.int (1 : Int32))) (S_OID : Sta Z h0 "com/example/klave/klave/coding/TagCoding" "OID" "Lcom/example/klave/klave/coding/TagCoding;" (.ref a_OID)) (E_OID : Exa Z h0 a_OID "com/example/klave/klave/coding/TagCoding") (F_OID_size : Fld Z h0 a_OID "com/example/klave/klave/coding/TagCoding" "size" "I" (.int (0 : Int32))) (S_TWO : Sta Z h0 "com/example/klave/klave/coding/TagCoding" "TWO" "Lcom/example/klave/klave/coding/TagCoding;" (.ref a_TWO)) (E_TWO : Exa Z h0 a_TWO "com/example/klave/klave/coding/TagCoding") (F_TWO_size : Fld Z h0 a_TWO "com/example/klave/klave/coding/TagCoding" "size" "I" (.int (2 : Int32))) (S_FOUR : Sta Z h0 "com/example/klave/klave/coding/TagCoding" "FOUR" "Lcom/example/klave/klave/coding/TagCoding;" (.ref a_FOUR)) (E_FOUR : Exa Z h0 a_FOUR "com/example/klave/klave/coding/TagCoding") (F_FOUR_size : Fld Z h0 a_FOUR "com/example/klave/klave/coding/TagCoding" "size" "I" (.int (4 : Int32))) (n_ONE : a_ONE ≠ a_OID) (n_TWO : a_TWO ≠ a_OID) (n_FOUR : a_FOUR ≠ a_OID) :
    MetFree l x (head1 (Jvm.Cond.code x code maxLocals ret :: ws) room_1) (fun a U => a = #[(.int u0)] ∧ Z.Warmed39 U.vm ∧ U.heap = h0) (fun _ _ _ _ _ => True) (fun _ U o U' => ∃ v L, o = .returned v ∧ QL n0 v U'.heap L ∧ FrameEnd U o U' L 0 0) := by
  refine MetFree.of_bodySF (plainFor_of_name pn_0) hisR ?_
  intro p e s m args below meth c s₁ Bd hml0 hP hK
  obtain ⟨rfl, hZ, hh⟩ := hP
  have hx := Bd.exec
  have hby := Bd.bytes
  have hml : c.maxLocals = 5 := hml0
  have hown : s.vm.findClass "com/example/klave/klave/coding/TagCodingMaxTagPinLaw" = some m.cls := findClass_of_methodNamed Bd.named
  have hnm := (name_of_methodNamed Bd.named Bd.method).1
  have X0 : Stand p l e room_1 s m #[(.int u0)] below meth c s₁ [] 0 0 := Stand.of_body Bd
  have e0 : s₁.heap = h0 := by rw [← hh, Bd.state]; rfl
  have N0 := Fr.nil n0
  have pre0 : ∀ t, Steps p.tables e below (s₁.setTop (mkF m 0 #[.val (.int u0), .unset, .unset, .unset, .unset] [])) t → Steps p.tables e below (s₁.setTop (entryFrame m #[(.int u0)] maxLocals)) t := fun t k => castTop (ef_0 m u0) k
  have pre1 : ∀ t, Steps p.tables e below (s₁.setTop (mkF m 5 #[.val (.int u0), .val (.int (u0 &&& (3 : Int32))), .unset, .unset, .unset] [(.int (u0 &&& (3 : Int32)))])) t → Steps p.tables e below (s₁.setTop (entryFrame m #[(.int u0)] maxLocals)) t := fun t k => pre0 t (by
    show Steps p.tables e below (s₁.setTop (mkF m 0 #[.val (.int u0), .unset, .unset, .unset, .unset] [])) _
    refine XS.iloadN X0.here hx rfl (hb hby at_0) rfl ?_
    show Steps p.tables e below (s₁.setTop (mkF m 1 #[.val (.int u0), .unset, .unset, .unset, .unset] [(.int u0)])) _
    refine XS.iconst X0.here hx rfl (hb hby at_1) ?_
    show Steps p.tables e below (s₁.setTop (mkF m 2 #[.val (.int u0), .unset, .unset, .unset, .unset] [(.int (3 : Int32)), (.int u0)])) _
    refine XS.iand X0.here hx rfl (hb hby at_2) rfl ?_
    show Steps p.tables e below (s₁.setTop (mkF m 3 #[.val (.int u0), .unset, .unset, .unset, .unset] [(.int (u0 &&& (3 : Int32)))])) _
    refine XS.istoreN X0.here hx rfl (hb hby at_3) rfl (l' := #[.val (.int u0), .val (.int (u0 &&& (3 : Int32))), .unset, .unset, .unset]) rfl ?_
    show Steps p.tables e below (s₁.setTop (mkF m 4 #[.val (.int u0), .val (.int (u0 &&& (3 : Int32))), .unset, .unset, .unset] [])) _
    refine XS.iloadN X0.here hx rfl (hb hby at_4) rfl ?_
    exact k)
  by_cases hc5 : (u0 &&& (3 : Int32)) = (0 : Int32)
  · -- pc 5: (u0 &&& (3 : Int32)) = (0 : Int32)
    obtain ⟨T2, X2, e2, st2⟩ := getS2 X0 hx hZ hown (host := "") (Or.inl (hw _ (List.mem_of_getElem? (i := 0) rfl))) Via.refl e0 S_ONE (g := (mkF m 8 #[.val (.int u0), .val (.int (u0 &&& (3 : Int32))), .unset, .unset, .unset] [])) rfl (hb hby at_8)
    obtain ⟨cq3, kq3, q3a, q3b, q3c⟩ := isOf hZ e2 E_ONE
    obtain ⟨_, _, ⟨T3, L3, k3, n3⟩, -, X3, ⟨Lc3, hQ3, l3, y3, z3⟩, st3⟩ := X2.virtualBack hx (y := (⟨"com/example/klave/klave/coding/TagCoding", "maxTag", "()J"⟩ : MethodName)) (z := (⟨"com/example/klave/klave/coding/TagCoding", "maxTag", "()J"⟩ : MethodName)) hown (mvT hZ (hw _ (List.mem_of_getElem? (i := 4) rfl))) (mvT hZ (hw _ (List.mem_of_getElem? (i := 5) rfl))) (notFace_of_selects (args := #[]) (mvT hZ (hw _ (List.mem_of_getElem? (i := 7) rfl)))) (mvT hZ (hw _ (List.mem_of_getElem? (i := 7) rfl))) (mvT hZ (hw _ (List.mem_of_getElem? (i := 6) rfl))) (by decide) (backOf (W := 0) (rm1 l Z a0 hw [] a_ONE a_OID (1 : Int32) h0 n0 Z0 S_OID F_ONE_size) hZ (hw _ (List.mem_of_getElem? (i := 8) rfl)) (hw _ (List.mem_of_getElem? (i := 1) rfl)) (by decide) (by decide)) q3a q3c (g := (mkF m 60 #[.val (.int u0), .val (.int (u0 &&& (3 : Int32))), .val (.ref a_ONE), .val (.long (255 : Int64)), .second] [(.ref a_ONE)])) rfl (by rw [hml]; rfl) (Steps.refl _) (argsL := []) (rest := []) (lenOf pd_0 rfl) rfl (by show 2 * 0 + _ ≤ _; exact Nat.le_of_eq rfl) (hb hby at_60) (fun _ _ => ⟨rfl, e2, (by decide : 0 + 0 ≤ _), (by decide : 0 + 0 ≤ _)⟩)
    dsimp only [Pt.U, Pt.locs, Pt.cells, Pt.slots] at X3 l3 y3 z3 st3 hQ3
    subst l3 y3 z3
    obtain ⟨rfl, N3q, e3⟩ := hQ3
    have N3 := Fr.app N0 N3q
    obtain ⟨fs, hr, hrun, hended, hW, hsame⟩ := X3.leave (v := (some (.int (1 : Int32)))) (fun h => by rw [Bd.returns] at h; cases h)
    refine ⟨_, _, pre1 _ ?_, hrun, hended, _, _, rfl, ?_, ⟨_, rfl⟩, hW, hsame.mono (by decide) (by decide)⟩
    · show Steps p.tables e below (s₁.setTop (mkF m 5 #[.val (.int u0), .val (.int (u0 &&& (3 : Int32))), .unset, .unset, .unset] [(.int (u0 &&& (3 : Int32)))])) _
      refine XS.ifNo X0.here hx rfl (hb hby at_5) rfl ((if0 _ _).trans (teq hc5).2) ?_
      show Steps p.tables e below (s₁.setTop (mkF m 8 #[.val (.int u0), .val (.int (u0 &&& (3 : Int32))), .unset, .unset, .unset] [])) _
      refine st2 _ ?_
      show Steps p.tables e below (T2.setTop (mkF m 11 #[.val (.int u0), .val (.int (u0 &&& (3 : Int32))), .unset, .unset, .unset] [(.ref a_ONE)])) _
      refine XS.astoreN X2.here hx rfl (hb hby at_11) rfl rfl (l' := #[.val (.int u0), .val (.int (u0 &&& (3 : Int32))), .val (.ref a_ONE), .unset, .unset]) rfl ?_
      show Steps p.tables e below (T2.setTop (mkF m 12 #[.val (.int u0), .val (.int (u0 &&& (3 : Int32))), .val (.ref a_ONE), .unset, .unset] [])) _
      refine X2.ldc2Long hx hown (mvT hZ (hw _ (List.mem_of_getElem? (i := 3) rfl))) (g := (mkF m 12 #[.val (.int u0), .val (.int (u0 &&& (3 : Int32))), .val (.ref a_ONE), .unset, .unset] [])) rfl (hb hby at_12) _ ?_
      show Steps p.tables e below (T2.setTop (mkF m 15 #[.val (.int u0), .val (.int (u0 &&& (3 : Int32))), .val (.ref a_ONE), .unset, .unset] [(.long (255 : Int64))])) _
      refine XS.lstoreN X2.here hx rfl (hb hby at_15) rfl (l' := #[.val (.int u0), .val (.int (u0 &&& (3 : Int32))), .val (.ref a_ONE), .val (.long (255 : Int64)), .second]) rfl ?_
      show Steps p.tables e below (T2.setTop (mkF m 16 #[.val (.int u0), .val (.int (u0 &&& (3 : Int32))), .val (.ref a_ONE), .val (.long (255 : Int64)), .second] [])) _
      refine XS.goto X2.here hx rfl (pc0 := 16) (pc' := 59) rfl (hb hby at_16) (by decide) (by decide) ?_
      show Steps p.tables e below (T2.setTop (mkF m 59 #[.val (.int u0), .val (.int (u0 &&& (3 : Int32))), .val (.ref a_ONE), .val (.long (255 : Int64)), .second] [])) _
      refine XS.aloadN X2.here hx rfl (hb hby at_59) rfl rfl ?_
      show Steps p.tables e below (T2.setTop (mkF m 60 #[.val (.int u0), .val (.int (u0 &&& (3 : Int32))), .val (.ref a_ONE), .val (.long (255 : Int64)), .second] [(.ref a_ONE)])) _
      refine st3.trans ?_
      show Steps p.tables e below (T3.setTop (mkF m 63 #[.val (.int u0), .val (.int (u0 &&& (3 : Int32))), .val (.ref a_ONE), .val (.long (255 : Int64)), .second] [(.long (f1 a_ONE a_OID (1 : Int32)))])) _
      refine XS.lloadN X3.here hx rfl (hb hby at_63) rfl ?_
      show Steps p.tables e below (T3.setTop (mkF m 64 #[.val (.int u0), .val (.int (u0 &&& (3 : Int32))), .val (.ref a_ONE), .val (.long (255 : Int64)), .second] [(.long (255 : Int64)), (.long (f1 a_ONE a_OID (1 : Int32)))])) _
      refine XS.lcmp X3.here hx rfl (hb hby at_64) rfl ?_
      show Steps p.tables e below (T3.setTop (mkF m 65 #[.val (.int u0), .val (.int (u0 &&& (3 : Int32))), .val (.ref a_ONE), .val (.long (255 : Int64)), .second] [(.int (lcmpW (f1 a_ONE a_OID (1 : Int32)) (255 : Int64)))])) _
      refine XS.ifNo X3.here hx rfl (hb hby at_65) rfl ((if0 _ _).trans (teq ((lw_eq _ _).mpr ((if_neg n_ONE).trans (by decide)))).2) ?_
      show Steps p.tables e below (T3.setTop (mkF m 68 #[.val (.int u0), .val (.int (u0 &&& (3 : Int32))), .val (.ref a_ONE), .val (.long (255 : Int64)), .second] [])) _
      refine XS.iconst X3.here hx rfl (hb hby at_68) ?_
      show Steps p.tables e below (T3.setTop (mkF m 69 #[.val (.int u0), .val (.int (u0 &&& (3 : Int32))), .val (.ref a_ONE), .val (.long (255 : Int64)), .second] [(.int (1 : Int32))])) _
      refine XS.goto X3.here hx rfl (pc0 := 69) (pc' := 73) rfl (hb hby at_69) (by decide) (by decide) ?_
      show Steps p.tables e below (T3.setTop (mkF m 73 #[.val (.int u0), .val (.int (u0 &&& (3 : Int32))), .val (.ref a_ONE), .val (.long (255 : Int64)), .second] [(.int (1 : Int32))])) _
      exact retN X3 hx (t := .boolean) Bd.returns (by simp) (hb hby at_73) hr
    · show QL n0 _ T3.heap _
      rw [e3]
      exact ⟨rfl, N3⟩
  · -- pc 5: not (u0 &&& (3 : Int32)) = (0 : Int32)
    have pre4 : ∀ t, Steps p.tables e below (s₁.setTop (mkF m 21 #[.val (.int u0), .val (.int (u0 &&& (3 : Int32))), .unset, .unset, .unset] [(.int (1 : Int32)), (.int (u0 &&& (3 : Int32)))])) t → Steps p.tables e below (s₁.setTop (entryFrame m #[(.int u0)] maxLocals)) t := fun t k => pre1 t (by
      show Steps p.tables e below (s₁.setTop (mkF m 5 #[.val (.int u0), .val (.int (u0 &&& (3 : Int32))), .unset, .unset, .unset] [(.int (u0 &&& (3 : Int32)))])) _
      refine XS.ifYes X0.here hx rfl (pc0 := 5) (pc' := 19) rfl (hb hby at_5) rfl ((if0 _ _).trans (feq hc5).2) (by decide) (by decide) ?_
      show Steps p.tables e below (s₁.setTop (mkF m 19 #[.val (.int u0), .val (.int (u0 &&& (3 : Int32))), .unset, .unset, .unset] [])) _
      refine XS.iloadN X0.here hx rfl (hb hby at_19) rfl ?_
      show Steps p.tables e below (s₁.setTop (mkF m 20 #[.val (.int u0), .val (.int (u0 &&& (3 : Int32))), .unset, .unset, .unset] [(.int (u0 &&& (3 : Int32)))])) _
      refine XS.iconst X0.here hx rfl (hb hby at_20) ?_
      exact k)
    by_cases hc21 : (u0 &&& (3 : Int32)) = (1 : Int32)
    · -- pc 21: (u0 &&& (3 : Int32)) = (1 : Int32)
      obtain ⟨T5, X5, e5, st5⟩ := getS2 X0 hx hZ hown (host := "") (Or.inl (hw _ (List.mem_of_getElem? (i := 19) rfl))) Via.refl e0 S_OID (g := (mkF m 24 #[.val (.int u0), .val (.int (u0 &&& (3 : Int32))), .unset, .unset, .unset] [])) rfl (hb hby at_24)
      obtain ⟨cq6, kq6, q6a, q6b, q6c⟩ := isOf hZ e5 E_OID
      obtain ⟨_, _, ⟨T6, L6, k6, n6⟩, -, X6, ⟨Lc6, hQ6, l6, y6, z6⟩, st6⟩ := X5.virtualBack hx (y := (⟨"com/example/klave/klave/coding/TagCoding", "maxTag", "()J"⟩ : MethodName)) (z := (⟨"com/example/klave/klave/coding/TagCoding", "maxTag", "()J"⟩ : MethodName)) hown (mvT hZ (hw _ (List.mem_of_getElem? (i := 4) rfl))) (mvT hZ (hw _ (List.mem_of_getElem? (i := 5) rfl))) (notFace_of_selects (args := #[]) (mvT hZ (hw _ (List.mem_of_getElem? (i := 7) rfl)))) (mvT hZ (hw _ (List.mem_of_getElem? (i := 7) rfl))) (mvT hZ (hw _ (List.mem_of_getElem? (i := 6) rfl))) (by decide) (backOf (W := 0) (rm1 l Z a0 hw [] a_OID a_OID (0 : Int32) h0 n0 Z0 S_OID F_OID_size) hZ (hw _ (List.mem_of_getElem? (i := 8) rfl)) (hw _ (List.mem_of_getElem? (i := 1) rfl)) (by decide) (by decide)) q6a q6c (g := (mkF m 60 #[.val (.int u0), .val (.int (u0 &&& (3 : Int32))), .val (.ref a_OID), .val (.long (9223372036854775807 : Int64)), .second] [(.ref a_OID)])) rfl (by rw [hml]; rfl) (Steps.refl _) (argsL := []) (rest := []) (lenOf pd_0 rfl) rfl (by show 2 * 0 + _ ≤ _; exact Nat.le_of_eq rfl) (hb hby at_60) (fun _ _ => ⟨rfl, e5, (by decide : 0 + 0 ≤ _), (by decide : 0 + 0 ≤ _)⟩)
      dsimp only [Pt.U, Pt.locs, Pt.cells, Pt.slots] at X6 l6 y6 z6 st6 hQ6
      subst l6 y6 z6
      obtain ⟨rfl, N6q, e6⟩ := hQ6
      have N6 := Fr.app N0 N6q
      obtain ⟨fs, hr, hrun, hended, hW, hsame⟩ := X6.leave (v := (some (.int (1 : Int32)))) (fun h => by rw [Bd.returns] at h; cases h)
      refine ⟨_, _, pre4 _ ?_, hrun, hended, _, _, rfl, ?_, ⟨_, rfl⟩, hW, hsame.mono (by decide) (by decide)⟩
      · show Steps p.tables e below (s₁.setTop (mkF m 21 #[.val (.int u0), .val (.int (u0 &&& (3 : Int32))), .unset, .unset, .unset] [(.int (1 : Int32)), (.int (u0 &&& (3 : Int32)))])) _
        refine XS.icmpNo X0.here hx rfl (hb hby at_21) rfl (teq hc21).2 ?_
        show Steps p.tables e below (s₁.setTop (mkF m 24 #[.val (.int u0), .val (.int (u0 &&& (3 : Int32))), .unset, .unset, .unset] [])) _
        refine st5 _ ?_
        show Steps p.tables e below (T5.setTop (mkF m 27 #[.val (.int u0), .val (.int (u0 &&& (3 : Int32))), .unset, .unset, .unset] [(.ref a_OID)])) _
        refine XS.astoreN X5.here hx rfl (hb hby at_27) rfl rfl (l' := #[.val (.int u0), .val (.int (u0 &&& (3 : Int32))), .val (.ref a_OID), .unset, .unset]) rfl ?_
        show Steps p.tables e below (T5.setTop (mkF m 28 #[.val (.int u0), .val (.int (u0 &&& (3 : Int32))), .val (.ref a_OID), .unset, .unset] [])) _
        refine X5.ldc2Long hx hown (mvT hZ (hw _ (List.mem_of_getElem? (i := 20) rfl))) (g := (mkF m 28 #[.val (.int u0), .val (.int (u0 &&& (3 : Int32))), .val (.ref a_OID), .unset, .unset] [])) rfl (hb hby at_28) _ ?_
        show Steps p.tables e below (T5.setTop (mkF m 31 #[.val (.int u0), .val (.int (u0 &&& (3 : Int32))), .val (.ref a_OID), .unset, .unset] [(.long (9223372036854775807 : Int64))])) _
        refine XS.lstoreN X5.here hx rfl (hb hby at_31) rfl (l' := #[.val (.int u0), .val (.int (u0 &&& (3 : Int32))), .val (.ref a_OID), .val (.long (9223372036854775807 : Int64)), .second]) rfl ?_
        show Steps p.tables e below (T5.setTop (mkF m 32 #[.val (.int u0), .val (.int (u0 &&& (3 : Int32))), .val (.ref a_OID), .val (.long (9223372036854775807 : Int64)), .second] [])) _
        refine XS.goto X5.here hx rfl (pc0 := 32) (pc' := 59) rfl (hb hby at_32) (by decide) (by decide) ?_
        show Steps p.tables e below (T5.setTop (mkF m 59 #[.val (.int u0), .val (.int (u0 &&& (3 : Int32))), .val (.ref a_OID), .val (.long (9223372036854775807 : Int64)), .second] [])) _
        refine XS.aloadN X5.here hx rfl (hb hby at_59) rfl rfl ?_
        show Steps p.tables e below (T5.setTop (mkF m 60 #[.val (.int u0), .val (.int (u0 &&& (3 : Int32))), .val (.ref a_OID), .val (.long (9223372036854775807 : Int64)), .second] [(.ref a_OID)])) _
        refine st6.trans ?_
        show Steps p.tables e below (T6.setTop (mkF m 63 #[.val (.int u0), .val (.int (u0 &&& (3 : Int32))), .val (.ref a_OID), .val (.long (9223372036854775807 : Int64)), .second] [(.long (f1 a_OID a_OID (0 : Int32)))])) _
        refine XS.lloadN X6.here hx rfl (hb hby at_63) rfl ?_
        show Steps p.tables e below (T6.setTop (mkF m 64 #[.val (.int u0), .val (.int (u0 &&& (3 : Int32))), .val (.ref a_OID), .val (.long (9223372036854775807 : Int64)), .second] [(.long (9223372036854775807 : Int64)), (.long (f1 a_OID a_OID (0 : Int32)))])) _
        refine XS.lcmp X6.here hx rfl (hb hby at_64) rfl ?_
        show Steps p.tables e below (T6.setTop (mkF m 65 #[.val (.int u0), .val (.int (u0 &&& (3 : Int32))), .val (.ref a_OID), .val (.long (9223372036854775807 : Int64)), .second] [(.int (lcmpW (f1 a_OID a_OID (0 : Int32)) (9223372036854775807 : Int64)))])) _
        refine XS.ifNo X6.here hx rfl (hb hby at_65) rfl ((if0 _ _).trans (teq ((lw_eq _ _).mpr (if_pos rfl))).2) ?_
        show Steps p.tables e below (T6.setTop (mkF m 68 #[.val (.int u0), .val (.int (u0 &&& (3 : Int32))), .val (.ref a_OID), .val (.long (9223372036854775807 : Int64)), .second] [])) _
        refine XS.iconst X6.here hx rfl (hb hby at_68) ?_
        show Steps p.tables e below (T6.setTop (mkF m 69 #[.val (.int u0), .val (.int (u0 &&& (3 : Int32))), .val (.ref a_OID), .val (.long (9223372036854775807 : Int64)), .second] [(.int (1 : Int32))])) _
        refine XS.goto X6.here hx rfl (pc0 := 69) (pc' := 73) rfl (hb hby at_69) (by decide) (by decide) ?_
        show Steps p.tables e below (T6.setTop (mkF m 73 #[.val (.int u0), .val (.int (u0 &&& (3 : Int32))), .val (.ref a_OID), .val (.long (9223372036854775807 : Int64)), .second] [(.int (1 : Int32))])) _
        exact retN X6 hx (t := .boolean) Bd.returns (by simp) (hb hby at_73) hr
      · show QL n0 _ T6.heap _
        rw [e6]
        exact ⟨rfl, N6⟩
    · -- pc 21: not (u0 &&& (3 : Int32)) = (1 : Int32)
      have pre7 : ∀ t, Steps p.tables e below (s₁.setTop (mkF m 37 #[.val (.int u0), .val (.int (u0 &&& (3 : Int32))), .unset, .unset, .unset] [(.int (2 : Int32)), (.int (u0 &&& (3 : Int32)))])) t → Steps p.tables e below (s₁.setTop (entryFrame m #[(.int u0)] maxLocals)) t := fun t k => pre4 t (by
        show Steps p.tables e below (s₁.setTop (mkF m 21 #[.val (.int u0), .val (.int (u0 &&& (3 : Int32))), .unset, .unset, .unset] [(.int (1 : Int32)), (.int (u0 &&& (3 : Int32)))])) _
        refine XS.icmpYes X0.here hx rfl (pc0 := 21) (pc' := 35) rfl (hb hby at_21) rfl (feq hc21).2 (by decide) (by decide) ?_
        show Steps p.tables e below (s₁.setTop (mkF m 35 #[.val (.int u0), .val (.int (u0 &&& (3 : Int32))), .unset, .unset, .unset] [])) _
        refine XS.iloadN X0.here hx rfl (hb hby at_35) rfl ?_
        show Steps p.tables e below (s₁.setTop (mkF m 36 #[.val (.int u0), .val (.int (u0 &&& (3 : Int32))), .unset, .unset, .unset] [(.int (u0 &&& (3 : Int32)))])) _
        refine XS.iconst X0.here hx rfl (hb hby at_36) ?_
        exact k)
      by_cases hc37 : (u0 &&& (3 : Int32)) = (2 : Int32)
      · -- pc 37: (u0 &&& (3 : Int32)) = (2 : Int32)
        obtain ⟨T8, X8, e8, st8⟩ := getS2 X0 hx hZ hown (host := "") (Or.inl (hw _ (List.mem_of_getElem? (i := 16) rfl))) Via.refl e0 S_TWO (g := (mkF m 40 #[.val (.int u0), .val (.int (u0 &&& (3 : Int32))), .unset, .unset, .unset] [])) rfl (hb hby at_40)
        obtain ⟨cq9, kq9, q9a, q9b, q9c⟩ := isOf hZ e8 E_TWO
        obtain ⟨_, _, ⟨T9, L9, k9, n9⟩, -, X9, ⟨Lc9, hQ9, l9, y9, z9⟩, st9⟩ := X8.virtualBack hx (y := (⟨"com/example/klave/klave/coding/TagCoding", "maxTag", "()J"⟩ : MethodName)) (z := (⟨"com/example/klave/klave/coding/TagCoding", "maxTag", "()J"⟩ : MethodName)) hown (mvT hZ (hw _ (List.mem_of_getElem? (i := 4) rfl))) (mvT hZ (hw _ (List.mem_of_getElem? (i := 5) rfl))) (notFace_of_selects (args := #[]) (mvT hZ (hw _ (List.mem_of_getElem? (i := 7) rfl)))) (mvT hZ (hw _ (List.mem_of_getElem? (i := 7) rfl))) (mvT hZ (hw _ (List.mem_of_getElem? (i := 6) rfl))) (by decide) (backOf (W := 0) (rm1 l Z a0 hw [] a_TWO a_OID (2 : Int32) h0 n0 Z0 S_OID F_TWO_size) hZ (hw _ (List.mem_of_getElem? (i := 8) rfl)) (hw _ (List.mem_of_getElem? (i := 1) rfl)) (by decide) (by decide)) q9a q9c (g := (mkF m 60 #[.val (.int u0), .val (.int (u0 &&& (3 : Int32))), .val (.ref a_TWO), .val (.long (65535 : Int64)), .second] [(.ref a_TWO)])) rfl (by rw [hml]; rfl) (Steps.refl _) (argsL := []) (rest := []) (lenOf pd_0 rfl) rfl (by show 2 * 0 + _ ≤ _; exact Nat.le_of_eq rfl) (hb hby at_60) (fun _ _ => ⟨rfl, e8, (by decide : 0 + 0 ≤ _), (by decide : 0 + 0 ≤ _)⟩)
        dsimp only [Pt.U, Pt.locs, Pt.cells, Pt.slots] at X9 l9 y9 z9 st9 hQ9
        subst l9 y9 z9
        obtain ⟨rfl, N9q, e9⟩ := hQ9
        have N9 := Fr.app N0 N9q
        obtain ⟨fs, hr, hrun, hended, hW, hsame⟩ := X9.leave (v := (some (.int (1 : Int32)))) (fun h => by rw [Bd.returns] at h; cases h)
        refine ⟨_, _, pre7 _ ?_, hrun, hended, _, _, rfl, ?_, ⟨_, rfl⟩, hW, hsame.mono (by decide) (by decide)⟩
        · show Steps p.tables e below (s₁.setTop (mkF m 37 #[.val (.int u0), .val (.int (u0 &&& (3 : Int32))), .unset, .unset, .unset] [(.int (2 : Int32)), (.int (u0 &&& (3 : Int32)))])) _
          refine XS.icmpNo X0.here hx rfl (hb hby at_37) rfl (teq hc37).2 ?_
          show Steps p.tables e below (s₁.setTop (mkF m 40 #[.val (.int u0), .val (.int (u0 &&& (3 : Int32))), .unset, .unset, .unset] [])) _
          refine st8 _ ?_
          show Steps p.tables e below (T8.setTop (mkF m 43 #[.val (.int u0), .val (.int (u0 &&& (3 : Int32))), .unset, .unset, .unset] [(.ref a_TWO)])) _
          refine XS.astoreN X8.here hx rfl (hb hby at_43) rfl rfl (l' := #[.val (.int u0), .val (.int (u0 &&& (3 : Int32))), .val (.ref a_TWO), .unset, .unset]) rfl ?_
          show Steps p.tables e below (T8.setTop (mkF m 44 #[.val (.int u0), .val (.int (u0 &&& (3 : Int32))), .val (.ref a_TWO), .unset, .unset] [])) _
          refine X8.ldc2Long hx hown (mvT hZ (hw _ (List.mem_of_getElem? (i := 18) rfl))) (g := (mkF m 44 #[.val (.int u0), .val (.int (u0 &&& (3 : Int32))), .val (.ref a_TWO), .unset, .unset] [])) rfl (hb hby at_44) _ ?_
          show Steps p.tables e below (T8.setTop (mkF m 47 #[.val (.int u0), .val (.int (u0 &&& (3 : Int32))), .val (.ref a_TWO), .unset, .unset] [(.long (65535 : Int64))])) _
          refine XS.lstoreN X8.here hx rfl (hb hby at_47) rfl (l' := #[.val (.int u0), .val (.int (u0 &&& (3 : Int32))), .val (.ref a_TWO), .val (.long (65535 : Int64)), .second]) rfl ?_
          show Steps p.tables e below (T8.setTop (mkF m 48 #[.val (.int u0), .val (.int (u0 &&& (3 : Int32))), .val (.ref a_TWO), .val (.long (65535 : Int64)), .second] [])) _
          refine XS.goto X8.here hx rfl (pc0 := 48) (pc' := 59) rfl (hb hby at_48) (by decide) (by decide) ?_
          show Steps p.tables e below (T8.setTop (mkF m 59 #[.val (.int u0), .val (.int (u0 &&& (3 : Int32))), .val (.ref a_TWO), .val (.long (65535 : Int64)), .second] [])) _
          refine XS.aloadN X8.here hx rfl (hb hby at_59) rfl rfl ?_
          show Steps p.tables e below (T8.setTop (mkF m 60 #[.val (.int u0), .val (.int (u0 &&& (3 : Int32))), .val (.ref a_TWO), .val (.long (65535 : Int64)), .second] [(.ref a_TWO)])) _
          refine st9.trans ?_
          show Steps p.tables e below (T9.setTop (mkF m 63 #[.val (.int u0), .val (.int (u0 &&& (3 : Int32))), .val (.ref a_TWO), .val (.long (65535 : Int64)), .second] [(.long (f1 a_TWO a_OID (2 : Int32)))])) _
          refine XS.lloadN X9.here hx rfl (hb hby at_63) rfl ?_
          show Steps p.tables e below (T9.setTop (mkF m 64 #[.val (.int u0), .val (.int (u0 &&& (3 : Int32))), .val (.ref a_TWO), .val (.long (65535 : Int64)), .second] [(.long (65535 : Int64)), (.long (f1 a_TWO a_OID (2 : Int32)))])) _
          refine XS.lcmp X9.here hx rfl (hb hby at_64) rfl ?_
          show Steps p.tables e below (T9.setTop (mkF m 65 #[.val (.int u0), .val (.int (u0 &&& (3 : Int32))), .val (.ref a_TWO), .val (.long (65535 : Int64)), .second] [(.int (lcmpW (f1 a_TWO a_OID (2 : Int32)) (65535 : Int64)))])) _
          refine XS.ifNo X9.here hx rfl (hb hby at_65) rfl ((if0 _ _).trans (teq ((lw_eq _ _).mpr ((if_neg n_TWO).trans (by decide)))).2) ?_
          show Steps p.tables e below (T9.setTop (mkF m 68 #[.val (.int u0), .val (.int (u0 &&& (3 : Int32))), .val (.ref a_TWO), .val (.long (65535 : Int64)), .second] [])) _
          refine XS.iconst X9.here hx rfl (hb hby at_68) ?_
          show Steps p.tables e below (T9.setTop (mkF m 69 #[.val (.int u0), .val (.int (u0 &&& (3 : Int32))), .val (.ref a_TWO), .val (.long (65535 : Int64)), .second] [(.int (1 : Int32))])) _
          refine XS.goto X9.here hx rfl (pc0 := 69) (pc' := 73) rfl (hb hby at_69) (by decide) (by decide) ?_
          show Steps p.tables e below (T9.setTop (mkF m 73 #[.val (.int u0), .val (.int (u0 &&& (3 : Int32))), .val (.ref a_TWO), .val (.long (65535 : Int64)), .second] [(.int (1 : Int32))])) _
          exact retN X9 hx (t := .boolean) Bd.returns (by simp) (hb hby at_73) hr
        · show QL n0 _ T9.heap _
          rw [e9]
          exact ⟨rfl, N9⟩
      · -- pc 37: not (u0 &&& (3 : Int32)) = (2 : Int32)
        obtain ⟨T10, X10, e10, st10⟩ := getS2 X0 hx hZ hown (host := "") (Or.inl (hw _ (List.mem_of_getElem? (i := 13) rfl))) Via.refl e0 S_FOUR (g := (mkF m 51 #[.val (.int u0), .val (.int (u0 &&& (3 : Int32))), .unset, .unset, .unset] [])) rfl (hb hby at_51)
        obtain ⟨cq11, kq11, q11a, q11b, q11c⟩ := isOf hZ e10 E_FOUR
        obtain ⟨_, _, ⟨T11, L11, k11, n11⟩, -, X11, ⟨Lc11, hQ11, l11, y11, z11⟩, st11⟩ := X10.virtualBack hx (y := (⟨"com/example/klave/klave/coding/TagCoding", "maxTag", "()J"⟩ : MethodName)) (z := (⟨"com/example/klave/klave/coding/TagCoding", "maxTag", "()J"⟩ : MethodName)) hown (mvT hZ (hw _ (List.mem_of_getElem? (i := 4) rfl))) (mvT hZ (hw _ (List.mem_of_getElem? (i := 5) rfl))) (notFace_of_selects (args := #[]) (mvT hZ (hw _ (List.mem_of_getElem? (i := 7) rfl)))) (mvT hZ (hw _ (List.mem_of_getElem? (i := 7) rfl))) (mvT hZ (hw _ (List.mem_of_getElem? (i := 6) rfl))) (by decide) (backOf (W := 0) (rm1 l Z a0 hw [] a_FOUR a_OID (4 : Int32) h0 n0 Z0 S_OID F_FOUR_size) hZ (hw _ (List.mem_of_getElem? (i := 8) rfl)) (hw _ (List.mem_of_getElem? (i := 1) rfl)) (by decide) (by decide)) q11a q11c (g := (mkF m 60 #[.val (.int u0), .val (.int (u0 &&& (3 : Int32))), .val (.ref a_FOUR), .val (.long (4294967295 : Int64)), .second] [(.ref a_FOUR)])) rfl (by rw [hml]; rfl) (Steps.refl _) (argsL := []) (rest := []) (lenOf pd_0 rfl) rfl (by show 2 * 0 + _ ≤ _; exact Nat.le_of_eq rfl) (hb hby at_60) (fun _ _ => ⟨rfl, e10, (by decide : 0 + 0 ≤ _), (by decide : 0 + 0 ≤ _)⟩)
        dsimp only [Pt.U, Pt.locs, Pt.cells, Pt.slots] at X11 l11 y11 z11 st11 hQ11
        subst l11 y11 z11
        obtain ⟨rfl, N11q, e11⟩ := hQ11
        have N11 := Fr.app N0 N11q
        obtain ⟨fs, hr, hrun, hended, hW, hsame⟩ := X11.leave (v := (some (.int (1 : Int32)))) (fun h => by rw [Bd.returns] at h; cases h)
        refine ⟨_, _, pre7 _ ?_, hrun, hended, _, _, rfl, ?_, ⟨_, rfl⟩, hW, hsame.mono (by decide) (by decide)⟩
        · show Steps p.tables e below (s₁.setTop (mkF m 37 #[.val (.int u0), .val (.int (u0 &&& (3 : Int32))), .unset, .unset, .unset] [(.int (2 : Int32)), (.int (u0 &&& (3 : Int32)))])) _
          refine XS.icmpYes X0.here hx rfl (pc0 := 37) (pc' := 51) rfl (hb hby at_37) rfl (feq hc37).2 (by decide) (by decide) ?_
          show Steps p.tables e below (s₁.setTop (mkF m 51 #[.val (.int u0), .val (.int (u0 &&& (3 : Int32))), .unset, .unset, .unset] [])) _
          refine st10 _ ?_
          show Steps p.tables e below (T10.setTop (mkF m 54 #[.val (.int u0), .val (.int (u0 &&& (3 : Int32))), .unset, .unset, .unset] [(.ref a_FOUR)])) _
          refine XS.astoreN X10.here hx rfl (hb hby at_54) rfl rfl (l' := #[.val (.int u0), .val (.int (u0 &&& (3 : Int32))), .val (.ref a_FOUR), .unset, .unset]) rfl ?_
          show Steps p.tables e below (T10.setTop (mkF m 55 #[.val (.int u0), .val (.int (u0 &&& (3 : Int32))), .val (.ref a_FOUR), .unset, .unset] [])) _
          refine X10.ldc2Long hx hown (mvT hZ (hw _ (List.mem_of_getElem? (i := 15) rfl))) (g := (mkF m 55 #[.val (.int u0), .val (.int (u0 &&& (3 : Int32))), .val (.ref a_FOUR), .unset, .unset] [])) rfl (hb hby at_55) _ ?_
          show Steps p.tables e below (T10.setTop (mkF m 58 #[.val (.int u0), .val (.int (u0 &&& (3 : Int32))), .val (.ref a_FOUR), .unset, .unset] [(.long (4294967295 : Int64))])) _
          refine XS.lstoreN X10.here hx rfl (hb hby at_58) rfl (l' := #[.val (.int u0), .val (.int (u0 &&& (3 : Int32))), .val (.ref a_FOUR), .val (.long (4294967295 : Int64)), .second]) rfl ?_
          show Steps p.tables e below (T10.setTop (mkF m 59 #[.val (.int u0), .val (.int (u0 &&& (3 : Int32))), .val (.ref a_FOUR), .val (.long (4294967295 : Int64)), .second] [])) _
          refine XS.aloadN X10.here hx rfl (hb hby at_59) rfl rfl ?_
          show Steps p.tables e below (T10.setTop (mkF m 60 #[.val (.int u0), .val (.int (u0 &&& (3 : Int32))), .val (.ref a_FOUR), .val (.long (4294967295 : Int64)), .second] [(.ref a_FOUR)])) _
          refine st11.trans ?_
          show Steps p.tables e below (T11.setTop (mkF m 63 #[.val (.int u0), .val (.int (u0 &&& (3 : Int32))), .val (.ref a_FOUR), .val (.long (4294967295 : Int64)), .second] [(.long (f1 a_FOUR a_OID (4 : Int32)))])) _
          refine XS.lloadN X11.here hx rfl (hb hby at_63) rfl ?_
          show Steps p.tables e below (T11.setTop (mkF m 64 #[.val (.int u0), .val (.int (u0 &&& (3 : Int32))), .val (.ref a_FOUR), .val (.long (4294967295 : Int64)), .second] [(.long (4294967295 : Int64)), (.long (f1 a_FOUR a_OID (4 : Int32)))])) _
          refine XS.lcmp X11.here hx rfl (hb hby at_64) rfl ?_
          show Steps p.tables e below (T11.setTop (mkF m 65 #[.val (.int u0), .val (.int (u0 &&& (3 : Int32))), .val (.ref a_FOUR), .val (.long (4294967295 : Int64)), .second] [(.int (lcmpW (f1 a_FOUR a_OID (4 : Int32)) (4294967295 : Int64)))])) _
          refine XS.ifNo X11.here hx rfl (hb hby at_65) rfl ((if0 _ _).trans (teq ((lw_eq _ _).mpr ((if_neg n_FOUR).trans (by decide)))).2) ?_
          show Steps p.tables e below (T11.setTop (mkF m 68 #[.val (.int u0), .val (.int (u0 &&& (3 : Int32))), .val (.ref a_FOUR), .val (.long (4294967295 : Int64)), .second] [])) _
          refine XS.iconst X11.here hx rfl (hb hby at_68) ?_
          show Steps p.tables e below (T11.setTop (mkF m 69 #[.val (.int u0), .val (.int (u0 &&& (3 : Int32))), .val (.ref a_FOUR), .val (.long (4294967295 : Int64)), .second] [(.int (1 : Int32))])) _
          refine XS.goto X11.here hx rfl (pc0 := 69) (pc' := 73) rfl (hb hby at_69) (by decide) (by decide) ?_
          show Steps p.tables e below (T11.setTop (mkF m 73 #[.val (.int u0), .val (.int (u0 &&& (3 : Int32))), .val (.ref a_FOUR), .val (.long (4294967295 : Int64)), .second] [(.int (1 : Int32))])) _
          exact retN X11 hx (t := .boolean) Bd.returns (by simp) (hb hby at_73) hr
        · show QL n0 _ T11.heap _
          rw [e11]
          exact ⟨rfl, N11⟩
set_option maxRecDepth 65536 in
set_option maxHeartbeats 40000000 in
theorem comes_1 {Post : Tables → Env → Array Value → State → Outcome → State → Prop} (hpost : ∀ tb e args s v u, (limb_1_1.after args s (.returned v) u = true ∧ limb_1_2.after args s (.returned v) u = true ∧ True) → FrameEnd s (.returned v) u (Jvm.fieldLocs frame_1_writes args s ++ Jvm.arrayLocs frame_1_arrays args s ++ Jvm.staticLocs frame_1_statics s) 0 0 → Post tb e args s (.returned v) u) :
    ArmFor flags0 classFile x code maxLocals ret World_1 tables_1 room_1 Calls_1 rest_1 Pre_1 Post := by
  intro l hfl _ _ p e ha hc hk s m args below hf hA hF happ hP
  obtain ⟨hcalls, hrest, hpre⟩ := hP
  obtain ⟨-, -, -, hnamed, -, -, -, hat⟩ := (Spec.applies_iff hf).mp happ
  obtain ⟨hg, hn⟩ := and_e (Cond.before_iff.mp (show (Jvm.Cond.and given_1 narrow_1).before args s = true from hpre))
  obtain ⟨g0, G0⟩ := and_e hg
  have v0 := G0
  obtain ⟨w0, rfl⟩ : ∃ w0 : Value, args = #[w0] := by
    have hs : args.size = 1 := by simpa [Cond.value, given_1] using g0
    obtain ⟨L⟩ := args
    match L, hs with
    | [w0], _ => exact ⟨w0, rfl⟩
  have hw := fun d (hd : d ∈ tables_1) => atoms_spec (ws := Jvm.Cond.code x code maxLocals ret :: tables_1) hat d (List.mem_cons_of_mem _ hd)
  have hfit : Fit s := fun {y c} hc i hi => by
    obtain ⟨ha, rfl⟩ := Array.getElem?_eq_some_iff.mp hc
    have q := List.all_eq_true.mp ((Array.all_eq_true_iff_forall_mem.mp hF) _ (Array.getElem_mem ha)) i (List.mem_range.mpr hi)
    simpa [Array.getElem?_eq_getElem hi] using q
  obtain ⟨i0, ei0⟩ := is_v v0
  obtain rfl : w0 = (.int i0) := Option.some.inj ei0
  obtain ⟨m0, M1⟩ := and_e hn
  obtain ⟨m1, M2⟩ := and_e M1
  obtain ⟨m2, M3⟩ := and_e M2
  obtain ⟨m3, M4⟩ := and_e M3
  obtain ⟨m4, M5⟩ := and_e M4
  obtain ⟨m5, M6⟩ := and_e M5
  obtain ⟨m6, M7⟩ := and_e M6
  obtain ⟨m7, M8⟩ := and_e M7
  obtain ⟨m8, M9⟩ := and_e M8
  obtain ⟨m9, M10⟩ := and_e M9
  obtain ⟨m10, M11⟩ := and_e M10
  have m11 := M11
  obtain ⟨a_ONE, ev_ONE⟩ := exa_v m0
  have E_ONE := Exa.start ev_ONE m0
  have S_ONE := Sta.start ev_ONE (Or.inr ⟨(hw _ (List.mem_of_getElem? (i := 1) rfl)), (hw _ (List.mem_of_getElem? (i := 2) rfl))⟩)
  obtain ⟨a_OID, ev_OID⟩ := exa_v m1
  have E_OID := Exa.start ev_OID m1
  have S_OID := Sta.start ev_OID (Or.inr ⟨(hw _ (List.mem_of_getElem? (i := 1) rfl)), (hw _ (List.mem_of_getElem? (i := 10) rfl))⟩)
  obtain ⟨a_FOUR, ev_FOUR⟩ := exa_v m5
  have E_FOUR := Exa.start ev_FOUR m5
  have S_FOUR := Sta.start ev_FOUR (Or.inr ⟨(hw _ (List.mem_of_getElem? (i := 1) rfl)), (hw _ (List.mem_of_getElem? (i := 14) rfl))⟩)
  obtain ⟨a_TWO, ev_TWO⟩ := exa_v m8
  have E_TWO := Exa.start ev_TWO m8
  have S_TWO := Sta.start ev_TWO (Or.inr ⟨(hw _ (List.mem_of_getElem? (i := 1) rfl)), (hw _ (List.mem_of_getElem? (i := 17) rfl))⟩)
  have F_ONE_ordinal := Fld.start ((fld_at ev_ONE).symm.trans (own_eqI m2))
  have F_OID_ordinal := Fld.start ((fld_at ev_OID).symm.trans (own_eqI m3))
  have F_ONE_size := Fld.start ((fld_at ev_ONE).symm.trans (own_eqI m4))
  have F_FOUR_ordinal := Fld.start ((fld_at ev_FOUR).symm.trans (own_eqI m6))
  have F_FOUR_size := Fld.start ((fld_at ev_FOUR).symm.trans (own_eqI m7))
  have F_TWO_ordinal := Fld.start ((fld_at ev_TWO).symm.trans (own_eqI m9))
  have F_TWO_size := Fld.start ((fld_at ev_TWO).symm.trans (own_eqI m10))
  have F_OID_size := Fld.start ((fld_at ev_OID).symm.trans (own_eqI m11))
  obtain ⟨n, o, h1, h2, h3, _, L, rfl, ⟨rfl, N⟩, hq⟩ := rm0 l s _ hw tables_1 i0 a_ONE a_OID a_TWO a_FOUR s.heap s.heap.size (Nat.le_refl _) S_ONE E_ONE F_ONE_size S_OID E_OID F_OID_size S_TWO E_TWO F_TWO_size S_FOUR E_FOUR F_FOUR_size (F_ONE_ordinal.ne F_OID_ordinal (by decide)) (F_TWO_ordinal.ne F_OID_ordinal (by decide)) (F_FOUR_ordinal.ne F_OID_ordinal (by decide)) p e ha hc hk s m _ below hf ((Spec.applies_iff_loose hf).mp happ).1 ⟨rfl, State.Warmed39.refl s, rfl⟩ trivial
  refine ⟨n, _, h1, h2, h3, hpost _ _ _ _ _ _ ⟨Cond.after_iff.mpr rfl, Cond.after_iff.mpr (eq_i res_at (Term.int_eval (1)) rfl), trivial⟩ ⟨hq.1, hq.2.1, (hq.2.2.sift fun y hy => Or.inr (N y hy)).mono (by decide) (by decide)⟩⟩
theorem main_1_1 : Claimed_1_1 := comes_1 fun _ _ _ _ _ _ h hF => ⟨h.1, hF⟩
theorem main_1_2 : Claimed_1_2 := comes_1 fun _ _ _ _ _ _ h hF => ⟨h.2.1, hF⟩
end Jvm.Pilot.@@N@@
namespace Jvm.Pilot.@@N@@
open Jvm Jvm.ClassFile Sem Op Lib Jvm.Free Jvm.Stand Jvm.Pilot.@@N@@.Jvm.D
/-! MADE BY PROGRAM (witnessworld.py) out of the Statement's table words and the real class files: 12 classes; the members and pool entries that the words name. The judged class is class 1, her method 1. -/
namespace start1
open Jvm.ClassFile
def u (s : String) : CpInfo := .utf8 (stringToUtf16 s)
/-- a pool by its gaps: so many unusable entries, then the entry; so many at the end -/
def gap : Nat → List CpInfo → List CpInfo
  | 0, r => r
  | n + 1, r => .unusable :: gap n r
def poolList (es : List (Nat × CpInfo)) (last : Nat) : List CpInfo := es.foldr (fun e r => gap e.1 (e.2 :: r)) (gap last [])
def pool (es : List (Nat × CpInfo)) (last : Nat) : Array CpInfo := ⟨poolList es last⟩
def fileOf (pool : Array CpInfo) (this : Nat) (attrs : Array Attribute := #[]) (ms : Array MethodInfo := #[]) (fl : Nat := 33) (sup : Nat := 0) (ifs : Array Nat := #[]) (fds : Array FieldInfo := #[]) : ClassFile where
  minorVersion := 0
  majorVersion := 65
  constantPool := pool
  accessFlags := fl
  thisClass := this
  superClass := sup
  interfaces := ifs
  fields := fds
  methods := ms
  attributes := attrs
def plain (name : String) (sup : Option ClassId) : Class where
  name := name
  kind := .ordinary
  loader := none
  accessFlags := 33
  super := sup
  interfaces := #[]
  cf := none
  fields := #[]
  methods := #[]
  instanceTypes := #[]
  staticTypes := #[]
  resolved := #[]
  callSites := []
  init := .initialized
  statics := none
  mirror := none

def pool0 : Array CpInfo := pool [(5, u "<init>"), (0, u "()V"), (1, .class_ 10), (1, u "java/lang/Object")] 113

def k0m0 : Method := { name := "<init>", desc := "()V", sig := { parameters := [], returnType := none }, accessFlags := 1, code := none }
/-- java/lang/Object -/
def k0 : Class := { plain "java/lang/Object" none with
  accessFlags := 33
  interfaces := #[]
  cf := some (fileOf pool0 8 #[] #[{ accessFlags := 1, nameIndex := 5, descriptorIndex := 6, attributes := #[] }] 33 0 #[] #[])
  fields := #[]
  methods := #[k0m0]
  instanceTypes := #[]
  staticTypes := #[]
  resolved := Array.replicate 124 none
  statics := none }

def pool1 : Array CpInfo := pool [(2, .class_ 4), (1, u "java/lang/Object"), (0, u "<init>"), (0, u "()V"), (0, .fieldref 8 9), (0, .class_ 10), (0, .nameAndType 11 12), (0, u "com/example/klave/klave/coding/TagCoding"), (0, u "ONE"), (0, u "Lcom/example/klave/klave/coding/TagCoding;"), (0, .long 255), (1, .fieldref 8 16), (0, .nameAndType 17 12), (0, u "OID"), (0, .long 9223372036854775807), (1, .fieldref 8 21), (0, .nameAndType 22 12), (0, u "TWO"), (0, .long 65535), (1, .fieldref 8 26), (0, .nameAndType 27 12), (0, u "FOUR"), (0, .long 4294967295), (1, .methodref 8 31), (0, .nameAndType 32 33), (0, u "maxTag"), (0, u "()J"), (0, .class_ 35), (0, u "com/example/klave/klave/coding/TagCodingMaxTagPinLaw"), (2, u "law"), (0, u "(I)Z")] 3

def k1m0 : Method := { name := "<init>", desc := "()V", sig := { parameters := [], returnType := none }, accessFlags := 2, code := none }
def k1c1 : Code := { maxStack := 4, maxLocals := 5, code := code, exceptionTable := #[], attributes := #[] }
def k1m1 : Method := { name := "law", desc := "(I)Z", sig := { parameters := [.int], returnType := some .boolean }, accessFlags := 9, code := some k1c1 }
/-- com/example/klave/klave/coding/TagCodingMaxTagPinLaw -/
def k1 : Class := { plain "com/example/klave/klave/coding/TagCodingMaxTagPinLaw" (some 0) with
  accessFlags := 49
  interfaces := #[]
  cf := some (fileOf pool1 34 #[] #[{ accessFlags := 2, nameIndex := 5, descriptorIndex := 6, attributes := #[] }, { accessFlags := 9, nameIndex := 38, descriptorIndex := 39, attributes := #[] }] 49 2 #[] #[])
  fields := #[]
  methods := #[k1m0, k1m1]
  instanceTypes := #[]
  staticTypes := #[]
  resolved := Array.replicate 43 none
  statics := none }

def pool2 : Array CpInfo := pool [(1, .class_ 2), (0, u "java/lang/constant/Constable"), (0, .class_ 4), (0, u "java/lang/Object")] 6

/-- java/lang/constant/Constable -/
def k2 : Class := { plain "java/lang/constant/Constable" (some 0) with
  accessFlags := 1537
  interfaces := #[]
  cf := some (fileOf pool2 1 #[] #[] 1537 3 #[] #[])
  fields := #[]
  methods := #[]
  instanceTypes := #[]
  staticTypes := #[]
  resolved := Array.replicate 11 none
  statics := none }

def pool3 : Array CpInfo := pool [(1, .class_ 2), (0, u "java/lang/Comparable"), (0, .class_ 4), (0, u "java/lang/Object")] 7

/-- java/lang/Comparable -/
def k3 : Class := { plain "java/lang/Comparable" (some 0) with
  accessFlags := 1537
  interfaces := #[]
  cf := some (fileOf pool3 1 #[] #[] 1537 3 #[] #[])
  fields := #[]
  methods := #[]
  instanceTypes := #[]
  staticTypes := #[]
  resolved := Array.replicate 12 none
  statics := none }

def pool4 : Array CpInfo := pool [(1, .class_ 2), (0, u "java/io/Serializable"), (0, .class_ 4), (0, u "java/lang/Object")] 2

/-- java/io/Serializable -/
def k4 : Class := { plain "java/io/Serializable" (some 0) with
  accessFlags := 1537
  interfaces := #[]
  cf := some (fileOf pool4 1 #[] #[] 1537 3 #[] #[])
  fields := #[]
  methods := #[]
  instanceTypes := #[]
  staticTypes := #[]
  resolved := Array.replicate 7 none
  statics := none }

def pool5 : Array CpInfo := pool [(2, .class_ 4), (1, u "java/lang/Enum"), (0, u "name"), (0, u "Ljava/lang/String;"), (2, u "ordinal"), (0, u "I"), (1, .class_ 14), (1, u "java/lang/Object"), (4, u "hash"), (86, .class_ 108), (1, u "java/lang/Enum$EnumDesc"), (2, .class_ 112), (0, u "java/lang/constant/Constable"), (0, .class_ 114), (0, u "java/lang/Comparable"), (0, .class_ 116), (0, u "java/io/Serializable")] 87

/-- java/lang/Enum -/
def k5 : Class := { plain "java/lang/Enum" (some 0) with
  accessFlags := 1057
  interfaces := #[2, 3, 4]
  cf := some (fileOf pool5 2 #[.nestMembers #[106]] #[] 1057 12 #[111, 113, 115] #[{ accessFlags := 18, nameIndex := 5, descriptorIndex := 6, attributes := #[] }, { accessFlags := 18, nameIndex := 9, descriptorIndex := 10, attributes := #[] }, { accessFlags := 2, nameIndex := 19, descriptorIndex := 10, attributes := #[] }])
  fields := #[{ name := "name", type := (.object "java/lang/String"), accessFlags := 18, slot := 0, constantValue := 0 }, { name := "ordinal", type := .int, accessFlags := 18, slot := 1, constantValue := 0 }, { name := "hash", type := .int, accessFlags := 2, slot := 2, constantValue := 0 }]
  methods := #[]
  instanceTypes := #[(.object "java/lang/String"), .int, .int]
  staticTypes := #[]
  resolved := Array.replicate 204 none
  statics := none }

def pool6 : Array CpInfo := pool [(1, .class_ 2), (0, u "com/example/klave/klave/coding/TagCoding"), (2, u "ONE"), (0, u "Lcom/example/klave/klave/coding/TagCoding;"), (0, .fieldref 1 8), (0, .nameAndType 9 6), (0, u "OID"), (2, u "TWO"), (2, u "FOUR"), (2, u "$VALUES"), (0, u "[Lcom/example/klave/klave/coding/TagCoding;"), (6, .class_ 28), (1, u "java/lang/Enum"), (8, u "label"), (0, u "Ljava/lang/String;"), (0, .fieldref 1 40), (0, .nameAndType 41 42), (0, u "size"), (0, u "I"), (58, u "maxTag"), (0, u "()J"), (5, .long 9223372036854775807)] 61

def k6c0 : Code := { maxStack := 4, maxLocals := 1, code := prog_19_method_9_code, exceptionTable := #[], attributes := #[] }
def k6m0 : Method := { name := "maxTag", desc := "()J", sig := { parameters := [], returnType := some .long }, accessFlags := 1, code := some k6c0 }
/-- com/example/klave/klave/coding/TagCoding -/
def k6 : Class := { plain "com/example/klave/klave/coding/TagCoding" (some 5) with
  accessFlags := 16433
  interfaces := #[]
  cf := some (fileOf pool6 1 #[] #[{ accessFlags := 1, nameIndex := 101, descriptorIndex := 102, attributes := #[] }] 16433 26 #[] #[{ accessFlags := 16409, nameIndex := 5, descriptorIndex := 6, attributes := #[] }, { accessFlags := 16409, nameIndex := 9, descriptorIndex := 6, attributes := #[] }, { accessFlags := 16409, nameIndex := 12, descriptorIndex := 6, attributes := #[] }, { accessFlags := 16409, nameIndex := 15, descriptorIndex := 6, attributes := #[] }, { accessFlags := 18, nameIndex := 37, descriptorIndex := 38, attributes := #[] }, { accessFlags := 18, nameIndex := 41, descriptorIndex := 42, attributes := #[] }, { accessFlags := 4122, nameIndex := 18, descriptorIndex := 19, attributes := #[] }])
  fields := #[{ name := "ONE", type := (.object "com/example/klave/klave/coding/TagCoding"), accessFlags := 16409, slot := 0, constantValue := 0 }, { name := "OID", type := (.object "com/example/klave/klave/coding/TagCoding"), accessFlags := 16409, slot := 1, constantValue := 0 }, { name := "TWO", type := (.object "com/example/klave/klave/coding/TagCoding"), accessFlags := 16409, slot := 2, constantValue := 0 }, { name := "FOUR", type := (.object "com/example/klave/klave/coding/TagCoding"), accessFlags := 16409, slot := 3, constantValue := 0 }, { name := "label", type := (.object "java/lang/String"), accessFlags := 18, slot := 3, constantValue := 0 }, { name := "size", type := .int, accessFlags := 18, slot := 4, constantValue := 0 }, { name := "$VALUES", type := (.array (.object "com/example/klave/klave/coding/TagCoding")), accessFlags := 4122, slot := 4, constantValue := 0 }]
  methods := #[k6m0]
  instanceTypes := #[(.object "java/lang/String"), .int, .int, (.object "java/lang/String"), .int]
  staticTypes := #[(.object "com/example/klave/klave/coding/TagCoding"), (.object "com/example/klave/klave/coding/TagCoding"), (.object "com/example/klave/klave/coding/TagCoding"), (.object "com/example/klave/klave/coding/TagCoding"), (.array (.object "com/example/klave/klave/coding/TagCoding"))]
  resolved := Array.replicate 170 none
  statics := some 0 }

def pool7 : Array CpInfo := pool [(1, u "java/lang/Cloneable"), (0, .class_ 1), (0, u "java/lang/Object"), (0, .class_ 3)] 3

/-- java/lang/Cloneable -/
def k7 : Class := { plain "java/lang/Cloneable" (some 0) with
  accessFlags := 1537
  interfaces := #[]
  cf := some (fileOf pool7 2 #[] #[] 1537 4 #[] #[])
  fields := #[]
  methods := #[]
  instanceTypes := #[]
  staticTypes := #[]
  resolved := Array.replicate 8 none
  statics := none }

/-- the primitive byte -/
def k8 : Class := { plain "byte" none with kind := .primitive 'B', accessFlags := 0x411 }
/-- [B -/
def k9 : Class := { plain "[B" (some 0) with kind := .array 8 .byte, interfaces := #[7, 4], accessFlags := 1041 }

/-- the primitive int -/
def k10 : Class := { plain "int" none with kind := .primitive 'I', accessFlags := 0x411 }
/-- [I -/
def k11 : Class := { plain "[I" (some 0) with kind := .array 10 .int, interfaces := #[7, 4], accessFlags := 1041 }

def heap : Heap := #[{ cls := 6, slots := #[.ref 1, .ref 2, .ref 3, .ref 4, .null], vm := .statics 6 },
  { cls := 6, slots := #[.null, .int 0, .int 0, .null, .int 1], vm := .none },
  { cls := 6, slots := #[.null, .int 1, .int 0, .null, .int 0], vm := .none },
  { cls := 6, slots := #[.null, .int 2, .int 0, .null, .int 2], vm := .none },
  { cls := 6, slots := #[.null, .int 3, .int 0, .null, .int 4], vm := .none }]
def classes : Array Class := #[k0, k1, k2, k3, k4, k5, k6, k7, k8, k9, k10, k11]
def interned : List (Array UInt16 × Addr) := []
def slotsUsed : Nat := 25
def theMethod : MethodId := ⟨1, 1⟩
def args0 : Array Value := #[.int 5]
def aboutOver (below : List Frame) : State where
  vm := { classes := classes, interned := interned.toArray }
  heap := heap
  slotsUsed := slotsUsed
  threads := #[{ frames := .invoking theMethod args0 :: below }]
def below0 : List Frame := [.native { method := ⟨0, 0⟩, args := #[] }]
def about1 : State := aboutOver below0
def p0 : Program := .bare "" "" ""
def e0 : Env := launch0.env 0 0 0
theorem w_frames : about1.frames = Frame.invoking theMethod args0 :: below0 := rfl
set_option maxRecDepth 65536 in
theorem w_args : argsFit about1.vm theMethod args0 = true := by decide +kernel
set_option maxRecDepth 65536 in
theorem w_heap : heapFits about1 = true := by decide +kernel
set_option maxRecDepth 65536 in
theorem w_runnable : about1.curStatus? = some .runnable := by decide +kernel
set_option maxRecDepth 65536 in
theorem w_alone : about1.alone = true := by decide +kernel
set_option maxRecDepth 65536 in
theorem w_named : about1.methodNamed? x = some theMethod := by decide +kernel
set_option maxRecDepth 65536 in
theorem w_hears : about1.hears theMethod below0 = true := by decide +kernel
set_option maxRecDepth 65536 in
theorem w_ripe : about1.ripe theMethod args0 below0 = true := by decide +kernel
theorem w_running : about1.status = .running := rfl
set_option maxRecDepth 65536 in
theorem w_room : about1.hasRoom e0.platform room_1 = true :=
  launch0.hasRoom_least _ room_1 (by decide +kernel) (by decide +kernel) (by decide +kernel) (by decide +kernel) (by decide +kernel) (by decide +kernel)
theorem allAtoms_all (ts : List Jvm.Cond) (a : Array Jvm.Value) (st : Jvm.State) : (allAtoms ts).before a st = ts.all (fun c => c.before a st) := by
  induction ts with
  | nil => rfl
  | cons c t ih =>
    show (Jvm.Cond.and c (allAtoms t)).before a st = _
    rw [Jvm.Cond.before_and, ih, List.all_cons]
def words1 : List Jvm.Cond := Jvm.Cond.code x code maxLocals ret :: tables_1
/-- a 'code' word, met by the world's own term for the bytes: nothing is compared byte by byte -/
theorem code_word {y : MethodName} {bytes : ByteArray} {mx : Nat} {rt : Option FieldType} {a : Array Value} {s : State} {m : MethodId} {meth : Method} {c : Code} (h1 : s.methodNamed? y = some m) (h2 : s.vm.method? m = some meth) (h3 : meth.code = some c) (h4 : c.code = bytes)
    (h5 : (c.maxLocals == mx && c.exceptionTable.isEmpty && decide (c.maxStack ≤ mostOperands) && decide (meth.sig.returnType = rt) && !meth.locks && decide (parseMethodDescriptor y.desc = some meth.sig)) = true) : (Jvm.Cond.code y bytes mx rt).before a s = true := by
  simp only [Bool.and_eq_true, beq_iff_eq, Bool.not_eq_true', decide_eq_true_eq] at h5
  obtain ⟨⟨⟨⟨⟨g1, g2⟩, g3⟩, g4⟩, g5⟩, g6⟩ := h5
  simp [Cond.before, Cond.holds, Cond.value, h1, h2, h3, h4, g1, g2, g3, g4, g5, g6]
def isCode : Jvm.Cond → Bool
  | .code _ _ _ _ => true
  | _ => false
theorem all_split {L : List Jvm.Cond} {P : Jvm.Cond → Bool} (h1 : L.all (fun c => isCode c || P c) = true) (h2 : ∀ c ∈ L.filter isCode, P c = true) : L.all P = true := by
  refine List.all_eq_true.mpr fun c hc => ?_
  have h := List.all_eq_true.mp h1 c hc
  rcases Bool.eq_false_or_eq_true (isCode c) with hi | hi
  · exact h2 c (List.mem_filter.mpr ⟨hc, hi⟩)
  · simpa [hi] using h
set_option maxRecDepth 65536 in
theorem w_c0 : (Jvm.Cond.code x code maxLocals ret).before args0 about1 = true := code_word (m := ⟨1, 1⟩) (meth := k1m1) (c := k1c1) (by decide +kernel) rfl rfl rfl (by decide +kernel)
set_option maxRecDepth 65536 in
theorem w_c1 : (Jvm.Cond.code ({ cls := "com/example/klave/klave/coding/TagCoding", name := "maxTag", desc := "()J" } : Jvm.MethodName) prog_19_method_9_code (1 : Nat) (Option.some Jvm.ClassFile.FieldType.long)).before args0 about1 = true := code_word (m := ⟨6, 0⟩) (meth := k6m0) (c := k6c0) (by decide +kernel) rfl rfl rfl (by decide +kernel)
def codes1 : List Jvm.Cond := [Jvm.Cond.code x code maxLocals ret, Jvm.Cond.code ({ cls := "com/example/klave/klave/coding/TagCoding", name := "maxTag", desc := "()J" } : Jvm.MethodName) prog_19_method_9_code (1 : Nat) (Option.some Jvm.ClassFile.FieldType.long)]
set_option maxRecDepth 65536 in
theorem codes_eq : words1.filter isCode = codes1 := rfl
theorem w_codes : ∀ c ∈ words1.filter isCode, c.before args0 about1 = true := by
  rw [codes_eq]
  intro c hc
  simp only [codes1, List.mem_cons, List.not_mem_nil, or_false] at hc
  rcases hc with rfl | rfl
  · exact w_c0
  · exact w_c1
set_option maxRecDepth 65536 in
theorem w_t1 : words1.all (fun c => isCode c || c.before args0 about1) = true := by decide +kernel
theorem w_tables : (allAtoms (Jvm.Cond.code x code maxLocals ret :: tables_1)).before args0 about1 = true := by
  rw [allAtoms_all]
  show words1.all (fun c => c.before args0 about1) = true
  refine all_split ?_ w_codes
  rw [w_t1]
set_option maxRecDepth 65536 in
theorem w_case : (Jvm.Cond.and given_1 narrow_1).before args0 about1 = true := by decide +kernel
theorem w_applies : (headSpec (Jvm.Cond.code x code maxLocals ret :: tables_1) room_1).applies x e0.platform about1 = true :=
  (Spec.applies_iff w_frames).mpr ⟨w_running, w_runnable, w_alone, w_named, w_hears, w_ripe, w_room, w_tables⟩
theorem atStart : AtStart classFile x code maxLocals ret World_1 tables_1 room_1 Calls_1 rest_1 Pre_1 launch0 p0 e0 about1 theMethod args0 below0 :=
  ⟨lists_1, trivial, launch0.admits_env _ _ _, launch0.least_env, fairChoices_fair.cas, fairChoices_fair.clock, w_frames, w_args, w_heap, w_applies, trivial, trivial, w_case⟩
end start1
theorem witness_1 : WitnessClaimed_1 := ⟨start1.p0, start1.e0, start1.about1, start1.theMethod, start1.args0, start1.below0, start1.atStart⟩
end Jvm.Pilot.@@N@@
