import JvmDerived
import JvmDerived.Pilot.@@N@@Statement
import JvmDerived.Pilot.@@N@@Code
set_option linter.unusedVariables false
set_option linter.unusedSimpArgs false
namespace Jvm.RoadKit
open Sem ClassFile Op Lib Jvm.Stand Jvm.Free Jvm.LawKit
section New
variable {p : Program} {l : Launch} {e : Env} {R : Room} {s : State} {m : MethodId} {args : Array Value} {below : List Frame} {meth : Method} {c : Code} {T : State} {locs : List Loc} {cells slots : Nat}
theorem retI (X : Stand p l e R s m args below meth c T locs cells slots) (hx : p.tables.exec = Jvm.exec) {pc : Nat} {Ls : Array Slot} {z : Int32} {rest : List Value} (hret : meth.sig.returnType = some .int) (hd : decode c.code pc = .ok (.ireturn, 1)) {fs : List Frame}
    (hl : ∀ (f : JFrame) (acts : List Action), f.method = m → f.locked = none → f.entered = [] → (doReturn e (T.setTop f) acts (some (.int z))).1 = T.setFrames fs) : Steps p.tables e below (T.setTop (mkF m pc Ls (.int z :: rest))) (T.setFrames fs) :=
  retOut X hx hret rfl (Or.inl ⟨rfl, Or.inl rfl, z, rfl⟩) hd hl
end New
end Jvm.RoadKit
namespace Jvm.Pilot.@@N@@
open Jvm Jvm.ClassFile Sem Op Lib Jvm.Free Jvm.Stand Jvm.LawKit Jvm.RoadKit Bundle Jvm.Pilot.@@N@@.Jvm.D
def QL (n0 : Nat) (v : Option Value) (h : Heap) (L : List Loc) : Prop := v = some (.int 1) ∧ Fr n0 L
def QP (r : Option Value) (h0 : Heap) (n0 : Nat) (v : Option Value) (h : Heap) (L : List Loc) : Prop := v = r ∧ Fr n0 L ∧ h = h0
theorem own_and3 (x : Int32) : ¬ (x &&& (3 : Int32)) < 0 ∧ (x &&& (3 : Int32)) < (4 : Int32) := by
  have h := c_mask x 3 2 (by decide) (by decide)
  simp only [Int32.lt_iff_toInt_lt, show (0 : Int32).toInt = 0 from rfl, show (4 : Int32).toInt = 4 from rfl]
  omega
theorem own_wS {Z : State} {a0 : Array Value} (hw : ∀ d ∈ tables_1, d.before a0 Z = true) : ∀ a ∈ Bundle.stringAtoms, a.before a0 Z = true := fun d hd => by
  rcases List.mem_cons.mp hd with rfl | hd
  · exact hw _ (List.mem_of_getElem? (i := 16) rfl)
  rcases List.mem_cons.mp hd with rfl | hd
  · exact hw _ (List.mem_of_getElem? (i := 17) rfl)
  rcases List.mem_cons.mp hd with rfl | hd
  · exact hw _ (List.mem_of_getElem? (i := 0) rfl)
  rcases List.mem_cons.mp hd with rfl | hd
  · exact hw _ (List.mem_of_getElem? (i := 18) rfl)
  rcases List.mem_cons.mp hd with rfl | hd
  · exact hw _ (List.mem_of_getElem? (i := 19) rfl)
  rcases List.mem_cons.mp hd with rfl | hd
  · exact hw _ (List.mem_of_getElem? (i := 20) rfl)
  rcases List.mem_cons.mp hd with rfl | hd
  · exact hw _ (List.mem_of_getElem? (i := 21) rfl)
  exact nomatch hd
theorem d2_0 : decode jdk_30_method_1_code 0 = .ok (.aload_n 0, 1) := by decide +kernel
theorem d2_1 : decode jdk_30_method_1_code 1 = .ok (.invokespecial 1, 3) := by decide +kernel
theorem d2_4 : decode jdk_30_method_1_code 4 = .ok (.return_, 1) := by decide +kernel
theorem pn_2 : plainName "java/lang/Record" = true := by first | (simp [plainName, overriddenIn]; done) | decide +kernel
theorem ef_2 (m : MethodId) (x0 : Addr) : entryFrame m #[(.ref x0)] 1 = mkF m 0 #[.val (.ref x0)] [] := by first | (simp [entryFrame, mkF, argsToLocals, Value.category]; done) | rfl
set_option maxRecDepth 65536 in
set_option maxHeartbeats 40000000 in
theorem rm2 (l : Launch) (Z : State) (a0 : Array Value) (hw : ∀ d ∈ tables_1, d.before a0 Z = true) (ws : List Jvm.Cond) (r0 : Addr) (h0 : Heap) (n0 : Nat) (Z0 : n0 ≤ h0.size) :
    MetFree l (⟨"java/lang/Record", "<init>", "()V"⟩ : MethodName) (head1 (Jvm.Cond.code (⟨"java/lang/Record", "<init>", "()V"⟩ : MethodName) jdk_30_method_1_code 1 none :: ws) ({ frames := 1, cells := 0, slots := 0, locals := 12 } : Room)) (fun a U => a = #[(.ref r0)] ∧ Z.Warmed39 U.vm ∧ U.heap = h0) (fun _ _ _ _ _ => True) (fun _ U o U' => ∃ v L, o = .returned v ∧ QP none h0 n0 v U'.heap L ∧ FrameEnd U o U' L 0 0) := by
  refine MetFree.of_bodySF (plainFor_of_name pn_2) hisR ?_
  intro p e s m args below meth c s₁ Bd hml0 hP hK
  obtain ⟨rfl, hZ, hh⟩ := hP
  have hx := Bd.exec
  have hby := Bd.bytes
  have hml : c.maxLocals = 1 := hml0
  have hown : s.vm.findClass "java/lang/Record" = some m.cls := findClass_of_methodNamed Bd.named
  have hnm := (name_of_methodNamed Bd.named Bd.method).1
  have X0 : Stand p l e ({ frames := 1, cells := 0, slots := 0, locals := 12 } : Room) s m #[(.ref r0)] below meth c s₁ [] 0 0 := Stand.of_body Bd
  have e0 : s₁.heap = h0 := by rw [← hh, Bd.state]; rfl
  have N0 := Fr.nil n0
  have pre0 : ∀ t, Steps p.tables e below (s₁.setTop (mkF m 0 #[.val (.ref r0)] [])) t → Steps p.tables e below (s₁.setTop (entryFrame m #[(.ref r0)] 1)) t := fun t k => castTop (ef_2 m r0) k
  obtain ⟨T1, X1, e1, st1⟩ := initO X0 hx hZ hown (hw _ (List.mem_of_getElem? (i := 12) rfl)) (hw _ (List.mem_of_getElem? (i := 13) rfl)) (hw _ (List.mem_of_getElem? (i := 14) rfl)) e0 (g := (mkF m 1 #[.val (.ref r0)] [(.ref r0)])) rfl (by rw [hml]; rfl) rfl (hb hby d2_1) (by decide) (W := 0) (by show 2 * 0 + _ ≤ _; exact Nat.le_of_eq rfl) (by decide)
  obtain ⟨fs, hr, hrun, hended, hW, hsame⟩ := X1.leave (v := none) (fun _ => rfl)
  refine ⟨_, _, pre0 _ ?_, hrun, hended, _, _, rfl, ?_, ⟨_, rfl⟩, hW, hsame.mono (by decide) (by decide)⟩
  · show Steps p.tables e below (s₁.setTop (mkF m 0 #[.val (.ref r0)] [])) _
    refine XS.aloadN X0.here hx rfl (hb hby d2_0) rfl rfl ?_
    show Steps p.tables e below (s₁.setTop (mkF m 1 #[.val (.ref r0)] [(.ref r0)])) _
    refine st1 _ ?_
    show Steps p.tables e below (T1.setTop (mkF m 4 #[.val (.ref r0)] [])) _
    exact X1.returnOut hx Bd.returns (hb hby d2_4) hr
  · show QP none h0 n0 _ T1.heap _
    rw [e1]
    exact ⟨rfl, N0, rfl⟩
theorem d4_0 : decode jdk_31_method_11_code 0 = .ok (.aload_n 0, 1) := by decide +kernel
theorem d4_1 : decode jdk_31_method_11_code 1 = .ok (.ifnonnull 12, 3) := by decide +kernel
theorem d4_13 : decode jdk_31_method_11_code 13 = .ok (.aload_n 0, 1) := by decide +kernel
theorem d4_14 : decode jdk_31_method_11_code 14 = .ok (.areturn, 1) := by decide +kernel
theorem pn_4 : plainName "java/util/Objects" = true := by first | (simp [plainName, overriddenIn]; done) | decide +kernel
theorem ef_4 (m : MethodId) (x0 : Addr) (x1 : Addr) : entryFrame m #[(.ref x0), (.ref x1)] 2 = mkF m 0 #[.val (.ref x0), .val (.ref x1)] [] := by first | (simp [entryFrame, mkF, argsToLocals, Value.category]; done) | rfl
set_option maxRecDepth 65536 in
set_option maxHeartbeats 40000000 in
theorem rm4 (l : Launch) (Z : State) (a0 : Array Value) (hw : ∀ d ∈ tables_1, d.before a0 Z = true) (ws : List Jvm.Cond) (r0 : Addr) (r1 : Addr) (h0 : Heap) (n0 : Nat) (Z0 : n0 ≤ h0.size) :
    MetFree l (⟨"java/util/Objects", "requireNonNull", "(Ljava/lang/Object;Ljava/lang/String;)Ljava/lang/Object;"⟩ : MethodName) (head1 (Jvm.Cond.code (⟨"java/util/Objects", "requireNonNull", "(Ljava/lang/Object;Ljava/lang/String;)Ljava/lang/Object;"⟩ : MethodName) jdk_31_method_11_code 2 (some (.object "java/lang/Object")) :: ws) ({ frames := 0, cells := 0, slots := 0, locals := 0 } : Room)) (fun a U => a = #[(.ref r0), (.ref r1)] ∧ Z.Warmed39 U.vm ∧ U.heap = h0) (fun _ _ _ _ _ => True) (fun _ U o U' => ∃ v L, o = .returned v ∧ QP (some (.ref r0)) h0 n0 v U'.heap L ∧ FrameEnd U o U' L 0 0) := by
  refine MetFree.of_bodySF (plainFor_of_name pn_4) hisR ?_
  intro p e s m args below meth c s₁ Bd hml0 hP hK
  obtain ⟨rfl, hZ, hh⟩ := hP
  have hx := Bd.exec
  have hby := Bd.bytes
  have hml : c.maxLocals = 2 := hml0
  have hown : s.vm.findClass "java/util/Objects" = some m.cls := findClass_of_methodNamed Bd.named
  have hnm := (name_of_methodNamed Bd.named Bd.method).1
  have X0 : Stand p l e ({ frames := 0, cells := 0, slots := 0, locals := 0 } : Room) s m #[(.ref r0), (.ref r1)] below meth c s₁ [] 0 0 := Stand.of_body Bd
  have e0 : s₁.heap = h0 := by rw [← hh, Bd.state]; rfl
  have N0 := Fr.nil n0
  have pre0 : ∀ t, Steps p.tables e below (s₁.setTop (mkF m 0 #[.val (.ref r0), .val (.ref r1)] [])) t → Steps p.tables e below (s₁.setTop (entryFrame m #[(.ref r0), (.ref r1)] 2)) t := fun t k => castTop (ef_4 m r0 r1) k
  obtain ⟨fs, hr, hrun, hended, hW, hsame⟩ := X0.leave (v := (some (.ref r0))) (fun h => by rw [Bd.returns] at h; cases h)
  refine ⟨_, _, pre0 _ ?_, hrun, hended, _, _, rfl, ?_, ⟨_, rfl⟩, hW, hsame.mono (by decide) (by decide)⟩
  · show Steps p.tables e below (s₁.setTop (mkF m 0 #[.val (.ref r0), .val (.ref r1)] [])) _
    refine XS.aloadN X0.here hx rfl (hb hby d4_0) rfl rfl ?_
    show Steps p.tables e below (s₁.setTop (mkF m 1 #[.val (.ref r0), .val (.ref r1)] [(.ref r0)])) _
    refine XS.ifnonnullYes X0.here hx rfl (pc0 := 1) (pc' := 13) rfl (hb hby d4_1) rfl (by decide) (by decide) ?_
    show Steps p.tables e below (s₁.setTop (mkF m 13 #[.val (.ref r0), .val (.ref r1)] [])) _
    refine XS.aloadN X0.here hx rfl (hb hby d4_13) rfl rfl ?_
    show Steps p.tables e below (s₁.setTop (mkF m 14 #[.val (.ref r0), .val (.ref r1)] [(.ref r0)])) _
    exact retOut X0 hx Bd.returns rfl (Or.inr (Or.inr (Or.inr (Or.inr ⟨rfl, rfl, rfl⟩)))) (hb hby d4_14) hr
  · show QP (some (.ref r0)) h0 n0 _ s₁.heap _
    rw [e0]
    exact ⟨rfl, N0, rfl⟩
def QC (Z : State) (r0 : Addr) (w : Value) (h0 : Heap) (n0 : Nat) (v : Option Value) (h : Heap) (L : List Loc) : Prop := v = none ∧ Fr n0 L ∧ Keep h0 h [r0] ∧ Exa Z h r0 "com/example/sendlimitd/sendlimitd/core/StateStore$Change" ∧ Fld Z h r0 "com/example/sendlimitd/sendlimitd/core/StateStore$Change" "value" "[B" w
theorem d1_0 : decode prog_46_method_1_code 0 = .ok (.aload_n 0, 1) := by decide +kernel
theorem d1_1 : decode prog_46_method_1_code 1 = .ok (.invokespecial 1, 3) := by decide +kernel
theorem d1_4 : decode prog_46_method_1_code 4 = .ok (.aload_n 1, 1) := by decide +kernel
theorem d1_5 : decode prog_46_method_1_code 5 = .ok (.ldc 7, 2) := by decide +kernel
theorem d1_7 : decode prog_46_method_1_code 7 = .ok (.invokestatic 9, 3) := by decide +kernel
theorem d1_10 : decode prog_46_method_1_code 10 = .ok (.pop, 1) := by decide +kernel
theorem d1_11 : decode prog_46_method_1_code 11 = .ok (.aload_n 0, 1) := by decide +kernel
theorem d1_12 : decode prog_46_method_1_code 12 = .ok (.aload_n 1, 1) := by decide +kernel
theorem d1_13 : decode prog_46_method_1_code 13 = .ok (.putfield 15, 3) := by decide +kernel
theorem d1_16 : decode prog_46_method_1_code 16 = .ok (.aload_n 0, 1) := by decide +kernel
theorem d1_17 : decode prog_46_method_1_code 17 = .ok (.aload_n 2, 1) := by decide +kernel
theorem d1_18 : decode prog_46_method_1_code 18 = .ok (.putfield 20, 3) := by decide +kernel
theorem d1_21 : decode prog_46_method_1_code 21 = .ok (.return_, 1) := by decide +kernel
theorem pn_1 : plainName "com/example/sendlimitd/sendlimitd/core/StateStore$Change" = true := by first | (simp [plainName, overriddenIn]; done) | decide +kernel
theorem ef_1 (m : MethodId) (x0 : Addr) (x1 : Addr) (x2 : Addr) : entryFrame m #[(.ref x0), (.ref x1), (.ref x2)] 3 = mkF m 0 #[.val (.ref x0), .val (.ref x1), .val (.ref x2)] [] := by first | (simp [entryFrame, mkF, argsToLocals, Value.category]; done) | rfl
theorem pd_0 : parseMethodDescriptor "()V" = some ⟨[], none⟩ := by decide +kernel
theorem pd_1 : parseMethodDescriptor "(Ljava/lang/Object;Ljava/lang/String;)Ljava/lang/Object;" = some ⟨[(.object "java/lang/Object"), (.object "java/lang/String")], some (.object "java/lang/Object")⟩ := by decide +kernel
set_option maxRecDepth 65536 in
set_option maxHeartbeats 40000000 in
theorem rm1 (l : Launch) (Z : State) (a0 : Array Value) (hw : ∀ d ∈ tables_1, d.before a0 Z = true) (ws : List Jvm.Cond) (r0 : Addr) (r1 : Addr) (r2 : Addr) (h0 : Heap) (n0 : Nat) (Z0 : n0 ≤ h0.size) (E_r : Exa Z h0 r0 "com/example/sendlimitd/sendlimitd/core/StateStore$Change") (F_key : Fld Z h0 r0 "com/example/sendlimitd/sendlimitd/core/StateStore$Change" "key" "[B" .null) (F_value : Fld Z h0 r0 "com/example/sendlimitd/sendlimitd/core/StateStore$Change" "value" "[B" .null) (g_r0 : n0 ≤ r0) :
    MetFree l (⟨"com/example/sendlimitd/sendlimitd/core/StateStore$Change", "<init>", "([B[B)V"⟩ : MethodName) (head1 (Jvm.Cond.code (⟨"com/example/sendlimitd/sendlimitd/core/StateStore$Change", "<init>", "([B[B)V"⟩ : MethodName) prog_46_method_1_code 3 none :: ws) ({ frames := 2, cells := 2, slots := 16, locals := 24 } : Room)) (fun a U => a = #[(.ref r0), (.ref r1), (.ref r2)] ∧ Z.Warmed39 U.vm ∧ U.heap = h0) (fun _ _ _ _ _ => True) (fun _ U o U' => ∃ v L, o = .returned v ∧ QC Z r0 (.ref r2) h0 n0 v U'.heap L ∧ ReturnedEndW U o U' L 2 16) := by
  refine MetFree.of_bodySF (plainFor_of_name pn_1) hisR ?_
  intro p e s m args below meth c s₁ Bd hml0 hP hK
  obtain ⟨rfl, hZ, hh⟩ := hP
  have hx := Bd.exec
  have hby := Bd.bytes
  have hml : c.maxLocals = 3 := hml0
  have hown : s.vm.findClass "com/example/sendlimitd/sendlimitd/core/StateStore$Change" = some m.cls := findClass_of_methodNamed Bd.named
  have hnm := (name_of_methodNamed Bd.named Bd.method).1
  have X0 : Stand p l e ({ frames := 2, cells := 2, slots := 16, locals := 24 } : Room) s m #[(.ref r0), (.ref r1), (.ref r2)] below meth c s₁ [] 0 0 := Stand.of_body Bd
  have e0 : s₁.heap = h0 := by rw [← hh, Bd.state]; rfl
  have N0 := Fr.nil n0
  have pre0 : ∀ t, Steps p.tables e below (s₁.setTop (mkF m 0 #[.val (.ref r0), .val (.ref r1), .val (.ref r2)] [])) t → Steps p.tables e below (s₁.setTop (entryFrame m #[(.ref r0), (.ref r1), (.ref r2)] 3)) t := fun t k => castTop (ef_1 m r0 r1 r2) k
  have K0 : Keep h0 h0 [r0] := Keep.refl h0 [r0]
  obtain ⟨_, _, ⟨T1, L1, k1, n1⟩, -, X1, ⟨Lc1, hQ1, l1, y1, z1⟩, st1⟩ := X0.specialBack hx (y := (⟨"java/lang/Record", "<init>", "()V"⟩ : MethodName)) rfl hown (mvT hZ (hw _ (List.mem_of_getElem? (i := 7) rfl))) (mvT hZ (hw _ (List.mem_of_getElem? (i := 8) rfl))) (mvT hZ (hw _ (List.mem_of_getElem? (i := 11) rfl))) (by decide) (backOf (W := 0) (rm2 l Z a0 hw [] r0  h0 n0 Z0 ) hZ (hw _ (List.mem_of_getElem? (i := 11) rfl)) (hw _ (List.mem_of_getElem? (i := 10) rfl)) (by decide) (by decide)) (g := (mkF m 1 #[.val (.ref r0), .val (.ref r1), .val (.ref r2)] [(.ref r0)])) rfl (by rw [hml]; rfl) (Steps.refl _) (a := r0) (argsL := []) (rest := []) (lenOf pd_0 rfl) rfl (by show 2 * 0 + _ ≤ _; exact Nat.le_of_eq rfl) (hb hby d1_1) (fun _ _ => ⟨rfl, e0, (by decide : 0 + 0 ≤ _), (by decide : 0 + 0 ≤ _)⟩)
  dsimp only [Pt.U, Pt.locs, Pt.cells, Pt.slots] at X1 l1 y1 z1 st1 hQ1
  subst l1 y1 z1
  obtain ⟨rfl, N1q, e1⟩ := hQ1
  have N1 := Fr.app N0 N1q
  obtain ⟨a2, T2, h2, k2, X2, e2, E2, S2, hle2, hZ2, hown2, st2⟩ := ldcS (s := s) (vm0 := s.vm) X1 hx hZ hown (hw _ (List.mem_of_getElem? (i := 15) rfl)) (own_wS hw) e1 ((State.WarmedH.refl s).since 0) (Nat.zero_le _) (g := (mkF m 5 #[.val (.ref r0), .val (.ref r1), .val (.ref r2)] [(.ref r1)])) rfl (hb hby d1_5) (n := 12) (by decide) (by decide) (by decide) (by decide)
  have hZ := hZ2
  have hown := hown2
  have E_r_3 := E_r.ext E2
  have F_key_4 := F_key.ext E2
  have F_value_5 := F_value.ext E2
  have K2 : Keep h0 h2 [r0] := K0.ext E2
  obtain ⟨_, _, ⟨T6, L6, k6, n6⟩, -, X6, ⟨Lc6, hQ6, l6, y6, z6⟩, st6⟩ := Jvm.LawKit.callS X2 hx (y := (⟨"java/util/Objects", "requireNonNull", "(Ljava/lang/Object;Ljava/lang/String;)Ljava/lang/Object;"⟩ : MethodName)) hown (mvT hZ (hw _ (List.mem_of_getElem? (i := 22) rfl))) (mvT hZ (hw _ (List.mem_of_getElem? (i := 23) rfl))) (mvT hZ (hw _ (List.mem_of_getElem? (i := 24) rfl))) (mvT hZ (hw _ (List.mem_of_getElem? (i := 25) rfl))) (by decide) (backOf (W := 0) (rm4 l Z a0 hw [] r1 a2  h2 n0 (Nat.le_trans Z0 K2.1) ) hZ (hw _ (List.mem_of_getElem? (i := 25) rfl)) (hw _ (List.mem_of_getElem? (i := 24) rfl)) (by decide) (by decide)) (g := (mkF m 7 #[.val (.ref r0), .val (.ref r1), .val (.ref r2)] [(.ref a2), (.ref r1)])) rfl (by rw [hml]; rfl) (argsL := [(.ref r1), (.ref a2)]) (rest := []) (lenOf pd_1 rfl) rfl (by show 2 * 0 + _ ≤ _; exact Nat.le_of_eq rfl) (hb hby d1_7) (fun _ _ => ⟨rfl, e2, (by decide : 2 + 0 ≤ _), (by decide : 16 + 0 ≤ _)⟩)
  dsimp only [Pt.U, Pt.locs, Pt.cells, Pt.slots] at X6 l6 y6 z6 st6 hQ6
  subst l6 y6 z6
  obtain ⟨rfl, N6q, e6⟩ := hQ6
  have N6 := Fr.app N1 N6q
  obtain ⟨T7, h7, X7, e7, W7, st7⟩ := putF X6 hx hZ hown (host := "") (Or.inl (hw _ (List.mem_of_getElem? (i := 26) rfl))) Via.refl e6 F_key_4 E_r_3 (Or.inr ⟨(hw _ (List.mem_of_getElem? (i := 27) rfl)), rfl, hnm⟩) (hw _ (List.mem_of_getElem? (i := 2) rfl)) (ty := (.array .byte)) (by decide) rfl rfl (g := (mkF m 13 #[.val (.ref r0), .val (.ref r1), .val (.ref r2)] [(.ref r1), (.ref r0)])) rfl rfl (hb hby d1_13)
  have F_key_r0_7 := F_key_4.same W7
  have E_r_8 := E_r_3.wr W7
  have F_value_9 := F_value_5.other W7 (Or.inr (slot_ne (Or.inr (hw _ (List.mem_of_getElem? (i := 29) rfl))) (Or.inr (hw _ (List.mem_of_getElem? (i := 27) rfl))) (by decide) (t := (.array .byte)) (t' := (.array .byte)) (by decide) (by decide)))
  have hle_10 := Nat.le_trans hle2 (Keep.of_wr W7).1
  have K7 : Keep h0 h7 [r0] := K2.wr W7 (Or.inl (List.mem_of_getElem? (i := 0) rfl))
  have N7 := Fr.snoc X7 N6 g_r0
  obtain ⟨T11, h11, X11, e11, W11, st11⟩ := putF X7 hx hZ hown (host := "") (Or.inl (hw _ (List.mem_of_getElem? (i := 28) rfl))) Via.refl e7 F_value_9 E_r_8 (Or.inr ⟨(hw _ (List.mem_of_getElem? (i := 29) rfl)), rfl, hnm⟩) (hw _ (List.mem_of_getElem? (i := 2) rfl)) (ty := (.array .byte)) (by decide) rfl rfl (g := (mkF m 18 #[.val (.ref r0), .val (.ref r1), .val (.ref r2)] [(.ref r2), (.ref r0)])) rfl rfl (hb hby d1_18)
  have F_value_r0_11 := F_value_9.same W11
  have E_r_12 := E_r_8.wr W11
  have F_key_r0_13 := F_key_r0_7.other W11 (Or.inr (slot_ne (Or.inr (hw _ (List.mem_of_getElem? (i := 27) rfl))) (Or.inr (hw _ (List.mem_of_getElem? (i := 29) rfl))) (by decide) (t := (.array .byte)) (t' := (.array .byte)) (by decide) (by decide)))
  have hle_14 := Nat.le_trans hle_10 (Keep.of_wr W11).1
  have K11 : Keep h0 h11 [r0] := K7.wr W11 (Or.inl (List.mem_of_getElem? (i := 0) rfl))
  have N11 := Fr.snoc X11 N7 g_r0
  obtain ⟨fs, hr, hrun, hended, hRE⟩ := X11.leaveW (s := s) (vm₁ := T2.vm) S2 (by rw [e11]; exact hle_14) (v := none) (fun _ => rfl)
  refine ⟨_, _, pre0 _ ?_, hrun, hended, _, _, rfl, ?_, hRE.1, hRE.2.1, hRE.2.2.1, hRE.2.2.2.mono (by decide) (by decide)⟩
  · show Steps p.tables e below (s₁.setTop (mkF m 0 #[.val (.ref r0), .val (.ref r1), .val (.ref r2)] [])) _
    refine XS.aloadN X0.here hx rfl (hb hby d1_0) rfl rfl ?_
    show Steps p.tables e below (s₁.setTop (mkF m 1 #[.val (.ref r0), .val (.ref r1), .val (.ref r2)] [(.ref r0)])) _
    refine st1.trans ?_
    show Steps p.tables e below (T1.setTop (mkF m 4 #[.val (.ref r0), .val (.ref r1), .val (.ref r2)] [])) _
    refine XS.aloadN X1.here hx rfl (hb hby d1_4) rfl rfl ?_
    show Steps p.tables e below (T1.setTop (mkF m 5 #[.val (.ref r0), .val (.ref r1), .val (.ref r2)] [(.ref r1)])) _
    refine st2 _ ?_
    show Steps p.tables e below (T2.setTop (mkF m 7 #[.val (.ref r0), .val (.ref r1), .val (.ref r2)] [(.ref a2), (.ref r1)])) _
    refine st6 _ ?_
    show Steps p.tables e below (T6.setTop (mkF m 10 #[.val (.ref r0), .val (.ref r1), .val (.ref r2)] [(.ref r1)])) _
    refine XS.pop X6.here hx rfl (hb hby d1_10) rfl rfl ?_
    show Steps p.tables e below (T6.setTop (mkF m 11 #[.val (.ref r0), .val (.ref r1), .val (.ref r2)] [])) _
    refine XS.aloadN X6.here hx rfl (hb hby d1_11) rfl rfl ?_
    show Steps p.tables e below (T6.setTop (mkF m 12 #[.val (.ref r0), .val (.ref r1), .val (.ref r2)] [(.ref r0)])) _
    refine XS.aloadN X6.here hx rfl (hb hby d1_12) rfl rfl ?_
    show Steps p.tables e below (T6.setTop (mkF m 13 #[.val (.ref r0), .val (.ref r1), .val (.ref r2)] [(.ref r1), (.ref r0)])) _
    refine st7 _ ?_
    show Steps p.tables e below (T7.setTop (mkF m 16 #[.val (.ref r0), .val (.ref r1), .val (.ref r2)] [])) _
    refine XS.aloadN X7.here hx rfl (hb hby d1_16) rfl rfl ?_
    show Steps p.tables e below (T7.setTop (mkF m 17 #[.val (.ref r0), .val (.ref r1), .val (.ref r2)] [(.ref r0)])) _
    refine XS.aloadN X7.here hx rfl (hb hby d1_17) rfl rfl ?_
    show Steps p.tables e below (T7.setTop (mkF m 18 #[.val (.ref r0), .val (.ref r1), .val (.ref r2)] [(.ref r2), (.ref r0)])) _
    refine st11 _ ?_
    show Steps p.tables e below (T11.setTop (mkF m 21 #[.val (.ref r0), .val (.ref r1), .val (.ref r2)] [])) _
    exact X11.returnOut hx Bd.returns (hb hby d1_21) hr
  · show QC Z r0 (.ref r2) h0 n0 _ T11.heap _
    rw [e11]
    exact ⟨rfl, N11, K11, E_r_12, F_value_r0_11⟩
theorem ef_1n (m : MethodId) (x0 : Addr) (x1 : Addr) : entryFrame m #[(.ref x0), (.ref x1), .null] 3 = mkF m 0 #[.val (.ref x0), .val (.ref x1), .val .null] [] := by first | (simp [entryFrame, mkF, argsToLocals, Value.category]; done) | rfl
set_option maxRecDepth 65536 in
set_option maxHeartbeats 40000000 in
theorem rm1n (l : Launch) (Z : State) (a0 : Array Value) (hw : ∀ d ∈ tables_1, d.before a0 Z = true) (ws : List Jvm.Cond) (r0 : Addr) (r1 : Addr) (h0 : Heap) (n0 : Nat) (Z0 : n0 ≤ h0.size) (E_r : Exa Z h0 r0 "com/example/sendlimitd/sendlimitd/core/StateStore$Change") (F_key : Fld Z h0 r0 "com/example/sendlimitd/sendlimitd/core/StateStore$Change" "key" "[B" .null) (F_value : Fld Z h0 r0 "com/example/sendlimitd/sendlimitd/core/StateStore$Change" "value" "[B" .null) (g_r0 : n0 ≤ r0) :
    MetFree l (⟨"com/example/sendlimitd/sendlimitd/core/StateStore$Change", "<init>", "([B[B)V"⟩ : MethodName) (head1 (Jvm.Cond.code (⟨"com/example/sendlimitd/sendlimitd/core/StateStore$Change", "<init>", "([B[B)V"⟩ : MethodName) prog_46_method_1_code 3 none :: ws) ({ frames := 2, cells := 2, slots := 16, locals := 24 } : Room)) (fun a U => a = #[(.ref r0), (.ref r1), .null] ∧ Z.Warmed39 U.vm ∧ U.heap = h0) (fun _ _ _ _ _ => True) (fun _ U o U' => ∃ v L, o = .returned v ∧ QC Z r0 .null h0 n0 v U'.heap L ∧ ReturnedEndW U o U' L 2 16) := by
  refine MetFree.of_bodySF (plainFor_of_name pn_1) hisR ?_
  intro p e s m args below meth c s₁ Bd hml0 hP hK
  obtain ⟨rfl, hZ, hh⟩ := hP
  have hx := Bd.exec
  have hby := Bd.bytes
  have hml : c.maxLocals = 3 := hml0
  have hown : s.vm.findClass "com/example/sendlimitd/sendlimitd/core/StateStore$Change" = some m.cls := findClass_of_methodNamed Bd.named
  have hnm := (name_of_methodNamed Bd.named Bd.method).1
  have X0 : Stand p l e ({ frames := 2, cells := 2, slots := 16, locals := 24 } : Room) s m #[(.ref r0), (.ref r1), .null] below meth c s₁ [] 0 0 := Stand.of_body Bd
  have e0 : s₁.heap = h0 := by rw [← hh, Bd.state]; rfl
  have N0 := Fr.nil n0
  have pre0 : ∀ t, Steps p.tables e below (s₁.setTop (mkF m 0 #[.val (.ref r0), .val (.ref r1), .val .null] [])) t → Steps p.tables e below (s₁.setTop (entryFrame m #[(.ref r0), (.ref r1), .null] 3)) t := fun t k => castTop (ef_1n m r0 r1) k
  have K0 : Keep h0 h0 [r0] := Keep.refl h0 [r0]
  obtain ⟨_, _, ⟨T1, L1, k1, n1⟩, -, X1, ⟨Lc1, hQ1, l1, y1, z1⟩, st1⟩ := X0.specialBack hx (y := (⟨"java/lang/Record", "<init>", "()V"⟩ : MethodName)) rfl hown (mvT hZ (hw _ (List.mem_of_getElem? (i := 7) rfl))) (mvT hZ (hw _ (List.mem_of_getElem? (i := 8) rfl))) (mvT hZ (hw _ (List.mem_of_getElem? (i := 11) rfl))) (by decide) (backOf (W := 0) (rm2 l Z a0 hw [] r0  h0 n0 Z0 ) hZ (hw _ (List.mem_of_getElem? (i := 11) rfl)) (hw _ (List.mem_of_getElem? (i := 10) rfl)) (by decide) (by decide)) (g := (mkF m 1 #[.val (.ref r0), .val (.ref r1), .val .null] [(.ref r0)])) rfl (by rw [hml]; rfl) (Steps.refl _) (a := r0) (argsL := []) (rest := []) (lenOf pd_0 rfl) rfl (by show 2 * 0 + _ ≤ _; exact Nat.le_of_eq rfl) (hb hby d1_1) (fun _ _ => ⟨rfl, e0, (by decide : 0 + 0 ≤ _), (by decide : 0 + 0 ≤ _)⟩)
  dsimp only [Pt.U, Pt.locs, Pt.cells, Pt.slots] at X1 l1 y1 z1 st1 hQ1
  subst l1 y1 z1
  obtain ⟨rfl, N1q, e1⟩ := hQ1
  have N1 := Fr.app N0 N1q
  obtain ⟨a2, T2, h2, k2, X2, e2, E2, S2, hle2, hZ2, hown2, st2⟩ := ldcS (s := s) (vm0 := s.vm) X1 hx hZ hown (hw _ (List.mem_of_getElem? (i := 15) rfl)) (own_wS hw) e1 ((State.WarmedH.refl s).since 0) (Nat.zero_le _) (g := (mkF m 5 #[.val (.ref r0), .val (.ref r1), .val .null] [(.ref r1)])) rfl (hb hby d1_5) (n := 12) (by decide) (by decide) (by decide) (by decide)
  have hZ := hZ2
  have hown := hown2
  have E_r_3 := E_r.ext E2
  have F_key_4 := F_key.ext E2
  have F_value_5 := F_value.ext E2
  have K2 : Keep h0 h2 [r0] := K0.ext E2
  obtain ⟨_, _, ⟨T6, L6, k6, n6⟩, -, X6, ⟨Lc6, hQ6, l6, y6, z6⟩, st6⟩ := Jvm.LawKit.callS X2 hx (y := (⟨"java/util/Objects", "requireNonNull", "(Ljava/lang/Object;Ljava/lang/String;)Ljava/lang/Object;"⟩ : MethodName)) hown (mvT hZ (hw _ (List.mem_of_getElem? (i := 22) rfl))) (mvT hZ (hw _ (List.mem_of_getElem? (i := 23) rfl))) (mvT hZ (hw _ (List.mem_of_getElem? (i := 24) rfl))) (mvT hZ (hw _ (List.mem_of_getElem? (i := 25) rfl))) (by decide) (backOf (W := 0) (rm4 l Z a0 hw [] r1 a2  h2 n0 (Nat.le_trans Z0 K2.1) ) hZ (hw _ (List.mem_of_getElem? (i := 25) rfl)) (hw _ (List.mem_of_getElem? (i := 24) rfl)) (by decide) (by decide)) (g := (mkF m 7 #[.val (.ref r0), .val (.ref r1), .val .null] [(.ref a2), (.ref r1)])) rfl (by rw [hml]; rfl) (argsL := [(.ref r1), (.ref a2)]) (rest := []) (lenOf pd_1 rfl) rfl (by show 2 * 0 + _ ≤ _; exact Nat.le_of_eq rfl) (hb hby d1_7) (fun _ _ => ⟨rfl, e2, (by decide : 2 + 0 ≤ _), (by decide : 16 + 0 ≤ _)⟩)
  dsimp only [Pt.U, Pt.locs, Pt.cells, Pt.slots] at X6 l6 y6 z6 st6 hQ6
  subst l6 y6 z6
  obtain ⟨rfl, N6q, e6⟩ := hQ6
  have N6 := Fr.app N1 N6q
  obtain ⟨T7, h7, X7, e7, W7, st7⟩ := putF X6 hx hZ hown (host := "") (Or.inl (hw _ (List.mem_of_getElem? (i := 26) rfl))) Via.refl e6 F_key_4 E_r_3 (Or.inr ⟨(hw _ (List.mem_of_getElem? (i := 27) rfl)), rfl, hnm⟩) (hw _ (List.mem_of_getElem? (i := 2) rfl)) (ty := (.array .byte)) (by decide) rfl rfl (g := (mkF m 13 #[.val (.ref r0), .val (.ref r1), .val .null] [(.ref r1), (.ref r0)])) rfl rfl (hb hby d1_13)
  have F_key_r0_7 := F_key_4.same W7
  have E_r_8 := E_r_3.wr W7
  have F_value_9 := F_value_5.other W7 (Or.inr (slot_ne (Or.inr (hw _ (List.mem_of_getElem? (i := 29) rfl))) (Or.inr (hw _ (List.mem_of_getElem? (i := 27) rfl))) (by decide) (t := (.array .byte)) (t' := (.array .byte)) (by decide) (by decide)))
  have hle_10 := Nat.le_trans hle2 (Keep.of_wr W7).1
  have K7 : Keep h0 h7 [r0] := K2.wr W7 (Or.inl (List.mem_of_getElem? (i := 0) rfl))
  have N7 := Fr.snoc X7 N6 g_r0
  obtain ⟨T11, h11, X11, e11, W11, st11⟩ := putF X7 hx hZ hown (host := "") (Or.inl (hw _ (List.mem_of_getElem? (i := 28) rfl))) Via.refl e7 F_value_9 E_r_8 (Or.inr ⟨(hw _ (List.mem_of_getElem? (i := 29) rfl)), rfl, hnm⟩) (hw _ (List.mem_of_getElem? (i := 2) rfl)) (ty := (.array .byte)) (by decide) rfl rfl (g := (mkF m 18 #[.val (.ref r0), .val (.ref r1), .val .null] [.null, (.ref r0)])) rfl rfl (hb hby d1_18)
  have F_value_r0_11 := F_value_9.same W11
  have E_r_12 := E_r_8.wr W11
  have F_key_r0_13 := F_key_r0_7.other W11 (Or.inr (slot_ne (Or.inr (hw _ (List.mem_of_getElem? (i := 27) rfl))) (Or.inr (hw _ (List.mem_of_getElem? (i := 29) rfl))) (by decide) (t := (.array .byte)) (t' := (.array .byte)) (by decide) (by decide)))
  have hle_14 := Nat.le_trans hle_10 (Keep.of_wr W11).1
  have K11 : Keep h0 h11 [r0] := K7.wr W11 (Or.inl (List.mem_of_getElem? (i := 0) rfl))
  have N11 := Fr.snoc X11 N7 g_r0
  obtain ⟨fs, hr, hrun, hended, hRE⟩ := X11.leaveW (s := s) (vm₁ := T2.vm) S2 (by rw [e11]; exact hle_14) (v := none) (fun _ => rfl)
  refine ⟨_, _, pre0 _ ?_, hrun, hended, _, _, rfl, ?_, hRE.1, hRE.2.1, hRE.2.2.1, hRE.2.2.2.mono (by decide) (by decide)⟩
  · show Steps p.tables e below (s₁.setTop (mkF m 0 #[.val (.ref r0), .val (.ref r1), .val .null] [])) _
    refine XS.aloadN X0.here hx rfl (hb hby d1_0) rfl rfl ?_
    show Steps p.tables e below (s₁.setTop (mkF m 1 #[.val (.ref r0), .val (.ref r1), .val .null] [(.ref r0)])) _
    refine st1.trans ?_
    show Steps p.tables e below (T1.setTop (mkF m 4 #[.val (.ref r0), .val (.ref r1), .val .null] [])) _
    refine XS.aloadN X1.here hx rfl (hb hby d1_4) rfl rfl ?_
    show Steps p.tables e below (T1.setTop (mkF m 5 #[.val (.ref r0), .val (.ref r1), .val .null] [(.ref r1)])) _
    refine st2 _ ?_
    show Steps p.tables e below (T2.setTop (mkF m 7 #[.val (.ref r0), .val (.ref r1), .val .null] [(.ref a2), (.ref r1)])) _
    refine st6 _ ?_
    show Steps p.tables e below (T6.setTop (mkF m 10 #[.val (.ref r0), .val (.ref r1), .val .null] [(.ref r1)])) _
    refine XS.pop X6.here hx rfl (hb hby d1_10) rfl rfl ?_
    show Steps p.tables e below (T6.setTop (mkF m 11 #[.val (.ref r0), .val (.ref r1), .val .null] [])) _
    refine XS.aloadN X6.here hx rfl (hb hby d1_11) rfl rfl ?_
    show Steps p.tables e below (T6.setTop (mkF m 12 #[.val (.ref r0), .val (.ref r1), .val .null] [(.ref r0)])) _
    refine XS.aloadN X6.here hx rfl (hb hby d1_12) rfl rfl ?_
    show Steps p.tables e below (T6.setTop (mkF m 13 #[.val (.ref r0), .val (.ref r1), .val .null] [(.ref r1), (.ref r0)])) _
    refine st7 _ ?_
    show Steps p.tables e below (T7.setTop (mkF m 16 #[.val (.ref r0), .val (.ref r1), .val .null] [])) _
    refine XS.aloadN X7.here hx rfl (hb hby d1_16) rfl rfl ?_
    show Steps p.tables e below (T7.setTop (mkF m 17 #[.val (.ref r0), .val (.ref r1), .val .null] [(.ref r0)])) _
    refine XS.aloadN X7.here hx rfl (hb hby d1_17) rfl rfl ?_
    show Steps p.tables e below (T7.setTop (mkF m 18 #[.val (.ref r0), .val (.ref r1), .val .null] [.null, (.ref r0)])) _
    refine st11 _ ?_
    show Steps p.tables e below (T11.setTop (mkF m 21 #[.val (.ref r0), .val (.ref r1), .val .null] [])) _
    exact X11.returnOut hx Bd.returns (hb hby d1_21) hr
  · show QC Z r0 .null h0 n0 _ T11.heap _
    rw [e11]
    exact ⟨rfl, N11, K11, E_r_12, F_value_r0_11⟩
theorem d5_0 : decode prog_46_method_4_code 0 = .ok (.aload_n 0, 1) := by decide +kernel
theorem d5_1 : decode prog_46_method_4_code 1 = .ok (.getfield 20, 3) := by decide +kernel
theorem d5_4 : decode prog_46_method_4_code 4 = .ok (.ifnonnull 7, 3) := by decide +kernel
theorem d5_11 : decode prog_46_method_4_code 11 = .ok (.iconst 0, 1) := by decide +kernel
theorem d5_12 : decode prog_46_method_4_code 12 = .ok (.ireturn, 1) := by decide +kernel
theorem pn_5 : plainName "com/example/sendlimitd/sendlimitd/core/StateStore$Change" = true := by first | (simp [plainName, overriddenIn]; done) | decide +kernel
theorem ef_5 (m : MethodId) (x0 : Addr) : entryFrame m #[(.ref x0)] 1 = mkF m 0 #[.val (.ref x0)] [] := by first | (simp [entryFrame, mkF, argsToLocals, Value.category]; done) | rfl
set_option maxRecDepth 65536 in
set_option maxHeartbeats 40000000 in
theorem rm5 (l : Launch) (Z : State) (a0 : Array Value) (hw : ∀ d ∈ tables_1, d.before a0 Z = true) (ws : List Jvm.Cond) (r0 : Addr) (rv : Addr) (h0 : Heap) (n0 : Nat) (Z0 : n0 ≤ h0.size) (F_value : Fld Z h0 r0 "com/example/sendlimitd/sendlimitd/core/StateStore$Change" "value" "[B" (.ref rv)) :
    MetFree l (⟨"com/example/sendlimitd/sendlimitd/core/StateStore$Change", "isDelete", "()Z"⟩ : MethodName) (head1 (Jvm.Cond.code (⟨"com/example/sendlimitd/sendlimitd/core/StateStore$Change", "isDelete", "()Z"⟩ : MethodName) prog_46_method_4_code 1 (some .boolean) :: ws) ({ frames := 0, cells := 0, slots := 0, locals := 0 } : Room)) (fun a U => a = #[(.ref r0)] ∧ Z.Warmed39 U.vm ∧ U.heap = h0) (fun _ _ _ _ _ => True) (fun _ U o U' => ∃ v L, o = .returned v ∧ QP (some (.int 0)) h0 n0 v U'.heap L ∧ FrameEnd U o U' L 0 0) := by
  refine MetFree.of_bodySF (plainFor_of_name pn_5) hisR ?_
  intro p e s m args below meth c s₁ Bd hml0 hP hK
  obtain ⟨rfl, hZ, hh⟩ := hP
  have hx := Bd.exec
  have hby := Bd.bytes
  have hml : c.maxLocals = 1 := hml0
  have hown : s.vm.findClass "com/example/sendlimitd/sendlimitd/core/StateStore$Change" = some m.cls := findClass_of_methodNamed Bd.named
  have hnm := (name_of_methodNamed Bd.named Bd.method).1
  have X0 : Stand p l e ({ frames := 0, cells := 0, slots := 0, locals := 0 } : Room) s m #[(.ref r0)] below meth c s₁ [] 0 0 := Stand.of_body Bd
  have e0 : s₁.heap = h0 := by rw [← hh, Bd.state]; rfl
  have N0 := Fr.nil n0
  have pre0 : ∀ t, Steps p.tables e below (s₁.setTop (mkF m 0 #[.val (.ref r0)] [])) t → Steps p.tables e below (s₁.setTop (entryFrame m #[(.ref r0)] 1)) t := fun t k => castTop (ef_5 m r0) k
  obtain ⟨T1, X1, e1, st1⟩ := getF X0 hx hZ hown (host := "") (Or.inl (hw _ (List.mem_of_getElem? (i := 28) rfl))) Via.refl e0 F_value (g := (mkF m 1 #[.val (.ref r0)] [(.ref r0)])) rfl rfl (hb hby d5_1)
  obtain ⟨fs, hr, hrun, hended, hW, hsame⟩ := X1.leave (v := (some (.int (0 : Int32)))) (fun h => by rw [Bd.returns] at h; cases h)
  refine ⟨_, _, pre0 _ ?_, hrun, hended, _, _, rfl, ?_, ⟨_, rfl⟩, hW, hsame.mono (by decide) (by decide)⟩
  · show Steps p.tables e below (s₁.setTop (mkF m 0 #[.val (.ref r0)] [])) _
    refine XS.aloadN X0.here hx rfl (hb hby d5_0) rfl rfl ?_
    show Steps p.tables e below (s₁.setTop (mkF m 1 #[.val (.ref r0)] [(.ref r0)])) _
    refine st1 _ ?_
    show Steps p.tables e below (T1.setTop (mkF m 4 #[.val (.ref r0)] [(.ref rv)])) _
    refine XS.ifnonnullYes X1.here hx rfl (pc0 := 4) (pc' := 11) rfl (hb hby d5_4) rfl (by decide) (by decide) ?_
    show Steps p.tables e below (T1.setTop (mkF m 11 #[.val (.ref r0)] [])) _
    refine XS.iconst X1.here hx rfl (hb hby d5_11) ?_
    show Steps p.tables e below (T1.setTop (mkF m 12 #[.val (.ref r0)] [(.int (0 : Int32))])) _
    exact retN X1 hx (t := .boolean) Bd.returns (by simp) (hb hby d5_12) hr
  · show QP (some (.int 0)) h0 n0 _ T1.heap _
    rw [e1]
    exact ⟨rfl, N0, rfl⟩
theorem d5_7 : decode prog_46_method_4_code 7 = .ok (.iconst 1, 1) := by decide +kernel
theorem d5_8 : decode prog_46_method_4_code 8 = .ok (.goto 4, 3) := by decide +kernel
theorem ef_5n (m : MethodId) (x0 : Addr) : entryFrame m #[(.ref x0)] 1 = mkF m 0 #[.val (.ref x0)] [] := by first | (simp [entryFrame, mkF, argsToLocals, Value.category]; done) | rfl
set_option maxRecDepth 65536 in
set_option maxHeartbeats 40000000 in
theorem rm5n (l : Launch) (Z : State) (a0 : Array Value) (hw : ∀ d ∈ tables_1, d.before a0 Z = true) (ws : List Jvm.Cond) (r0 : Addr) (h0 : Heap) (n0 : Nat) (Z0 : n0 ≤ h0.size) (F_value : Fld Z h0 r0 "com/example/sendlimitd/sendlimitd/core/StateStore$Change" "value" "[B" .null) :
    MetFree l (⟨"com/example/sendlimitd/sendlimitd/core/StateStore$Change", "isDelete", "()Z"⟩ : MethodName) (head1 (Jvm.Cond.code (⟨"com/example/sendlimitd/sendlimitd/core/StateStore$Change", "isDelete", "()Z"⟩ : MethodName) prog_46_method_4_code 1 (some .boolean) :: ws) ({ frames := 0, cells := 0, slots := 0, locals := 0 } : Room)) (fun a U => a = #[(.ref r0)] ∧ Z.Warmed39 U.vm ∧ U.heap = h0) (fun _ _ _ _ _ => True) (fun _ U o U' => ∃ v L, o = .returned v ∧ QP (some (.int 1)) h0 n0 v U'.heap L ∧ FrameEnd U o U' L 0 0) := by
  refine MetFree.of_bodySF (plainFor_of_name pn_5) hisR ?_
  intro p e s m args below meth c s₁ Bd hml0 hP hK
  obtain ⟨rfl, hZ, hh⟩ := hP
  have hx := Bd.exec
  have hby := Bd.bytes
  have hml : c.maxLocals = 1 := hml0
  have hown : s.vm.findClass "com/example/sendlimitd/sendlimitd/core/StateStore$Change" = some m.cls := findClass_of_methodNamed Bd.named
  have hnm := (name_of_methodNamed Bd.named Bd.method).1
  have X0 : Stand p l e ({ frames := 0, cells := 0, slots := 0, locals := 0 } : Room) s m #[(.ref r0)] below meth c s₁ [] 0 0 := Stand.of_body Bd
  have e0 : s₁.heap = h0 := by rw [← hh, Bd.state]; rfl
  have N0 := Fr.nil n0
  have pre0 : ∀ t, Steps p.tables e below (s₁.setTop (mkF m 0 #[.val (.ref r0)] [])) t → Steps p.tables e below (s₁.setTop (entryFrame m #[(.ref r0)] 1)) t := fun t k => castTop (ef_5n m r0) k
  obtain ⟨T1, X1, e1, st1⟩ := getF X0 hx hZ hown (host := "") (Or.inl (hw _ (List.mem_of_getElem? (i := 28) rfl))) Via.refl e0 F_value (g := (mkF m 1 #[.val (.ref r0)] [(.ref r0)])) rfl rfl (hb hby d5_1)
  obtain ⟨fs, hr, hrun, hended, hW, hsame⟩ := X1.leave (v := (some (.int (1 : Int32)))) (fun h => by rw [Bd.returns] at h; cases h)
  refine ⟨_, _, pre0 _ ?_, hrun, hended, _, _, rfl, ?_, ⟨_, rfl⟩, hW, hsame.mono (by decide) (by decide)⟩
  · show Steps p.tables e below (s₁.setTop (mkF m 0 #[.val (.ref r0)] [])) _
    refine XS.aloadN X0.here hx rfl (hb hby d5_0) rfl rfl ?_
    show Steps p.tables e below (s₁.setTop (mkF m 1 #[.val (.ref r0)] [(.ref r0)])) _
    refine st1 _ ?_
    show Steps p.tables e below (T1.setTop (mkF m 4 #[.val (.ref r0)] [.null])) _
    refine XS.ifnonnullNo X1.here hx rfl (hb hby d5_4) rfl ?_
    show Steps p.tables e below (T1.setTop (mkF m 7 #[.val (.ref r0)] [])) _
    refine XS.iconst X1.here hx rfl (hb hby d5_7) ?_
    show Steps p.tables e below (T1.setTop (mkF m 8 #[.val (.ref r0)] [(.int (1 : Int32))])) _
    refine XS.goto X1.here hx rfl (pc0 := 8) (pc' := 12) rfl (hb hby d5_8) (by decide) (by decide) ?_
    show Steps p.tables e below (T1.setTop (mkF m 12 #[.val (.ref r0)] [(.int (1 : Int32))])) _
    exact retN X1 hx (t := .boolean) Bd.returns (by simp) (hb hby d5_12) hr
  · show QP (some (.int 1)) h0 n0 _ T1.heap _
    rw [e1]
    exact ⟨rfl, N0, rfl⟩
def QM (Z : State) (w : Value) (h0 : Heap) (n0 : Nat) (v : Option Value) (h : Heap) (L : List Loc) : Prop := ∃ b : Addr, v = some (.ref b) ∧ Fr n0 L ∧ Keep h0 h [] ∧ Exa Z h b "com/example/sendlimitd/sendlimitd/core/StateStore$Change" ∧ Fld Z h b "com/example/sendlimitd/sendlimitd/core/StateStore$Change" "value" "[B" w
theorem d6_0 : decode prog_46_method_3_code 0 = .ok (.new 16, 3) := by decide +kernel
theorem d6_3 : decode prog_46_method_3_code 3 = .ok (.dup, 1) := by decide +kernel
theorem d6_4 : decode prog_46_method_3_code 4 = .ok (.aload_n 0, 1) := by decide +kernel
theorem d6_5 : decode prog_46_method_3_code 5 = .ok (.aconst_null, 1) := by decide +kernel
theorem d6_6 : decode prog_46_method_3_code 6 = .ok (.invokespecial 25, 3) := by decide +kernel
theorem d6_9 : decode prog_46_method_3_code 9 = .ok (.areturn, 1) := by decide +kernel
theorem pn_6 : plainName "com/example/sendlimitd/sendlimitd/core/StateStore$Change" = true := by first | (simp [plainName, overriddenIn]; done) | decide +kernel
theorem ef_6 (m : MethodId) (x0 : Addr) : entryFrame m #[(.ref x0)] 1 = mkF m 0 #[.val (.ref x0)] [] := by first | (simp [entryFrame, mkF, argsToLocals, Value.category]; done) | rfl
theorem pd_2 : parseMethodDescriptor "([B[B)V" = some ⟨[(.array .byte), (.array .byte)], none⟩ := by decide +kernel
set_option maxRecDepth 65536 in
set_option maxHeartbeats 40000000 in
theorem rm6 (l : Launch) (Z : State) (a0 : Array Value) (hw : ∀ d ∈ tables_1, d.before a0 Z = true) (ws : List Jvm.Cond) (r0 : Addr) (h0 : Heap) (n0 : Nat) (Z0 : n0 ≤ h0.size) :
    MetFree l (⟨"com/example/sendlimitd/sendlimitd/core/StateStore$Change", "delete", "([B)Lcom/example/sendlimitd/sendlimitd/core/StateStore$Change;"⟩ : MethodName) (head1 (Jvm.Cond.code (⟨"com/example/sendlimitd/sendlimitd/core/StateStore$Change", "delete", "([B)Lcom/example/sendlimitd/sendlimitd/core/StateStore$Change;"⟩ : MethodName) prog_46_method_3_code 1 (some (.object "com/example/sendlimitd/sendlimitd/core/StateStore$Change")) :: ws) ({ frames := 3, cells := 3, slots := 18, locals := 39 } : Room)) (fun a U => a = #[(.ref r0)] ∧ Z.Warmed39 U.vm ∧ U.heap = h0) (fun _ _ _ _ _ => True) (fun _ U o U' => ∃ v L, o = .returned v ∧ QM Z .null h0 n0 v U'.heap L ∧ ReturnedEndW U o U' L 3 18) := by
  refine MetFree.of_bodySF (plainFor_of_name pn_6) hisR ?_
  intro p e s m args below meth c s₁ Bd hml0 hP hK
  obtain ⟨rfl, hZ, hh⟩ := hP
  have hx := Bd.exec
  have hby := Bd.bytes
  have hml : c.maxLocals = 1 := hml0
  have hown : s.vm.findClass "com/example/sendlimitd/sendlimitd/core/StateStore$Change" = some m.cls := findClass_of_methodNamed Bd.named
  have hnm := (name_of_methodNamed Bd.named Bd.method).1
  have X0 : Stand p l e ({ frames := 3, cells := 3, slots := 18, locals := 39 } : Room) s m #[(.ref r0)] below meth c s₁ [] 0 0 := Stand.of_body Bd
  have e0 : s₁.heap = h0 := by rw [← hh, Bd.state]; rfl
  have N0 := Fr.nil n0
  have pre0 : ∀ t, Steps p.tables e below (s₁.setTop (mkF m 0 #[.val (.ref r0)] [])) t → Steps p.tables e below (s₁.setTop (entryFrame m #[(.ref r0)] 1)) t := fun t k => castTop (ef_6 m r0) k
  have K0 : Keep h0 h0 [] := Keep.refl h0 []
  obtain ⟨T1, h1, X1, e1, E1, A1, D1, -, st1⟩ := newO X0 hx hZ hown (hw _ (List.mem_of_getElem? (i := 38) rfl)) (hw _ (List.mem_of_getElem? (i := 2) rfl)) (hw _ (List.mem_of_getElem? (i := 3) rfl)) e0 (g := (mkF m 0 #[.val (.ref r0)] [])) rfl (hb hby d6_0) (by decide) (by decide)
  obtain ⟨b1, g1⟩ : ∃ z, z = h0.size := ⟨_, rfl⟩
  rw [← g1] at A1 D1 st1
  have g_b1 : n0 ≤ b1 := Nat.le_trans Z0 (Nat.le_of_eq g1.symm)
  have sz_b1 : h0.size ≤ b1 := Nat.le_trans K0.1 (Nat.le_of_eq g1.symm)
  have K1 : Keep h0 h1 [] := K0.ext E1
  have F_key_b1 : Fld Z h1 b1 "com/example/sendlimitd/sendlimitd/core/StateStore$Change" "key" "[B" .null := D1 (Or.inr (hw _ (List.mem_of_getElem? (i := 27) rfl))) (ty := (.array .byte)) (by decide)
  have F_value_b1 : Fld Z h1 b1 "com/example/sendlimitd/sendlimitd/core/StateStore$Change" "value" "[B" .null := D1 (Or.inr (hw _ (List.mem_of_getElem? (i := 29) rfl))) (ty := (.array .byte)) (by decide)
  obtain ⟨_, _, ⟨T2, L2, k2, n2⟩, -, X2, S2q, hg2, ⟨Lc2, hQ2, l2, y2, z2⟩, st2⟩ := X1.specialBackS hx (y := (⟨"com/example/sendlimitd/sendlimitd/core/StateStore$Change", "<init>", "([B[B)V"⟩ : MethodName)) rfl hown (mvT hZ (hw _ (List.mem_of_getElem? (i := 39) rfl))) (mvT hZ (hw _ (List.mem_of_getElem? (i := 5) rfl))) (mvT hZ (hw _ (List.mem_of_getElem? (i := 6) rfl))) (by decide) (backOfS (W := 1) (rm1n l Z a0 hw [] b1 r0  h1 n0 (Nat.le_trans Z0 K1.1) A1 F_key_b1 F_value_b1 g_b1) hZ (hw _ (List.mem_of_getElem? (i := 6) rfl)) (hw _ (List.mem_of_getElem? (i := 3) rfl)) (by decide) (by decide)) (g := (mkF m 6 #[.val (.ref r0)] [.null, (.ref r0), (.ref b1), (.ref b1)])) rfl (by rw [hml]; rfl) (Steps.refl _) (a := b1) (argsL := [(.ref r0), .null]) (rest := [(.ref b1)]) (lenOf pd_2 rfl) rfl (by show 2 * 0 + _ ≤ _; exact Nat.le_of_eq rfl) (hb hby d6_6) (fun _ _ => ⟨rfl, e1, (by decide : 1 + 2 ≤ _), (by decide : 2 + 16 ≤ _)⟩)
  dsimp only [Pt.U, Pt.locs, Pt.cells, Pt.slots] at X2 l2 y2 z2 st2 hQ2 S2q hg2
  subst l2 y2 z2
  have S2 := foldS (s := s) (vm0 := s.vm) ((State.WarmedH.refl s).since 0) (Nat.zero_le _) S2q hg2
  have hZ : Z.Warmed39 (s.setVm T2.vm).vm := State.Warmed39.trans (t := s.setVm s.vm) hZ S2q.1
  have hown : (s.setVm T2.vm).vm.findClass "com/example/sendlimitd/sendlimitd/core/StateStore$Change" = some m.cls := by rw [show (s.setVm T2.vm).vm = T2.vm from rfl, S2q.1.alike.findClass]; exact hown
  obtain ⟨rfl, N2q, K2q, E_r2, F_value2⟩ := hQ2
  have N2 := Fr.app N0 N2q
  have K2 : Keep h0 T2.heap [] := K1.trans K2q (allS (Or.inr sz_b1) all0)
  obtain ⟨fs, hr, hrun, hended, hRE⟩ := X2.leaveW (s := s) (vm₁ := T2.vm) S2 (Nat.le_refl T2.heap.size) (v := (some (.ref b1))) (fun h => by rw [Bd.returns] at h; cases h)
  refine ⟨_, _, pre0 _ ?_, hrun, hended, _, _, rfl, ?_, hRE.1, hRE.2.1, hRE.2.2.1, hRE.2.2.2.mono (by decide) (by decide)⟩
  · show Steps p.tables e below (s₁.setTop (mkF m 0 #[.val (.ref r0)] [])) _
    refine st1 _ ?_
    show Steps p.tables e below (T1.setTop (mkF m 3 #[.val (.ref r0)] [(.ref b1)])) _
    refine XS.dup X1.here hx rfl (hb hby d6_3) rfl rfl ?_
    show Steps p.tables e below (T1.setTop (mkF m 4 #[.val (.ref r0)] [(.ref b1), (.ref b1)])) _
    refine XS.aloadN X1.here hx rfl (hb hby d6_4) rfl rfl ?_
    show Steps p.tables e below (T1.setTop (mkF m 5 #[.val (.ref r0)] [(.ref r0), (.ref b1), (.ref b1)])) _
    refine XS.aconstNull X1.here hx rfl (hb hby d6_5) ?_
    show Steps p.tables e below (T1.setTop (mkF m 6 #[.val (.ref r0)] [.null, (.ref r0), (.ref b1), (.ref b1)])) _
    refine st2.trans ?_
    show Steps p.tables e below (T2.setTop (mkF m 9 #[.val (.ref r0)] [(.ref b1)])) _
    exact retOut X2 hx Bd.returns rfl (Or.inr (Or.inr (Or.inr (Or.inr ⟨rfl, rfl, rfl⟩)))) (hb hby d6_9) hr
  · show QM Z .null h0 n0 _ T2.heap _
    exact ⟨_, rfl, N2, K2, E_r2, F_value2⟩
theorem d7_0 : decode prog_46_method_2_code 0 = .ok (.new 16, 3) := by decide +kernel
theorem d7_3 : decode prog_46_method_2_code 3 = .ok (.dup, 1) := by decide +kernel
theorem d7_4 : decode prog_46_method_2_code 4 = .ok (.aload_n 0, 1) := by decide +kernel
theorem d7_5 : decode prog_46_method_2_code 5 = .ok (.aload_n 1, 1) := by decide +kernel
theorem d7_6 : decode prog_46_method_2_code 6 = .ok (.ldc 23, 2) := by decide +kernel
theorem d7_8 : decode prog_46_method_2_code 8 = .ok (.invokestatic 9, 3) := by decide +kernel
theorem d7_11 : decode prog_46_method_2_code 11 = .ok (.checkcast 24, 3) := by decide +kernel
theorem d7_14 : decode prog_46_method_2_code 14 = .ok (.invokespecial 25, 3) := by decide +kernel
theorem d7_17 : decode prog_46_method_2_code 17 = .ok (.areturn, 1) := by decide +kernel
theorem pn_7 : plainName "com/example/sendlimitd/sendlimitd/core/StateStore$Change" = true := by first | (simp [plainName, overriddenIn]; done) | decide +kernel
theorem ef_7 (m : MethodId) (x0 : Addr) (x1 : Addr) : entryFrame m #[(.ref x0), (.ref x1)] 2 = mkF m 0 #[.val (.ref x0), .val (.ref x1)] [] := by first | (simp [entryFrame, mkF, argsToLocals, Value.category]; done) | rfl
set_option maxRecDepth 65536 in
set_option maxHeartbeats 40000000 in
theorem rm7 (l : Launch) (Z : State) (a0 : Array Value) (hw : ∀ d ∈ tables_1, d.before a0 Z = true) (ws : List Jvm.Cond) (r0 : Addr) (r1 : Addr) (h0 : Heap) (n0 : Nat) (Z0 : n0 ≤ h0.size) (E_v : Exa Z h0 r1 "[B") :
    MetFree l (⟨"com/example/sendlimitd/sendlimitd/core/StateStore$Change", "put", "([B[B)Lcom/example/sendlimitd/sendlimitd/core/StateStore$Change;"⟩ : MethodName) (head1 (Jvm.Cond.code (⟨"com/example/sendlimitd/sendlimitd/core/StateStore$Change", "put", "([B[B)Lcom/example/sendlimitd/sendlimitd/core/StateStore$Change;"⟩ : MethodName) prog_46_method_2_code 2 (some (.object "com/example/sendlimitd/sendlimitd/core/StateStore$Change")) :: ws) ({ frames := 3, cells := 5, slots := 42, locals := 39 } : Room)) (fun a U => a = #[(.ref r0), (.ref r1)] ∧ Z.Warmed39 U.vm ∧ U.heap = h0) (fun _ _ _ _ _ => True) (fun _ U o U' => ∃ v L, o = .returned v ∧ QM Z (.ref r1) h0 n0 v U'.heap L ∧ ReturnedEndW U o U' L 5 42) := by
  refine MetFree.of_bodySF (plainFor_of_name pn_7) hisR ?_
  intro p e s m args below meth c s₁ Bd hml0 hP hK
  obtain ⟨rfl, hZ, hh⟩ := hP
  have hx := Bd.exec
  have hby := Bd.bytes
  have hml : c.maxLocals = 2 := hml0
  have hown : s.vm.findClass "com/example/sendlimitd/sendlimitd/core/StateStore$Change" = some m.cls := findClass_of_methodNamed Bd.named
  have hnm := (name_of_methodNamed Bd.named Bd.method).1
  have X0 : Stand p l e ({ frames := 3, cells := 5, slots := 42, locals := 39 } : Room) s m #[(.ref r0), (.ref r1)] below meth c s₁ [] 0 0 := Stand.of_body Bd
  have e0 : s₁.heap = h0 := by rw [← hh, Bd.state]; rfl
  have N0 := Fr.nil n0
  have pre0 : ∀ t, Steps p.tables e below (s₁.setTop (mkF m 0 #[.val (.ref r0), .val (.ref r1)] [])) t → Steps p.tables e below (s₁.setTop (entryFrame m #[(.ref r0), (.ref r1)] 2)) t := fun t k => castTop (ef_7 m r0 r1) k
  have K0 : Keep h0 h0 [] := Keep.refl h0 []
  obtain ⟨T1, h1, X1, e1, E1, A1, D1, -, st1⟩ := newO X0 hx hZ hown (hw _ (List.mem_of_getElem? (i := 38) rfl)) (hw _ (List.mem_of_getElem? (i := 2) rfl)) (hw _ (List.mem_of_getElem? (i := 3) rfl)) e0 (g := (mkF m 0 #[.val (.ref r0), .val (.ref r1)] [])) rfl (hb hby d7_0) (by decide) (by decide)
  obtain ⟨b1, g1⟩ : ∃ z, z = h0.size := ⟨_, rfl⟩
  rw [← g1] at A1 D1 st1
  have g_b1 : n0 ≤ b1 := Nat.le_trans Z0 (Nat.le_of_eq g1.symm)
  have sz_b1 : h0.size ≤ b1 := Nat.le_trans K0.1 (Nat.le_of_eq g1.symm)
  have ne_r1_b1 : r1 ≠ b1 := Nat.ne_of_lt (Nat.lt_of_lt_of_le E_v.lt (Nat.le_of_eq g1.symm))
  have E_v_2 := E_v.ext E1
  have K1 : Keep h0 h1 [] := K0.ext E1
  have F_key_b1 : Fld Z h1 b1 "com/example/sendlimitd/sendlimitd/core/StateStore$Change" "key" "[B" .null := D1 (Or.inr (hw _ (List.mem_of_getElem? (i := 27) rfl))) (ty := (.array .byte)) (by decide)
  have F_value_b1 : Fld Z h1 b1 "com/example/sendlimitd/sendlimitd/core/StateStore$Change" "value" "[B" .null := D1 (Or.inr (hw _ (List.mem_of_getElem? (i := 29) rfl))) (ty := (.array .byte)) (by decide)
  obtain ⟨a3, T3, h3, k3, X3, e3, E3, S3, hle3, hZ3, hown3, st3⟩ := ldcS (s := s) (vm0 := s.vm) X1 hx hZ hown (hw _ (List.mem_of_getElem? (i := 43) rfl)) (own_wS hw) e1 ((State.WarmedH.refl s).since 0) (Nat.zero_le _) (g := (mkF m 6 #[.val (.ref r0), .val (.ref r1)] [(.ref r1), (.ref r0), (.ref b1), (.ref b1)])) rfl (hb hby d7_6) (n := 20) (by decide) (by decide) (by decide) (by decide)
  have hZ := hZ3
  have hown := hown3
  have E_v_4 := E_v_2.ext E3
  have A1_5 := A1.ext E3
  have F_key_b1_6 := F_key_b1.ext E3
  have F_value_b1_7 := F_value_b1.ext E3
  have K3 : Keep h0 h3 [] := K1.ext E3
  obtain ⟨_, _, ⟨T8, L8, k8, n8⟩, -, X8, ⟨Lc8, hQ8, l8, y8, z8⟩, st8⟩ := Jvm.LawKit.callS X3 hx (y := (⟨"java/util/Objects", "requireNonNull", "(Ljava/lang/Object;Ljava/lang/String;)Ljava/lang/Object;"⟩ : MethodName)) hown (mvT hZ (hw _ (List.mem_of_getElem? (i := 22) rfl))) (mvT hZ (hw _ (List.mem_of_getElem? (i := 23) rfl))) (mvT hZ (hw _ (List.mem_of_getElem? (i := 24) rfl))) (mvT hZ (hw _ (List.mem_of_getElem? (i := 25) rfl))) (by decide) (backOf (W := 3) (rm4 l Z a0 hw [] r1 a3  h3 n0 (Nat.le_trans Z0 K3.1) ) hZ (hw _ (List.mem_of_getElem? (i := 25) rfl)) (hw _ (List.mem_of_getElem? (i := 24) rfl)) (by decide) (by decide)) (g := (mkF m 8 #[.val (.ref r0), .val (.ref r1)] [(.ref a3), (.ref r1), (.ref r0), (.ref b1), (.ref b1)])) rfl (by rw [hml]; rfl) (argsL := [(.ref r1), (.ref a3)]) (rest := [(.ref r0), (.ref b1), (.ref b1)]) (lenOf pd_1 rfl) rfl (by show 2 * 0 + _ ≤ _; exact Nat.le_of_eq rfl) (hb hby d7_8) (fun _ _ => ⟨rfl, e3, (by decide : 3 + 0 ≤ _), (by decide : 26 + 0 ≤ _)⟩)
  dsimp only [Pt.U, Pt.locs, Pt.cells, Pt.slots] at X8 l8 y8 z8 st8 hQ8
  subst l8 y8 z8
  obtain ⟨rfl, N8q, e8⟩ := hQ8
  have N8 := Fr.app N0 N8q
  obtain ⟨T9, X9, e9, st9⟩ := castY X8 hx hZ hown (hw _ (List.mem_of_getElem? (i := 44) rfl)) e8 (Ins.self E_v_4) (g := (mkF m 11 #[.val (.ref r0), .val (.ref r1)] [(.ref r1), (.ref r0), (.ref b1), (.ref b1)])) rfl rfl (hb hby d7_11)
  obtain ⟨_, _, ⟨T10, L10, k10, n10⟩, -, X10, S10q, hg10, ⟨Lc10, hQ10, l10, y10, z10⟩, st10⟩ := X9.specialBackS hx (y := (⟨"com/example/sendlimitd/sendlimitd/core/StateStore$Change", "<init>", "([B[B)V"⟩ : MethodName)) rfl hown (mvT hZ (hw _ (List.mem_of_getElem? (i := 39) rfl))) (mvT hZ (hw _ (List.mem_of_getElem? (i := 5) rfl))) (mvT hZ (hw _ (List.mem_of_getElem? (i := 6) rfl))) (by decide) (backOfS (W := 1) (rm1 l Z a0 hw [] b1 r0 r1  h3 n0 (Nat.le_trans Z0 K3.1) A1_5 F_key_b1_6 F_value_b1_7 g_b1) hZ (hw _ (List.mem_of_getElem? (i := 6) rfl)) (hw _ (List.mem_of_getElem? (i := 3) rfl)) (by decide) (by decide)) (g := (mkF m 14 #[.val (.ref r0), .val (.ref r1)] [(.ref r1), (.ref r0), (.ref b1), (.ref b1)])) rfl (by rw [hml]; rfl) (Steps.refl _) (a := b1) (argsL := [(.ref r0), (.ref r1)]) (rest := [(.ref b1)]) (lenOf pd_2 rfl) rfl (by show 2 * 0 + _ ≤ _; exact Nat.le_of_eq rfl) (hb hby d7_14) (fun _ _ => ⟨rfl, e9, (by decide : 3 + 2 ≤ _), (by decide : 26 + 16 ≤ _)⟩)
  dsimp only [Pt.U, Pt.locs, Pt.cells, Pt.slots] at X10 l10 y10 z10 st10 hQ10 S10q hg10
  subst l10 y10 z10
  have S10 := foldS (s := s) (vm0 := T3.vm) S3 (by rw [e9]; exact hle3) S10q hg10
  have hZ : Z.Warmed39 (s.setVm T10.vm).vm := State.Warmed39.trans (t := s.setVm T3.vm) hZ S10q.1
  have hown : (s.setVm T10.vm).vm.findClass "com/example/sendlimitd/sendlimitd/core/StateStore$Change" = some m.cls := by rw [show (s.setVm T10.vm).vm = T10.vm from rfl, S10q.1.alike.findClass]; exact hown
  obtain ⟨rfl, N10q, K10q, E_r10, F_value10⟩ := hQ10
  have N10 := Fr.app N8 N10q
  have K10 : Keep h0 T10.heap [] := K3.trans K10q (allS (Or.inr sz_b1) all0)
  have E_v_11 := E_v_4.keep K10q
  obtain ⟨fs, hr, hrun, hended, hRE⟩ := X10.leaveW (s := s) (vm₁ := T10.vm) S10 (Nat.le_refl T10.heap.size) (v := (some (.ref b1))) (fun h => by rw [Bd.returns] at h; cases h)
  refine ⟨_, _, pre0 _ ?_, hrun, hended, _, _, rfl, ?_, hRE.1, hRE.2.1, hRE.2.2.1, hRE.2.2.2.mono (by decide) (by decide)⟩
  · show Steps p.tables e below (s₁.setTop (mkF m 0 #[.val (.ref r0), .val (.ref r1)] [])) _
    refine st1 _ ?_
    show Steps p.tables e below (T1.setTop (mkF m 3 #[.val (.ref r0), .val (.ref r1)] [(.ref b1)])) _
    refine XS.dup X1.here hx rfl (hb hby d7_3) rfl rfl ?_
    show Steps p.tables e below (T1.setTop (mkF m 4 #[.val (.ref r0), .val (.ref r1)] [(.ref b1), (.ref b1)])) _
    refine XS.aloadN X1.here hx rfl (hb hby d7_4) rfl rfl ?_
    show Steps p.tables e below (T1.setTop (mkF m 5 #[.val (.ref r0), .val (.ref r1)] [(.ref r0), (.ref b1), (.ref b1)])) _
    refine XS.aloadN X1.here hx rfl (hb hby d7_5) rfl rfl ?_
    show Steps p.tables e below (T1.setTop (mkF m 6 #[.val (.ref r0), .val (.ref r1)] [(.ref r1), (.ref r0), (.ref b1), (.ref b1)])) _
    refine st3 _ ?_
    show Steps p.tables e below (T3.setTop (mkF m 8 #[.val (.ref r0), .val (.ref r1)] [(.ref a3), (.ref r1), (.ref r0), (.ref b1), (.ref b1)])) _
    refine st8 _ ?_
    show Steps p.tables e below (T8.setTop (mkF m 11 #[.val (.ref r0), .val (.ref r1)] [(.ref r1), (.ref r0), (.ref b1), (.ref b1)])) _
    refine st9 _ ?_
    show Steps p.tables e below (T9.setTop (mkF m 14 #[.val (.ref r0), .val (.ref r1)] [(.ref r1), (.ref r0), (.ref b1), (.ref b1)])) _
    refine st10.trans ?_
    show Steps p.tables e below (T10.setTop (mkF m 17 #[.val (.ref r0), .val (.ref r1)] [(.ref b1)])) _
    exact retOut X10 hx Bd.returns rfl (Or.inr (Or.inr (Or.inr (Or.inr ⟨rfl, rfl, rfl⟩)))) (hb hby d7_17) hr
  · show QM Z (.ref r1) h0 n0 _ T10.heap _
    exact ⟨_, rfl, N10, K10, E_r10, F_value10⟩
theorem pn_0 : plainName "com/example/sendlimitd/sendlimitd/core/ChangeIsDeletePinLaw" = true := by first | (simp [plainName, overriddenIn]; done) | decide +kernel
theorem ef_0 (m : MethodId) (x0 : Int32) (x1 : Int32) (x2 : Int32) : entryFrame m #[(.int x0), (.int x1), (.int x2)] maxLocals = mkF m 0 #[.val (.int x0), .val (.int x1), .val (.int x2), .unset, .unset, .unset, .unset, .unset, .unset] [] := by first | (simp [entryFrame, mkF, argsToLocals, Value.category, maxLocals]; done) | rfl
def j0_47 (u2 : Int32) : Int32 := (if (((u2.toUInt32 >>> ((8 : Int32) &&& 31).toUInt32).toInt32) &&& (1 : Int32)) = (0 : Int32) then (0 : Int32) else (1 : Int32))
theorem pd_3 : parseMethodDescriptor "()Z" = some ⟨[], some .boolean⟩ := by decide +kernel
theorem pd_4 : parseMethodDescriptor "([B)Lcom/example/sendlimitd/sendlimitd/core/StateStore$Change;" = some ⟨[(.array .byte)], some (.object "com/example/sendlimitd/sendlimitd/core/StateStore$Change")⟩ := by decide +kernel
theorem pd_5 : parseMethodDescriptor "([B[B)Lcom/example/sendlimitd/sendlimitd/core/StateStore$Change;" = some ⟨[(.array .byte), (.array .byte)], some (.object "com/example/sendlimitd/sendlimitd/core/StateStore$Change")⟩ := by decide +kernel
theorem own_cap3 (x : Int32) : (x &&& (3 : Int32)).toNatClampNeg ≤ 3 := by
  have h := c_mask x 3 2 (by decide) (by decide)
  have := nat_of (own_and3 x).1
  omega
theorem own_last (x : Int32) (h : (0 : Int32) < (x &&& (3 : Int32))) : ¬ ((x &&& (3 : Int32)) - (1 : Int32)) < 0 ∧ ((x &&& (3 : Int32)) - (1 : Int32)) < (x &&& (3 : Int32)) := by
  have h1 := c_mask x 3 2 (by decide) (by decide)
  have h2 := c_isub (x &&& 3) 1
  have h3 := rng32 ((x &&& 3) - 1)
  simp only [Int32.lt_iff_toInt_lt, show (0 : Int32).toInt = 0 from rfl, show (1 : Int32).toInt = 1 from rfl] at h h2 ⊢
  omega
theorem own_j1 {u : Int32} (h : ¬ (j0_47 u) = (0 : Int32)) : j0_47 u = 1 := by
  unfold j0_47 at h ⊢
  split
  · rename_i q
    exact absurd (if_pos q) h
  · rfl
set_option maxRecDepth 65536 in
set_option maxHeartbeats 40000000 in
theorem rm0 (l : Launch) (Z : State) (a0 : Array Value) (hw : ∀ d ∈ tables_1, d.before a0 Z = true) (ws : List Jvm.Cond) (u0 : Int32) (u1 : Int32) (u2 : Int32) (h0 : Heap) (n0 : Nat) (Z0 : n0 ≤ h0.size) :
    MetFree l x (head1 (Jvm.Cond.code x code maxLocals ret :: ws) room_1) (fun a U => a = #[(.int u0), (.int u1), (.int u2)] ∧ Z.Warmed39 U.vm ∧ U.heap = h0) (fun _ _ _ _ _ => True) (fun _ U o U' => ∃ v L, o = .returned v ∧ QL n0 v U'.heap L ∧ ReturnedEndW U o U' L 13 84) := by
  refine MetFree.of_bodySF (plainFor_of_name pn_0) hisR ?_
  intro p e s m args below meth c s₁ Bd hml0 hP hK
  obtain ⟨rfl, hZ, hh⟩ := hP
  have hx := Bd.exec
  have hby := Bd.bytes
  have hml : c.maxLocals = 9 := hml0
  have hown : s.vm.findClass "com/example/sendlimitd/sendlimitd/core/ChangeIsDeletePinLaw" = some m.cls := findClass_of_methodNamed Bd.named
  have hnm := (name_of_methodNamed Bd.named Bd.method).1
  have X0 : Stand p l e room_1 s m #[(.int u0), (.int u1), (.int u2)] below meth c s₁ [] 0 0 := Stand.of_body Bd
  have e0 : s₁.heap = h0 := by rw [← hh, Bd.state]; rfl
  have N0 := Fr.nil n0
  have pre0 : ∀ t, Steps p.tables e below (s₁.setTop (mkF m 0 #[.val (.int u0), .val (.int u1), .val (.int u2), .unset, .unset, .unset, .unset, .unset, .unset] [])) t → Steps p.tables e below (s₁.setTop (entryFrame m #[(.int u0), (.int u1), (.int u2)] maxLocals)) t := fun t k => castTop (ef_0 m u0 u1 u2) k
  have K0 : Keep h0 h0 [] := Keep.refl h0 []
  obtain ⟨T1, h1, k1, X1, e1, E1, A1, Q1, st1⟩ := newPE X0 hx hZ (hw _ (List.mem_of_getElem? (i := 0) rfl)) e0 (g := (mkF m 10 #[.val (.int u0), .val (.int u1), .val (.int u2), .val (.int (u0 &&& (3 : Int32))), .val (.int (u1 &&& (3 : Int32))), .unset, .unset, .unset, .unset] [(.int (u0 &&& (3 : Int32)))])) rfl (hb hby at_10) rfl (own_and3 _).1 (cap := 3) (own_cap3 _) (by decide) (by decide) (by decide) (ad := "[B") rfl
  obtain ⟨b1, g1⟩ : ∃ z, z = h0.size := ⟨_, rfl⟩
  rw [← g1] at A1 Q1 st1
  have g_b1 : n0 ≤ b1 := Nat.le_trans Z0 (Nat.le_of_eq g1.symm)
  have sz_b1 : h0.size ≤ b1 := Nat.le_trans K0.1 (Nat.le_of_eq g1.symm)
  have K1 : Keep h0 h1 [] := K0.ext E1
  have pre2 : ∀ t, Steps p.tables e below (T1.setTop (mkF m 15 #[.val (.int u0), .val (.int u1), .val (.int u2), .val (.int (u0 &&& (3 : Int32))), .val (.int (u1 &&& (3 : Int32))), .val (.ref b1), .unset, .unset, .unset] [(.int (u0 &&& (3 : Int32)))])) t → Steps p.tables e below (s₁.setTop (entryFrame m #[(.int u0), (.int u1), (.int u2)] maxLocals)) t := fun t k => pre0 t (by
    show Steps p.tables e below (s₁.setTop (mkF m 0 #[.val (.int u0), .val (.int u1), .val (.int u2), .unset, .unset, .unset, .unset, .unset, .unset] [])) _
    refine XS.iloadN X0.here hx rfl (hb hby at_0) rfl ?_
    show Steps p.tables e below (s₁.setTop (mkF m 1 #[.val (.int u0), .val (.int u1), .val (.int u2), .unset, .unset, .unset, .unset, .unset, .unset] [(.int u0)])) _
    refine XS.iconst X0.here hx rfl (hb hby at_1) ?_
    show Steps p.tables e below (s₁.setTop (mkF m 2 #[.val (.int u0), .val (.int u1), .val (.int u2), .unset, .unset, .unset, .unset, .unset, .unset] [(.int (3 : Int32)), (.int u0)])) _
    refine XS.iand X0.here hx rfl (hb hby at_2) rfl ?_
    show Steps p.tables e below (s₁.setTop (mkF m 3 #[.val (.int u0), .val (.int u1), .val (.int u2), .unset, .unset, .unset, .unset, .unset, .unset] [(.int (u0 &&& (3 : Int32)))])) _
    refine XS.istoreN X0.here hx rfl (hb hby at_3) rfl (l' := #[.val (.int u0), .val (.int u1), .val (.int u2), .val (.int (u0 &&& (3 : Int32))), .unset, .unset, .unset, .unset, .unset]) rfl ?_
    show Steps p.tables e below (s₁.setTop (mkF m 4 #[.val (.int u0), .val (.int u1), .val (.int u2), .val (.int (u0 &&& (3 : Int32))), .unset, .unset, .unset, .unset, .unset] [])) _
    refine XS.iloadN X0.here hx rfl (hb hby at_4) rfl ?_
    show Steps p.tables e below (s₁.setTop (mkF m 5 #[.val (.int u0), .val (.int u1), .val (.int u2), .val (.int (u0 &&& (3 : Int32))), .unset, .unset, .unset, .unset, .unset] [(.int u1)])) _
    refine XS.iconst X0.here hx rfl (hb hby at_5) ?_
    show Steps p.tables e below (s₁.setTop (mkF m 6 #[.val (.int u0), .val (.int u1), .val (.int u2), .val (.int (u0 &&& (3 : Int32))), .unset, .unset, .unset, .unset, .unset] [(.int (3 : Int32)), (.int u1)])) _
    refine XS.iand X0.here hx rfl (hb hby at_6) rfl ?_
    show Steps p.tables e below (s₁.setTop (mkF m 7 #[.val (.int u0), .val (.int u1), .val (.int u2), .val (.int (u0 &&& (3 : Int32))), .unset, .unset, .unset, .unset, .unset] [(.int (u1 &&& (3 : Int32)))])) _
    refine XS.istore X0.here hx rfl (hb hby at_7) rfl (l' := #[.val (.int u0), .val (.int u1), .val (.int u2), .val (.int (u0 &&& (3 : Int32))), .val (.int (u1 &&& (3 : Int32))), .unset, .unset, .unset, .unset]) rfl ?_
    show Steps p.tables e below (s₁.setTop (mkF m 9 #[.val (.int u0), .val (.int u1), .val (.int u2), .val (.int (u0 &&& (3 : Int32))), .val (.int (u1 &&& (3 : Int32))), .unset, .unset, .unset, .unset] [])) _
    refine XS.iloadN X0.here hx rfl (hb hby at_9) rfl ?_
    show Steps p.tables e below (s₁.setTop (mkF m 10 #[.val (.int u0), .val (.int u1), .val (.int u2), .val (.int (u0 &&& (3 : Int32))), .val (.int (u1 &&& (3 : Int32))), .unset, .unset, .unset, .unset] [(.int (u0 &&& (3 : Int32)))])) _
    refine st1 _ ?_
    show Steps p.tables e below (T1.setTop (mkF m 12 #[.val (.int u0), .val (.int u1), .val (.int u2), .val (.int (u0 &&& (3 : Int32))), .val (.int (u1 &&& (3 : Int32))), .unset, .unset, .unset, .unset] [(.ref b1)])) _
    refine XS.astore X1.here hx rfl (hb hby at_12) rfl rfl (l' := #[.val (.int u0), .val (.int u1), .val (.int u2), .val (.int (u0 &&& (3 : Int32))), .val (.int (u1 &&& (3 : Int32))), .val (.ref b1), .unset, .unset, .unset]) rfl ?_
    show Steps p.tables e below (T1.setTop (mkF m 14 #[.val (.int u0), .val (.int u1), .val (.int u2), .val (.int (u0 &&& (3 : Int32))), .val (.int (u1 &&& (3 : Int32))), .val (.ref b1), .unset, .unset, .unset] [])) _
    refine XS.iloadN X1.here hx rfl (hb hby at_14) rfl ?_
    exact k)
  by_cases hc15 : (0 : Int32) < (u0 &&& (3 : Int32))
  · -- pc 15: (0 : Int32) < (u0 &&& (3 : Int32))
    obtain ⟨T3, h3, X3, e3, W3, st3⟩ := stB X1 hx hZ e1 A1 (j := (0 : Int32)) (inb_of (sz_new _ _ _) ⟨by decide, hc15⟩) (g := (mkF m 23 #[.val (.int u0), .val (.int u1), .val (.int u2), .val (.int (u0 &&& (3 : Int32))), .val (.int (u1 &&& (3 : Int32))), .val (.ref b1), .unset, .unset, .unset] [(.int (u2.toInt8.toInt32)), (.int (0 : Int32)), (.ref b1)])) rfl rfl (hb hby at_23)
    have Q1_4 := Q1.wr W3
    have K3 : Keep h0 h3 [] := K1.wr W3 (Or.inr sz_b1)
    have N3 := Fr.snoc X3 N0 g_b1
    obtain ⟨T5, h5, k5, X5, e5, E5, A5, Q5, st5⟩ := newPE X3 hx hZ (hw _ (List.mem_of_getElem? (i := 0) rfl)) e3 (g := (mkF m 26 #[.val (.int u0), .val (.int u1), .val (.int u2), .val (.int (u0 &&& (3 : Int32))), .val (.int (u1 &&& (3 : Int32))), .val (.ref b1), .unset, .unset, .unset] [(.int (u1 &&& (3 : Int32)))])) rfl (hb hby at_26) rfl (own_and3 _).1 (cap := 3) (own_cap3 _) (by decide) (by decide) (by decide) (ad := "[B") rfl
    obtain ⟨b5, g5⟩ : ∃ z, z = h3.size := ⟨_, rfl⟩
    rw [← g5] at A5 Q5 st5
    have g_b5 : n0 ≤ b5 := Nat.le_trans (Nat.le_trans Z0 K3.1) (Nat.le_of_eq g5.symm)
    have sz_b5 : h0.size ≤ b5 := Nat.le_trans K3.1 (Nat.le_of_eq g5.symm)
    have ne_b1_b5 : b1 ≠ b5 := Nat.ne_of_lt (Nat.lt_of_lt_of_le Q1_4.lt (Nat.le_of_eq g5.symm))
    have Q1_6 := Q1_4.ext E5
    have K5 : Keep h0 h5 [] := K3.ext E5
    have pre7 : ∀ t, Steps p.tables e below (T5.setTop (mkF m 32 #[.val (.int u0), .val (.int u1), .val (.int u2), .val (.int (u0 &&& (3 : Int32))), .val (.int (u1 &&& (3 : Int32))), .val (.ref b1), .val (.ref b5), .unset, .unset] [(.int (u1 &&& (3 : Int32)))])) t → Steps p.tables e below (s₁.setTop (entryFrame m #[(.int u0), (.int u1), (.int u2)] maxLocals)) t := fun t k => pre2 t (by
      show Steps p.tables e below (T1.setTop (mkF m 15 #[.val (.int u0), .val (.int u1), .val (.int u2), .val (.int (u0 &&& (3 : Int32))), .val (.int (u1 &&& (3 : Int32))), .val (.ref b1), .unset, .unset, .unset] [(.int (u0 &&& (3 : Int32)))])) _
      refine XS.ifNo X1.here hx rfl (hb hby at_15) rfl ((if0 _ _).trans (tlt hc15).2.2.2) ?_
      show Steps p.tables e below (T1.setTop (mkF m 18 #[.val (.int u0), .val (.int u1), .val (.int u2), .val (.int (u0 &&& (3 : Int32))), .val (.int (u1 &&& (3 : Int32))), .val (.ref b1), .unset, .unset, .unset] [])) _
      refine XS.aload X1.here hx rfl (hb hby at_18) rfl rfl ?_
      show Steps p.tables e below (T1.setTop (mkF m 20 #[.val (.int u0), .val (.int u1), .val (.int u2), .val (.int (u0 &&& (3 : Int32))), .val (.int (u1 &&& (3 : Int32))), .val (.ref b1), .unset, .unset, .unset] [(.ref b1)])) _
      refine XS.iconst X1.here hx rfl (hb hby at_20) ?_
      show Steps p.tables e below (T1.setTop (mkF m 21 #[.val (.int u0), .val (.int u1), .val (.int u2), .val (.int (u0 &&& (3 : Int32))), .val (.int (u1 &&& (3 : Int32))), .val (.ref b1), .unset, .unset, .unset] [(.int (0 : Int32)), (.ref b1)])) _
      refine XS.iloadN X1.here hx rfl (hb hby at_21) rfl ?_
      show Steps p.tables e below (T1.setTop (mkF m 22 #[.val (.int u0), .val (.int u1), .val (.int u2), .val (.int (u0 &&& (3 : Int32))), .val (.int (u1 &&& (3 : Int32))), .val (.ref b1), .unset, .unset, .unset] [(.int u2), (.int (0 : Int32)), (.ref b1)])) _
      refine XS.i2b X1.here hx rfl (hb hby at_22) rfl ?_
      show Steps p.tables e below (T1.setTop (mkF m 23 #[.val (.int u0), .val (.int u1), .val (.int u2), .val (.int (u0 &&& (3 : Int32))), .val (.int (u1 &&& (3 : Int32))), .val (.ref b1), .unset, .unset, .unset] [(.int (u2.toInt8.toInt32)), (.int (0 : Int32)), (.ref b1)])) _
      refine st3 _ ?_
      show Steps p.tables e below (T3.setTop (mkF m 24 #[.val (.int u0), .val (.int u1), .val (.int u2), .val (.int (u0 &&& (3 : Int32))), .val (.int (u1 &&& (3 : Int32))), .val (.ref b1), .unset, .unset, .unset] [])) _
      refine XS.iload X3.here hx rfl (hb hby at_24) rfl ?_
      show Steps p.tables e below (T3.setTop (mkF m 26 #[.val (.int u0), .val (.int u1), .val (.int u2), .val (.int (u0 &&& (3 : Int32))), .val (.int (u1 &&& (3 : Int32))), .val (.ref b1), .unset, .unset, .unset] [(.int (u1 &&& (3 : Int32)))])) _
      refine st5 _ ?_
      show Steps p.tables e below (T5.setTop (mkF m 28 #[.val (.int u0), .val (.int u1), .val (.int u2), .val (.int (u0 &&& (3 : Int32))), .val (.int (u1 &&& (3 : Int32))), .val (.ref b1), .unset, .unset, .unset] [(.ref b5)])) _
      refine XS.astore X5.here hx rfl (hb hby at_28) rfl rfl (l' := #[.val (.int u0), .val (.int u1), .val (.int u2), .val (.int (u0 &&& (3 : Int32))), .val (.int (u1 &&& (3 : Int32))), .val (.ref b1), .val (.ref b5), .unset, .unset]) rfl ?_
      show Steps p.tables e below (T5.setTop (mkF m 30 #[.val (.int u0), .val (.int u1), .val (.int u2), .val (.int (u0 &&& (3 : Int32))), .val (.int (u1 &&& (3 : Int32))), .val (.ref b1), .val (.ref b5), .unset, .unset] [])) _
      refine XS.iload X5.here hx rfl (hb hby at_30) rfl ?_
      exact k)
    by_cases hc32 : (0 : Int32) < (u1 &&& (3 : Int32))
    · -- pc 32: (0 : Int32) < (u1 &&& (3 : Int32))
      obtain ⟨T8, h8, X8, e8, W8, st8⟩ := stB X5 hx hZ e5 A5 (j := ((u1 &&& (3 : Int32)) - (1 : Int32))) (inb_of (sz_new _ _ _) (own_last _ hc32)) (g := (mkF m 46 #[.val (.int u0), .val (.int u1), .val (.int u2), .val (.int (u0 &&& (3 : Int32))), .val (.int (u1 &&& (3 : Int32))), .val (.ref b1), .val (.ref b5), .unset, .unset] [(.int (((u2.toUInt32 >>> ((16 : Int32) &&& 31).toUInt32).toInt32).toInt8.toInt32)), (.int ((u1 &&& (3 : Int32)) - (1 : Int32))), (.ref b5)])) rfl rfl (hb hby at_46)
      have Q1_9 := Q1_6.wr W8
      have Q5_10 := Q5.wr W8
      have K8 : Keep h0 h8 [] := K5.wr W8 (Or.inr sz_b5)
      have N8 := Fr.snoc X8 N3 g_b5
      have pre11 : ∀ t, Steps p.tables e below (T8.setTop (mkF m 47 #[.val (.int u0), .val (.int u1), .val (.int u2), .val (.int (u0 &&& (3 : Int32))), .val (.int (u1 &&& (3 : Int32))), .val (.ref b1), .val (.ref b5), .unset, .unset] [])) t → Steps p.tables e below (s₁.setTop (entryFrame m #[(.int u0), (.int u1), (.int u2)] maxLocals)) t := fun t k => pre7 t (by
        show Steps p.tables e below (T5.setTop (mkF m 32 #[.val (.int u0), .val (.int u1), .val (.int u2), .val (.int (u0 &&& (3 : Int32))), .val (.int (u1 &&& (3 : Int32))), .val (.ref b1), .val (.ref b5), .unset, .unset] [(.int (u1 &&& (3 : Int32)))])) _
        refine XS.ifNo X5.here hx rfl (hb hby at_32) rfl ((if0 _ _).trans (tlt hc32).2.2.2) ?_
        show Steps p.tables e below (T5.setTop (mkF m 35 #[.val (.int u0), .val (.int u1), .val (.int u2), .val (.int (u0 &&& (3 : Int32))), .val (.int (u1 &&& (3 : Int32))), .val (.ref b1), .val (.ref b5), .unset, .unset] [])) _
        refine XS.aload X5.here hx rfl (hb hby at_35) rfl rfl ?_
        show Steps p.tables e below (T5.setTop (mkF m 37 #[.val (.int u0), .val (.int u1), .val (.int u2), .val (.int (u0 &&& (3 : Int32))), .val (.int (u1 &&& (3 : Int32))), .val (.ref b1), .val (.ref b5), .unset, .unset] [(.ref b5)])) _
        refine XS.iload X5.here hx rfl (hb hby at_37) rfl ?_
        show Steps p.tables e below (T5.setTop (mkF m 39 #[.val (.int u0), .val (.int u1), .val (.int u2), .val (.int (u0 &&& (3 : Int32))), .val (.int (u1 &&& (3 : Int32))), .val (.ref b1), .val (.ref b5), .unset, .unset] [(.int (u1 &&& (3 : Int32))), (.ref b5)])) _
        refine XS.iconst X5.here hx rfl (hb hby at_39) ?_
        show Steps p.tables e below (T5.setTop (mkF m 40 #[.val (.int u0), .val (.int u1), .val (.int u2), .val (.int (u0 &&& (3 : Int32))), .val (.int (u1 &&& (3 : Int32))), .val (.ref b1), .val (.ref b5), .unset, .unset] [(.int (1 : Int32)), (.int (u1 &&& (3 : Int32))), (.ref b5)])) _
        refine XS.isub X5.here hx rfl (hb hby at_40) rfl ?_
        show Steps p.tables e below (T5.setTop (mkF m 41 #[.val (.int u0), .val (.int u1), .val (.int u2), .val (.int (u0 &&& (3 : Int32))), .val (.int (u1 &&& (3 : Int32))), .val (.ref b1), .val (.ref b5), .unset, .unset] [(.int ((u1 &&& (3 : Int32)) - (1 : Int32))), (.ref b5)])) _
        refine XS.iloadN X5.here hx rfl (hb hby at_41) rfl ?_
        show Steps p.tables e below (T5.setTop (mkF m 42 #[.val (.int u0), .val (.int u1), .val (.int u2), .val (.int (u0 &&& (3 : Int32))), .val (.int (u1 &&& (3 : Int32))), .val (.ref b1), .val (.ref b5), .unset, .unset] [(.int u2), (.int ((u1 &&& (3 : Int32)) - (1 : Int32))), (.ref b5)])) _
        refine XS.bipush X5.here hx rfl (hb hby at_42) ?_
        show Steps p.tables e below (T5.setTop (mkF m 44 #[.val (.int u0), .val (.int u1), .val (.int u2), .val (.int (u0 &&& (3 : Int32))), .val (.int (u1 &&& (3 : Int32))), .val (.ref b1), .val (.ref b5), .unset, .unset] [(.int (16 : Int32)), (.int u2), (.int ((u1 &&& (3 : Int32)) - (1 : Int32))), (.ref b5)])) _
        refine XS.iushr X5.here hx rfl (hb hby at_44) rfl ?_
        show Steps p.tables e below (T5.setTop (mkF m 45 #[.val (.int u0), .val (.int u1), .val (.int u2), .val (.int (u0 &&& (3 : Int32))), .val (.int (u1 &&& (3 : Int32))), .val (.ref b1), .val (.ref b5), .unset, .unset] [(.int ((u2.toUInt32 >>> ((16 : Int32) &&& 31).toUInt32).toInt32)), (.int ((u1 &&& (3 : Int32)) - (1 : Int32))), (.ref b5)])) _
        refine XS.i2b X5.here hx rfl (hb hby at_45) rfl ?_
        show Steps p.tables e below (T5.setTop (mkF m 46 #[.val (.int u0), .val (.int u1), .val (.int u2), .val (.int (u0 &&& (3 : Int32))), .val (.int (u1 &&& (3 : Int32))), .val (.ref b1), .val (.ref b5), .unset, .unset] [(.int (((u2.toUInt32 >>> ((16 : Int32) &&& 31).toUInt32).toInt32).toInt8.toInt32)), (.int ((u1 &&& (3 : Int32)) - (1 : Int32))), (.ref b5)])) _
        refine st8 _ ?_
        exact k)
      have pre12 : ∀ t, Steps p.tables e below (T8.setTop (mkF m 61 #[.val (.int u0), .val (.int u1), .val (.int u2), .val (.int (u0 &&& (3 : Int32))), .val (.int (u1 &&& (3 : Int32))), .val (.ref b1), .val (.ref b5), .unset, .unset] [(.int (j0_47 u2))])) t → Steps p.tables e below (s₁.setTop (entryFrame m #[(.int u0), (.int u1), (.int u2)] maxLocals)) t := by
        have pre13 : ∀ t, Steps p.tables e below (T8.setTop (mkF m 53 #[.val (.int u0), .val (.int u1), .val (.int u2), .val (.int (u0 &&& (3 : Int32))), .val (.int (u1 &&& (3 : Int32))), .val (.ref b1), .val (.ref b5), .unset, .unset] [(.int (((u2.toUInt32 >>> ((8 : Int32) &&& 31).toUInt32).toInt32) &&& (1 : Int32)))])) t → Steps p.tables e below (s₁.setTop (entryFrame m #[(.int u0), (.int u1), (.int u2)] maxLocals)) t := fun t k => pre11 t (by
          show Steps p.tables e below (T8.setTop (mkF m 47 #[.val (.int u0), .val (.int u1), .val (.int u2), .val (.int (u0 &&& (3 : Int32))), .val (.int (u1 &&& (3 : Int32))), .val (.ref b1), .val (.ref b5), .unset, .unset] [])) _
          refine XS.iloadN X8.here hx rfl (hb hby at_47) rfl ?_
          show Steps p.tables e below (T8.setTop (mkF m 48 #[.val (.int u0), .val (.int u1), .val (.int u2), .val (.int (u0 &&& (3 : Int32))), .val (.int (u1 &&& (3 : Int32))), .val (.ref b1), .val (.ref b5), .unset, .unset] [(.int u2)])) _
          refine XS.bipush X8.here hx rfl (hb hby at_48) ?_
          show Steps p.tables e below (T8.setTop (mkF m 50 #[.val (.int u0), .val (.int u1), .val (.int u2), .val (.int (u0 &&& (3 : Int32))), .val (.int (u1 &&& (3 : Int32))), .val (.ref b1), .val (.ref b5), .unset, .unset] [(.int (8 : Int32)), (.int u2)])) _
          refine XS.iushr X8.here hx rfl (hb hby at_50) rfl ?_
          show Steps p.tables e below (T8.setTop (mkF m 51 #[.val (.int u0), .val (.int u1), .val (.int u2), .val (.int (u0 &&& (3 : Int32))), .val (.int (u1 &&& (3 : Int32))), .val (.ref b1), .val (.ref b5), .unset, .unset] [(.int ((u2.toUInt32 >>> ((8 : Int32) &&& 31).toUInt32).toInt32))])) _
          refine XS.iconst X8.here hx rfl (hb hby at_51) ?_
          show Steps p.tables e below (T8.setTop (mkF m 52 #[.val (.int u0), .val (.int u1), .val (.int u2), .val (.int (u0 &&& (3 : Int32))), .val (.int (u1 &&& (3 : Int32))), .val (.ref b1), .val (.ref b5), .unset, .unset] [(.int (1 : Int32)), (.int ((u2.toUInt32 >>> ((8 : Int32) &&& 31).toUInt32).toInt32))])) _
          refine XS.iand X8.here hx rfl (hb hby at_52) rfl ?_
          exact k)
        by_cases hc53 : (((u2.toUInt32 >>> ((8 : Int32) &&& 31).toUInt32).toInt32) &&& (1 : Int32)) = (0 : Int32)
        · -- pc 53: (((u2.toUInt32 >>> ((8 : Int32) &&& 31).toUInt32).toInt32) &&& (1 : Int32)) = (0 : Int32)
          intro t k
          have qS0 : (j0_47 u2) = (0 : Int32) := (if_pos hc53).trans (rfl)
          rw [qS0] at k
          refine pre13 t ?_
          show Steps p.tables e below (T8.setTop (mkF m 53 #[.val (.int u0), .val (.int u1), .val (.int u2), .val (.int (u0 &&& (3 : Int32))), .val (.int (u1 &&& (3 : Int32))), .val (.ref b1), .val (.ref b5), .unset, .unset] [(.int (((u2.toUInt32 >>> ((8 : Int32) &&& 31).toUInt32).toInt32) &&& (1 : Int32)))])) _
          refine XS.ifYes X8.here hx rfl (pc0 := 53) (pc' := 60) rfl (hb hby at_53) rfl ((if0 _ _).trans (teq hc53).1) (by decide) (by decide) ?_
          show Steps p.tables e below (T8.setTop (mkF m 60 #[.val (.int u0), .val (.int u1), .val (.int u2), .val (.int (u0 &&& (3 : Int32))), .val (.int (u1 &&& (3 : Int32))), .val (.ref b1), .val (.ref b5), .unset, .unset] [])) _
          refine XS.iconst X8.here hx rfl (hb hby at_60) ?_
          exact k
        · -- pc 53: not (((u2.toUInt32 >>> ((8 : Int32) &&& 31).toUInt32).toInt32) &&& (1 : Int32)) = (0 : Int32)
          intro t k
          have qS0 : (j0_47 u2) = (1 : Int32) := (if_neg hc53).trans (rfl)
          rw [qS0] at k
          refine pre13 t ?_
          show Steps p.tables e below (T8.setTop (mkF m 53 #[.val (.int u0), .val (.int u1), .val (.int u2), .val (.int (u0 &&& (3 : Int32))), .val (.int (u1 &&& (3 : Int32))), .val (.ref b1), .val (.ref b5), .unset, .unset] [(.int (((u2.toUInt32 >>> ((8 : Int32) &&& 31).toUInt32).toInt32) &&& (1 : Int32)))])) _
          refine XS.ifNo X8.here hx rfl (hb hby at_53) rfl ((if0 _ _).trans (feq hc53).1) ?_
          show Steps p.tables e below (T8.setTop (mkF m 56 #[.val (.int u0), .val (.int u1), .val (.int u2), .val (.int (u0 &&& (3 : Int32))), .val (.int (u1 &&& (3 : Int32))), .val (.ref b1), .val (.ref b5), .unset, .unset] [])) _
          refine XS.iconst X8.here hx rfl (hb hby at_56) ?_
          show Steps p.tables e below (T8.setTop (mkF m 57 #[.val (.int u0), .val (.int u1), .val (.int u2), .val (.int (u0 &&& (3 : Int32))), .val (.int (u1 &&& (3 : Int32))), .val (.ref b1), .val (.ref b5), .unset, .unset] [(.int (1 : Int32))])) _
          refine XS.goto X8.here hx rfl (pc0 := 57) (pc' := 61) rfl (hb hby at_57) (by decide) (by decide) ?_
          exact k
      obtain ⟨T14, h14, X14, e14, E14, A14, D14, -, st14⟩ := newO X8 hx hZ hown (hw _ (List.mem_of_getElem? (i := 1) rfl)) (hw _ (List.mem_of_getElem? (i := 2) rfl)) (hw _ (List.mem_of_getElem? (i := 3) rfl)) e8 (g := (mkF m 63 #[.val (.int u0), .val (.int u1), .val (.int u2), .val (.int (u0 &&& (3 : Int32))), .val (.int (u1 &&& (3 : Int32))), .val (.ref b1), .val (.ref b5), .val (.int (j0_47 u2)), .unset] [])) rfl (hb hby at_63) (by decide) (by decide)
      obtain ⟨b14, g14⟩ : ∃ z, z = h8.size := ⟨_, rfl⟩
      rw [← g14] at A14 D14 st14
      have g_b14 : n0 ≤ b14 := Nat.le_trans (Nat.le_trans Z0 K8.1) (Nat.le_of_eq g14.symm)
      have sz_b14 : h0.size ≤ b14 := Nat.le_trans K8.1 (Nat.le_of_eq g14.symm)
      have ne_b1_b14 : b1 ≠ b14 := Nat.ne_of_lt (Nat.lt_of_lt_of_le Q1_9.lt (Nat.le_of_eq g14.symm))
      have ne_b5_b14 : b5 ≠ b14 := Nat.ne_of_lt (Nat.lt_of_lt_of_le Q5_10.lt (Nat.le_of_eq g14.symm))
      have Q1_15 := Q1_9.ext E14
      have Q5_16 := Q5_10.ext E14
      have K14 : Keep h0 h14 [] := K8.ext E14
      have F_key_b14 : Fld Z h14 b14 "com/example/sendlimitd/sendlimitd/core/StateStore$Change" "key" "[B" .null := D14 (Or.inr (hw _ (List.mem_of_getElem? (i := 27) rfl))) (ty := (.array .byte)) (by decide)
      have F_value_b14 : Fld Z h14 b14 "com/example/sendlimitd/sendlimitd/core/StateStore$Change" "value" "[B" .null := D14 (Or.inr (hw _ (List.mem_of_getElem? (i := 29) rfl))) (ty := (.array .byte)) (by decide)
      have pre17 : ∀ t, Steps p.tables e below (T14.setTop (mkF m 71 #[.val (.int u0), .val (.int u1), .val (.int u2), .val (.int (u0 &&& (3 : Int32))), .val (.int (u1 &&& (3 : Int32))), .val (.ref b1), .val (.ref b5), .val (.int (j0_47 u2)), .unset] [(.int (j0_47 u2)), (.ref b1), (.ref b14), (.ref b14)])) t → Steps p.tables e below (s₁.setTop (entryFrame m #[(.int u0), (.int u1), (.int u2)] maxLocals)) t := fun t k => pre12 t (by
        show Steps p.tables e below (T8.setTop (mkF m 61 #[.val (.int u0), .val (.int u1), .val (.int u2), .val (.int (u0 &&& (3 : Int32))), .val (.int (u1 &&& (3 : Int32))), .val (.ref b1), .val (.ref b5), .unset, .unset] [(.int (j0_47 u2))])) _
        refine XS.istore X8.here hx rfl (hb hby at_61) rfl (l' := #[.val (.int u0), .val (.int u1), .val (.int u2), .val (.int (u0 &&& (3 : Int32))), .val (.int (u1 &&& (3 : Int32))), .val (.ref b1), .val (.ref b5), .val (.int (j0_47 u2)), .unset]) rfl ?_
        show Steps p.tables e below (T8.setTop (mkF m 63 #[.val (.int u0), .val (.int u1), .val (.int u2), .val (.int (u0 &&& (3 : Int32))), .val (.int (u1 &&& (3 : Int32))), .val (.ref b1), .val (.ref b5), .val (.int (j0_47 u2)), .unset] [])) _
        refine st14 _ ?_
        show Steps p.tables e below (T14.setTop (mkF m 66 #[.val (.int u0), .val (.int u1), .val (.int u2), .val (.int (u0 &&& (3 : Int32))), .val (.int (u1 &&& (3 : Int32))), .val (.ref b1), .val (.ref b5), .val (.int (j0_47 u2)), .unset] [(.ref b14)])) _
        refine XS.dup X14.here hx rfl (hb hby at_66) rfl rfl ?_
        show Steps p.tables e below (T14.setTop (mkF m 67 #[.val (.int u0), .val (.int u1), .val (.int u2), .val (.int (u0 &&& (3 : Int32))), .val (.int (u1 &&& (3 : Int32))), .val (.ref b1), .val (.ref b5), .val (.int (j0_47 u2)), .unset] [(.ref b14), (.ref b14)])) _
        refine XS.aload X14.here hx rfl (hb hby at_67) rfl rfl ?_
        show Steps p.tables e below (T14.setTop (mkF m 69 #[.val (.int u0), .val (.int u1), .val (.int u2), .val (.int (u0 &&& (3 : Int32))), .val (.int (u1 &&& (3 : Int32))), .val (.ref b1), .val (.ref b5), .val (.int (j0_47 u2)), .unset] [(.ref b1), (.ref b14), (.ref b14)])) _
        refine XS.iload X14.here hx rfl (hb hby at_69) rfl ?_
        exact k)
      by_cases hc71 : (j0_47 u2) = (0 : Int32)
      · -- pc 71: (j0_47 u2) = (0 : Int32)
        obtain ⟨_, _, ⟨T18, L18, k18, n18⟩, -, X18, S18q, hg18, ⟨Lc18, hQ18, l18, y18, z18⟩, st18⟩ := X14.specialBackS hx (y := (⟨"com/example/sendlimitd/sendlimitd/core/StateStore$Change", "<init>", "([B[B)V"⟩ : MethodName)) rfl hown (mvT hZ (hw _ (List.mem_of_getElem? (i := 4) rfl))) (mvT hZ (hw _ (List.mem_of_getElem? (i := 5) rfl))) (mvT hZ (hw _ (List.mem_of_getElem? (i := 6) rfl))) (by decide) (backOfS (W := 1) (rm1 l Z a0 hw [] b14 b1 b5  h14 n0 (Nat.le_trans Z0 K14.1) A14 F_key_b14 F_value_b14 g_b14) hZ (hw _ (List.mem_of_getElem? (i := 6) rfl)) (hw _ (List.mem_of_getElem? (i := 3) rfl)) (by decide) (by decide)) (g := (mkF m 80 #[.val (.int u0), .val (.int u1), .val (.int u2), .val (.int (u0 &&& (3 : Int32))), .val (.int (u1 &&& (3 : Int32))), .val (.ref b1), .val (.ref b5), .val (.int (j0_47 u2)), .unset] [(.ref b5), (.ref b1), (.ref b14), (.ref b14)])) rfl (by rw [hml]; rfl) (Steps.refl _) (a := b14) (argsL := [(.ref b1), (.ref b5)]) (rest := [(.ref b14)]) (lenOf pd_2 rfl) rfl (by show 2 * 0 + _ ≤ _; exact Nat.le_of_eq rfl) (hb hby at_80) (fun _ _ => ⟨rfl, e14, (by decide : 3 + 2 ≤ _), (by decide : 8 + 16 ≤ _)⟩)
        dsimp only [Pt.U, Pt.locs, Pt.cells, Pt.slots] at X18 l18 y18 z18 st18 hQ18 S18q hg18
        subst l18 y18 z18
        have S18 := foldS (s := s) (vm0 := s.vm) ((State.WarmedH.refl s).since 0) (Nat.zero_le _) S18q hg18
        have hZ : Z.Warmed39 (s.setVm T18.vm).vm := State.Warmed39.trans (t := s.setVm s.vm) hZ S18q.1
        have hown : (s.setVm T18.vm).vm.findClass "com/example/sendlimitd/sendlimitd/core/ChangeIsDeletePinLaw" = some m.cls := by rw [show (s.setVm T18.vm).vm = T18.vm from rfl, S18q.1.alike.findClass]; exact hown
        obtain ⟨rfl, N18q, K18q, E_r18, F_value18⟩ := hQ18
        have N18 := Fr.app N8 N18q
        have K18 : Keep h0 T18.heap [] := K14.trans K18q (allS (Or.inr sz_b14) all0)
        have Q1_19 := Q1_15.keep K18q
        have Q5_20 := Q5_16.keep K18q
        obtain ⟨cq21, kq21, q21a, q21b, q21c⟩ := isOf hZ rfl E_r18
        obtain ⟨_, _, ⟨T21, L21, k21, n21⟩, -, X21, ⟨Lc21, hQ21, l21, y21, z21⟩, st21⟩ := X18.virtualBack hx (y := (⟨"com/example/sendlimitd/sendlimitd/core/StateStore$Change", "isDelete", "()Z"⟩ : MethodName)) (z := (⟨"com/example/sendlimitd/sendlimitd/core/StateStore$Change", "isDelete", "()Z"⟩ : MethodName)) hown (mvT hZ (hw _ (List.mem_of_getElem? (i := 30) rfl))) (mvT hZ (hw _ (List.mem_of_getElem? (i := 31) rfl))) (notFace_of_selects (args := #[]) (mvT hZ (hw _ (List.mem_of_getElem? (i := 33) rfl)))) (mvT hZ (hw _ (List.mem_of_getElem? (i := 33) rfl))) (mvT hZ (hw _ (List.mem_of_getElem? (i := 32) rfl))) (by decide) (backOf (W := 0) (rm5 l Z a0 hw [] b14 b5 T18.heap n0 (Nat.le_trans Z0 K18.1) F_value18) hZ (hw _ (List.mem_of_getElem? (i := 34) rfl)) (hw _ (List.mem_of_getElem? (i := 3) rfl)) (by decide) (by decide)) q21a q21c (g := (mkF m 87 #[.val (.int u0), .val (.int u1), .val (.int u2), .val (.int (u0 &&& (3 : Int32))), .val (.int (u1 &&& (3 : Int32))), .val (.ref b1), .val (.ref b5), .val (.int (j0_47 u2)), .val (.ref b14)] [(.ref b14)])) rfl (by rw [hml]; rfl) (Steps.refl _) (argsL := []) (rest := []) (lenOf pd_3 rfl) rfl (by show 2 * 0 + _ ≤ _; exact Nat.le_of_eq rfl) (hb hby at_87) (fun _ _ => ⟨rfl, rfl, (by decide : 5 + 0 ≤ _), (by decide : 24 + 0 ≤ _)⟩)
        dsimp only [Pt.U, Pt.locs, Pt.cells, Pt.slots] at X21 l21 y21 z21 st21 hQ21
        subst l21 y21 z21
        obtain ⟨rfl, N21q, e21⟩ := hQ21
        have N21 := Fr.app N18 N21q
        obtain ⟨_, _, ⟨T22, L22, k22, n22⟩, -, X22, S22q, hg22, ⟨Lc22, hQ22, l22, y22, z22⟩, st22⟩ := callSS X21 hx (y := (⟨"com/example/sendlimitd/sendlimitd/core/StateStore$Change", "delete", "([B)Lcom/example/sendlimitd/sendlimitd/core/StateStore$Change;"⟩ : MethodName)) hown (mvT hZ (hw _ (List.mem_of_getElem? (i := 35) rfl))) (mvT hZ (hw _ (List.mem_of_getElem? (i := 36) rfl))) (mvT hZ (hw _ (List.mem_of_getElem? (i := 3) rfl))) (mvT hZ (hw _ (List.mem_of_getElem? (i := 37) rfl))) (by decide) (backOfS (W := 0) (rm6 l Z a0 hw [] b1  T18.heap n0 (Nat.le_trans Z0 K18.1) ) hZ (hw _ (List.mem_of_getElem? (i := 37) rfl)) (hw _ (List.mem_of_getElem? (i := 3) rfl)) (by decide) (by decide)) (g := (mkF m 99 #[.val (.int u0), .val (.int u1), .val (.int u2), .val (.int (u0 &&& (3 : Int32))), .val (.int (u1 &&& (3 : Int32))), .val (.ref b1), .val (.ref b5), .val (.int (j0_47 u2)), .val (.ref b14)] [(.ref b1)])) rfl (by rw [hml]; rfl) (argsL := [(.ref b1)]) (rest := []) (lenOf pd_4 rfl) rfl (by show 2 * 0 + _ ≤ _; exact Nat.le_of_eq rfl) (hb hby at_99) (fun _ _ => ⟨rfl, e21, (by decide : 5 + 3 ≤ _), (by decide : 24 + 18 ≤ _)⟩)
        dsimp only [Pt.U, Pt.locs, Pt.cells, Pt.slots] at X22 l22 y22 z22 st22 hQ22 S22q hg22
        subst l22 y22 z22
        have S22 := foldS (s := s) (vm0 := T18.vm) S18 (by rw [e21]; exact (Nat.le_refl T18.heap.size)) S22q hg22
        have hZ : Z.Warmed39 (s.setVm T22.vm).vm := State.Warmed39.trans (t := s.setVm T18.vm) hZ S22q.1
        have hown : (s.setVm T22.vm).vm.findClass "com/example/sendlimitd/sendlimitd/core/ChangeIsDeletePinLaw" = some m.cls := by rw [show (s.setVm T22.vm).vm = T22.vm from rfl, S22q.1.alike.findClass]; exact hown
        obtain ⟨b22, rfl, N22q, K22q, E_r22, F_value22⟩ := hQ22
        have N22 := Fr.app N21 N22q
        have K22 : Keep h0 T22.heap [] := K18.trans K22q all0
        have Q1_23 := Q1_19.keep K22q
        have Q5_24 := Q5_20.keep K22q
        have E_r18_25 := E_r18.keep K22q
        have F_value18_26 := F_value18.keep K22q nin0
        obtain ⟨cq27, kq27, q27a, q27b, q27c⟩ := isOf hZ rfl E_r22
        obtain ⟨_, _, ⟨T27, L27, k27, n27⟩, -, X27, ⟨Lc27, hQ27, l27, y27, z27⟩, st27⟩ := X22.virtualBack hx (y := (⟨"com/example/sendlimitd/sendlimitd/core/StateStore$Change", "isDelete", "()Z"⟩ : MethodName)) (z := (⟨"com/example/sendlimitd/sendlimitd/core/StateStore$Change", "isDelete", "()Z"⟩ : MethodName)) hown (mvT hZ (hw _ (List.mem_of_getElem? (i := 30) rfl))) (mvT hZ (hw _ (List.mem_of_getElem? (i := 31) rfl))) (notFace_of_selects (args := #[]) (mvT hZ (hw _ (List.mem_of_getElem? (i := 33) rfl)))) (mvT hZ (hw _ (List.mem_of_getElem? (i := 33) rfl))) (mvT hZ (hw _ (List.mem_of_getElem? (i := 32) rfl))) (by decide) (backOf (W := 0) (rm5n l Z a0 hw [] b22  T22.heap n0 (Nat.le_trans Z0 K22.1) F_value22) hZ (hw _ (List.mem_of_getElem? (i := 34) rfl)) (hw _ (List.mem_of_getElem? (i := 3) rfl)) (by decide) (by decide)) q27a q27c (g := (mkF m 102 #[.val (.int u0), .val (.int u1), .val (.int u2), .val (.int (u0 &&& (3 : Int32))), .val (.int (u1 &&& (3 : Int32))), .val (.ref b1), .val (.ref b5), .val (.int (j0_47 u2)), .val (.ref b14)] [(.ref b22)])) rfl (by rw [hml]; rfl) (Steps.refl _) (argsL := []) (rest := []) (lenOf pd_3 rfl) rfl (by show 2 * 0 + _ ≤ _; exact Nat.le_of_eq rfl) (hb hby at_102) (fun _ _ => ⟨rfl, rfl, (by decide : 8 + 0 ≤ _), (by decide : 42 + 0 ≤ _)⟩)
        dsimp only [Pt.U, Pt.locs, Pt.cells, Pt.slots] at X27 l27 y27 z27 st27 hQ27
        subst l27 y27 z27
        obtain ⟨rfl, N27q, e27⟩ := hQ27
        have N27 := Fr.app N22 N27q
        obtain ⟨_, _, ⟨T28, L28, k28, n28⟩, -, X28, S28q, hg28, ⟨Lc28, hQ28, l28, y28, z28⟩, st28⟩ := callSS X27 hx (y := (⟨"com/example/sendlimitd/sendlimitd/core/StateStore$Change", "put", "([B[B)Lcom/example/sendlimitd/sendlimitd/core/StateStore$Change;"⟩ : MethodName)) hown (mvT hZ (hw _ (List.mem_of_getElem? (i := 40) rfl))) (mvT hZ (hw _ (List.mem_of_getElem? (i := 41) rfl))) (mvT hZ (hw _ (List.mem_of_getElem? (i := 3) rfl))) (mvT hZ (hw _ (List.mem_of_getElem? (i := 42) rfl))) (by decide) (backOfS (W := 0) (rm7 l Z a0 hw [] b1 b5  T22.heap n0 (Nat.le_trans Z0 K22.1) Q5_24) hZ (hw _ (List.mem_of_getElem? (i := 42) rfl)) (hw _ (List.mem_of_getElem? (i := 3) rfl)) (by decide) (by decide)) (g := (mkF m 114 #[.val (.int u0), .val (.int u1), .val (.int u2), .val (.int (u0 &&& (3 : Int32))), .val (.int (u1 &&& (3 : Int32))), .val (.ref b1), .val (.ref b5), .val (.int (j0_47 u2)), .val (.ref b14)] [(.ref b5), (.ref b1)])) rfl (by rw [hml]; rfl) (argsL := [(.ref b1), (.ref b5)]) (rest := []) (lenOf pd_5 rfl) rfl (by show 2 * 0 + _ ≤ _; exact Nat.le_of_eq rfl) (hb hby at_114) (fun _ _ => ⟨rfl, e27, (by decide : 8 + 5 ≤ _), (by decide : 42 + 42 ≤ _)⟩)
        dsimp only [Pt.U, Pt.locs, Pt.cells, Pt.slots] at X28 l28 y28 z28 st28 hQ28 S28q hg28
        subst l28 y28 z28
        have S28 := foldS (s := s) (vm0 := T22.vm) S22 (by rw [e27]; exact (Nat.le_refl T22.heap.size)) S28q hg28
        have hZ : Z.Warmed39 (s.setVm T28.vm).vm := State.Warmed39.trans (t := s.setVm T22.vm) hZ S28q.1
        have hown : (s.setVm T28.vm).vm.findClass "com/example/sendlimitd/sendlimitd/core/ChangeIsDeletePinLaw" = some m.cls := by rw [show (s.setVm T28.vm).vm = T28.vm from rfl, S28q.1.alike.findClass]; exact hown
        obtain ⟨b28, rfl, N28q, K28q, E_r28, F_value28⟩ := hQ28
        have N28 := Fr.app N27 N28q
        have K28 : Keep h0 T28.heap [] := K22.trans K28q all0
        have Q1_29 := Q1_23.keep K28q
        have Q5_30 := Q5_24.keep K28q
        have E_r18_31 := E_r18_25.keep K28q
        have F_value18_32 := F_value18_26.keep K28q nin0
        have E_r22_33 := E_r22.keep K28q
        have F_value22_34 := F_value22.keep K28q nin0
        obtain ⟨cq35, kq35, q35a, q35b, q35c⟩ := isOf hZ rfl E_r28
        obtain ⟨_, _, ⟨T35, L35, k35, n35⟩, -, X35, ⟨Lc35, hQ35, l35, y35, z35⟩, st35⟩ := X28.virtualBack hx (y := (⟨"com/example/sendlimitd/sendlimitd/core/StateStore$Change", "isDelete", "()Z"⟩ : MethodName)) (z := (⟨"com/example/sendlimitd/sendlimitd/core/StateStore$Change", "isDelete", "()Z"⟩ : MethodName)) hown (mvT hZ (hw _ (List.mem_of_getElem? (i := 30) rfl))) (mvT hZ (hw _ (List.mem_of_getElem? (i := 31) rfl))) (notFace_of_selects (args := #[]) (mvT hZ (hw _ (List.mem_of_getElem? (i := 33) rfl)))) (mvT hZ (hw _ (List.mem_of_getElem? (i := 33) rfl))) (mvT hZ (hw _ (List.mem_of_getElem? (i := 32) rfl))) (by decide) (backOf (W := 0) (rm5 l Z a0 hw [] b28 b5 T28.heap n0 (Nat.le_trans Z0 K28.1) F_value28) hZ (hw _ (List.mem_of_getElem? (i := 34) rfl)) (hw _ (List.mem_of_getElem? (i := 3) rfl)) (by decide) (by decide)) q35a q35c (g := (mkF m 117 #[.val (.int u0), .val (.int u1), .val (.int u2), .val (.int (u0 &&& (3 : Int32))), .val (.int (u1 &&& (3 : Int32))), .val (.ref b1), .val (.ref b5), .val (.int (j0_47 u2)), .val (.ref b14)] [(.ref b28)])) rfl (by rw [hml]; rfl) (Steps.refl _) (argsL := []) (rest := []) (lenOf pd_3 rfl) rfl (by show 2 * 0 + _ ≤ _; exact Nat.le_of_eq rfl) (hb hby at_117) (fun _ _ => ⟨rfl, rfl, (by decide : 13 + 0 ≤ _), (by decide : 84 + 0 ≤ _)⟩)
        dsimp only [Pt.U, Pt.locs, Pt.cells, Pt.slots] at X35 l35 y35 z35 st35 hQ35
        subst l35 y35 z35
        obtain ⟨rfl, N35q, e35⟩ := hQ35
        have N35 := Fr.app N28 N35q
        obtain ⟨fs, hr, hrun, hended, hRE⟩ := X35.leaveW (s := s) (vm₁ := T28.vm) S28 (by rw [e35]; exact (Nat.le_refl T28.heap.size)) (v := (some (.int (1 : Int32)))) (fun h => by rw [Bd.returns] at h; cases h)
        refine ⟨_, _, pre17 _ ?_, hrun, hended, _, _, rfl, ?_, hRE.1, hRE.2.1, hRE.2.2.1, hRE.2.2.2.mono (by decide) (by decide)⟩
        · show Steps p.tables e below (T14.setTop (mkF m 71 #[.val (.int u0), .val (.int u1), .val (.int u2), .val (.int (u0 &&& (3 : Int32))), .val (.int (u1 &&& (3 : Int32))), .val (.ref b1), .val (.ref b5), .val (.int (j0_47 u2)), .unset] [(.int (j0_47 u2)), (.ref b1), (.ref b14), (.ref b14)])) _
          refine XS.ifYes X14.here hx rfl (pc0 := 71) (pc' := 78) rfl (hb hby at_71) rfl ((if0 _ _).trans (teq hc71).1) (by decide) (by decide) ?_
          show Steps p.tables e below (T14.setTop (mkF m 78 #[.val (.int u0), .val (.int u1), .val (.int u2), .val (.int (u0 &&& (3 : Int32))), .val (.int (u1 &&& (3 : Int32))), .val (.ref b1), .val (.ref b5), .val (.int (j0_47 u2)), .unset] [(.ref b1), (.ref b14), (.ref b14)])) _
          refine XS.aload X14.here hx rfl (hb hby at_78) rfl rfl ?_
          show Steps p.tables e below (T14.setTop (mkF m 80 #[.val (.int u0), .val (.int u1), .val (.int u2), .val (.int (u0 &&& (3 : Int32))), .val (.int (u1 &&& (3 : Int32))), .val (.ref b1), .val (.ref b5), .val (.int (j0_47 u2)), .unset] [(.ref b5), (.ref b1), (.ref b14), (.ref b14)])) _
          refine st18.trans ?_
          show Steps p.tables e below (T18.setTop (mkF m 83 #[.val (.int u0), .val (.int u1), .val (.int u2), .val (.int (u0 &&& (3 : Int32))), .val (.int (u1 &&& (3 : Int32))), .val (.ref b1), .val (.ref b5), .val (.int (j0_47 u2)), .unset] [(.ref b14)])) _
          refine XS.astore X18.here hx rfl (hb hby at_83) rfl rfl (l' := #[.val (.int u0), .val (.int u1), .val (.int u2), .val (.int (u0 &&& (3 : Int32))), .val (.int (u1 &&& (3 : Int32))), .val (.ref b1), .val (.ref b5), .val (.int (j0_47 u2)), .val (.ref b14)]) rfl ?_
          show Steps p.tables e below (T18.setTop (mkF m 85 #[.val (.int u0), .val (.int u1), .val (.int u2), .val (.int (u0 &&& (3 : Int32))), .val (.int (u1 &&& (3 : Int32))), .val (.ref b1), .val (.ref b5), .val (.int (j0_47 u2)), .val (.ref b14)] [])) _
          refine XS.aload X18.here hx rfl (hb hby at_85) rfl rfl ?_
          show Steps p.tables e below (T18.setTop (mkF m 87 #[.val (.int u0), .val (.int u1), .val (.int u2), .val (.int (u0 &&& (3 : Int32))), .val (.int (u1 &&& (3 : Int32))), .val (.ref b1), .val (.ref b5), .val (.int (j0_47 u2)), .val (.ref b14)] [(.ref b14)])) _
          refine st21.trans ?_
          show Steps p.tables e below (T21.setTop (mkF m 90 #[.val (.int u0), .val (.int u1), .val (.int u2), .val (.int (u0 &&& (3 : Int32))), .val (.int (u1 &&& (3 : Int32))), .val (.ref b1), .val (.ref b5), .val (.int (j0_47 u2)), .val (.ref b14)] [(.int (0 : Int32))])) _
          refine XS.iload X21.here hx rfl (hb hby at_90) rfl ?_
          show Steps p.tables e below (T21.setTop (mkF m 92 #[.val (.int u0), .val (.int u1), .val (.int u2), .val (.int (u0 &&& (3 : Int32))), .val (.int (u1 &&& (3 : Int32))), .val (.ref b1), .val (.ref b5), .val (.int (j0_47 u2)), .val (.ref b14)] [(.int (j0_47 u2)), (.int (0 : Int32))])) _
          refine XS.icmpYes X21.here hx rfl (pc0 := 92) (pc' := 97) rfl (hb hby at_92) rfl (teq hc71.symm).1 (by decide) (by decide) ?_
          show Steps p.tables e below (T21.setTop (mkF m 97 #[.val (.int u0), .val (.int u1), .val (.int u2), .val (.int (u0 &&& (3 : Int32))), .val (.int (u1 &&& (3 : Int32))), .val (.ref b1), .val (.ref b5), .val (.int (j0_47 u2)), .val (.ref b14)] [])) _
          refine XS.aload X21.here hx rfl (hb hby at_97) rfl rfl ?_
          show Steps p.tables e below (T21.setTop (mkF m 99 #[.val (.int u0), .val (.int u1), .val (.int u2), .val (.int (u0 &&& (3 : Int32))), .val (.int (u1 &&& (3 : Int32))), .val (.ref b1), .val (.ref b5), .val (.int (j0_47 u2)), .val (.ref b14)] [(.ref b1)])) _
          refine st22.trans ?_
          show Steps p.tables e below (T22.setTop (mkF m 102 #[.val (.int u0), .val (.int u1), .val (.int u2), .val (.int (u0 &&& (3 : Int32))), .val (.int (u1 &&& (3 : Int32))), .val (.ref b1), .val (.ref b5), .val (.int (j0_47 u2)), .val (.ref b14)] [(.ref b22)])) _
          refine st27.trans ?_
          show Steps p.tables e below (T27.setTop (mkF m 105 #[.val (.int u0), .val (.int u1), .val (.int u2), .val (.int (u0 &&& (3 : Int32))), .val (.int (u1 &&& (3 : Int32))), .val (.ref b1), .val (.ref b5), .val (.int (j0_47 u2)), .val (.ref b14)] [(.int (1 : Int32))])) _
          refine XS.ifYes X27.here hx rfl (pc0 := 105) (pc' := 110) rfl (hb hby at_105) rfl ((if0 _ _).trans (feq (by decide : ¬ ((1 : Int32) = (0 : Int32)))).2) (by decide) (by decide) ?_
          show Steps p.tables e below (T27.setTop (mkF m 110 #[.val (.int u0), .val (.int u1), .val (.int u2), .val (.int (u0 &&& (3 : Int32))), .val (.int (u1 &&& (3 : Int32))), .val (.ref b1), .val (.ref b5), .val (.int (j0_47 u2)), .val (.ref b14)] [])) _
          refine XS.aload X27.here hx rfl (hb hby at_110) rfl rfl ?_
          show Steps p.tables e below (T27.setTop (mkF m 112 #[.val (.int u0), .val (.int u1), .val (.int u2), .val (.int (u0 &&& (3 : Int32))), .val (.int (u1 &&& (3 : Int32))), .val (.ref b1), .val (.ref b5), .val (.int (j0_47 u2)), .val (.ref b14)] [(.ref b1)])) _
          refine XS.aload X27.here hx rfl (hb hby at_112) rfl rfl ?_
          show Steps p.tables e below (T27.setTop (mkF m 114 #[.val (.int u0), .val (.int u1), .val (.int u2), .val (.int (u0 &&& (3 : Int32))), .val (.int (u1 &&& (3 : Int32))), .val (.ref b1), .val (.ref b5), .val (.int (j0_47 u2)), .val (.ref b14)] [(.ref b5), (.ref b1)])) _
          refine st28.trans ?_
          show Steps p.tables e below (T28.setTop (mkF m 117 #[.val (.int u0), .val (.int u1), .val (.int u2), .val (.int (u0 &&& (3 : Int32))), .val (.int (u1 &&& (3 : Int32))), .val (.ref b1), .val (.ref b5), .val (.int (j0_47 u2)), .val (.ref b14)] [(.ref b28)])) _
          refine st35.trans ?_
          show Steps p.tables e below (T35.setTop (mkF m 120 #[.val (.int u0), .val (.int u1), .val (.int u2), .val (.int (u0 &&& (3 : Int32))), .val (.int (u1 &&& (3 : Int32))), .val (.ref b1), .val (.ref b5), .val (.int (j0_47 u2)), .val (.ref b14)] [(.int (0 : Int32))])) _
          refine XS.ifYes X35.here hx rfl (pc0 := 120) (pc' := 125) rfl (hb hby at_120) rfl ((if0 _ _).trans (teq (by decide : (0 : Int32) = (0 : Int32))).1) (by decide) (by decide) ?_
          show Steps p.tables e below (T35.setTop (mkF m 125 #[.val (.int u0), .val (.int u1), .val (.int u2), .val (.int (u0 &&& (3 : Int32))), .val (.int (u1 &&& (3 : Int32))), .val (.ref b1), .val (.ref b5), .val (.int (j0_47 u2)), .val (.ref b14)] [])) _
          refine XS.iconst X35.here hx rfl (hb hby at_125) ?_
          show Steps p.tables e below (T35.setTop (mkF m 126 #[.val (.int u0), .val (.int u1), .val (.int u2), .val (.int (u0 &&& (3 : Int32))), .val (.int (u1 &&& (3 : Int32))), .val (.ref b1), .val (.ref b5), .val (.int (j0_47 u2)), .val (.ref b14)] [(.int (1 : Int32))])) _
          exact retN X35 hx (t := .boolean) Bd.returns (by simp) (hb hby at_126) hr
        · show QL n0 _ T35.heap _
          rw [e35]
          exact ⟨rfl, N35⟩
      · -- pc 71: not (j0_47 u2) = (0 : Int32)
        obtain ⟨_, _, ⟨T36, L36, k36, n36⟩, -, X36, S36q, hg36, ⟨Lc36, hQ36, l36, y36, z36⟩, st36⟩ := X14.specialBackS hx (y := (⟨"com/example/sendlimitd/sendlimitd/core/StateStore$Change", "<init>", "([B[B)V"⟩ : MethodName)) rfl hown (mvT hZ (hw _ (List.mem_of_getElem? (i := 4) rfl))) (mvT hZ (hw _ (List.mem_of_getElem? (i := 5) rfl))) (mvT hZ (hw _ (List.mem_of_getElem? (i := 6) rfl))) (by decide) (backOfS (W := 1) (rm1n l Z a0 hw [] b14 b1  h14 n0 (Nat.le_trans Z0 K14.1) A14 F_key_b14 F_value_b14 g_b14) hZ (hw _ (List.mem_of_getElem? (i := 6) rfl)) (hw _ (List.mem_of_getElem? (i := 3) rfl)) (by decide) (by decide)) (g := (mkF m 80 #[.val (.int u0), .val (.int u1), .val (.int u2), .val (.int (u0 &&& (3 : Int32))), .val (.int (u1 &&& (3 : Int32))), .val (.ref b1), .val (.ref b5), .val (.int (j0_47 u2)), .unset] [.null, (.ref b1), (.ref b14), (.ref b14)])) rfl (by rw [hml]; rfl) (Steps.refl _) (a := b14) (argsL := [(.ref b1), .null]) (rest := [(.ref b14)]) (lenOf pd_2 rfl) rfl (by show 2 * 0 + _ ≤ _; exact Nat.le_of_eq rfl) (hb hby at_80) (fun _ _ => ⟨rfl, e14, (by decide : 3 + 2 ≤ _), (by decide : 8 + 16 ≤ _)⟩)
        dsimp only [Pt.U, Pt.locs, Pt.cells, Pt.slots] at X36 l36 y36 z36 st36 hQ36 S36q hg36
        subst l36 y36 z36
        have S36 := foldS (s := s) (vm0 := s.vm) ((State.WarmedH.refl s).since 0) (Nat.zero_le _) S36q hg36
        have hZ : Z.Warmed39 (s.setVm T36.vm).vm := State.Warmed39.trans (t := s.setVm s.vm) hZ S36q.1
        have hown : (s.setVm T36.vm).vm.findClass "com/example/sendlimitd/sendlimitd/core/ChangeIsDeletePinLaw" = some m.cls := by rw [show (s.setVm T36.vm).vm = T36.vm from rfl, S36q.1.alike.findClass]; exact hown
        obtain ⟨rfl, N36q, K36q, E_r36, F_value36⟩ := hQ36
        have N36 := Fr.app N8 N36q
        have K36 : Keep h0 T36.heap [] := K14.trans K36q (allS (Or.inr sz_b14) all0)
        have Q1_37 := Q1_15.keep K36q
        have Q5_38 := Q5_16.keep K36q
        obtain ⟨cq39, kq39, q39a, q39b, q39c⟩ := isOf hZ rfl E_r36
        obtain ⟨_, _, ⟨T39, L39, k39, n39⟩, -, X39, ⟨Lc39, hQ39, l39, y39, z39⟩, st39⟩ := X36.virtualBack hx (y := (⟨"com/example/sendlimitd/sendlimitd/core/StateStore$Change", "isDelete", "()Z"⟩ : MethodName)) (z := (⟨"com/example/sendlimitd/sendlimitd/core/StateStore$Change", "isDelete", "()Z"⟩ : MethodName)) hown (mvT hZ (hw _ (List.mem_of_getElem? (i := 30) rfl))) (mvT hZ (hw _ (List.mem_of_getElem? (i := 31) rfl))) (notFace_of_selects (args := #[]) (mvT hZ (hw _ (List.mem_of_getElem? (i := 33) rfl)))) (mvT hZ (hw _ (List.mem_of_getElem? (i := 33) rfl))) (mvT hZ (hw _ (List.mem_of_getElem? (i := 32) rfl))) (by decide) (backOf (W := 0) (rm5n l Z a0 hw [] b14  T36.heap n0 (Nat.le_trans Z0 K36.1) F_value36) hZ (hw _ (List.mem_of_getElem? (i := 34) rfl)) (hw _ (List.mem_of_getElem? (i := 3) rfl)) (by decide) (by decide)) q39a q39c (g := (mkF m 87 #[.val (.int u0), .val (.int u1), .val (.int u2), .val (.int (u0 &&& (3 : Int32))), .val (.int (u1 &&& (3 : Int32))), .val (.ref b1), .val (.ref b5), .val (.int (j0_47 u2)), .val (.ref b14)] [(.ref b14)])) rfl (by rw [hml]; rfl) (Steps.refl _) (argsL := []) (rest := []) (lenOf pd_3 rfl) rfl (by show 2 * 0 + _ ≤ _; exact Nat.le_of_eq rfl) (hb hby at_87) (fun _ _ => ⟨rfl, rfl, (by decide : 5 + 0 ≤ _), (by decide : 24 + 0 ≤ _)⟩)
        dsimp only [Pt.U, Pt.locs, Pt.cells, Pt.slots] at X39 l39 y39 z39 st39 hQ39
        subst l39 y39 z39
        obtain ⟨rfl, N39q, e39⟩ := hQ39
        have N39 := Fr.app N36 N39q
        obtain ⟨_, _, ⟨T40, L40, k40, n40⟩, -, X40, S40q, hg40, ⟨Lc40, hQ40, l40, y40, z40⟩, st40⟩ := callSS X39 hx (y := (⟨"com/example/sendlimitd/sendlimitd/core/StateStore$Change", "delete", "([B)Lcom/example/sendlimitd/sendlimitd/core/StateStore$Change;"⟩ : MethodName)) hown (mvT hZ (hw _ (List.mem_of_getElem? (i := 35) rfl))) (mvT hZ (hw _ (List.mem_of_getElem? (i := 36) rfl))) (mvT hZ (hw _ (List.mem_of_getElem? (i := 3) rfl))) (mvT hZ (hw _ (List.mem_of_getElem? (i := 37) rfl))) (by decide) (backOfS (W := 0) (rm6 l Z a0 hw [] b1  T36.heap n0 (Nat.le_trans Z0 K36.1) ) hZ (hw _ (List.mem_of_getElem? (i := 37) rfl)) (hw _ (List.mem_of_getElem? (i := 3) rfl)) (by decide) (by decide)) (g := (mkF m 99 #[.val (.int u0), .val (.int u1), .val (.int u2), .val (.int (u0 &&& (3 : Int32))), .val (.int (u1 &&& (3 : Int32))), .val (.ref b1), .val (.ref b5), .val (.int (j0_47 u2)), .val (.ref b14)] [(.ref b1)])) rfl (by rw [hml]; rfl) (argsL := [(.ref b1)]) (rest := []) (lenOf pd_4 rfl) rfl (by show 2 * 0 + _ ≤ _; exact Nat.le_of_eq rfl) (hb hby at_99) (fun _ _ => ⟨rfl, e39, (by decide : 5 + 3 ≤ _), (by decide : 24 + 18 ≤ _)⟩)
        dsimp only [Pt.U, Pt.locs, Pt.cells, Pt.slots] at X40 l40 y40 z40 st40 hQ40 S40q hg40
        subst l40 y40 z40
        have S40 := foldS (s := s) (vm0 := T36.vm) S36 (by rw [e39]; exact (Nat.le_refl T36.heap.size)) S40q hg40
        have hZ : Z.Warmed39 (s.setVm T40.vm).vm := State.Warmed39.trans (t := s.setVm T36.vm) hZ S40q.1
        have hown : (s.setVm T40.vm).vm.findClass "com/example/sendlimitd/sendlimitd/core/ChangeIsDeletePinLaw" = some m.cls := by rw [show (s.setVm T40.vm).vm = T40.vm from rfl, S40q.1.alike.findClass]; exact hown
        obtain ⟨b40, rfl, N40q, K40q, E_r40, F_value40⟩ := hQ40
        have N40 := Fr.app N39 N40q
        have K40 : Keep h0 T40.heap [] := K36.trans K40q all0
        have Q1_41 := Q1_37.keep K40q
        have Q5_42 := Q5_38.keep K40q
        have E_r36_43 := E_r36.keep K40q
        have F_value36_44 := F_value36.keep K40q nin0
        obtain ⟨cq45, kq45, q45a, q45b, q45c⟩ := isOf hZ rfl E_r40
        obtain ⟨_, _, ⟨T45, L45, k45, n45⟩, -, X45, ⟨Lc45, hQ45, l45, y45, z45⟩, st45⟩ := X40.virtualBack hx (y := (⟨"com/example/sendlimitd/sendlimitd/core/StateStore$Change", "isDelete", "()Z"⟩ : MethodName)) (z := (⟨"com/example/sendlimitd/sendlimitd/core/StateStore$Change", "isDelete", "()Z"⟩ : MethodName)) hown (mvT hZ (hw _ (List.mem_of_getElem? (i := 30) rfl))) (mvT hZ (hw _ (List.mem_of_getElem? (i := 31) rfl))) (notFace_of_selects (args := #[]) (mvT hZ (hw _ (List.mem_of_getElem? (i := 33) rfl)))) (mvT hZ (hw _ (List.mem_of_getElem? (i := 33) rfl))) (mvT hZ (hw _ (List.mem_of_getElem? (i := 32) rfl))) (by decide) (backOf (W := 0) (rm5n l Z a0 hw [] b40  T40.heap n0 (Nat.le_trans Z0 K40.1) F_value40) hZ (hw _ (List.mem_of_getElem? (i := 34) rfl)) (hw _ (List.mem_of_getElem? (i := 3) rfl)) (by decide) (by decide)) q45a q45c (g := (mkF m 102 #[.val (.int u0), .val (.int u1), .val (.int u2), .val (.int (u0 &&& (3 : Int32))), .val (.int (u1 &&& (3 : Int32))), .val (.ref b1), .val (.ref b5), .val (.int (j0_47 u2)), .val (.ref b14)] [(.ref b40)])) rfl (by rw [hml]; rfl) (Steps.refl _) (argsL := []) (rest := []) (lenOf pd_3 rfl) rfl (by show 2 * 0 + _ ≤ _; exact Nat.le_of_eq rfl) (hb hby at_102) (fun _ _ => ⟨rfl, rfl, (by decide : 8 + 0 ≤ _), (by decide : 42 + 0 ≤ _)⟩)
        dsimp only [Pt.U, Pt.locs, Pt.cells, Pt.slots] at X45 l45 y45 z45 st45 hQ45
        subst l45 y45 z45
        obtain ⟨rfl, N45q, e45⟩ := hQ45
        have N45 := Fr.app N40 N45q
        obtain ⟨_, _, ⟨T46, L46, k46, n46⟩, -, X46, S46q, hg46, ⟨Lc46, hQ46, l46, y46, z46⟩, st46⟩ := callSS X45 hx (y := (⟨"com/example/sendlimitd/sendlimitd/core/StateStore$Change", "put", "([B[B)Lcom/example/sendlimitd/sendlimitd/core/StateStore$Change;"⟩ : MethodName)) hown (mvT hZ (hw _ (List.mem_of_getElem? (i := 40) rfl))) (mvT hZ (hw _ (List.mem_of_getElem? (i := 41) rfl))) (mvT hZ (hw _ (List.mem_of_getElem? (i := 3) rfl))) (mvT hZ (hw _ (List.mem_of_getElem? (i := 42) rfl))) (by decide) (backOfS (W := 0) (rm7 l Z a0 hw [] b1 b5  T40.heap n0 (Nat.le_trans Z0 K40.1) Q5_42) hZ (hw _ (List.mem_of_getElem? (i := 42) rfl)) (hw _ (List.mem_of_getElem? (i := 3) rfl)) (by decide) (by decide)) (g := (mkF m 114 #[.val (.int u0), .val (.int u1), .val (.int u2), .val (.int (u0 &&& (3 : Int32))), .val (.int (u1 &&& (3 : Int32))), .val (.ref b1), .val (.ref b5), .val (.int (j0_47 u2)), .val (.ref b14)] [(.ref b5), (.ref b1)])) rfl (by rw [hml]; rfl) (argsL := [(.ref b1), (.ref b5)]) (rest := []) (lenOf pd_5 rfl) rfl (by show 2 * 0 + _ ≤ _; exact Nat.le_of_eq rfl) (hb hby at_114) (fun _ _ => ⟨rfl, e45, (by decide : 8 + 5 ≤ _), (by decide : 42 + 42 ≤ _)⟩)
        dsimp only [Pt.U, Pt.locs, Pt.cells, Pt.slots] at X46 l46 y46 z46 st46 hQ46 S46q hg46
        subst l46 y46 z46
        have S46 := foldS (s := s) (vm0 := T40.vm) S40 (by rw [e45]; exact (Nat.le_refl T40.heap.size)) S46q hg46
        have hZ : Z.Warmed39 (s.setVm T46.vm).vm := State.Warmed39.trans (t := s.setVm T40.vm) hZ S46q.1
        have hown : (s.setVm T46.vm).vm.findClass "com/example/sendlimitd/sendlimitd/core/ChangeIsDeletePinLaw" = some m.cls := by rw [show (s.setVm T46.vm).vm = T46.vm from rfl, S46q.1.alike.findClass]; exact hown
        obtain ⟨b46, rfl, N46q, K46q, E_r46, F_value46⟩ := hQ46
        have N46 := Fr.app N45 N46q
        have K46 : Keep h0 T46.heap [] := K40.trans K46q all0
        have Q1_47 := Q1_41.keep K46q
        have Q5_48 := Q5_42.keep K46q
        have E_r36_49 := E_r36_43.keep K46q
        have F_value36_50 := F_value36_44.keep K46q nin0
        have E_r40_51 := E_r40.keep K46q
        have F_value40_52 := F_value40.keep K46q nin0
        obtain ⟨cq53, kq53, q53a, q53b, q53c⟩ := isOf hZ rfl E_r46
        obtain ⟨_, _, ⟨T53, L53, k53, n53⟩, -, X53, ⟨Lc53, hQ53, l53, y53, z53⟩, st53⟩ := X46.virtualBack hx (y := (⟨"com/example/sendlimitd/sendlimitd/core/StateStore$Change", "isDelete", "()Z"⟩ : MethodName)) (z := (⟨"com/example/sendlimitd/sendlimitd/core/StateStore$Change", "isDelete", "()Z"⟩ : MethodName)) hown (mvT hZ (hw _ (List.mem_of_getElem? (i := 30) rfl))) (mvT hZ (hw _ (List.mem_of_getElem? (i := 31) rfl))) (notFace_of_selects (args := #[]) (mvT hZ (hw _ (List.mem_of_getElem? (i := 33) rfl)))) (mvT hZ (hw _ (List.mem_of_getElem? (i := 33) rfl))) (mvT hZ (hw _ (List.mem_of_getElem? (i := 32) rfl))) (by decide) (backOf (W := 0) (rm5 l Z a0 hw [] b46 b5 T46.heap n0 (Nat.le_trans Z0 K46.1) F_value46) hZ (hw _ (List.mem_of_getElem? (i := 34) rfl)) (hw _ (List.mem_of_getElem? (i := 3) rfl)) (by decide) (by decide)) q53a q53c (g := (mkF m 117 #[.val (.int u0), .val (.int u1), .val (.int u2), .val (.int (u0 &&& (3 : Int32))), .val (.int (u1 &&& (3 : Int32))), .val (.ref b1), .val (.ref b5), .val (.int (j0_47 u2)), .val (.ref b14)] [(.ref b46)])) rfl (by rw [hml]; rfl) (Steps.refl _) (argsL := []) (rest := []) (lenOf pd_3 rfl) rfl (by show 2 * 0 + _ ≤ _; exact Nat.le_of_eq rfl) (hb hby at_117) (fun _ _ => ⟨rfl, rfl, (by decide : 13 + 0 ≤ _), (by decide : 84 + 0 ≤ _)⟩)
        dsimp only [Pt.U, Pt.locs, Pt.cells, Pt.slots] at X53 l53 y53 z53 st53 hQ53
        subst l53 y53 z53
        obtain ⟨rfl, N53q, e53⟩ := hQ53
        have N53 := Fr.app N46 N53q
        obtain ⟨fs, hr, hrun, hended, hRE⟩ := X53.leaveW (s := s) (vm₁ := T46.vm) S46 (by rw [e53]; exact (Nat.le_refl T46.heap.size)) (v := (some (.int (1 : Int32)))) (fun h => by rw [Bd.returns] at h; cases h)
        refine ⟨_, _, pre17 _ ?_, hrun, hended, _, _, rfl, ?_, hRE.1, hRE.2.1, hRE.2.2.1, hRE.2.2.2.mono (by decide) (by decide)⟩
        · show Steps p.tables e below (T14.setTop (mkF m 71 #[.val (.int u0), .val (.int u1), .val (.int u2), .val (.int (u0 &&& (3 : Int32))), .val (.int (u1 &&& (3 : Int32))), .val (.ref b1), .val (.ref b5), .val (.int (j0_47 u2)), .unset] [(.int (j0_47 u2)), (.ref b1), (.ref b14), (.ref b14)])) _
          refine XS.ifNo X14.here hx rfl (hb hby at_71) rfl ((if0 _ _).trans (feq hc71).1) ?_
          show Steps p.tables e below (T14.setTop (mkF m 74 #[.val (.int u0), .val (.int u1), .val (.int u2), .val (.int (u0 &&& (3 : Int32))), .val (.int (u1 &&& (3 : Int32))), .val (.ref b1), .val (.ref b5), .val (.int (j0_47 u2)), .unset] [(.ref b1), (.ref b14), (.ref b14)])) _
          refine XS.aconstNull X14.here hx rfl (hb hby at_74) ?_
          show Steps p.tables e below (T14.setTop (mkF m 75 #[.val (.int u0), .val (.int u1), .val (.int u2), .val (.int (u0 &&& (3 : Int32))), .val (.int (u1 &&& (3 : Int32))), .val (.ref b1), .val (.ref b5), .val (.int (j0_47 u2)), .unset] [.null, (.ref b1), (.ref b14), (.ref b14)])) _
          refine XS.goto X14.here hx rfl (pc0 := 75) (pc' := 80) rfl (hb hby at_75) (by decide) (by decide) ?_
          show Steps p.tables e below (T14.setTop (mkF m 80 #[.val (.int u0), .val (.int u1), .val (.int u2), .val (.int (u0 &&& (3 : Int32))), .val (.int (u1 &&& (3 : Int32))), .val (.ref b1), .val (.ref b5), .val (.int (j0_47 u2)), .unset] [.null, (.ref b1), (.ref b14), (.ref b14)])) _
          refine st36.trans ?_
          show Steps p.tables e below (T36.setTop (mkF m 83 #[.val (.int u0), .val (.int u1), .val (.int u2), .val (.int (u0 &&& (3 : Int32))), .val (.int (u1 &&& (3 : Int32))), .val (.ref b1), .val (.ref b5), .val (.int (j0_47 u2)), .unset] [(.ref b14)])) _
          refine XS.astore X36.here hx rfl (hb hby at_83) rfl rfl (l' := #[.val (.int u0), .val (.int u1), .val (.int u2), .val (.int (u0 &&& (3 : Int32))), .val (.int (u1 &&& (3 : Int32))), .val (.ref b1), .val (.ref b5), .val (.int (j0_47 u2)), .val (.ref b14)]) rfl ?_
          show Steps p.tables e below (T36.setTop (mkF m 85 #[.val (.int u0), .val (.int u1), .val (.int u2), .val (.int (u0 &&& (3 : Int32))), .val (.int (u1 &&& (3 : Int32))), .val (.ref b1), .val (.ref b5), .val (.int (j0_47 u2)), .val (.ref b14)] [])) _
          refine XS.aload X36.here hx rfl (hb hby at_85) rfl rfl ?_
          show Steps p.tables e below (T36.setTop (mkF m 87 #[.val (.int u0), .val (.int u1), .val (.int u2), .val (.int (u0 &&& (3 : Int32))), .val (.int (u1 &&& (3 : Int32))), .val (.ref b1), .val (.ref b5), .val (.int (j0_47 u2)), .val (.ref b14)] [(.ref b14)])) _
          refine st39.trans ?_
          show Steps p.tables e below (T39.setTop (mkF m 90 #[.val (.int u0), .val (.int u1), .val (.int u2), .val (.int (u0 &&& (3 : Int32))), .val (.int (u1 &&& (3 : Int32))), .val (.ref b1), .val (.ref b5), .val (.int (j0_47 u2)), .val (.ref b14)] [(.int (1 : Int32))])) _
          refine XS.iload X39.here hx rfl (hb hby at_90) rfl ?_
          show Steps p.tables e below (T39.setTop (mkF m 92 #[.val (.int u0), .val (.int u1), .val (.int u2), .val (.int (u0 &&& (3 : Int32))), .val (.int (u1 &&& (3 : Int32))), .val (.ref b1), .val (.ref b5), .val (.int (j0_47 u2)), .val (.ref b14)] [(.int (j0_47 u2)), (.int (1 : Int32))])) _
          refine XS.icmpYes X39.here hx rfl (pc0 := 92) (pc' := 97) rfl (hb hby at_92) rfl (teq (own_j1 hc71).symm).1 (by decide) (by decide) ?_
          show Steps p.tables e below (T39.setTop (mkF m 97 #[.val (.int u0), .val (.int u1), .val (.int u2), .val (.int (u0 &&& (3 : Int32))), .val (.int (u1 &&& (3 : Int32))), .val (.ref b1), .val (.ref b5), .val (.int (j0_47 u2)), .val (.ref b14)] [])) _
          refine XS.aload X39.here hx rfl (hb hby at_97) rfl rfl ?_
          show Steps p.tables e below (T39.setTop (mkF m 99 #[.val (.int u0), .val (.int u1), .val (.int u2), .val (.int (u0 &&& (3 : Int32))), .val (.int (u1 &&& (3 : Int32))), .val (.ref b1), .val (.ref b5), .val (.int (j0_47 u2)), .val (.ref b14)] [(.ref b1)])) _
          refine st40.trans ?_
          show Steps p.tables e below (T40.setTop (mkF m 102 #[.val (.int u0), .val (.int u1), .val (.int u2), .val (.int (u0 &&& (3 : Int32))), .val (.int (u1 &&& (3 : Int32))), .val (.ref b1), .val (.ref b5), .val (.int (j0_47 u2)), .val (.ref b14)] [(.ref b40)])) _
          refine st45.trans ?_
          show Steps p.tables e below (T45.setTop (mkF m 105 #[.val (.int u0), .val (.int u1), .val (.int u2), .val (.int (u0 &&& (3 : Int32))), .val (.int (u1 &&& (3 : Int32))), .val (.ref b1), .val (.ref b5), .val (.int (j0_47 u2)), .val (.ref b14)] [(.int (1 : Int32))])) _
          refine XS.ifYes X45.here hx rfl (pc0 := 105) (pc' := 110) rfl (hb hby at_105) rfl ((if0 _ _).trans (feq (by decide : ¬ ((1 : Int32) = (0 : Int32)))).2) (by decide) (by decide) ?_
          show Steps p.tables e below (T45.setTop (mkF m 110 #[.val (.int u0), .val (.int u1), .val (.int u2), .val (.int (u0 &&& (3 : Int32))), .val (.int (u1 &&& (3 : Int32))), .val (.ref b1), .val (.ref b5), .val (.int (j0_47 u2)), .val (.ref b14)] [])) _
          refine XS.aload X45.here hx rfl (hb hby at_110) rfl rfl ?_
          show Steps p.tables e below (T45.setTop (mkF m 112 #[.val (.int u0), .val (.int u1), .val (.int u2), .val (.int (u0 &&& (3 : Int32))), .val (.int (u1 &&& (3 : Int32))), .val (.ref b1), .val (.ref b5), .val (.int (j0_47 u2)), .val (.ref b14)] [(.ref b1)])) _
          refine XS.aload X45.here hx rfl (hb hby at_112) rfl rfl ?_
          show Steps p.tables e below (T45.setTop (mkF m 114 #[.val (.int u0), .val (.int u1), .val (.int u2), .val (.int (u0 &&& (3 : Int32))), .val (.int (u1 &&& (3 : Int32))), .val (.ref b1), .val (.ref b5), .val (.int (j0_47 u2)), .val (.ref b14)] [(.ref b5), (.ref b1)])) _
          refine st46.trans ?_
          show Steps p.tables e below (T46.setTop (mkF m 117 #[.val (.int u0), .val (.int u1), .val (.int u2), .val (.int (u0 &&& (3 : Int32))), .val (.int (u1 &&& (3 : Int32))), .val (.ref b1), .val (.ref b5), .val (.int (j0_47 u2)), .val (.ref b14)] [(.ref b46)])) _
          refine st53.trans ?_
          show Steps p.tables e below (T53.setTop (mkF m 120 #[.val (.int u0), .val (.int u1), .val (.int u2), .val (.int (u0 &&& (3 : Int32))), .val (.int (u1 &&& (3 : Int32))), .val (.ref b1), .val (.ref b5), .val (.int (j0_47 u2)), .val (.ref b14)] [(.int (0 : Int32))])) _
          refine XS.ifYes X53.here hx rfl (pc0 := 120) (pc' := 125) rfl (hb hby at_120) rfl ((if0 _ _).trans (teq (by decide : (0 : Int32) = (0 : Int32))).1) (by decide) (by decide) ?_
          show Steps p.tables e below (T53.setTop (mkF m 125 #[.val (.int u0), .val (.int u1), .val (.int u2), .val (.int (u0 &&& (3 : Int32))), .val (.int (u1 &&& (3 : Int32))), .val (.ref b1), .val (.ref b5), .val (.int (j0_47 u2)), .val (.ref b14)] [])) _
          refine XS.iconst X53.here hx rfl (hb hby at_125) ?_
          show Steps p.tables e below (T53.setTop (mkF m 126 #[.val (.int u0), .val (.int u1), .val (.int u2), .val (.int (u0 &&& (3 : Int32))), .val (.int (u1 &&& (3 : Int32))), .val (.ref b1), .val (.ref b5), .val (.int (j0_47 u2)), .val (.ref b14)] [(.int (1 : Int32))])) _
          exact retN X53 hx (t := .boolean) Bd.returns (by simp) (hb hby at_126) hr
        · show QL n0 _ T53.heap _
          rw [e53]
          exact ⟨rfl, N53⟩
    · -- pc 32: not (0 : Int32) < (u1 &&& (3 : Int32))
      have pre54 : ∀ t, Steps p.tables e below (T5.setTop (mkF m 47 #[.val (.int u0), .val (.int u1), .val (.int u2), .val (.int (u0 &&& (3 : Int32))), .val (.int (u1 &&& (3 : Int32))), .val (.ref b1), .val (.ref b5), .unset, .unset] [])) t → Steps p.tables e below (s₁.setTop (entryFrame m #[(.int u0), (.int u1), (.int u2)] maxLocals)) t := fun t k => pre7 t (by
        show Steps p.tables e below (T5.setTop (mkF m 32 #[.val (.int u0), .val (.int u1), .val (.int u2), .val (.int (u0 &&& (3 : Int32))), .val (.int (u1 &&& (3 : Int32))), .val (.ref b1), .val (.ref b5), .unset, .unset] [(.int (u1 &&& (3 : Int32)))])) _
        refine XS.ifYes X5.here hx rfl (pc0 := 32) (pc' := 47) rfl (hb hby at_32) rfl ((if0 _ _).trans (flt hc32).2.2.2) (by decide) (by decide) ?_
        exact k)
      have pre55 : ∀ t, Steps p.tables e below (T5.setTop (mkF m 61 #[.val (.int u0), .val (.int u1), .val (.int u2), .val (.int (u0 &&& (3 : Int32))), .val (.int (u1 &&& (3 : Int32))), .val (.ref b1), .val (.ref b5), .unset, .unset] [(.int (j0_47 u2))])) t → Steps p.tables e below (s₁.setTop (entryFrame m #[(.int u0), (.int u1), (.int u2)] maxLocals)) t := by
        have pre56 : ∀ t, Steps p.tables e below (T5.setTop (mkF m 53 #[.val (.int u0), .val (.int u1), .val (.int u2), .val (.int (u0 &&& (3 : Int32))), .val (.int (u1 &&& (3 : Int32))), .val (.ref b1), .val (.ref b5), .unset, .unset] [(.int (((u2.toUInt32 >>> ((8 : Int32) &&& 31).toUInt32).toInt32) &&& (1 : Int32)))])) t → Steps p.tables e below (s₁.setTop (entryFrame m #[(.int u0), (.int u1), (.int u2)] maxLocals)) t := fun t k => pre54 t (by
          show Steps p.tables e below (T5.setTop (mkF m 47 #[.val (.int u0), .val (.int u1), .val (.int u2), .val (.int (u0 &&& (3 : Int32))), .val (.int (u1 &&& (3 : Int32))), .val (.ref b1), .val (.ref b5), .unset, .unset] [])) _
          refine XS.iloadN X5.here hx rfl (hb hby at_47) rfl ?_
          show Steps p.tables e below (T5.setTop (mkF m 48 #[.val (.int u0), .val (.int u1), .val (.int u2), .val (.int (u0 &&& (3 : Int32))), .val (.int (u1 &&& (3 : Int32))), .val (.ref b1), .val (.ref b5), .unset, .unset] [(.int u2)])) _
          refine XS.bipush X5.here hx rfl (hb hby at_48) ?_
          show Steps p.tables e below (T5.setTop (mkF m 50 #[.val (.int u0), .val (.int u1), .val (.int u2), .val (.int (u0 &&& (3 : Int32))), .val (.int (u1 &&& (3 : Int32))), .val (.ref b1), .val (.ref b5), .unset, .unset] [(.int (8 : Int32)), (.int u2)])) _
          refine XS.iushr X5.here hx rfl (hb hby at_50) rfl ?_
          show Steps p.tables e below (T5.setTop (mkF m 51 #[.val (.int u0), .val (.int u1), .val (.int u2), .val (.int (u0 &&& (3 : Int32))), .val (.int (u1 &&& (3 : Int32))), .val (.ref b1), .val (.ref b5), .unset, .unset] [(.int ((u2.toUInt32 >>> ((8 : Int32) &&& 31).toUInt32).toInt32))])) _
          refine XS.iconst X5.here hx rfl (hb hby at_51) ?_
          show Steps p.tables e below (T5.setTop (mkF m 52 #[.val (.int u0), .val (.int u1), .val (.int u2), .val (.int (u0 &&& (3 : Int32))), .val (.int (u1 &&& (3 : Int32))), .val (.ref b1), .val (.ref b5), .unset, .unset] [(.int (1 : Int32)), (.int ((u2.toUInt32 >>> ((8 : Int32) &&& 31).toUInt32).toInt32))])) _
          refine XS.iand X5.here hx rfl (hb hby at_52) rfl ?_
          exact k)
        by_cases hc53 : (((u2.toUInt32 >>> ((8 : Int32) &&& 31).toUInt32).toInt32) &&& (1 : Int32)) = (0 : Int32)
        · -- pc 53: (((u2.toUInt32 >>> ((8 : Int32) &&& 31).toUInt32).toInt32) &&& (1 : Int32)) = (0 : Int32)
          intro t k
          have qS0 : (j0_47 u2) = (0 : Int32) := (if_pos hc53).trans (rfl)
          rw [qS0] at k
          refine pre56 t ?_
          show Steps p.tables e below (T5.setTop (mkF m 53 #[.val (.int u0), .val (.int u1), .val (.int u2), .val (.int (u0 &&& (3 : Int32))), .val (.int (u1 &&& (3 : Int32))), .val (.ref b1), .val (.ref b5), .unset, .unset] [(.int (((u2.toUInt32 >>> ((8 : Int32) &&& 31).toUInt32).toInt32) &&& (1 : Int32)))])) _
          refine XS.ifYes X5.here hx rfl (pc0 := 53) (pc' := 60) rfl (hb hby at_53) rfl ((if0 _ _).trans (teq hc53).1) (by decide) (by decide) ?_
          show Steps p.tables e below (T5.setTop (mkF m 60 #[.val (.int u0), .val (.int u1), .val (.int u2), .val (.int (u0 &&& (3 : Int32))), .val (.int (u1 &&& (3 : Int32))), .val (.ref b1), .val (.ref b5), .unset, .unset] [])) _
          refine XS.iconst X5.here hx rfl (hb hby at_60) ?_
          exact k
        · -- pc 53: not (((u2.toUInt32 >>> ((8 : Int32) &&& 31).toUInt32).toInt32) &&& (1 : Int32)) = (0 : Int32)
          intro t k
          have qS0 : (j0_47 u2) = (1 : Int32) := (if_neg hc53).trans (rfl)
          rw [qS0] at k
          refine pre56 t ?_
          show Steps p.tables e below (T5.setTop (mkF m 53 #[.val (.int u0), .val (.int u1), .val (.int u2), .val (.int (u0 &&& (3 : Int32))), .val (.int (u1 &&& (3 : Int32))), .val (.ref b1), .val (.ref b5), .unset, .unset] [(.int (((u2.toUInt32 >>> ((8 : Int32) &&& 31).toUInt32).toInt32) &&& (1 : Int32)))])) _
          refine XS.ifNo X5.here hx rfl (hb hby at_53) rfl ((if0 _ _).trans (feq hc53).1) ?_
          show Steps p.tables e below (T5.setTop (mkF m 56 #[.val (.int u0), .val (.int u1), .val (.int u2), .val (.int (u0 &&& (3 : Int32))), .val (.int (u1 &&& (3 : Int32))), .val (.ref b1), .val (.ref b5), .unset, .unset] [])) _
          refine XS.iconst X5.here hx rfl (hb hby at_56) ?_
          show Steps p.tables e below (T5.setTop (mkF m 57 #[.val (.int u0), .val (.int u1), .val (.int u2), .val (.int (u0 &&& (3 : Int32))), .val (.int (u1 &&& (3 : Int32))), .val (.ref b1), .val (.ref b5), .unset, .unset] [(.int (1 : Int32))])) _
          refine XS.goto X5.here hx rfl (pc0 := 57) (pc' := 61) rfl (hb hby at_57) (by decide) (by decide) ?_
          exact k
      obtain ⟨T57, h57, X57, e57, E57, A57, D57, -, st57⟩ := newO X5 hx hZ hown (hw _ (List.mem_of_getElem? (i := 1) rfl)) (hw _ (List.mem_of_getElem? (i := 2) rfl)) (hw _ (List.mem_of_getElem? (i := 3) rfl)) e5 (g := (mkF m 63 #[.val (.int u0), .val (.int u1), .val (.int u2), .val (.int (u0 &&& (3 : Int32))), .val (.int (u1 &&& (3 : Int32))), .val (.ref b1), .val (.ref b5), .val (.int (j0_47 u2)), .unset] [])) rfl (hb hby at_63) (by decide) (by decide)
      obtain ⟨b57, g57⟩ : ∃ z, z = h5.size := ⟨_, rfl⟩
      rw [← g57] at A57 D57 st57
      have g_b57 : n0 ≤ b57 := Nat.le_trans (Nat.le_trans Z0 K5.1) (Nat.le_of_eq g57.symm)
      have sz_b57 : h0.size ≤ b57 := Nat.le_trans K5.1 (Nat.le_of_eq g57.symm)
      have ne_b1_b57 : b1 ≠ b57 := Nat.ne_of_lt (Nat.lt_of_lt_of_le Q1_6.lt (Nat.le_of_eq g57.symm))
      have ne_b5_b57 : b5 ≠ b57 := Nat.ne_of_lt (Nat.lt_of_lt_of_le Q5.lt (Nat.le_of_eq g57.symm))
      have Q1_58 := Q1_6.ext E57
      have Q5_59 := Q5.ext E57
      have K57 : Keep h0 h57 [] := K5.ext E57
      have F_key_b57 : Fld Z h57 b57 "com/example/sendlimitd/sendlimitd/core/StateStore$Change" "key" "[B" .null := D57 (Or.inr (hw _ (List.mem_of_getElem? (i := 27) rfl))) (ty := (.array .byte)) (by decide)
      have F_value_b57 : Fld Z h57 b57 "com/example/sendlimitd/sendlimitd/core/StateStore$Change" "value" "[B" .null := D57 (Or.inr (hw _ (List.mem_of_getElem? (i := 29) rfl))) (ty := (.array .byte)) (by decide)
      have pre60 : ∀ t, Steps p.tables e below (T57.setTop (mkF m 71 #[.val (.int u0), .val (.int u1), .val (.int u2), .val (.int (u0 &&& (3 : Int32))), .val (.int (u1 &&& (3 : Int32))), .val (.ref b1), .val (.ref b5), .val (.int (j0_47 u2)), .unset] [(.int (j0_47 u2)), (.ref b1), (.ref b57), (.ref b57)])) t → Steps p.tables e below (s₁.setTop (entryFrame m #[(.int u0), (.int u1), (.int u2)] maxLocals)) t := fun t k => pre55 t (by
        show Steps p.tables e below (T5.setTop (mkF m 61 #[.val (.int u0), .val (.int u1), .val (.int u2), .val (.int (u0 &&& (3 : Int32))), .val (.int (u1 &&& (3 : Int32))), .val (.ref b1), .val (.ref b5), .unset, .unset] [(.int (j0_47 u2))])) _
        refine XS.istore X5.here hx rfl (hb hby at_61) rfl (l' := #[.val (.int u0), .val (.int u1), .val (.int u2), .val (.int (u0 &&& (3 : Int32))), .val (.int (u1 &&& (3 : Int32))), .val (.ref b1), .val (.ref b5), .val (.int (j0_47 u2)), .unset]) rfl ?_
        show Steps p.tables e below (T5.setTop (mkF m 63 #[.val (.int u0), .val (.int u1), .val (.int u2), .val (.int (u0 &&& (3 : Int32))), .val (.int (u1 &&& (3 : Int32))), .val (.ref b1), .val (.ref b5), .val (.int (j0_47 u2)), .unset] [])) _
        refine st57 _ ?_
        show Steps p.tables e below (T57.setTop (mkF m 66 #[.val (.int u0), .val (.int u1), .val (.int u2), .val (.int (u0 &&& (3 : Int32))), .val (.int (u1 &&& (3 : Int32))), .val (.ref b1), .val (.ref b5), .val (.int (j0_47 u2)), .unset] [(.ref b57)])) _
        refine XS.dup X57.here hx rfl (hb hby at_66) rfl rfl ?_
        show Steps p.tables e below (T57.setTop (mkF m 67 #[.val (.int u0), .val (.int u1), .val (.int u2), .val (.int (u0 &&& (3 : Int32))), .val (.int (u1 &&& (3 : Int32))), .val (.ref b1), .val (.ref b5), .val (.int (j0_47 u2)), .unset] [(.ref b57), (.ref b57)])) _
        refine XS.aload X57.here hx rfl (hb hby at_67) rfl rfl ?_
        show Steps p.tables e below (T57.setTop (mkF m 69 #[.val (.int u0), .val (.int u1), .val (.int u2), .val (.int (u0 &&& (3 : Int32))), .val (.int (u1 &&& (3 : Int32))), .val (.ref b1), .val (.ref b5), .val (.int (j0_47 u2)), .unset] [(.ref b1), (.ref b57), (.ref b57)])) _
        refine XS.iload X57.here hx rfl (hb hby at_69) rfl ?_
        exact k)
      by_cases hc71 : (j0_47 u2) = (0 : Int32)
      · -- pc 71: (j0_47 u2) = (0 : Int32)
        obtain ⟨_, _, ⟨T61, L61, k61, n61⟩, -, X61, S61q, hg61, ⟨Lc61, hQ61, l61, y61, z61⟩, st61⟩ := X57.specialBackS hx (y := (⟨"com/example/sendlimitd/sendlimitd/core/StateStore$Change", "<init>", "([B[B)V"⟩ : MethodName)) rfl hown (mvT hZ (hw _ (List.mem_of_getElem? (i := 4) rfl))) (mvT hZ (hw _ (List.mem_of_getElem? (i := 5) rfl))) (mvT hZ (hw _ (List.mem_of_getElem? (i := 6) rfl))) (by decide) (backOfS (W := 1) (rm1 l Z a0 hw [] b57 b1 b5  h57 n0 (Nat.le_trans Z0 K57.1) A57 F_key_b57 F_value_b57 g_b57) hZ (hw _ (List.mem_of_getElem? (i := 6) rfl)) (hw _ (List.mem_of_getElem? (i := 3) rfl)) (by decide) (by decide)) (g := (mkF m 80 #[.val (.int u0), .val (.int u1), .val (.int u2), .val (.int (u0 &&& (3 : Int32))), .val (.int (u1 &&& (3 : Int32))), .val (.ref b1), .val (.ref b5), .val (.int (j0_47 u2)), .unset] [(.ref b5), (.ref b1), (.ref b57), (.ref b57)])) rfl (by rw [hml]; rfl) (Steps.refl _) (a := b57) (argsL := [(.ref b1), (.ref b5)]) (rest := [(.ref b57)]) (lenOf pd_2 rfl) rfl (by show 2 * 0 + _ ≤ _; exact Nat.le_of_eq rfl) (hb hby at_80) (fun _ _ => ⟨rfl, e57, (by decide : 3 + 2 ≤ _), (by decide : 8 + 16 ≤ _)⟩)
        dsimp only [Pt.U, Pt.locs, Pt.cells, Pt.slots] at X61 l61 y61 z61 st61 hQ61 S61q hg61
        subst l61 y61 z61
        have S61 := foldS (s := s) (vm0 := s.vm) ((State.WarmedH.refl s).since 0) (Nat.zero_le _) S61q hg61
        have hZ : Z.Warmed39 (s.setVm T61.vm).vm := State.Warmed39.trans (t := s.setVm s.vm) hZ S61q.1
        have hown : (s.setVm T61.vm).vm.findClass "com/example/sendlimitd/sendlimitd/core/ChangeIsDeletePinLaw" = some m.cls := by rw [show (s.setVm T61.vm).vm = T61.vm from rfl, S61q.1.alike.findClass]; exact hown
        obtain ⟨rfl, N61q, K61q, E_r61, F_value61⟩ := hQ61
        have N61 := Fr.app N3 N61q
        have K61 : Keep h0 T61.heap [] := K57.trans K61q (allS (Or.inr sz_b57) all0)
        have Q1_62 := Q1_58.keep K61q
        have Q5_63 := Q5_59.keep K61q
        obtain ⟨cq64, kq64, q64a, q64b, q64c⟩ := isOf hZ rfl E_r61
        obtain ⟨_, _, ⟨T64, L64, k64, n64⟩, -, X64, ⟨Lc64, hQ64, l64, y64, z64⟩, st64⟩ := X61.virtualBack hx (y := (⟨"com/example/sendlimitd/sendlimitd/core/StateStore$Change", "isDelete", "()Z"⟩ : MethodName)) (z := (⟨"com/example/sendlimitd/sendlimitd/core/StateStore$Change", "isDelete", "()Z"⟩ : MethodName)) hown (mvT hZ (hw _ (List.mem_of_getElem? (i := 30) rfl))) (mvT hZ (hw _ (List.mem_of_getElem? (i := 31) rfl))) (notFace_of_selects (args := #[]) (mvT hZ (hw _ (List.mem_of_getElem? (i := 33) rfl)))) (mvT hZ (hw _ (List.mem_of_getElem? (i := 33) rfl))) (mvT hZ (hw _ (List.mem_of_getElem? (i := 32) rfl))) (by decide) (backOf (W := 0) (rm5 l Z a0 hw [] b57 b5 T61.heap n0 (Nat.le_trans Z0 K61.1) F_value61) hZ (hw _ (List.mem_of_getElem? (i := 34) rfl)) (hw _ (List.mem_of_getElem? (i := 3) rfl)) (by decide) (by decide)) q64a q64c (g := (mkF m 87 #[.val (.int u0), .val (.int u1), .val (.int u2), .val (.int (u0 &&& (3 : Int32))), .val (.int (u1 &&& (3 : Int32))), .val (.ref b1), .val (.ref b5), .val (.int (j0_47 u2)), .val (.ref b57)] [(.ref b57)])) rfl (by rw [hml]; rfl) (Steps.refl _) (argsL := []) (rest := []) (lenOf pd_3 rfl) rfl (by show 2 * 0 + _ ≤ _; exact Nat.le_of_eq rfl) (hb hby at_87) (fun _ _ => ⟨rfl, rfl, (by decide : 5 + 0 ≤ _), (by decide : 24 + 0 ≤ _)⟩)
        dsimp only [Pt.U, Pt.locs, Pt.cells, Pt.slots] at X64 l64 y64 z64 st64 hQ64
        subst l64 y64 z64
        obtain ⟨rfl, N64q, e64⟩ := hQ64
        have N64 := Fr.app N61 N64q
        obtain ⟨_, _, ⟨T65, L65, k65, n65⟩, -, X65, S65q, hg65, ⟨Lc65, hQ65, l65, y65, z65⟩, st65⟩ := callSS X64 hx (y := (⟨"com/example/sendlimitd/sendlimitd/core/StateStore$Change", "delete", "([B)Lcom/example/sendlimitd/sendlimitd/core/StateStore$Change;"⟩ : MethodName)) hown (mvT hZ (hw _ (List.mem_of_getElem? (i := 35) rfl))) (mvT hZ (hw _ (List.mem_of_getElem? (i := 36) rfl))) (mvT hZ (hw _ (List.mem_of_getElem? (i := 3) rfl))) (mvT hZ (hw _ (List.mem_of_getElem? (i := 37) rfl))) (by decide) (backOfS (W := 0) (rm6 l Z a0 hw [] b1  T61.heap n0 (Nat.le_trans Z0 K61.1) ) hZ (hw _ (List.mem_of_getElem? (i := 37) rfl)) (hw _ (List.mem_of_getElem? (i := 3) rfl)) (by decide) (by decide)) (g := (mkF m 99 #[.val (.int u0), .val (.int u1), .val (.int u2), .val (.int (u0 &&& (3 : Int32))), .val (.int (u1 &&& (3 : Int32))), .val (.ref b1), .val (.ref b5), .val (.int (j0_47 u2)), .val (.ref b57)] [(.ref b1)])) rfl (by rw [hml]; rfl) (argsL := [(.ref b1)]) (rest := []) (lenOf pd_4 rfl) rfl (by show 2 * 0 + _ ≤ _; exact Nat.le_of_eq rfl) (hb hby at_99) (fun _ _ => ⟨rfl, e64, (by decide : 5 + 3 ≤ _), (by decide : 24 + 18 ≤ _)⟩)
        dsimp only [Pt.U, Pt.locs, Pt.cells, Pt.slots] at X65 l65 y65 z65 st65 hQ65 S65q hg65
        subst l65 y65 z65
        have S65 := foldS (s := s) (vm0 := T61.vm) S61 (by rw [e64]; exact (Nat.le_refl T61.heap.size)) S65q hg65
        have hZ : Z.Warmed39 (s.setVm T65.vm).vm := State.Warmed39.trans (t := s.setVm T61.vm) hZ S65q.1
        have hown : (s.setVm T65.vm).vm.findClass "com/example/sendlimitd/sendlimitd/core/ChangeIsDeletePinLaw" = some m.cls := by rw [show (s.setVm T65.vm).vm = T65.vm from rfl, S65q.1.alike.findClass]; exact hown
        obtain ⟨b65, rfl, N65q, K65q, E_r65, F_value65⟩ := hQ65
        have N65 := Fr.app N64 N65q
        have K65 : Keep h0 T65.heap [] := K61.trans K65q all0
        have Q1_66 := Q1_62.keep K65q
        have Q5_67 := Q5_63.keep K65q
        have E_r61_68 := E_r61.keep K65q
        have F_value61_69 := F_value61.keep K65q nin0
        obtain ⟨cq70, kq70, q70a, q70b, q70c⟩ := isOf hZ rfl E_r65
        obtain ⟨_, _, ⟨T70, L70, k70, n70⟩, -, X70, ⟨Lc70, hQ70, l70, y70, z70⟩, st70⟩ := X65.virtualBack hx (y := (⟨"com/example/sendlimitd/sendlimitd/core/StateStore$Change", "isDelete", "()Z"⟩ : MethodName)) (z := (⟨"com/example/sendlimitd/sendlimitd/core/StateStore$Change", "isDelete", "()Z"⟩ : MethodName)) hown (mvT hZ (hw _ (List.mem_of_getElem? (i := 30) rfl))) (mvT hZ (hw _ (List.mem_of_getElem? (i := 31) rfl))) (notFace_of_selects (args := #[]) (mvT hZ (hw _ (List.mem_of_getElem? (i := 33) rfl)))) (mvT hZ (hw _ (List.mem_of_getElem? (i := 33) rfl))) (mvT hZ (hw _ (List.mem_of_getElem? (i := 32) rfl))) (by decide) (backOf (W := 0) (rm5n l Z a0 hw [] b65  T65.heap n0 (Nat.le_trans Z0 K65.1) F_value65) hZ (hw _ (List.mem_of_getElem? (i := 34) rfl)) (hw _ (List.mem_of_getElem? (i := 3) rfl)) (by decide) (by decide)) q70a q70c (g := (mkF m 102 #[.val (.int u0), .val (.int u1), .val (.int u2), .val (.int (u0 &&& (3 : Int32))), .val (.int (u1 &&& (3 : Int32))), .val (.ref b1), .val (.ref b5), .val (.int (j0_47 u2)), .val (.ref b57)] [(.ref b65)])) rfl (by rw [hml]; rfl) (Steps.refl _) (argsL := []) (rest := []) (lenOf pd_3 rfl) rfl (by show 2 * 0 + _ ≤ _; exact Nat.le_of_eq rfl) (hb hby at_102) (fun _ _ => ⟨rfl, rfl, (by decide : 8 + 0 ≤ _), (by decide : 42 + 0 ≤ _)⟩)
        dsimp only [Pt.U, Pt.locs, Pt.cells, Pt.slots] at X70 l70 y70 z70 st70 hQ70
        subst l70 y70 z70
        obtain ⟨rfl, N70q, e70⟩ := hQ70
        have N70 := Fr.app N65 N70q
        obtain ⟨_, _, ⟨T71, L71, k71, n71⟩, -, X71, S71q, hg71, ⟨Lc71, hQ71, l71, y71, z71⟩, st71⟩ := callSS X70 hx (y := (⟨"com/example/sendlimitd/sendlimitd/core/StateStore$Change", "put", "([B[B)Lcom/example/sendlimitd/sendlimitd/core/StateStore$Change;"⟩ : MethodName)) hown (mvT hZ (hw _ (List.mem_of_getElem? (i := 40) rfl))) (mvT hZ (hw _ (List.mem_of_getElem? (i := 41) rfl))) (mvT hZ (hw _ (List.mem_of_getElem? (i := 3) rfl))) (mvT hZ (hw _ (List.mem_of_getElem? (i := 42) rfl))) (by decide) (backOfS (W := 0) (rm7 l Z a0 hw [] b1 b5  T65.heap n0 (Nat.le_trans Z0 K65.1) Q5_67) hZ (hw _ (List.mem_of_getElem? (i := 42) rfl)) (hw _ (List.mem_of_getElem? (i := 3) rfl)) (by decide) (by decide)) (g := (mkF m 114 #[.val (.int u0), .val (.int u1), .val (.int u2), .val (.int (u0 &&& (3 : Int32))), .val (.int (u1 &&& (3 : Int32))), .val (.ref b1), .val (.ref b5), .val (.int (j0_47 u2)), .val (.ref b57)] [(.ref b5), (.ref b1)])) rfl (by rw [hml]; rfl) (argsL := [(.ref b1), (.ref b5)]) (rest := []) (lenOf pd_5 rfl) rfl (by show 2 * 0 + _ ≤ _; exact Nat.le_of_eq rfl) (hb hby at_114) (fun _ _ => ⟨rfl, e70, (by decide : 8 + 5 ≤ _), (by decide : 42 + 42 ≤ _)⟩)
        dsimp only [Pt.U, Pt.locs, Pt.cells, Pt.slots] at X71 l71 y71 z71 st71 hQ71 S71q hg71
        subst l71 y71 z71
        have S71 := foldS (s := s) (vm0 := T65.vm) S65 (by rw [e70]; exact (Nat.le_refl T65.heap.size)) S71q hg71
        have hZ : Z.Warmed39 (s.setVm T71.vm).vm := State.Warmed39.trans (t := s.setVm T65.vm) hZ S71q.1
        have hown : (s.setVm T71.vm).vm.findClass "com/example/sendlimitd/sendlimitd/core/ChangeIsDeletePinLaw" = some m.cls := by rw [show (s.setVm T71.vm).vm = T71.vm from rfl, S71q.1.alike.findClass]; exact hown
        obtain ⟨b71, rfl, N71q, K71q, E_r71, F_value71⟩ := hQ71
        have N71 := Fr.app N70 N71q
        have K71 : Keep h0 T71.heap [] := K65.trans K71q all0
        have Q1_72 := Q1_66.keep K71q
        have Q5_73 := Q5_67.keep K71q
        have E_r61_74 := E_r61_68.keep K71q
        have F_value61_75 := F_value61_69.keep K71q nin0
        have E_r65_76 := E_r65.keep K71q
        have F_value65_77 := F_value65.keep K71q nin0
        obtain ⟨cq78, kq78, q78a, q78b, q78c⟩ := isOf hZ rfl E_r71
        obtain ⟨_, _, ⟨T78, L78, k78, n78⟩, -, X78, ⟨Lc78, hQ78, l78, y78, z78⟩, st78⟩ := X71.virtualBack hx (y := (⟨"com/example/sendlimitd/sendlimitd/core/StateStore$Change", "isDelete", "()Z"⟩ : MethodName)) (z := (⟨"com/example/sendlimitd/sendlimitd/core/StateStore$Change", "isDelete", "()Z"⟩ : MethodName)) hown (mvT hZ (hw _ (List.mem_of_getElem? (i := 30) rfl))) (mvT hZ (hw _ (List.mem_of_getElem? (i := 31) rfl))) (notFace_of_selects (args := #[]) (mvT hZ (hw _ (List.mem_of_getElem? (i := 33) rfl)))) (mvT hZ (hw _ (List.mem_of_getElem? (i := 33) rfl))) (mvT hZ (hw _ (List.mem_of_getElem? (i := 32) rfl))) (by decide) (backOf (W := 0) (rm5 l Z a0 hw [] b71 b5 T71.heap n0 (Nat.le_trans Z0 K71.1) F_value71) hZ (hw _ (List.mem_of_getElem? (i := 34) rfl)) (hw _ (List.mem_of_getElem? (i := 3) rfl)) (by decide) (by decide)) q78a q78c (g := (mkF m 117 #[.val (.int u0), .val (.int u1), .val (.int u2), .val (.int (u0 &&& (3 : Int32))), .val (.int (u1 &&& (3 : Int32))), .val (.ref b1), .val (.ref b5), .val (.int (j0_47 u2)), .val (.ref b57)] [(.ref b71)])) rfl (by rw [hml]; rfl) (Steps.refl _) (argsL := []) (rest := []) (lenOf pd_3 rfl) rfl (by show 2 * 0 + _ ≤ _; exact Nat.le_of_eq rfl) (hb hby at_117) (fun _ _ => ⟨rfl, rfl, (by decide : 13 + 0 ≤ _), (by decide : 84 + 0 ≤ _)⟩)
        dsimp only [Pt.U, Pt.locs, Pt.cells, Pt.slots] at X78 l78 y78 z78 st78 hQ78
        subst l78 y78 z78
        obtain ⟨rfl, N78q, e78⟩ := hQ78
        have N78 := Fr.app N71 N78q
        obtain ⟨fs, hr, hrun, hended, hRE⟩ := X78.leaveW (s := s) (vm₁ := T71.vm) S71 (by rw [e78]; exact (Nat.le_refl T71.heap.size)) (v := (some (.int (1 : Int32)))) (fun h => by rw [Bd.returns] at h; cases h)
        refine ⟨_, _, pre60 _ ?_, hrun, hended, _, _, rfl, ?_, hRE.1, hRE.2.1, hRE.2.2.1, hRE.2.2.2.mono (by decide) (by decide)⟩
        · show Steps p.tables e below (T57.setTop (mkF m 71 #[.val (.int u0), .val (.int u1), .val (.int u2), .val (.int (u0 &&& (3 : Int32))), .val (.int (u1 &&& (3 : Int32))), .val (.ref b1), .val (.ref b5), .val (.int (j0_47 u2)), .unset] [(.int (j0_47 u2)), (.ref b1), (.ref b57), (.ref b57)])) _
          refine XS.ifYes X57.here hx rfl (pc0 := 71) (pc' := 78) rfl (hb hby at_71) rfl ((if0 _ _).trans (teq hc71).1) (by decide) (by decide) ?_
          show Steps p.tables e below (T57.setTop (mkF m 78 #[.val (.int u0), .val (.int u1), .val (.int u2), .val (.int (u0 &&& (3 : Int32))), .val (.int (u1 &&& (3 : Int32))), .val (.ref b1), .val (.ref b5), .val (.int (j0_47 u2)), .unset] [(.ref b1), (.ref b57), (.ref b57)])) _
          refine XS.aload X57.here hx rfl (hb hby at_78) rfl rfl ?_
          show Steps p.tables e below (T57.setTop (mkF m 80 #[.val (.int u0), .val (.int u1), .val (.int u2), .val (.int (u0 &&& (3 : Int32))), .val (.int (u1 &&& (3 : Int32))), .val (.ref b1), .val (.ref b5), .val (.int (j0_47 u2)), .unset] [(.ref b5), (.ref b1), (.ref b57), (.ref b57)])) _
          refine st61.trans ?_
          show Steps p.tables e below (T61.setTop (mkF m 83 #[.val (.int u0), .val (.int u1), .val (.int u2), .val (.int (u0 &&& (3 : Int32))), .val (.int (u1 &&& (3 : Int32))), .val (.ref b1), .val (.ref b5), .val (.int (j0_47 u2)), .unset] [(.ref b57)])) _
          refine XS.astore X61.here hx rfl (hb hby at_83) rfl rfl (l' := #[.val (.int u0), .val (.int u1), .val (.int u2), .val (.int (u0 &&& (3 : Int32))), .val (.int (u1 &&& (3 : Int32))), .val (.ref b1), .val (.ref b5), .val (.int (j0_47 u2)), .val (.ref b57)]) rfl ?_
          show Steps p.tables e below (T61.setTop (mkF m 85 #[.val (.int u0), .val (.int u1), .val (.int u2), .val (.int (u0 &&& (3 : Int32))), .val (.int (u1 &&& (3 : Int32))), .val (.ref b1), .val (.ref b5), .val (.int (j0_47 u2)), .val (.ref b57)] [])) _
          refine XS.aload X61.here hx rfl (hb hby at_85) rfl rfl ?_
          show Steps p.tables e below (T61.setTop (mkF m 87 #[.val (.int u0), .val (.int u1), .val (.int u2), .val (.int (u0 &&& (3 : Int32))), .val (.int (u1 &&& (3 : Int32))), .val (.ref b1), .val (.ref b5), .val (.int (j0_47 u2)), .val (.ref b57)] [(.ref b57)])) _
          refine st64.trans ?_
          show Steps p.tables e below (T64.setTop (mkF m 90 #[.val (.int u0), .val (.int u1), .val (.int u2), .val (.int (u0 &&& (3 : Int32))), .val (.int (u1 &&& (3 : Int32))), .val (.ref b1), .val (.ref b5), .val (.int (j0_47 u2)), .val (.ref b57)] [(.int (0 : Int32))])) _
          refine XS.iload X64.here hx rfl (hb hby at_90) rfl ?_
          show Steps p.tables e below (T64.setTop (mkF m 92 #[.val (.int u0), .val (.int u1), .val (.int u2), .val (.int (u0 &&& (3 : Int32))), .val (.int (u1 &&& (3 : Int32))), .val (.ref b1), .val (.ref b5), .val (.int (j0_47 u2)), .val (.ref b57)] [(.int (j0_47 u2)), (.int (0 : Int32))])) _
          refine XS.icmpYes X64.here hx rfl (pc0 := 92) (pc' := 97) rfl (hb hby at_92) rfl (teq hc71.symm).1 (by decide) (by decide) ?_
          show Steps p.tables e below (T64.setTop (mkF m 97 #[.val (.int u0), .val (.int u1), .val (.int u2), .val (.int (u0 &&& (3 : Int32))), .val (.int (u1 &&& (3 : Int32))), .val (.ref b1), .val (.ref b5), .val (.int (j0_47 u2)), .val (.ref b57)] [])) _
          refine XS.aload X64.here hx rfl (hb hby at_97) rfl rfl ?_
          show Steps p.tables e below (T64.setTop (mkF m 99 #[.val (.int u0), .val (.int u1), .val (.int u2), .val (.int (u0 &&& (3 : Int32))), .val (.int (u1 &&& (3 : Int32))), .val (.ref b1), .val (.ref b5), .val (.int (j0_47 u2)), .val (.ref b57)] [(.ref b1)])) _
          refine st65.trans ?_
          show Steps p.tables e below (T65.setTop (mkF m 102 #[.val (.int u0), .val (.int u1), .val (.int u2), .val (.int (u0 &&& (3 : Int32))), .val (.int (u1 &&& (3 : Int32))), .val (.ref b1), .val (.ref b5), .val (.int (j0_47 u2)), .val (.ref b57)] [(.ref b65)])) _
          refine st70.trans ?_
          show Steps p.tables e below (T70.setTop (mkF m 105 #[.val (.int u0), .val (.int u1), .val (.int u2), .val (.int (u0 &&& (3 : Int32))), .val (.int (u1 &&& (3 : Int32))), .val (.ref b1), .val (.ref b5), .val (.int (j0_47 u2)), .val (.ref b57)] [(.int (1 : Int32))])) _
          refine XS.ifYes X70.here hx rfl (pc0 := 105) (pc' := 110) rfl (hb hby at_105) rfl ((if0 _ _).trans (feq (by decide : ¬ ((1 : Int32) = (0 : Int32)))).2) (by decide) (by decide) ?_
          show Steps p.tables e below (T70.setTop (mkF m 110 #[.val (.int u0), .val (.int u1), .val (.int u2), .val (.int (u0 &&& (3 : Int32))), .val (.int (u1 &&& (3 : Int32))), .val (.ref b1), .val (.ref b5), .val (.int (j0_47 u2)), .val (.ref b57)] [])) _
          refine XS.aload X70.here hx rfl (hb hby at_110) rfl rfl ?_
          show Steps p.tables e below (T70.setTop (mkF m 112 #[.val (.int u0), .val (.int u1), .val (.int u2), .val (.int (u0 &&& (3 : Int32))), .val (.int (u1 &&& (3 : Int32))), .val (.ref b1), .val (.ref b5), .val (.int (j0_47 u2)), .val (.ref b57)] [(.ref b1)])) _
          refine XS.aload X70.here hx rfl (hb hby at_112) rfl rfl ?_
          show Steps p.tables e below (T70.setTop (mkF m 114 #[.val (.int u0), .val (.int u1), .val (.int u2), .val (.int (u0 &&& (3 : Int32))), .val (.int (u1 &&& (3 : Int32))), .val (.ref b1), .val (.ref b5), .val (.int (j0_47 u2)), .val (.ref b57)] [(.ref b5), (.ref b1)])) _
          refine st71.trans ?_
          show Steps p.tables e below (T71.setTop (mkF m 117 #[.val (.int u0), .val (.int u1), .val (.int u2), .val (.int (u0 &&& (3 : Int32))), .val (.int (u1 &&& (3 : Int32))), .val (.ref b1), .val (.ref b5), .val (.int (j0_47 u2)), .val (.ref b57)] [(.ref b71)])) _
          refine st78.trans ?_
          show Steps p.tables e below (T78.setTop (mkF m 120 #[.val (.int u0), .val (.int u1), .val (.int u2), .val (.int (u0 &&& (3 : Int32))), .val (.int (u1 &&& (3 : Int32))), .val (.ref b1), .val (.ref b5), .val (.int (j0_47 u2)), .val (.ref b57)] [(.int (0 : Int32))])) _
          refine XS.ifYes X78.here hx rfl (pc0 := 120) (pc' := 125) rfl (hb hby at_120) rfl ((if0 _ _).trans (teq (by decide : (0 : Int32) = (0 : Int32))).1) (by decide) (by decide) ?_
          show Steps p.tables e below (T78.setTop (mkF m 125 #[.val (.int u0), .val (.int u1), .val (.int u2), .val (.int (u0 &&& (3 : Int32))), .val (.int (u1 &&& (3 : Int32))), .val (.ref b1), .val (.ref b5), .val (.int (j0_47 u2)), .val (.ref b57)] [])) _
          refine XS.iconst X78.here hx rfl (hb hby at_125) ?_
          show Steps p.tables e below (T78.setTop (mkF m 126 #[.val (.int u0), .val (.int u1), .val (.int u2), .val (.int (u0 &&& (3 : Int32))), .val (.int (u1 &&& (3 : Int32))), .val (.ref b1), .val (.ref b5), .val (.int (j0_47 u2)), .val (.ref b57)] [(.int (1 : Int32))])) _
          exact retN X78 hx (t := .boolean) Bd.returns (by simp) (hb hby at_126) hr
        · show QL n0 _ T78.heap _
          rw [e78]
          exact ⟨rfl, N78⟩
      · -- pc 71: not (j0_47 u2) = (0 : Int32)
        obtain ⟨_, _, ⟨T79, L79, k79, n79⟩, -, X79, S79q, hg79, ⟨Lc79, hQ79, l79, y79, z79⟩, st79⟩ := X57.specialBackS hx (y := (⟨"com/example/sendlimitd/sendlimitd/core/StateStore$Change", "<init>", "([B[B)V"⟩ : MethodName)) rfl hown (mvT hZ (hw _ (List.mem_of_getElem? (i := 4) rfl))) (mvT hZ (hw _ (List.mem_of_getElem? (i := 5) rfl))) (mvT hZ (hw _ (List.mem_of_getElem? (i := 6) rfl))) (by decide) (backOfS (W := 1) (rm1n l Z a0 hw [] b57 b1  h57 n0 (Nat.le_trans Z0 K57.1) A57 F_key_b57 F_value_b57 g_b57) hZ (hw _ (List.mem_of_getElem? (i := 6) rfl)) (hw _ (List.mem_of_getElem? (i := 3) rfl)) (by decide) (by decide)) (g := (mkF m 80 #[.val (.int u0), .val (.int u1), .val (.int u2), .val (.int (u0 &&& (3 : Int32))), .val (.int (u1 &&& (3 : Int32))), .val (.ref b1), .val (.ref b5), .val (.int (j0_47 u2)), .unset] [.null, (.ref b1), (.ref b57), (.ref b57)])) rfl (by rw [hml]; rfl) (Steps.refl _) (a := b57) (argsL := [(.ref b1), .null]) (rest := [(.ref b57)]) (lenOf pd_2 rfl) rfl (by show 2 * 0 + _ ≤ _; exact Nat.le_of_eq rfl) (hb hby at_80) (fun _ _ => ⟨rfl, e57, (by decide : 3 + 2 ≤ _), (by decide : 8 + 16 ≤ _)⟩)
        dsimp only [Pt.U, Pt.locs, Pt.cells, Pt.slots] at X79 l79 y79 z79 st79 hQ79 S79q hg79
        subst l79 y79 z79
        have S79 := foldS (s := s) (vm0 := s.vm) ((State.WarmedH.refl s).since 0) (Nat.zero_le _) S79q hg79
        have hZ : Z.Warmed39 (s.setVm T79.vm).vm := State.Warmed39.trans (t := s.setVm s.vm) hZ S79q.1
        have hown : (s.setVm T79.vm).vm.findClass "com/example/sendlimitd/sendlimitd/core/ChangeIsDeletePinLaw" = some m.cls := by rw [show (s.setVm T79.vm).vm = T79.vm from rfl, S79q.1.alike.findClass]; exact hown
        obtain ⟨rfl, N79q, K79q, E_r79, F_value79⟩ := hQ79
        have N79 := Fr.app N3 N79q
        have K79 : Keep h0 T79.heap [] := K57.trans K79q (allS (Or.inr sz_b57) all0)
        have Q1_80 := Q1_58.keep K79q
        have Q5_81 := Q5_59.keep K79q
        obtain ⟨cq82, kq82, q82a, q82b, q82c⟩ := isOf hZ rfl E_r79
        obtain ⟨_, _, ⟨T82, L82, k82, n82⟩, -, X82, ⟨Lc82, hQ82, l82, y82, z82⟩, st82⟩ := X79.virtualBack hx (y := (⟨"com/example/sendlimitd/sendlimitd/core/StateStore$Change", "isDelete", "()Z"⟩ : MethodName)) (z := (⟨"com/example/sendlimitd/sendlimitd/core/StateStore$Change", "isDelete", "()Z"⟩ : MethodName)) hown (mvT hZ (hw _ (List.mem_of_getElem? (i := 30) rfl))) (mvT hZ (hw _ (List.mem_of_getElem? (i := 31) rfl))) (notFace_of_selects (args := #[]) (mvT hZ (hw _ (List.mem_of_getElem? (i := 33) rfl)))) (mvT hZ (hw _ (List.mem_of_getElem? (i := 33) rfl))) (mvT hZ (hw _ (List.mem_of_getElem? (i := 32) rfl))) (by decide) (backOf (W := 0) (rm5n l Z a0 hw [] b57  T79.heap n0 (Nat.le_trans Z0 K79.1) F_value79) hZ (hw _ (List.mem_of_getElem? (i := 34) rfl)) (hw _ (List.mem_of_getElem? (i := 3) rfl)) (by decide) (by decide)) q82a q82c (g := (mkF m 87 #[.val (.int u0), .val (.int u1), .val (.int u2), .val (.int (u0 &&& (3 : Int32))), .val (.int (u1 &&& (3 : Int32))), .val (.ref b1), .val (.ref b5), .val (.int (j0_47 u2)), .val (.ref b57)] [(.ref b57)])) rfl (by rw [hml]; rfl) (Steps.refl _) (argsL := []) (rest := []) (lenOf pd_3 rfl) rfl (by show 2 * 0 + _ ≤ _; exact Nat.le_of_eq rfl) (hb hby at_87) (fun _ _ => ⟨rfl, rfl, (by decide : 5 + 0 ≤ _), (by decide : 24 + 0 ≤ _)⟩)
        dsimp only [Pt.U, Pt.locs, Pt.cells, Pt.slots] at X82 l82 y82 z82 st82 hQ82
        subst l82 y82 z82
        obtain ⟨rfl, N82q, e82⟩ := hQ82
        have N82 := Fr.app N79 N82q
        obtain ⟨_, _, ⟨T83, L83, k83, n83⟩, -, X83, S83q, hg83, ⟨Lc83, hQ83, l83, y83, z83⟩, st83⟩ := callSS X82 hx (y := (⟨"com/example/sendlimitd/sendlimitd/core/StateStore$Change", "delete", "([B)Lcom/example/sendlimitd/sendlimitd/core/StateStore$Change;"⟩ : MethodName)) hown (mvT hZ (hw _ (List.mem_of_getElem? (i := 35) rfl))) (mvT hZ (hw _ (List.mem_of_getElem? (i := 36) rfl))) (mvT hZ (hw _ (List.mem_of_getElem? (i := 3) rfl))) (mvT hZ (hw _ (List.mem_of_getElem? (i := 37) rfl))) (by decide) (backOfS (W := 0) (rm6 l Z a0 hw [] b1  T79.heap n0 (Nat.le_trans Z0 K79.1) ) hZ (hw _ (List.mem_of_getElem? (i := 37) rfl)) (hw _ (List.mem_of_getElem? (i := 3) rfl)) (by decide) (by decide)) (g := (mkF m 99 #[.val (.int u0), .val (.int u1), .val (.int u2), .val (.int (u0 &&& (3 : Int32))), .val (.int (u1 &&& (3 : Int32))), .val (.ref b1), .val (.ref b5), .val (.int (j0_47 u2)), .val (.ref b57)] [(.ref b1)])) rfl (by rw [hml]; rfl) (argsL := [(.ref b1)]) (rest := []) (lenOf pd_4 rfl) rfl (by show 2 * 0 + _ ≤ _; exact Nat.le_of_eq rfl) (hb hby at_99) (fun _ _ => ⟨rfl, e82, (by decide : 5 + 3 ≤ _), (by decide : 24 + 18 ≤ _)⟩)
        dsimp only [Pt.U, Pt.locs, Pt.cells, Pt.slots] at X83 l83 y83 z83 st83 hQ83 S83q hg83
        subst l83 y83 z83
        have S83 := foldS (s := s) (vm0 := T79.vm) S79 (by rw [e82]; exact (Nat.le_refl T79.heap.size)) S83q hg83
        have hZ : Z.Warmed39 (s.setVm T83.vm).vm := State.Warmed39.trans (t := s.setVm T79.vm) hZ S83q.1
        have hown : (s.setVm T83.vm).vm.findClass "com/example/sendlimitd/sendlimitd/core/ChangeIsDeletePinLaw" = some m.cls := by rw [show (s.setVm T83.vm).vm = T83.vm from rfl, S83q.1.alike.findClass]; exact hown
        obtain ⟨b83, rfl, N83q, K83q, E_r83, F_value83⟩ := hQ83
        have N83 := Fr.app N82 N83q
        have K83 : Keep h0 T83.heap [] := K79.trans K83q all0
        have Q1_84 := Q1_80.keep K83q
        have Q5_85 := Q5_81.keep K83q
        have E_r79_86 := E_r79.keep K83q
        have F_value79_87 := F_value79.keep K83q nin0
        obtain ⟨cq88, kq88, q88a, q88b, q88c⟩ := isOf hZ rfl E_r83
        obtain ⟨_, _, ⟨T88, L88, k88, n88⟩, -, X88, ⟨Lc88, hQ88, l88, y88, z88⟩, st88⟩ := X83.virtualBack hx (y := (⟨"com/example/sendlimitd/sendlimitd/core/StateStore$Change", "isDelete", "()Z"⟩ : MethodName)) (z := (⟨"com/example/sendlimitd/sendlimitd/core/StateStore$Change", "isDelete", "()Z"⟩ : MethodName)) hown (mvT hZ (hw _ (List.mem_of_getElem? (i := 30) rfl))) (mvT hZ (hw _ (List.mem_of_getElem? (i := 31) rfl))) (notFace_of_selects (args := #[]) (mvT hZ (hw _ (List.mem_of_getElem? (i := 33) rfl)))) (mvT hZ (hw _ (List.mem_of_getElem? (i := 33) rfl))) (mvT hZ (hw _ (List.mem_of_getElem? (i := 32) rfl))) (by decide) (backOf (W := 0) (rm5n l Z a0 hw [] b83  T83.heap n0 (Nat.le_trans Z0 K83.1) F_value83) hZ (hw _ (List.mem_of_getElem? (i := 34) rfl)) (hw _ (List.mem_of_getElem? (i := 3) rfl)) (by decide) (by decide)) q88a q88c (g := (mkF m 102 #[.val (.int u0), .val (.int u1), .val (.int u2), .val (.int (u0 &&& (3 : Int32))), .val (.int (u1 &&& (3 : Int32))), .val (.ref b1), .val (.ref b5), .val (.int (j0_47 u2)), .val (.ref b57)] [(.ref b83)])) rfl (by rw [hml]; rfl) (Steps.refl _) (argsL := []) (rest := []) (lenOf pd_3 rfl) rfl (by show 2 * 0 + _ ≤ _; exact Nat.le_of_eq rfl) (hb hby at_102) (fun _ _ => ⟨rfl, rfl, (by decide : 8 + 0 ≤ _), (by decide : 42 + 0 ≤ _)⟩)
        dsimp only [Pt.U, Pt.locs, Pt.cells, Pt.slots] at X88 l88 y88 z88 st88 hQ88
        subst l88 y88 z88
        obtain ⟨rfl, N88q, e88⟩ := hQ88
        have N88 := Fr.app N83 N88q
        obtain ⟨_, _, ⟨T89, L89, k89, n89⟩, -, X89, S89q, hg89, ⟨Lc89, hQ89, l89, y89, z89⟩, st89⟩ := callSS X88 hx (y := (⟨"com/example/sendlimitd/sendlimitd/core/StateStore$Change", "put", "([B[B)Lcom/example/sendlimitd/sendlimitd/core/StateStore$Change;"⟩ : MethodName)) hown (mvT hZ (hw _ (List.mem_of_getElem? (i := 40) rfl))) (mvT hZ (hw _ (List.mem_of_getElem? (i := 41) rfl))) (mvT hZ (hw _ (List.mem_of_getElem? (i := 3) rfl))) (mvT hZ (hw _ (List.mem_of_getElem? (i := 42) rfl))) (by decide) (backOfS (W := 0) (rm7 l Z a0 hw [] b1 b5  T83.heap n0 (Nat.le_trans Z0 K83.1) Q5_85) hZ (hw _ (List.mem_of_getElem? (i := 42) rfl)) (hw _ (List.mem_of_getElem? (i := 3) rfl)) (by decide) (by decide)) (g := (mkF m 114 #[.val (.int u0), .val (.int u1), .val (.int u2), .val (.int (u0 &&& (3 : Int32))), .val (.int (u1 &&& (3 : Int32))), .val (.ref b1), .val (.ref b5), .val (.int (j0_47 u2)), .val (.ref b57)] [(.ref b5), (.ref b1)])) rfl (by rw [hml]; rfl) (argsL := [(.ref b1), (.ref b5)]) (rest := []) (lenOf pd_5 rfl) rfl (by show 2 * 0 + _ ≤ _; exact Nat.le_of_eq rfl) (hb hby at_114) (fun _ _ => ⟨rfl, e88, (by decide : 8 + 5 ≤ _), (by decide : 42 + 42 ≤ _)⟩)
        dsimp only [Pt.U, Pt.locs, Pt.cells, Pt.slots] at X89 l89 y89 z89 st89 hQ89 S89q hg89
        subst l89 y89 z89
        have S89 := foldS (s := s) (vm0 := T83.vm) S83 (by rw [e88]; exact (Nat.le_refl T83.heap.size)) S89q hg89
        have hZ : Z.Warmed39 (s.setVm T89.vm).vm := State.Warmed39.trans (t := s.setVm T83.vm) hZ S89q.1
        have hown : (s.setVm T89.vm).vm.findClass "com/example/sendlimitd/sendlimitd/core/ChangeIsDeletePinLaw" = some m.cls := by rw [show (s.setVm T89.vm).vm = T89.vm from rfl, S89q.1.alike.findClass]; exact hown
        obtain ⟨b89, rfl, N89q, K89q, E_r89, F_value89⟩ := hQ89
        have N89 := Fr.app N88 N89q
        have K89 : Keep h0 T89.heap [] := K83.trans K89q all0
        have Q1_90 := Q1_84.keep K89q
        have Q5_91 := Q5_85.keep K89q
        have E_r79_92 := E_r79_86.keep K89q
        have F_value79_93 := F_value79_87.keep K89q nin0
        have E_r83_94 := E_r83.keep K89q
        have F_value83_95 := F_value83.keep K89q nin0
        obtain ⟨cq96, kq96, q96a, q96b, q96c⟩ := isOf hZ rfl E_r89
        obtain ⟨_, _, ⟨T96, L96, k96, n96⟩, -, X96, ⟨Lc96, hQ96, l96, y96, z96⟩, st96⟩ := X89.virtualBack hx (y := (⟨"com/example/sendlimitd/sendlimitd/core/StateStore$Change", "isDelete", "()Z"⟩ : MethodName)) (z := (⟨"com/example/sendlimitd/sendlimitd/core/StateStore$Change", "isDelete", "()Z"⟩ : MethodName)) hown (mvT hZ (hw _ (List.mem_of_getElem? (i := 30) rfl))) (mvT hZ (hw _ (List.mem_of_getElem? (i := 31) rfl))) (notFace_of_selects (args := #[]) (mvT hZ (hw _ (List.mem_of_getElem? (i := 33) rfl)))) (mvT hZ (hw _ (List.mem_of_getElem? (i := 33) rfl))) (mvT hZ (hw _ (List.mem_of_getElem? (i := 32) rfl))) (by decide) (backOf (W := 0) (rm5 l Z a0 hw [] b89 b5 T89.heap n0 (Nat.le_trans Z0 K89.1) F_value89) hZ (hw _ (List.mem_of_getElem? (i := 34) rfl)) (hw _ (List.mem_of_getElem? (i := 3) rfl)) (by decide) (by decide)) q96a q96c (g := (mkF m 117 #[.val (.int u0), .val (.int u1), .val (.int u2), .val (.int (u0 &&& (3 : Int32))), .val (.int (u1 &&& (3 : Int32))), .val (.ref b1), .val (.ref b5), .val (.int (j0_47 u2)), .val (.ref b57)] [(.ref b89)])) rfl (by rw [hml]; rfl) (Steps.refl _) (argsL := []) (rest := []) (lenOf pd_3 rfl) rfl (by show 2 * 0 + _ ≤ _; exact Nat.le_of_eq rfl) (hb hby at_117) (fun _ _ => ⟨rfl, rfl, (by decide : 13 + 0 ≤ _), (by decide : 84 + 0 ≤ _)⟩)
        dsimp only [Pt.U, Pt.locs, Pt.cells, Pt.slots] at X96 l96 y96 z96 st96 hQ96
        subst l96 y96 z96
        obtain ⟨rfl, N96q, e96⟩ := hQ96
        have N96 := Fr.app N89 N96q
        obtain ⟨fs, hr, hrun, hended, hRE⟩ := X96.leaveW (s := s) (vm₁ := T89.vm) S89 (by rw [e96]; exact (Nat.le_refl T89.heap.size)) (v := (some (.int (1 : Int32)))) (fun h => by rw [Bd.returns] at h; cases h)
        refine ⟨_, _, pre60 _ ?_, hrun, hended, _, _, rfl, ?_, hRE.1, hRE.2.1, hRE.2.2.1, hRE.2.2.2.mono (by decide) (by decide)⟩
        · show Steps p.tables e below (T57.setTop (mkF m 71 #[.val (.int u0), .val (.int u1), .val (.int u2), .val (.int (u0 &&& (3 : Int32))), .val (.int (u1 &&& (3 : Int32))), .val (.ref b1), .val (.ref b5), .val (.int (j0_47 u2)), .unset] [(.int (j0_47 u2)), (.ref b1), (.ref b57), (.ref b57)])) _
          refine XS.ifNo X57.here hx rfl (hb hby at_71) rfl ((if0 _ _).trans (feq hc71).1) ?_
          show Steps p.tables e below (T57.setTop (mkF m 74 #[.val (.int u0), .val (.int u1), .val (.int u2), .val (.int (u0 &&& (3 : Int32))), .val (.int (u1 &&& (3 : Int32))), .val (.ref b1), .val (.ref b5), .val (.int (j0_47 u2)), .unset] [(.ref b1), (.ref b57), (.ref b57)])) _
          refine XS.aconstNull X57.here hx rfl (hb hby at_74) ?_
          show Steps p.tables e below (T57.setTop (mkF m 75 #[.val (.int u0), .val (.int u1), .val (.int u2), .val (.int (u0 &&& (3 : Int32))), .val (.int (u1 &&& (3 : Int32))), .val (.ref b1), .val (.ref b5), .val (.int (j0_47 u2)), .unset] [.null, (.ref b1), (.ref b57), (.ref b57)])) _
          refine XS.goto X57.here hx rfl (pc0 := 75) (pc' := 80) rfl (hb hby at_75) (by decide) (by decide) ?_
          show Steps p.tables e below (T57.setTop (mkF m 80 #[.val (.int u0), .val (.int u1), .val (.int u2), .val (.int (u0 &&& (3 : Int32))), .val (.int (u1 &&& (3 : Int32))), .val (.ref b1), .val (.ref b5), .val (.int (j0_47 u2)), .unset] [.null, (.ref b1), (.ref b57), (.ref b57)])) _
          refine st79.trans ?_
          show Steps p.tables e below (T79.setTop (mkF m 83 #[.val (.int u0), .val (.int u1), .val (.int u2), .val (.int (u0 &&& (3 : Int32))), .val (.int (u1 &&& (3 : Int32))), .val (.ref b1), .val (.ref b5), .val (.int (j0_47 u2)), .unset] [(.ref b57)])) _
          refine XS.astore X79.here hx rfl (hb hby at_83) rfl rfl (l' := #[.val (.int u0), .val (.int u1), .val (.int u2), .val (.int (u0 &&& (3 : Int32))), .val (.int (u1 &&& (3 : Int32))), .val (.ref b1), .val (.ref b5), .val (.int (j0_47 u2)), .val (.ref b57)]) rfl ?_
          show Steps p.tables e below (T79.setTop (mkF m 85 #[.val (.int u0), .val (.int u1), .val (.int u2), .val (.int (u0 &&& (3 : Int32))), .val (.int (u1 &&& (3 : Int32))), .val (.ref b1), .val (.ref b5), .val (.int (j0_47 u2)), .val (.ref b57)] [])) _
          refine XS.aload X79.here hx rfl (hb hby at_85) rfl rfl ?_
          show Steps p.tables e below (T79.setTop (mkF m 87 #[.val (.int u0), .val (.int u1), .val (.int u2), .val (.int (u0 &&& (3 : Int32))), .val (.int (u1 &&& (3 : Int32))), .val (.ref b1), .val (.ref b5), .val (.int (j0_47 u2)), .val (.ref b57)] [(.ref b57)])) _
          refine st82.trans ?_
          show Steps p.tables e below (T82.setTop (mkF m 90 #[.val (.int u0), .val (.int u1), .val (.int u2), .val (.int (u0 &&& (3 : Int32))), .val (.int (u1 &&& (3 : Int32))), .val (.ref b1), .val (.ref b5), .val (.int (j0_47 u2)), .val (.ref b57)] [(.int (1 : Int32))])) _
          refine XS.iload X82.here hx rfl (hb hby at_90) rfl ?_
          show Steps p.tables e below (T82.setTop (mkF m 92 #[.val (.int u0), .val (.int u1), .val (.int u2), .val (.int (u0 &&& (3 : Int32))), .val (.int (u1 &&& (3 : Int32))), .val (.ref b1), .val (.ref b5), .val (.int (j0_47 u2)), .val (.ref b57)] [(.int (j0_47 u2)), (.int (1 : Int32))])) _
          refine XS.icmpYes X82.here hx rfl (pc0 := 92) (pc' := 97) rfl (hb hby at_92) rfl (teq (own_j1 hc71).symm).1 (by decide) (by decide) ?_
          show Steps p.tables e below (T82.setTop (mkF m 97 #[.val (.int u0), .val (.int u1), .val (.int u2), .val (.int (u0 &&& (3 : Int32))), .val (.int (u1 &&& (3 : Int32))), .val (.ref b1), .val (.ref b5), .val (.int (j0_47 u2)), .val (.ref b57)] [])) _
          refine XS.aload X82.here hx rfl (hb hby at_97) rfl rfl ?_
          show Steps p.tables e below (T82.setTop (mkF m 99 #[.val (.int u0), .val (.int u1), .val (.int u2), .val (.int (u0 &&& (3 : Int32))), .val (.int (u1 &&& (3 : Int32))), .val (.ref b1), .val (.ref b5), .val (.int (j0_47 u2)), .val (.ref b57)] [(.ref b1)])) _
          refine st83.trans ?_
          show Steps p.tables e below (T83.setTop (mkF m 102 #[.val (.int u0), .val (.int u1), .val (.int u2), .val (.int (u0 &&& (3 : Int32))), .val (.int (u1 &&& (3 : Int32))), .val (.ref b1), .val (.ref b5), .val (.int (j0_47 u2)), .val (.ref b57)] [(.ref b83)])) _
          refine st88.trans ?_
          show Steps p.tables e below (T88.setTop (mkF m 105 #[.val (.int u0), .val (.int u1), .val (.int u2), .val (.int (u0 &&& (3 : Int32))), .val (.int (u1 &&& (3 : Int32))), .val (.ref b1), .val (.ref b5), .val (.int (j0_47 u2)), .val (.ref b57)] [(.int (1 : Int32))])) _
          refine XS.ifYes X88.here hx rfl (pc0 := 105) (pc' := 110) rfl (hb hby at_105) rfl ((if0 _ _).trans (feq (by decide : ¬ ((1 : Int32) = (0 : Int32)))).2) (by decide) (by decide) ?_
          show Steps p.tables e below (T88.setTop (mkF m 110 #[.val (.int u0), .val (.int u1), .val (.int u2), .val (.int (u0 &&& (3 : Int32))), .val (.int (u1 &&& (3 : Int32))), .val (.ref b1), .val (.ref b5), .val (.int (j0_47 u2)), .val (.ref b57)] [])) _
          refine XS.aload X88.here hx rfl (hb hby at_110) rfl rfl ?_
          show Steps p.tables e below (T88.setTop (mkF m 112 #[.val (.int u0), .val (.int u1), .val (.int u2), .val (.int (u0 &&& (3 : Int32))), .val (.int (u1 &&& (3 : Int32))), .val (.ref b1), .val (.ref b5), .val (.int (j0_47 u2)), .val (.ref b57)] [(.ref b1)])) _
          refine XS.aload X88.here hx rfl (hb hby at_112) rfl rfl ?_
          show Steps p.tables e below (T88.setTop (mkF m 114 #[.val (.int u0), .val (.int u1), .val (.int u2), .val (.int (u0 &&& (3 : Int32))), .val (.int (u1 &&& (3 : Int32))), .val (.ref b1), .val (.ref b5), .val (.int (j0_47 u2)), .val (.ref b57)] [(.ref b5), (.ref b1)])) _
          refine st89.trans ?_
          show Steps p.tables e below (T89.setTop (mkF m 117 #[.val (.int u0), .val (.int u1), .val (.int u2), .val (.int (u0 &&& (3 : Int32))), .val (.int (u1 &&& (3 : Int32))), .val (.ref b1), .val (.ref b5), .val (.int (j0_47 u2)), .val (.ref b57)] [(.ref b89)])) _
          refine st96.trans ?_
          show Steps p.tables e below (T96.setTop (mkF m 120 #[.val (.int u0), .val (.int u1), .val (.int u2), .val (.int (u0 &&& (3 : Int32))), .val (.int (u1 &&& (3 : Int32))), .val (.ref b1), .val (.ref b5), .val (.int (j0_47 u2)), .val (.ref b57)] [(.int (0 : Int32))])) _
          refine XS.ifYes X96.here hx rfl (pc0 := 120) (pc' := 125) rfl (hb hby at_120) rfl ((if0 _ _).trans (teq (by decide : (0 : Int32) = (0 : Int32))).1) (by decide) (by decide) ?_
          show Steps p.tables e below (T96.setTop (mkF m 125 #[.val (.int u0), .val (.int u1), .val (.int u2), .val (.int (u0 &&& (3 : Int32))), .val (.int (u1 &&& (3 : Int32))), .val (.ref b1), .val (.ref b5), .val (.int (j0_47 u2)), .val (.ref b57)] [])) _
          refine XS.iconst X96.here hx rfl (hb hby at_125) ?_
          show Steps p.tables e below (T96.setTop (mkF m 126 #[.val (.int u0), .val (.int u1), .val (.int u2), .val (.int (u0 &&& (3 : Int32))), .val (.int (u1 &&& (3 : Int32))), .val (.ref b1), .val (.ref b5), .val (.int (j0_47 u2)), .val (.ref b57)] [(.int (1 : Int32))])) _
          exact retN X96 hx (t := .boolean) Bd.returns (by simp) (hb hby at_126) hr
        · show QL n0 _ T96.heap _
          rw [e96]
          exact ⟨rfl, N96⟩
  · -- pc 15: not (0 : Int32) < (u0 &&& (3 : Int32))
    obtain ⟨T97, h97, k97, X97, e97, E97, A97, Q97, st97⟩ := newPE X1 hx hZ (hw _ (List.mem_of_getElem? (i := 0) rfl)) e1 (g := (mkF m 26 #[.val (.int u0), .val (.int u1), .val (.int u2), .val (.int (u0 &&& (3 : Int32))), .val (.int (u1 &&& (3 : Int32))), .val (.ref b1), .unset, .unset, .unset] [(.int (u1 &&& (3 : Int32)))])) rfl (hb hby at_26) rfl (own_and3 _).1 (cap := 3) (own_cap3 _) (by decide) (by decide) (by decide) (ad := "[B") rfl
    obtain ⟨b97, g97⟩ : ∃ z, z = h1.size := ⟨_, rfl⟩
    rw [← g97] at A97 Q97 st97
    have g_b97 : n0 ≤ b97 := Nat.le_trans (Nat.le_trans Z0 K1.1) (Nat.le_of_eq g97.symm)
    have sz_b97 : h0.size ≤ b97 := Nat.le_trans K1.1 (Nat.le_of_eq g97.symm)
    have ne_b1_b97 : b1 ≠ b97 := Nat.ne_of_lt (Nat.lt_of_lt_of_le Q1.lt (Nat.le_of_eq g97.symm))
    have Q1_98 := Q1.ext E97
    have K97 : Keep h0 h97 [] := K1.ext E97
    have pre99 : ∀ t, Steps p.tables e below (T97.setTop (mkF m 32 #[.val (.int u0), .val (.int u1), .val (.int u2), .val (.int (u0 &&& (3 : Int32))), .val (.int (u1 &&& (3 : Int32))), .val (.ref b1), .val (.ref b97), .unset, .unset] [(.int (u1 &&& (3 : Int32)))])) t → Steps p.tables e below (s₁.setTop (entryFrame m #[(.int u0), (.int u1), (.int u2)] maxLocals)) t := fun t k => pre2 t (by
      show Steps p.tables e below (T1.setTop (mkF m 15 #[.val (.int u0), .val (.int u1), .val (.int u2), .val (.int (u0 &&& (3 : Int32))), .val (.int (u1 &&& (3 : Int32))), .val (.ref b1), .unset, .unset, .unset] [(.int (u0 &&& (3 : Int32)))])) _
      refine XS.ifYes X1.here hx rfl (pc0 := 15) (pc' := 24) rfl (hb hby at_15) rfl ((if0 _ _).trans (flt hc15).2.2.2) (by decide) (by decide) ?_
      show Steps p.tables e below (T1.setTop (mkF m 24 #[.val (.int u0), .val (.int u1), .val (.int u2), .val (.int (u0 &&& (3 : Int32))), .val (.int (u1 &&& (3 : Int32))), .val (.ref b1), .unset, .unset, .unset] [])) _
      refine XS.iload X1.here hx rfl (hb hby at_24) rfl ?_
      show Steps p.tables e below (T1.setTop (mkF m 26 #[.val (.int u0), .val (.int u1), .val (.int u2), .val (.int (u0 &&& (3 : Int32))), .val (.int (u1 &&& (3 : Int32))), .val (.ref b1), .unset, .unset, .unset] [(.int (u1 &&& (3 : Int32)))])) _
      refine st97 _ ?_
      show Steps p.tables e below (T97.setTop (mkF m 28 #[.val (.int u0), .val (.int u1), .val (.int u2), .val (.int (u0 &&& (3 : Int32))), .val (.int (u1 &&& (3 : Int32))), .val (.ref b1), .unset, .unset, .unset] [(.ref b97)])) _
      refine XS.astore X97.here hx rfl (hb hby at_28) rfl rfl (l' := #[.val (.int u0), .val (.int u1), .val (.int u2), .val (.int (u0 &&& (3 : Int32))), .val (.int (u1 &&& (3 : Int32))), .val (.ref b1), .val (.ref b97), .unset, .unset]) rfl ?_
      show Steps p.tables e below (T97.setTop (mkF m 30 #[.val (.int u0), .val (.int u1), .val (.int u2), .val (.int (u0 &&& (3 : Int32))), .val (.int (u1 &&& (3 : Int32))), .val (.ref b1), .val (.ref b97), .unset, .unset] [])) _
      refine XS.iload X97.here hx rfl (hb hby at_30) rfl ?_
      exact k)
    by_cases hc32 : (0 : Int32) < (u1 &&& (3 : Int32))
    · -- pc 32: (0 : Int32) < (u1 &&& (3 : Int32))
      obtain ⟨T100, h100, X100, e100, W100, st100⟩ := stB X97 hx hZ e97 A97 (j := ((u1 &&& (3 : Int32)) - (1 : Int32))) (inb_of (sz_new _ _ _) (own_last _ hc32)) (g := (mkF m 46 #[.val (.int u0), .val (.int u1), .val (.int u2), .val (.int (u0 &&& (3 : Int32))), .val (.int (u1 &&& (3 : Int32))), .val (.ref b1), .val (.ref b97), .unset, .unset] [(.int (((u2.toUInt32 >>> ((16 : Int32) &&& 31).toUInt32).toInt32).toInt8.toInt32)), (.int ((u1 &&& (3 : Int32)) - (1 : Int32))), (.ref b97)])) rfl rfl (hb hby at_46)
      have Q1_101 := Q1_98.wr W100
      have Q97_102 := Q97.wr W100
      have K100 : Keep h0 h100 [] := K97.wr W100 (Or.inr sz_b97)
      have N100 := Fr.snoc X100 N0 g_b97
      have pre103 : ∀ t, Steps p.tables e below (T100.setTop (mkF m 47 #[.val (.int u0), .val (.int u1), .val (.int u2), .val (.int (u0 &&& (3 : Int32))), .val (.int (u1 &&& (3 : Int32))), .val (.ref b1), .val (.ref b97), .unset, .unset] [])) t → Steps p.tables e below (s₁.setTop (entryFrame m #[(.int u0), (.int u1), (.int u2)] maxLocals)) t := fun t k => pre99 t (by
        show Steps p.tables e below (T97.setTop (mkF m 32 #[.val (.int u0), .val (.int u1), .val (.int u2), .val (.int (u0 &&& (3 : Int32))), .val (.int (u1 &&& (3 : Int32))), .val (.ref b1), .val (.ref b97), .unset, .unset] [(.int (u1 &&& (3 : Int32)))])) _
        refine XS.ifNo X97.here hx rfl (hb hby at_32) rfl ((if0 _ _).trans (tlt hc32).2.2.2) ?_
        show Steps p.tables e below (T97.setTop (mkF m 35 #[.val (.int u0), .val (.int u1), .val (.int u2), .val (.int (u0 &&& (3 : Int32))), .val (.int (u1 &&& (3 : Int32))), .val (.ref b1), .val (.ref b97), .unset, .unset] [])) _
        refine XS.aload X97.here hx rfl (hb hby at_35) rfl rfl ?_
        show Steps p.tables e below (T97.setTop (mkF m 37 #[.val (.int u0), .val (.int u1), .val (.int u2), .val (.int (u0 &&& (3 : Int32))), .val (.int (u1 &&& (3 : Int32))), .val (.ref b1), .val (.ref b97), .unset, .unset] [(.ref b97)])) _
        refine XS.iload X97.here hx rfl (hb hby at_37) rfl ?_
        show Steps p.tables e below (T97.setTop (mkF m 39 #[.val (.int u0), .val (.int u1), .val (.int u2), .val (.int (u0 &&& (3 : Int32))), .val (.int (u1 &&& (3 : Int32))), .val (.ref b1), .val (.ref b97), .unset, .unset] [(.int (u1 &&& (3 : Int32))), (.ref b97)])) _
        refine XS.iconst X97.here hx rfl (hb hby at_39) ?_
        show Steps p.tables e below (T97.setTop (mkF m 40 #[.val (.int u0), .val (.int u1), .val (.int u2), .val (.int (u0 &&& (3 : Int32))), .val (.int (u1 &&& (3 : Int32))), .val (.ref b1), .val (.ref b97), .unset, .unset] [(.int (1 : Int32)), (.int (u1 &&& (3 : Int32))), (.ref b97)])) _
        refine XS.isub X97.here hx rfl (hb hby at_40) rfl ?_
        show Steps p.tables e below (T97.setTop (mkF m 41 #[.val (.int u0), .val (.int u1), .val (.int u2), .val (.int (u0 &&& (3 : Int32))), .val (.int (u1 &&& (3 : Int32))), .val (.ref b1), .val (.ref b97), .unset, .unset] [(.int ((u1 &&& (3 : Int32)) - (1 : Int32))), (.ref b97)])) _
        refine XS.iloadN X97.here hx rfl (hb hby at_41) rfl ?_
        show Steps p.tables e below (T97.setTop (mkF m 42 #[.val (.int u0), .val (.int u1), .val (.int u2), .val (.int (u0 &&& (3 : Int32))), .val (.int (u1 &&& (3 : Int32))), .val (.ref b1), .val (.ref b97), .unset, .unset] [(.int u2), (.int ((u1 &&& (3 : Int32)) - (1 : Int32))), (.ref b97)])) _
        refine XS.bipush X97.here hx rfl (hb hby at_42) ?_
        show Steps p.tables e below (T97.setTop (mkF m 44 #[.val (.int u0), .val (.int u1), .val (.int u2), .val (.int (u0 &&& (3 : Int32))), .val (.int (u1 &&& (3 : Int32))), .val (.ref b1), .val (.ref b97), .unset, .unset] [(.int (16 : Int32)), (.int u2), (.int ((u1 &&& (3 : Int32)) - (1 : Int32))), (.ref b97)])) _
        refine XS.iushr X97.here hx rfl (hb hby at_44) rfl ?_
        show Steps p.tables e below (T97.setTop (mkF m 45 #[.val (.int u0), .val (.int u1), .val (.int u2), .val (.int (u0 &&& (3 : Int32))), .val (.int (u1 &&& (3 : Int32))), .val (.ref b1), .val (.ref b97), .unset, .unset] [(.int ((u2.toUInt32 >>> ((16 : Int32) &&& 31).toUInt32).toInt32)), (.int ((u1 &&& (3 : Int32)) - (1 : Int32))), (.ref b97)])) _
        refine XS.i2b X97.here hx rfl (hb hby at_45) rfl ?_
        show Steps p.tables e below (T97.setTop (mkF m 46 #[.val (.int u0), .val (.int u1), .val (.int u2), .val (.int (u0 &&& (3 : Int32))), .val (.int (u1 &&& (3 : Int32))), .val (.ref b1), .val (.ref b97), .unset, .unset] [(.int (((u2.toUInt32 >>> ((16 : Int32) &&& 31).toUInt32).toInt32).toInt8.toInt32)), (.int ((u1 &&& (3 : Int32)) - (1 : Int32))), (.ref b97)])) _
        refine st100 _ ?_
        exact k)
      have pre104 : ∀ t, Steps p.tables e below (T100.setTop (mkF m 61 #[.val (.int u0), .val (.int u1), .val (.int u2), .val (.int (u0 &&& (3 : Int32))), .val (.int (u1 &&& (3 : Int32))), .val (.ref b1), .val (.ref b97), .unset, .unset] [(.int (j0_47 u2))])) t → Steps p.tables e below (s₁.setTop (entryFrame m #[(.int u0), (.int u1), (.int u2)] maxLocals)) t := by
        have pre105 : ∀ t, Steps p.tables e below (T100.setTop (mkF m 53 #[.val (.int u0), .val (.int u1), .val (.int u2), .val (.int (u0 &&& (3 : Int32))), .val (.int (u1 &&& (3 : Int32))), .val (.ref b1), .val (.ref b97), .unset, .unset] [(.int (((u2.toUInt32 >>> ((8 : Int32) &&& 31).toUInt32).toInt32) &&& (1 : Int32)))])) t → Steps p.tables e below (s₁.setTop (entryFrame m #[(.int u0), (.int u1), (.int u2)] maxLocals)) t := fun t k => pre103 t (by
          show Steps p.tables e below (T100.setTop (mkF m 47 #[.val (.int u0), .val (.int u1), .val (.int u2), .val (.int (u0 &&& (3 : Int32))), .val (.int (u1 &&& (3 : Int32))), .val (.ref b1), .val (.ref b97), .unset, .unset] [])) _
          refine XS.iloadN X100.here hx rfl (hb hby at_47) rfl ?_
          show Steps p.tables e below (T100.setTop (mkF m 48 #[.val (.int u0), .val (.int u1), .val (.int u2), .val (.int (u0 &&& (3 : Int32))), .val (.int (u1 &&& (3 : Int32))), .val (.ref b1), .val (.ref b97), .unset, .unset] [(.int u2)])) _
          refine XS.bipush X100.here hx rfl (hb hby at_48) ?_
          show Steps p.tables e below (T100.setTop (mkF m 50 #[.val (.int u0), .val (.int u1), .val (.int u2), .val (.int (u0 &&& (3 : Int32))), .val (.int (u1 &&& (3 : Int32))), .val (.ref b1), .val (.ref b97), .unset, .unset] [(.int (8 : Int32)), (.int u2)])) _
          refine XS.iushr X100.here hx rfl (hb hby at_50) rfl ?_
          show Steps p.tables e below (T100.setTop (mkF m 51 #[.val (.int u0), .val (.int u1), .val (.int u2), .val (.int (u0 &&& (3 : Int32))), .val (.int (u1 &&& (3 : Int32))), .val (.ref b1), .val (.ref b97), .unset, .unset] [(.int ((u2.toUInt32 >>> ((8 : Int32) &&& 31).toUInt32).toInt32))])) _
          refine XS.iconst X100.here hx rfl (hb hby at_51) ?_
          show Steps p.tables e below (T100.setTop (mkF m 52 #[.val (.int u0), .val (.int u1), .val (.int u2), .val (.int (u0 &&& (3 : Int32))), .val (.int (u1 &&& (3 : Int32))), .val (.ref b1), .val (.ref b97), .unset, .unset] [(.int (1 : Int32)), (.int ((u2.toUInt32 >>> ((8 : Int32) &&& 31).toUInt32).toInt32))])) _
          refine XS.iand X100.here hx rfl (hb hby at_52) rfl ?_
          exact k)
        by_cases hc53 : (((u2.toUInt32 >>> ((8 : Int32) &&& 31).toUInt32).toInt32) &&& (1 : Int32)) = (0 : Int32)
        · -- pc 53: (((u2.toUInt32 >>> ((8 : Int32) &&& 31).toUInt32).toInt32) &&& (1 : Int32)) = (0 : Int32)
          intro t k
          have qS0 : (j0_47 u2) = (0 : Int32) := (if_pos hc53).trans (rfl)
          rw [qS0] at k
          refine pre105 t ?_
          show Steps p.tables e below (T100.setTop (mkF m 53 #[.val (.int u0), .val (.int u1), .val (.int u2), .val (.int (u0 &&& (3 : Int32))), .val (.int (u1 &&& (3 : Int32))), .val (.ref b1), .val (.ref b97), .unset, .unset] [(.int (((u2.toUInt32 >>> ((8 : Int32) &&& 31).toUInt32).toInt32) &&& (1 : Int32)))])) _
          refine XS.ifYes X100.here hx rfl (pc0 := 53) (pc' := 60) rfl (hb hby at_53) rfl ((if0 _ _).trans (teq hc53).1) (by decide) (by decide) ?_
          show Steps p.tables e below (T100.setTop (mkF m 60 #[.val (.int u0), .val (.int u1), .val (.int u2), .val (.int (u0 &&& (3 : Int32))), .val (.int (u1 &&& (3 : Int32))), .val (.ref b1), .val (.ref b97), .unset, .unset] [])) _
          refine XS.iconst X100.here hx rfl (hb hby at_60) ?_
          exact k
        · -- pc 53: not (((u2.toUInt32 >>> ((8 : Int32) &&& 31).toUInt32).toInt32) &&& (1 : Int32)) = (0 : Int32)
          intro t k
          have qS0 : (j0_47 u2) = (1 : Int32) := (if_neg hc53).trans (rfl)
          rw [qS0] at k
          refine pre105 t ?_
          show Steps p.tables e below (T100.setTop (mkF m 53 #[.val (.int u0), .val (.int u1), .val (.int u2), .val (.int (u0 &&& (3 : Int32))), .val (.int (u1 &&& (3 : Int32))), .val (.ref b1), .val (.ref b97), .unset, .unset] [(.int (((u2.toUInt32 >>> ((8 : Int32) &&& 31).toUInt32).toInt32) &&& (1 : Int32)))])) _
          refine XS.ifNo X100.here hx rfl (hb hby at_53) rfl ((if0 _ _).trans (feq hc53).1) ?_
          show Steps p.tables e below (T100.setTop (mkF m 56 #[.val (.int u0), .val (.int u1), .val (.int u2), .val (.int (u0 &&& (3 : Int32))), .val (.int (u1 &&& (3 : Int32))), .val (.ref b1), .val (.ref b97), .unset, .unset] [])) _
          refine XS.iconst X100.here hx rfl (hb hby at_56) ?_
          show Steps p.tables e below (T100.setTop (mkF m 57 #[.val (.int u0), .val (.int u1), .val (.int u2), .val (.int (u0 &&& (3 : Int32))), .val (.int (u1 &&& (3 : Int32))), .val (.ref b1), .val (.ref b97), .unset, .unset] [(.int (1 : Int32))])) _
          refine XS.goto X100.here hx rfl (pc0 := 57) (pc' := 61) rfl (hb hby at_57) (by decide) (by decide) ?_
          exact k
      obtain ⟨T106, h106, X106, e106, E106, A106, D106, -, st106⟩ := newO X100 hx hZ hown (hw _ (List.mem_of_getElem? (i := 1) rfl)) (hw _ (List.mem_of_getElem? (i := 2) rfl)) (hw _ (List.mem_of_getElem? (i := 3) rfl)) e100 (g := (mkF m 63 #[.val (.int u0), .val (.int u1), .val (.int u2), .val (.int (u0 &&& (3 : Int32))), .val (.int (u1 &&& (3 : Int32))), .val (.ref b1), .val (.ref b97), .val (.int (j0_47 u2)), .unset] [])) rfl (hb hby at_63) (by decide) (by decide)
      obtain ⟨b106, g106⟩ : ∃ z, z = h100.size := ⟨_, rfl⟩
      rw [← g106] at A106 D106 st106
      have g_b106 : n0 ≤ b106 := Nat.le_trans (Nat.le_trans Z0 K100.1) (Nat.le_of_eq g106.symm)
      have sz_b106 : h0.size ≤ b106 := Nat.le_trans K100.1 (Nat.le_of_eq g106.symm)
      have ne_b1_b106 : b1 ≠ b106 := Nat.ne_of_lt (Nat.lt_of_lt_of_le Q1_101.lt (Nat.le_of_eq g106.symm))
      have ne_b97_b106 : b97 ≠ b106 := Nat.ne_of_lt (Nat.lt_of_lt_of_le Q97_102.lt (Nat.le_of_eq g106.symm))
      have Q1_107 := Q1_101.ext E106
      have Q97_108 := Q97_102.ext E106
      have K106 : Keep h0 h106 [] := K100.ext E106
      have F_key_b106 : Fld Z h106 b106 "com/example/sendlimitd/sendlimitd/core/StateStore$Change" "key" "[B" .null := D106 (Or.inr (hw _ (List.mem_of_getElem? (i := 27) rfl))) (ty := (.array .byte)) (by decide)
      have F_value_b106 : Fld Z h106 b106 "com/example/sendlimitd/sendlimitd/core/StateStore$Change" "value" "[B" .null := D106 (Or.inr (hw _ (List.mem_of_getElem? (i := 29) rfl))) (ty := (.array .byte)) (by decide)
      have pre109 : ∀ t, Steps p.tables e below (T106.setTop (mkF m 71 #[.val (.int u0), .val (.int u1), .val (.int u2), .val (.int (u0 &&& (3 : Int32))), .val (.int (u1 &&& (3 : Int32))), .val (.ref b1), .val (.ref b97), .val (.int (j0_47 u2)), .unset] [(.int (j0_47 u2)), (.ref b1), (.ref b106), (.ref b106)])) t → Steps p.tables e below (s₁.setTop (entryFrame m #[(.int u0), (.int u1), (.int u2)] maxLocals)) t := fun t k => pre104 t (by
        show Steps p.tables e below (T100.setTop (mkF m 61 #[.val (.int u0), .val (.int u1), .val (.int u2), .val (.int (u0 &&& (3 : Int32))), .val (.int (u1 &&& (3 : Int32))), .val (.ref b1), .val (.ref b97), .unset, .unset] [(.int (j0_47 u2))])) _
        refine XS.istore X100.here hx rfl (hb hby at_61) rfl (l' := #[.val (.int u0), .val (.int u1), .val (.int u2), .val (.int (u0 &&& (3 : Int32))), .val (.int (u1 &&& (3 : Int32))), .val (.ref b1), .val (.ref b97), .val (.int (j0_47 u2)), .unset]) rfl ?_
        show Steps p.tables e below (T100.setTop (mkF m 63 #[.val (.int u0), .val (.int u1), .val (.int u2), .val (.int (u0 &&& (3 : Int32))), .val (.int (u1 &&& (3 : Int32))), .val (.ref b1), .val (.ref b97), .val (.int (j0_47 u2)), .unset] [])) _
        refine st106 _ ?_
        show Steps p.tables e below (T106.setTop (mkF m 66 #[.val (.int u0), .val (.int u1), .val (.int u2), .val (.int (u0 &&& (3 : Int32))), .val (.int (u1 &&& (3 : Int32))), .val (.ref b1), .val (.ref b97), .val (.int (j0_47 u2)), .unset] [(.ref b106)])) _
        refine XS.dup X106.here hx rfl (hb hby at_66) rfl rfl ?_
        show Steps p.tables e below (T106.setTop (mkF m 67 #[.val (.int u0), .val (.int u1), .val (.int u2), .val (.int (u0 &&& (3 : Int32))), .val (.int (u1 &&& (3 : Int32))), .val (.ref b1), .val (.ref b97), .val (.int (j0_47 u2)), .unset] [(.ref b106), (.ref b106)])) _
        refine XS.aload X106.here hx rfl (hb hby at_67) rfl rfl ?_
        show Steps p.tables e below (T106.setTop (mkF m 69 #[.val (.int u0), .val (.int u1), .val (.int u2), .val (.int (u0 &&& (3 : Int32))), .val (.int (u1 &&& (3 : Int32))), .val (.ref b1), .val (.ref b97), .val (.int (j0_47 u2)), .unset] [(.ref b1), (.ref b106), (.ref b106)])) _
        refine XS.iload X106.here hx rfl (hb hby at_69) rfl ?_
        exact k)
      by_cases hc71 : (j0_47 u2) = (0 : Int32)
      · -- pc 71: (j0_47 u2) = (0 : Int32)
        obtain ⟨_, _, ⟨T110, L110, k110, n110⟩, -, X110, S110q, hg110, ⟨Lc110, hQ110, l110, y110, z110⟩, st110⟩ := X106.specialBackS hx (y := (⟨"com/example/sendlimitd/sendlimitd/core/StateStore$Change", "<init>", "([B[B)V"⟩ : MethodName)) rfl hown (mvT hZ (hw _ (List.mem_of_getElem? (i := 4) rfl))) (mvT hZ (hw _ (List.mem_of_getElem? (i := 5) rfl))) (mvT hZ (hw _ (List.mem_of_getElem? (i := 6) rfl))) (by decide) (backOfS (W := 1) (rm1 l Z a0 hw [] b106 b1 b97  h106 n0 (Nat.le_trans Z0 K106.1) A106 F_key_b106 F_value_b106 g_b106) hZ (hw _ (List.mem_of_getElem? (i := 6) rfl)) (hw _ (List.mem_of_getElem? (i := 3) rfl)) (by decide) (by decide)) (g := (mkF m 80 #[.val (.int u0), .val (.int u1), .val (.int u2), .val (.int (u0 &&& (3 : Int32))), .val (.int (u1 &&& (3 : Int32))), .val (.ref b1), .val (.ref b97), .val (.int (j0_47 u2)), .unset] [(.ref b97), (.ref b1), (.ref b106), (.ref b106)])) rfl (by rw [hml]; rfl) (Steps.refl _) (a := b106) (argsL := [(.ref b1), (.ref b97)]) (rest := [(.ref b106)]) (lenOf pd_2 rfl) rfl (by show 2 * 0 + _ ≤ _; exact Nat.le_of_eq rfl) (hb hby at_80) (fun _ _ => ⟨rfl, e106, (by decide : 3 + 2 ≤ _), (by decide : 8 + 16 ≤ _)⟩)
        dsimp only [Pt.U, Pt.locs, Pt.cells, Pt.slots] at X110 l110 y110 z110 st110 hQ110 S110q hg110
        subst l110 y110 z110
        have S110 := foldS (s := s) (vm0 := s.vm) ((State.WarmedH.refl s).since 0) (Nat.zero_le _) S110q hg110
        have hZ : Z.Warmed39 (s.setVm T110.vm).vm := State.Warmed39.trans (t := s.setVm s.vm) hZ S110q.1
        have hown : (s.setVm T110.vm).vm.findClass "com/example/sendlimitd/sendlimitd/core/ChangeIsDeletePinLaw" = some m.cls := by rw [show (s.setVm T110.vm).vm = T110.vm from rfl, S110q.1.alike.findClass]; exact hown
        obtain ⟨rfl, N110q, K110q, E_r110, F_value110⟩ := hQ110
        have N110 := Fr.app N100 N110q
        have K110 : Keep h0 T110.heap [] := K106.trans K110q (allS (Or.inr sz_b106) all0)
        have Q1_111 := Q1_107.keep K110q
        have Q97_112 := Q97_108.keep K110q
        obtain ⟨cq113, kq113, q113a, q113b, q113c⟩ := isOf hZ rfl E_r110
        obtain ⟨_, _, ⟨T113, L113, k113, n113⟩, -, X113, ⟨Lc113, hQ113, l113, y113, z113⟩, st113⟩ := X110.virtualBack hx (y := (⟨"com/example/sendlimitd/sendlimitd/core/StateStore$Change", "isDelete", "()Z"⟩ : MethodName)) (z := (⟨"com/example/sendlimitd/sendlimitd/core/StateStore$Change", "isDelete", "()Z"⟩ : MethodName)) hown (mvT hZ (hw _ (List.mem_of_getElem? (i := 30) rfl))) (mvT hZ (hw _ (List.mem_of_getElem? (i := 31) rfl))) (notFace_of_selects (args := #[]) (mvT hZ (hw _ (List.mem_of_getElem? (i := 33) rfl)))) (mvT hZ (hw _ (List.mem_of_getElem? (i := 33) rfl))) (mvT hZ (hw _ (List.mem_of_getElem? (i := 32) rfl))) (by decide) (backOf (W := 0) (rm5 l Z a0 hw [] b106 b97 T110.heap n0 (Nat.le_trans Z0 K110.1) F_value110) hZ (hw _ (List.mem_of_getElem? (i := 34) rfl)) (hw _ (List.mem_of_getElem? (i := 3) rfl)) (by decide) (by decide)) q113a q113c (g := (mkF m 87 #[.val (.int u0), .val (.int u1), .val (.int u2), .val (.int (u0 &&& (3 : Int32))), .val (.int (u1 &&& (3 : Int32))), .val (.ref b1), .val (.ref b97), .val (.int (j0_47 u2)), .val (.ref b106)] [(.ref b106)])) rfl (by rw [hml]; rfl) (Steps.refl _) (argsL := []) (rest := []) (lenOf pd_3 rfl) rfl (by show 2 * 0 + _ ≤ _; exact Nat.le_of_eq rfl) (hb hby at_87) (fun _ _ => ⟨rfl, rfl, (by decide : 5 + 0 ≤ _), (by decide : 24 + 0 ≤ _)⟩)
        dsimp only [Pt.U, Pt.locs, Pt.cells, Pt.slots] at X113 l113 y113 z113 st113 hQ113
        subst l113 y113 z113
        obtain ⟨rfl, N113q, e113⟩ := hQ113
        have N113 := Fr.app N110 N113q
        obtain ⟨_, _, ⟨T114, L114, k114, n114⟩, -, X114, S114q, hg114, ⟨Lc114, hQ114, l114, y114, z114⟩, st114⟩ := callSS X113 hx (y := (⟨"com/example/sendlimitd/sendlimitd/core/StateStore$Change", "delete", "([B)Lcom/example/sendlimitd/sendlimitd/core/StateStore$Change;"⟩ : MethodName)) hown (mvT hZ (hw _ (List.mem_of_getElem? (i := 35) rfl))) (mvT hZ (hw _ (List.mem_of_getElem? (i := 36) rfl))) (mvT hZ (hw _ (List.mem_of_getElem? (i := 3) rfl))) (mvT hZ (hw _ (List.mem_of_getElem? (i := 37) rfl))) (by decide) (backOfS (W := 0) (rm6 l Z a0 hw [] b1  T110.heap n0 (Nat.le_trans Z0 K110.1) ) hZ (hw _ (List.mem_of_getElem? (i := 37) rfl)) (hw _ (List.mem_of_getElem? (i := 3) rfl)) (by decide) (by decide)) (g := (mkF m 99 #[.val (.int u0), .val (.int u1), .val (.int u2), .val (.int (u0 &&& (3 : Int32))), .val (.int (u1 &&& (3 : Int32))), .val (.ref b1), .val (.ref b97), .val (.int (j0_47 u2)), .val (.ref b106)] [(.ref b1)])) rfl (by rw [hml]; rfl) (argsL := [(.ref b1)]) (rest := []) (lenOf pd_4 rfl) rfl (by show 2 * 0 + _ ≤ _; exact Nat.le_of_eq rfl) (hb hby at_99) (fun _ _ => ⟨rfl, e113, (by decide : 5 + 3 ≤ _), (by decide : 24 + 18 ≤ _)⟩)
        dsimp only [Pt.U, Pt.locs, Pt.cells, Pt.slots] at X114 l114 y114 z114 st114 hQ114 S114q hg114
        subst l114 y114 z114
        have S114 := foldS (s := s) (vm0 := T110.vm) S110 (by rw [e113]; exact (Nat.le_refl T110.heap.size)) S114q hg114
        have hZ : Z.Warmed39 (s.setVm T114.vm).vm := State.Warmed39.trans (t := s.setVm T110.vm) hZ S114q.1
        have hown : (s.setVm T114.vm).vm.findClass "com/example/sendlimitd/sendlimitd/core/ChangeIsDeletePinLaw" = some m.cls := by rw [show (s.setVm T114.vm).vm = T114.vm from rfl, S114q.1.alike.findClass]; exact hown
        obtain ⟨b114, rfl, N114q, K114q, E_r114, F_value114⟩ := hQ114
        have N114 := Fr.app N113 N114q
        have K114 : Keep h0 T114.heap [] := K110.trans K114q all0
        have Q1_115 := Q1_111.keep K114q
        have Q97_116 := Q97_112.keep K114q
        have E_r110_117 := E_r110.keep K114q
        have F_value110_118 := F_value110.keep K114q nin0
        obtain ⟨cq119, kq119, q119a, q119b, q119c⟩ := isOf hZ rfl E_r114
        obtain ⟨_, _, ⟨T119, L119, k119, n119⟩, -, X119, ⟨Lc119, hQ119, l119, y119, z119⟩, st119⟩ := X114.virtualBack hx (y := (⟨"com/example/sendlimitd/sendlimitd/core/StateStore$Change", "isDelete", "()Z"⟩ : MethodName)) (z := (⟨"com/example/sendlimitd/sendlimitd/core/StateStore$Change", "isDelete", "()Z"⟩ : MethodName)) hown (mvT hZ (hw _ (List.mem_of_getElem? (i := 30) rfl))) (mvT hZ (hw _ (List.mem_of_getElem? (i := 31) rfl))) (notFace_of_selects (args := #[]) (mvT hZ (hw _ (List.mem_of_getElem? (i := 33) rfl)))) (mvT hZ (hw _ (List.mem_of_getElem? (i := 33) rfl))) (mvT hZ (hw _ (List.mem_of_getElem? (i := 32) rfl))) (by decide) (backOf (W := 0) (rm5n l Z a0 hw [] b114  T114.heap n0 (Nat.le_trans Z0 K114.1) F_value114) hZ (hw _ (List.mem_of_getElem? (i := 34) rfl)) (hw _ (List.mem_of_getElem? (i := 3) rfl)) (by decide) (by decide)) q119a q119c (g := (mkF m 102 #[.val (.int u0), .val (.int u1), .val (.int u2), .val (.int (u0 &&& (3 : Int32))), .val (.int (u1 &&& (3 : Int32))), .val (.ref b1), .val (.ref b97), .val (.int (j0_47 u2)), .val (.ref b106)] [(.ref b114)])) rfl (by rw [hml]; rfl) (Steps.refl _) (argsL := []) (rest := []) (lenOf pd_3 rfl) rfl (by show 2 * 0 + _ ≤ _; exact Nat.le_of_eq rfl) (hb hby at_102) (fun _ _ => ⟨rfl, rfl, (by decide : 8 + 0 ≤ _), (by decide : 42 + 0 ≤ _)⟩)
        dsimp only [Pt.U, Pt.locs, Pt.cells, Pt.slots] at X119 l119 y119 z119 st119 hQ119
        subst l119 y119 z119
        obtain ⟨rfl, N119q, e119⟩ := hQ119
        have N119 := Fr.app N114 N119q
        obtain ⟨_, _, ⟨T120, L120, k120, n120⟩, -, X120, S120q, hg120, ⟨Lc120, hQ120, l120, y120, z120⟩, st120⟩ := callSS X119 hx (y := (⟨"com/example/sendlimitd/sendlimitd/core/StateStore$Change", "put", "([B[B)Lcom/example/sendlimitd/sendlimitd/core/StateStore$Change;"⟩ : MethodName)) hown (mvT hZ (hw _ (List.mem_of_getElem? (i := 40) rfl))) (mvT hZ (hw _ (List.mem_of_getElem? (i := 41) rfl))) (mvT hZ (hw _ (List.mem_of_getElem? (i := 3) rfl))) (mvT hZ (hw _ (List.mem_of_getElem? (i := 42) rfl))) (by decide) (backOfS (W := 0) (rm7 l Z a0 hw [] b1 b97  T114.heap n0 (Nat.le_trans Z0 K114.1) Q97_116) hZ (hw _ (List.mem_of_getElem? (i := 42) rfl)) (hw _ (List.mem_of_getElem? (i := 3) rfl)) (by decide) (by decide)) (g := (mkF m 114 #[.val (.int u0), .val (.int u1), .val (.int u2), .val (.int (u0 &&& (3 : Int32))), .val (.int (u1 &&& (3 : Int32))), .val (.ref b1), .val (.ref b97), .val (.int (j0_47 u2)), .val (.ref b106)] [(.ref b97), (.ref b1)])) rfl (by rw [hml]; rfl) (argsL := [(.ref b1), (.ref b97)]) (rest := []) (lenOf pd_5 rfl) rfl (by show 2 * 0 + _ ≤ _; exact Nat.le_of_eq rfl) (hb hby at_114) (fun _ _ => ⟨rfl, e119, (by decide : 8 + 5 ≤ _), (by decide : 42 + 42 ≤ _)⟩)
        dsimp only [Pt.U, Pt.locs, Pt.cells, Pt.slots] at X120 l120 y120 z120 st120 hQ120 S120q hg120
        subst l120 y120 z120
        have S120 := foldS (s := s) (vm0 := T114.vm) S114 (by rw [e119]; exact (Nat.le_refl T114.heap.size)) S120q hg120
        have hZ : Z.Warmed39 (s.setVm T120.vm).vm := State.Warmed39.trans (t := s.setVm T114.vm) hZ S120q.1
        have hown : (s.setVm T120.vm).vm.findClass "com/example/sendlimitd/sendlimitd/core/ChangeIsDeletePinLaw" = some m.cls := by rw [show (s.setVm T120.vm).vm = T120.vm from rfl, S120q.1.alike.findClass]; exact hown
        obtain ⟨b120, rfl, N120q, K120q, E_r120, F_value120⟩ := hQ120
        have N120 := Fr.app N119 N120q
        have K120 : Keep h0 T120.heap [] := K114.trans K120q all0
        have Q1_121 := Q1_115.keep K120q
        have Q97_122 := Q97_116.keep K120q
        have E_r110_123 := E_r110_117.keep K120q
        have F_value110_124 := F_value110_118.keep K120q nin0
        have E_r114_125 := E_r114.keep K120q
        have F_value114_126 := F_value114.keep K120q nin0
        obtain ⟨cq127, kq127, q127a, q127b, q127c⟩ := isOf hZ rfl E_r120
        obtain ⟨_, _, ⟨T127, L127, k127, n127⟩, -, X127, ⟨Lc127, hQ127, l127, y127, z127⟩, st127⟩ := X120.virtualBack hx (y := (⟨"com/example/sendlimitd/sendlimitd/core/StateStore$Change", "isDelete", "()Z"⟩ : MethodName)) (z := (⟨"com/example/sendlimitd/sendlimitd/core/StateStore$Change", "isDelete", "()Z"⟩ : MethodName)) hown (mvT hZ (hw _ (List.mem_of_getElem? (i := 30) rfl))) (mvT hZ (hw _ (List.mem_of_getElem? (i := 31) rfl))) (notFace_of_selects (args := #[]) (mvT hZ (hw _ (List.mem_of_getElem? (i := 33) rfl)))) (mvT hZ (hw _ (List.mem_of_getElem? (i := 33) rfl))) (mvT hZ (hw _ (List.mem_of_getElem? (i := 32) rfl))) (by decide) (backOf (W := 0) (rm5 l Z a0 hw [] b120 b97 T120.heap n0 (Nat.le_trans Z0 K120.1) F_value120) hZ (hw _ (List.mem_of_getElem? (i := 34) rfl)) (hw _ (List.mem_of_getElem? (i := 3) rfl)) (by decide) (by decide)) q127a q127c (g := (mkF m 117 #[.val (.int u0), .val (.int u1), .val (.int u2), .val (.int (u0 &&& (3 : Int32))), .val (.int (u1 &&& (3 : Int32))), .val (.ref b1), .val (.ref b97), .val (.int (j0_47 u2)), .val (.ref b106)] [(.ref b120)])) rfl (by rw [hml]; rfl) (Steps.refl _) (argsL := []) (rest := []) (lenOf pd_3 rfl) rfl (by show 2 * 0 + _ ≤ _; exact Nat.le_of_eq rfl) (hb hby at_117) (fun _ _ => ⟨rfl, rfl, (by decide : 13 + 0 ≤ _), (by decide : 84 + 0 ≤ _)⟩)
        dsimp only [Pt.U, Pt.locs, Pt.cells, Pt.slots] at X127 l127 y127 z127 st127 hQ127
        subst l127 y127 z127
        obtain ⟨rfl, N127q, e127⟩ := hQ127
        have N127 := Fr.app N120 N127q
        obtain ⟨fs, hr, hrun, hended, hRE⟩ := X127.leaveW (s := s) (vm₁ := T120.vm) S120 (by rw [e127]; exact (Nat.le_refl T120.heap.size)) (v := (some (.int (1 : Int32)))) (fun h => by rw [Bd.returns] at h; cases h)
        refine ⟨_, _, pre109 _ ?_, hrun, hended, _, _, rfl, ?_, hRE.1, hRE.2.1, hRE.2.2.1, hRE.2.2.2.mono (by decide) (by decide)⟩
        · show Steps p.tables e below (T106.setTop (mkF m 71 #[.val (.int u0), .val (.int u1), .val (.int u2), .val (.int (u0 &&& (3 : Int32))), .val (.int (u1 &&& (3 : Int32))), .val (.ref b1), .val (.ref b97), .val (.int (j0_47 u2)), .unset] [(.int (j0_47 u2)), (.ref b1), (.ref b106), (.ref b106)])) _
          refine XS.ifYes X106.here hx rfl (pc0 := 71) (pc' := 78) rfl (hb hby at_71) rfl ((if0 _ _).trans (teq hc71).1) (by decide) (by decide) ?_
          show Steps p.tables e below (T106.setTop (mkF m 78 #[.val (.int u0), .val (.int u1), .val (.int u2), .val (.int (u0 &&& (3 : Int32))), .val (.int (u1 &&& (3 : Int32))), .val (.ref b1), .val (.ref b97), .val (.int (j0_47 u2)), .unset] [(.ref b1), (.ref b106), (.ref b106)])) _
          refine XS.aload X106.here hx rfl (hb hby at_78) rfl rfl ?_
          show Steps p.tables e below (T106.setTop (mkF m 80 #[.val (.int u0), .val (.int u1), .val (.int u2), .val (.int (u0 &&& (3 : Int32))), .val (.int (u1 &&& (3 : Int32))), .val (.ref b1), .val (.ref b97), .val (.int (j0_47 u2)), .unset] [(.ref b97), (.ref b1), (.ref b106), (.ref b106)])) _
          refine st110.trans ?_
          show Steps p.tables e below (T110.setTop (mkF m 83 #[.val (.int u0), .val (.int u1), .val (.int u2), .val (.int (u0 &&& (3 : Int32))), .val (.int (u1 &&& (3 : Int32))), .val (.ref b1), .val (.ref b97), .val (.int (j0_47 u2)), .unset] [(.ref b106)])) _
          refine XS.astore X110.here hx rfl (hb hby at_83) rfl rfl (l' := #[.val (.int u0), .val (.int u1), .val (.int u2), .val (.int (u0 &&& (3 : Int32))), .val (.int (u1 &&& (3 : Int32))), .val (.ref b1), .val (.ref b97), .val (.int (j0_47 u2)), .val (.ref b106)]) rfl ?_
          show Steps p.tables e below (T110.setTop (mkF m 85 #[.val (.int u0), .val (.int u1), .val (.int u2), .val (.int (u0 &&& (3 : Int32))), .val (.int (u1 &&& (3 : Int32))), .val (.ref b1), .val (.ref b97), .val (.int (j0_47 u2)), .val (.ref b106)] [])) _
          refine XS.aload X110.here hx rfl (hb hby at_85) rfl rfl ?_
          show Steps p.tables e below (T110.setTop (mkF m 87 #[.val (.int u0), .val (.int u1), .val (.int u2), .val (.int (u0 &&& (3 : Int32))), .val (.int (u1 &&& (3 : Int32))), .val (.ref b1), .val (.ref b97), .val (.int (j0_47 u2)), .val (.ref b106)] [(.ref b106)])) _
          refine st113.trans ?_
          show Steps p.tables e below (T113.setTop (mkF m 90 #[.val (.int u0), .val (.int u1), .val (.int u2), .val (.int (u0 &&& (3 : Int32))), .val (.int (u1 &&& (3 : Int32))), .val (.ref b1), .val (.ref b97), .val (.int (j0_47 u2)), .val (.ref b106)] [(.int (0 : Int32))])) _
          refine XS.iload X113.here hx rfl (hb hby at_90) rfl ?_
          show Steps p.tables e below (T113.setTop (mkF m 92 #[.val (.int u0), .val (.int u1), .val (.int u2), .val (.int (u0 &&& (3 : Int32))), .val (.int (u1 &&& (3 : Int32))), .val (.ref b1), .val (.ref b97), .val (.int (j0_47 u2)), .val (.ref b106)] [(.int (j0_47 u2)), (.int (0 : Int32))])) _
          refine XS.icmpYes X113.here hx rfl (pc0 := 92) (pc' := 97) rfl (hb hby at_92) rfl (teq hc71.symm).1 (by decide) (by decide) ?_
          show Steps p.tables e below (T113.setTop (mkF m 97 #[.val (.int u0), .val (.int u1), .val (.int u2), .val (.int (u0 &&& (3 : Int32))), .val (.int (u1 &&& (3 : Int32))), .val (.ref b1), .val (.ref b97), .val (.int (j0_47 u2)), .val (.ref b106)] [])) _
          refine XS.aload X113.here hx rfl (hb hby at_97) rfl rfl ?_
          show Steps p.tables e below (T113.setTop (mkF m 99 #[.val (.int u0), .val (.int u1), .val (.int u2), .val (.int (u0 &&& (3 : Int32))), .val (.int (u1 &&& (3 : Int32))), .val (.ref b1), .val (.ref b97), .val (.int (j0_47 u2)), .val (.ref b106)] [(.ref b1)])) _
          refine st114.trans ?_
          show Steps p.tables e below (T114.setTop (mkF m 102 #[.val (.int u0), .val (.int u1), .val (.int u2), .val (.int (u0 &&& (3 : Int32))), .val (.int (u1 &&& (3 : Int32))), .val (.ref b1), .val (.ref b97), .val (.int (j0_47 u2)), .val (.ref b106)] [(.ref b114)])) _
          refine st119.trans ?_
          show Steps p.tables e below (T119.setTop (mkF m 105 #[.val (.int u0), .val (.int u1), .val (.int u2), .val (.int (u0 &&& (3 : Int32))), .val (.int (u1 &&& (3 : Int32))), .val (.ref b1), .val (.ref b97), .val (.int (j0_47 u2)), .val (.ref b106)] [(.int (1 : Int32))])) _
          refine XS.ifYes X119.here hx rfl (pc0 := 105) (pc' := 110) rfl (hb hby at_105) rfl ((if0 _ _).trans (feq (by decide : ¬ ((1 : Int32) = (0 : Int32)))).2) (by decide) (by decide) ?_
          show Steps p.tables e below (T119.setTop (mkF m 110 #[.val (.int u0), .val (.int u1), .val (.int u2), .val (.int (u0 &&& (3 : Int32))), .val (.int (u1 &&& (3 : Int32))), .val (.ref b1), .val (.ref b97), .val (.int (j0_47 u2)), .val (.ref b106)] [])) _
          refine XS.aload X119.here hx rfl (hb hby at_110) rfl rfl ?_
          show Steps p.tables e below (T119.setTop (mkF m 112 #[.val (.int u0), .val (.int u1), .val (.int u2), .val (.int (u0 &&& (3 : Int32))), .val (.int (u1 &&& (3 : Int32))), .val (.ref b1), .val (.ref b97), .val (.int (j0_47 u2)), .val (.ref b106)] [(.ref b1)])) _
          refine XS.aload X119.here hx rfl (hb hby at_112) rfl rfl ?_
          show Steps p.tables e below (T119.setTop (mkF m 114 #[.val (.int u0), .val (.int u1), .val (.int u2), .val (.int (u0 &&& (3 : Int32))), .val (.int (u1 &&& (3 : Int32))), .val (.ref b1), .val (.ref b97), .val (.int (j0_47 u2)), .val (.ref b106)] [(.ref b97), (.ref b1)])) _
          refine st120.trans ?_
          show Steps p.tables e below (T120.setTop (mkF m 117 #[.val (.int u0), .val (.int u1), .val (.int u2), .val (.int (u0 &&& (3 : Int32))), .val (.int (u1 &&& (3 : Int32))), .val (.ref b1), .val (.ref b97), .val (.int (j0_47 u2)), .val (.ref b106)] [(.ref b120)])) _
          refine st127.trans ?_
          show Steps p.tables e below (T127.setTop (mkF m 120 #[.val (.int u0), .val (.int u1), .val (.int u2), .val (.int (u0 &&& (3 : Int32))), .val (.int (u1 &&& (3 : Int32))), .val (.ref b1), .val (.ref b97), .val (.int (j0_47 u2)), .val (.ref b106)] [(.int (0 : Int32))])) _
          refine XS.ifYes X127.here hx rfl (pc0 := 120) (pc' := 125) rfl (hb hby at_120) rfl ((if0 _ _).trans (teq (by decide : (0 : Int32) = (0 : Int32))).1) (by decide) (by decide) ?_
          show Steps p.tables e below (T127.setTop (mkF m 125 #[.val (.int u0), .val (.int u1), .val (.int u2), .val (.int (u0 &&& (3 : Int32))), .val (.int (u1 &&& (3 : Int32))), .val (.ref b1), .val (.ref b97), .val (.int (j0_47 u2)), .val (.ref b106)] [])) _
          refine XS.iconst X127.here hx rfl (hb hby at_125) ?_
          show Steps p.tables e below (T127.setTop (mkF m 126 #[.val (.int u0), .val (.int u1), .val (.int u2), .val (.int (u0 &&& (3 : Int32))), .val (.int (u1 &&& (3 : Int32))), .val (.ref b1), .val (.ref b97), .val (.int (j0_47 u2)), .val (.ref b106)] [(.int (1 : Int32))])) _
          exact retN X127 hx (t := .boolean) Bd.returns (by simp) (hb hby at_126) hr
        · show QL n0 _ T127.heap _
          rw [e127]
          exact ⟨rfl, N127⟩
      · -- pc 71: not (j0_47 u2) = (0 : Int32)
        obtain ⟨_, _, ⟨T128, L128, k128, n128⟩, -, X128, S128q, hg128, ⟨Lc128, hQ128, l128, y128, z128⟩, st128⟩ := X106.specialBackS hx (y := (⟨"com/example/sendlimitd/sendlimitd/core/StateStore$Change", "<init>", "([B[B)V"⟩ : MethodName)) rfl hown (mvT hZ (hw _ (List.mem_of_getElem? (i := 4) rfl))) (mvT hZ (hw _ (List.mem_of_getElem? (i := 5) rfl))) (mvT hZ (hw _ (List.mem_of_getElem? (i := 6) rfl))) (by decide) (backOfS (W := 1) (rm1n l Z a0 hw [] b106 b1  h106 n0 (Nat.le_trans Z0 K106.1) A106 F_key_b106 F_value_b106 g_b106) hZ (hw _ (List.mem_of_getElem? (i := 6) rfl)) (hw _ (List.mem_of_getElem? (i := 3) rfl)) (by decide) (by decide)) (g := (mkF m 80 #[.val (.int u0), .val (.int u1), .val (.int u2), .val (.int (u0 &&& (3 : Int32))), .val (.int (u1 &&& (3 : Int32))), .val (.ref b1), .val (.ref b97), .val (.int (j0_47 u2)), .unset] [.null, (.ref b1), (.ref b106), (.ref b106)])) rfl (by rw [hml]; rfl) (Steps.refl _) (a := b106) (argsL := [(.ref b1), .null]) (rest := [(.ref b106)]) (lenOf pd_2 rfl) rfl (by show 2 * 0 + _ ≤ _; exact Nat.le_of_eq rfl) (hb hby at_80) (fun _ _ => ⟨rfl, e106, (by decide : 3 + 2 ≤ _), (by decide : 8 + 16 ≤ _)⟩)
        dsimp only [Pt.U, Pt.locs, Pt.cells, Pt.slots] at X128 l128 y128 z128 st128 hQ128 S128q hg128
        subst l128 y128 z128
        have S128 := foldS (s := s) (vm0 := s.vm) ((State.WarmedH.refl s).since 0) (Nat.zero_le _) S128q hg128
        have hZ : Z.Warmed39 (s.setVm T128.vm).vm := State.Warmed39.trans (t := s.setVm s.vm) hZ S128q.1
        have hown : (s.setVm T128.vm).vm.findClass "com/example/sendlimitd/sendlimitd/core/ChangeIsDeletePinLaw" = some m.cls := by rw [show (s.setVm T128.vm).vm = T128.vm from rfl, S128q.1.alike.findClass]; exact hown
        obtain ⟨rfl, N128q, K128q, E_r128, F_value128⟩ := hQ128
        have N128 := Fr.app N100 N128q
        have K128 : Keep h0 T128.heap [] := K106.trans K128q (allS (Or.inr sz_b106) all0)
        have Q1_129 := Q1_107.keep K128q
        have Q97_130 := Q97_108.keep K128q
        obtain ⟨cq131, kq131, q131a, q131b, q131c⟩ := isOf hZ rfl E_r128
        obtain ⟨_, _, ⟨T131, L131, k131, n131⟩, -, X131, ⟨Lc131, hQ131, l131, y131, z131⟩, st131⟩ := X128.virtualBack hx (y := (⟨"com/example/sendlimitd/sendlimitd/core/StateStore$Change", "isDelete", "()Z"⟩ : MethodName)) (z := (⟨"com/example/sendlimitd/sendlimitd/core/StateStore$Change", "isDelete", "()Z"⟩ : MethodName)) hown (mvT hZ (hw _ (List.mem_of_getElem? (i := 30) rfl))) (mvT hZ (hw _ (List.mem_of_getElem? (i := 31) rfl))) (notFace_of_selects (args := #[]) (mvT hZ (hw _ (List.mem_of_getElem? (i := 33) rfl)))) (mvT hZ (hw _ (List.mem_of_getElem? (i := 33) rfl))) (mvT hZ (hw _ (List.mem_of_getElem? (i := 32) rfl))) (by decide) (backOf (W := 0) (rm5n l Z a0 hw [] b106  T128.heap n0 (Nat.le_trans Z0 K128.1) F_value128) hZ (hw _ (List.mem_of_getElem? (i := 34) rfl)) (hw _ (List.mem_of_getElem? (i := 3) rfl)) (by decide) (by decide)) q131a q131c (g := (mkF m 87 #[.val (.int u0), .val (.int u1), .val (.int u2), .val (.int (u0 &&& (3 : Int32))), .val (.int (u1 &&& (3 : Int32))), .val (.ref b1), .val (.ref b97), .val (.int (j0_47 u2)), .val (.ref b106)] [(.ref b106)])) rfl (by rw [hml]; rfl) (Steps.refl _) (argsL := []) (rest := []) (lenOf pd_3 rfl) rfl (by show 2 * 0 + _ ≤ _; exact Nat.le_of_eq rfl) (hb hby at_87) (fun _ _ => ⟨rfl, rfl, (by decide : 5 + 0 ≤ _), (by decide : 24 + 0 ≤ _)⟩)
        dsimp only [Pt.U, Pt.locs, Pt.cells, Pt.slots] at X131 l131 y131 z131 st131 hQ131
        subst l131 y131 z131
        obtain ⟨rfl, N131q, e131⟩ := hQ131
        have N131 := Fr.app N128 N131q
        obtain ⟨_, _, ⟨T132, L132, k132, n132⟩, -, X132, S132q, hg132, ⟨Lc132, hQ132, l132, y132, z132⟩, st132⟩ := callSS X131 hx (y := (⟨"com/example/sendlimitd/sendlimitd/core/StateStore$Change", "delete", "([B)Lcom/example/sendlimitd/sendlimitd/core/StateStore$Change;"⟩ : MethodName)) hown (mvT hZ (hw _ (List.mem_of_getElem? (i := 35) rfl))) (mvT hZ (hw _ (List.mem_of_getElem? (i := 36) rfl))) (mvT hZ (hw _ (List.mem_of_getElem? (i := 3) rfl))) (mvT hZ (hw _ (List.mem_of_getElem? (i := 37) rfl))) (by decide) (backOfS (W := 0) (rm6 l Z a0 hw [] b1  T128.heap n0 (Nat.le_trans Z0 K128.1) ) hZ (hw _ (List.mem_of_getElem? (i := 37) rfl)) (hw _ (List.mem_of_getElem? (i := 3) rfl)) (by decide) (by decide)) (g := (mkF m 99 #[.val (.int u0), .val (.int u1), .val (.int u2), .val (.int (u0 &&& (3 : Int32))), .val (.int (u1 &&& (3 : Int32))), .val (.ref b1), .val (.ref b97), .val (.int (j0_47 u2)), .val (.ref b106)] [(.ref b1)])) rfl (by rw [hml]; rfl) (argsL := [(.ref b1)]) (rest := []) (lenOf pd_4 rfl) rfl (by show 2 * 0 + _ ≤ _; exact Nat.le_of_eq rfl) (hb hby at_99) (fun _ _ => ⟨rfl, e131, (by decide : 5 + 3 ≤ _), (by decide : 24 + 18 ≤ _)⟩)
        dsimp only [Pt.U, Pt.locs, Pt.cells, Pt.slots] at X132 l132 y132 z132 st132 hQ132 S132q hg132
        subst l132 y132 z132
        have S132 := foldS (s := s) (vm0 := T128.vm) S128 (by rw [e131]; exact (Nat.le_refl T128.heap.size)) S132q hg132
        have hZ : Z.Warmed39 (s.setVm T132.vm).vm := State.Warmed39.trans (t := s.setVm T128.vm) hZ S132q.1
        have hown : (s.setVm T132.vm).vm.findClass "com/example/sendlimitd/sendlimitd/core/ChangeIsDeletePinLaw" = some m.cls := by rw [show (s.setVm T132.vm).vm = T132.vm from rfl, S132q.1.alike.findClass]; exact hown
        obtain ⟨b132, rfl, N132q, K132q, E_r132, F_value132⟩ := hQ132
        have N132 := Fr.app N131 N132q
        have K132 : Keep h0 T132.heap [] := K128.trans K132q all0
        have Q1_133 := Q1_129.keep K132q
        have Q97_134 := Q97_130.keep K132q
        have E_r128_135 := E_r128.keep K132q
        have F_value128_136 := F_value128.keep K132q nin0
        obtain ⟨cq137, kq137, q137a, q137b, q137c⟩ := isOf hZ rfl E_r132
        obtain ⟨_, _, ⟨T137, L137, k137, n137⟩, -, X137, ⟨Lc137, hQ137, l137, y137, z137⟩, st137⟩ := X132.virtualBack hx (y := (⟨"com/example/sendlimitd/sendlimitd/core/StateStore$Change", "isDelete", "()Z"⟩ : MethodName)) (z := (⟨"com/example/sendlimitd/sendlimitd/core/StateStore$Change", "isDelete", "()Z"⟩ : MethodName)) hown (mvT hZ (hw _ (List.mem_of_getElem? (i := 30) rfl))) (mvT hZ (hw _ (List.mem_of_getElem? (i := 31) rfl))) (notFace_of_selects (args := #[]) (mvT hZ (hw _ (List.mem_of_getElem? (i := 33) rfl)))) (mvT hZ (hw _ (List.mem_of_getElem? (i := 33) rfl))) (mvT hZ (hw _ (List.mem_of_getElem? (i := 32) rfl))) (by decide) (backOf (W := 0) (rm5n l Z a0 hw [] b132  T132.heap n0 (Nat.le_trans Z0 K132.1) F_value132) hZ (hw _ (List.mem_of_getElem? (i := 34) rfl)) (hw _ (List.mem_of_getElem? (i := 3) rfl)) (by decide) (by decide)) q137a q137c (g := (mkF m 102 #[.val (.int u0), .val (.int u1), .val (.int u2), .val (.int (u0 &&& (3 : Int32))), .val (.int (u1 &&& (3 : Int32))), .val (.ref b1), .val (.ref b97), .val (.int (j0_47 u2)), .val (.ref b106)] [(.ref b132)])) rfl (by rw [hml]; rfl) (Steps.refl _) (argsL := []) (rest := []) (lenOf pd_3 rfl) rfl (by show 2 * 0 + _ ≤ _; exact Nat.le_of_eq rfl) (hb hby at_102) (fun _ _ => ⟨rfl, rfl, (by decide : 8 + 0 ≤ _), (by decide : 42 + 0 ≤ _)⟩)
        dsimp only [Pt.U, Pt.locs, Pt.cells, Pt.slots] at X137 l137 y137 z137 st137 hQ137
        subst l137 y137 z137
        obtain ⟨rfl, N137q, e137⟩ := hQ137
        have N137 := Fr.app N132 N137q
        obtain ⟨_, _, ⟨T138, L138, k138, n138⟩, -, X138, S138q, hg138, ⟨Lc138, hQ138, l138, y138, z138⟩, st138⟩ := callSS X137 hx (y := (⟨"com/example/sendlimitd/sendlimitd/core/StateStore$Change", "put", "([B[B)Lcom/example/sendlimitd/sendlimitd/core/StateStore$Change;"⟩ : MethodName)) hown (mvT hZ (hw _ (List.mem_of_getElem? (i := 40) rfl))) (mvT hZ (hw _ (List.mem_of_getElem? (i := 41) rfl))) (mvT hZ (hw _ (List.mem_of_getElem? (i := 3) rfl))) (mvT hZ (hw _ (List.mem_of_getElem? (i := 42) rfl))) (by decide) (backOfS (W := 0) (rm7 l Z a0 hw [] b1 b97  T132.heap n0 (Nat.le_trans Z0 K132.1) Q97_134) hZ (hw _ (List.mem_of_getElem? (i := 42) rfl)) (hw _ (List.mem_of_getElem? (i := 3) rfl)) (by decide) (by decide)) (g := (mkF m 114 #[.val (.int u0), .val (.int u1), .val (.int u2), .val (.int (u0 &&& (3 : Int32))), .val (.int (u1 &&& (3 : Int32))), .val (.ref b1), .val (.ref b97), .val (.int (j0_47 u2)), .val (.ref b106)] [(.ref b97), (.ref b1)])) rfl (by rw [hml]; rfl) (argsL := [(.ref b1), (.ref b97)]) (rest := []) (lenOf pd_5 rfl) rfl (by show 2 * 0 + _ ≤ _; exact Nat.le_of_eq rfl) (hb hby at_114) (fun _ _ => ⟨rfl, e137, (by decide : 8 + 5 ≤ _), (by decide : 42 + 42 ≤ _)⟩)
        dsimp only [Pt.U, Pt.locs, Pt.cells, Pt.slots] at X138 l138 y138 z138 st138 hQ138 S138q hg138
        subst l138 y138 z138
        have S138 := foldS (s := s) (vm0 := T132.vm) S132 (by rw [e137]; exact (Nat.le_refl T132.heap.size)) S138q hg138
        have hZ : Z.Warmed39 (s.setVm T138.vm).vm := State.Warmed39.trans (t := s.setVm T132.vm) hZ S138q.1
        have hown : (s.setVm T138.vm).vm.findClass "com/example/sendlimitd/sendlimitd/core/ChangeIsDeletePinLaw" = some m.cls := by rw [show (s.setVm T138.vm).vm = T138.vm from rfl, S138q.1.alike.findClass]; exact hown
        obtain ⟨b138, rfl, N138q, K138q, E_r138, F_value138⟩ := hQ138
        have N138 := Fr.app N137 N138q
        have K138 : Keep h0 T138.heap [] := K132.trans K138q all0
        have Q1_139 := Q1_133.keep K138q
        have Q97_140 := Q97_134.keep K138q
        have E_r128_141 := E_r128_135.keep K138q
        have F_value128_142 := F_value128_136.keep K138q nin0
        have E_r132_143 := E_r132.keep K138q
        have F_value132_144 := F_value132.keep K138q nin0
        obtain ⟨cq145, kq145, q145a, q145b, q145c⟩ := isOf hZ rfl E_r138
        obtain ⟨_, _, ⟨T145, L145, k145, n145⟩, -, X145, ⟨Lc145, hQ145, l145, y145, z145⟩, st145⟩ := X138.virtualBack hx (y := (⟨"com/example/sendlimitd/sendlimitd/core/StateStore$Change", "isDelete", "()Z"⟩ : MethodName)) (z := (⟨"com/example/sendlimitd/sendlimitd/core/StateStore$Change", "isDelete", "()Z"⟩ : MethodName)) hown (mvT hZ (hw _ (List.mem_of_getElem? (i := 30) rfl))) (mvT hZ (hw _ (List.mem_of_getElem? (i := 31) rfl))) (notFace_of_selects (args := #[]) (mvT hZ (hw _ (List.mem_of_getElem? (i := 33) rfl)))) (mvT hZ (hw _ (List.mem_of_getElem? (i := 33) rfl))) (mvT hZ (hw _ (List.mem_of_getElem? (i := 32) rfl))) (by decide) (backOf (W := 0) (rm5 l Z a0 hw [] b138 b97 T138.heap n0 (Nat.le_trans Z0 K138.1) F_value138) hZ (hw _ (List.mem_of_getElem? (i := 34) rfl)) (hw _ (List.mem_of_getElem? (i := 3) rfl)) (by decide) (by decide)) q145a q145c (g := (mkF m 117 #[.val (.int u0), .val (.int u1), .val (.int u2), .val (.int (u0 &&& (3 : Int32))), .val (.int (u1 &&& (3 : Int32))), .val (.ref b1), .val (.ref b97), .val (.int (j0_47 u2)), .val (.ref b106)] [(.ref b138)])) rfl (by rw [hml]; rfl) (Steps.refl _) (argsL := []) (rest := []) (lenOf pd_3 rfl) rfl (by show 2 * 0 + _ ≤ _; exact Nat.le_of_eq rfl) (hb hby at_117) (fun _ _ => ⟨rfl, rfl, (by decide : 13 + 0 ≤ _), (by decide : 84 + 0 ≤ _)⟩)
        dsimp only [Pt.U, Pt.locs, Pt.cells, Pt.slots] at X145 l145 y145 z145 st145 hQ145
        subst l145 y145 z145
        obtain ⟨rfl, N145q, e145⟩ := hQ145
        have N145 := Fr.app N138 N145q
        obtain ⟨fs, hr, hrun, hended, hRE⟩ := X145.leaveW (s := s) (vm₁ := T138.vm) S138 (by rw [e145]; exact (Nat.le_refl T138.heap.size)) (v := (some (.int (1 : Int32)))) (fun h => by rw [Bd.returns] at h; cases h)
        refine ⟨_, _, pre109 _ ?_, hrun, hended, _, _, rfl, ?_, hRE.1, hRE.2.1, hRE.2.2.1, hRE.2.2.2.mono (by decide) (by decide)⟩
        · show Steps p.tables e below (T106.setTop (mkF m 71 #[.val (.int u0), .val (.int u1), .val (.int u2), .val (.int (u0 &&& (3 : Int32))), .val (.int (u1 &&& (3 : Int32))), .val (.ref b1), .val (.ref b97), .val (.int (j0_47 u2)), .unset] [(.int (j0_47 u2)), (.ref b1), (.ref b106), (.ref b106)])) _
          refine XS.ifNo X106.here hx rfl (hb hby at_71) rfl ((if0 _ _).trans (feq hc71).1) ?_
          show Steps p.tables e below (T106.setTop (mkF m 74 #[.val (.int u0), .val (.int u1), .val (.int u2), .val (.int (u0 &&& (3 : Int32))), .val (.int (u1 &&& (3 : Int32))), .val (.ref b1), .val (.ref b97), .val (.int (j0_47 u2)), .unset] [(.ref b1), (.ref b106), (.ref b106)])) _
          refine XS.aconstNull X106.here hx rfl (hb hby at_74) ?_
          show Steps p.tables e below (T106.setTop (mkF m 75 #[.val (.int u0), .val (.int u1), .val (.int u2), .val (.int (u0 &&& (3 : Int32))), .val (.int (u1 &&& (3 : Int32))), .val (.ref b1), .val (.ref b97), .val (.int (j0_47 u2)), .unset] [.null, (.ref b1), (.ref b106), (.ref b106)])) _
          refine XS.goto X106.here hx rfl (pc0 := 75) (pc' := 80) rfl (hb hby at_75) (by decide) (by decide) ?_
          show Steps p.tables e below (T106.setTop (mkF m 80 #[.val (.int u0), .val (.int u1), .val (.int u2), .val (.int (u0 &&& (3 : Int32))), .val (.int (u1 &&& (3 : Int32))), .val (.ref b1), .val (.ref b97), .val (.int (j0_47 u2)), .unset] [.null, (.ref b1), (.ref b106), (.ref b106)])) _
          refine st128.trans ?_
          show Steps p.tables e below (T128.setTop (mkF m 83 #[.val (.int u0), .val (.int u1), .val (.int u2), .val (.int (u0 &&& (3 : Int32))), .val (.int (u1 &&& (3 : Int32))), .val (.ref b1), .val (.ref b97), .val (.int (j0_47 u2)), .unset] [(.ref b106)])) _
          refine XS.astore X128.here hx rfl (hb hby at_83) rfl rfl (l' := #[.val (.int u0), .val (.int u1), .val (.int u2), .val (.int (u0 &&& (3 : Int32))), .val (.int (u1 &&& (3 : Int32))), .val (.ref b1), .val (.ref b97), .val (.int (j0_47 u2)), .val (.ref b106)]) rfl ?_
          show Steps p.tables e below (T128.setTop (mkF m 85 #[.val (.int u0), .val (.int u1), .val (.int u2), .val (.int (u0 &&& (3 : Int32))), .val (.int (u1 &&& (3 : Int32))), .val (.ref b1), .val (.ref b97), .val (.int (j0_47 u2)), .val (.ref b106)] [])) _
          refine XS.aload X128.here hx rfl (hb hby at_85) rfl rfl ?_
          show Steps p.tables e below (T128.setTop (mkF m 87 #[.val (.int u0), .val (.int u1), .val (.int u2), .val (.int (u0 &&& (3 : Int32))), .val (.int (u1 &&& (3 : Int32))), .val (.ref b1), .val (.ref b97), .val (.int (j0_47 u2)), .val (.ref b106)] [(.ref b106)])) _
          refine st131.trans ?_
          show Steps p.tables e below (T131.setTop (mkF m 90 #[.val (.int u0), .val (.int u1), .val (.int u2), .val (.int (u0 &&& (3 : Int32))), .val (.int (u1 &&& (3 : Int32))), .val (.ref b1), .val (.ref b97), .val (.int (j0_47 u2)), .val (.ref b106)] [(.int (1 : Int32))])) _
          refine XS.iload X131.here hx rfl (hb hby at_90) rfl ?_
          show Steps p.tables e below (T131.setTop (mkF m 92 #[.val (.int u0), .val (.int u1), .val (.int u2), .val (.int (u0 &&& (3 : Int32))), .val (.int (u1 &&& (3 : Int32))), .val (.ref b1), .val (.ref b97), .val (.int (j0_47 u2)), .val (.ref b106)] [(.int (j0_47 u2)), (.int (1 : Int32))])) _
          refine XS.icmpYes X131.here hx rfl (pc0 := 92) (pc' := 97) rfl (hb hby at_92) rfl (teq (own_j1 hc71).symm).1 (by decide) (by decide) ?_
          show Steps p.tables e below (T131.setTop (mkF m 97 #[.val (.int u0), .val (.int u1), .val (.int u2), .val (.int (u0 &&& (3 : Int32))), .val (.int (u1 &&& (3 : Int32))), .val (.ref b1), .val (.ref b97), .val (.int (j0_47 u2)), .val (.ref b106)] [])) _
          refine XS.aload X131.here hx rfl (hb hby at_97) rfl rfl ?_
          show Steps p.tables e below (T131.setTop (mkF m 99 #[.val (.int u0), .val (.int u1), .val (.int u2), .val (.int (u0 &&& (3 : Int32))), .val (.int (u1 &&& (3 : Int32))), .val (.ref b1), .val (.ref b97), .val (.int (j0_47 u2)), .val (.ref b106)] [(.ref b1)])) _
          refine st132.trans ?_
          show Steps p.tables e below (T132.setTop (mkF m 102 #[.val (.int u0), .val (.int u1), .val (.int u2), .val (.int (u0 &&& (3 : Int32))), .val (.int (u1 &&& (3 : Int32))), .val (.ref b1), .val (.ref b97), .val (.int (j0_47 u2)), .val (.ref b106)] [(.ref b132)])) _
          refine st137.trans ?_
          show Steps p.tables e below (T137.setTop (mkF m 105 #[.val (.int u0), .val (.int u1), .val (.int u2), .val (.int (u0 &&& (3 : Int32))), .val (.int (u1 &&& (3 : Int32))), .val (.ref b1), .val (.ref b97), .val (.int (j0_47 u2)), .val (.ref b106)] [(.int (1 : Int32))])) _
          refine XS.ifYes X137.here hx rfl (pc0 := 105) (pc' := 110) rfl (hb hby at_105) rfl ((if0 _ _).trans (feq (by decide : ¬ ((1 : Int32) = (0 : Int32)))).2) (by decide) (by decide) ?_
          show Steps p.tables e below (T137.setTop (mkF m 110 #[.val (.int u0), .val (.int u1), .val (.int u2), .val (.int (u0 &&& (3 : Int32))), .val (.int (u1 &&& (3 : Int32))), .val (.ref b1), .val (.ref b97), .val (.int (j0_47 u2)), .val (.ref b106)] [])) _
          refine XS.aload X137.here hx rfl (hb hby at_110) rfl rfl ?_
          show Steps p.tables e below (T137.setTop (mkF m 112 #[.val (.int u0), .val (.int u1), .val (.int u2), .val (.int (u0 &&& (3 : Int32))), .val (.int (u1 &&& (3 : Int32))), .val (.ref b1), .val (.ref b97), .val (.int (j0_47 u2)), .val (.ref b106)] [(.ref b1)])) _
          refine XS.aload X137.here hx rfl (hb hby at_112) rfl rfl ?_
          show Steps p.tables e below (T137.setTop (mkF m 114 #[.val (.int u0), .val (.int u1), .val (.int u2), .val (.int (u0 &&& (3 : Int32))), .val (.int (u1 &&& (3 : Int32))), .val (.ref b1), .val (.ref b97), .val (.int (j0_47 u2)), .val (.ref b106)] [(.ref b97), (.ref b1)])) _
          refine st138.trans ?_
          show Steps p.tables e below (T138.setTop (mkF m 117 #[.val (.int u0), .val (.int u1), .val (.int u2), .val (.int (u0 &&& (3 : Int32))), .val (.int (u1 &&& (3 : Int32))), .val (.ref b1), .val (.ref b97), .val (.int (j0_47 u2)), .val (.ref b106)] [(.ref b138)])) _
          refine st145.trans ?_
          show Steps p.tables e below (T145.setTop (mkF m 120 #[.val (.int u0), .val (.int u1), .val (.int u2), .val (.int (u0 &&& (3 : Int32))), .val (.int (u1 &&& (3 : Int32))), .val (.ref b1), .val (.ref b97), .val (.int (j0_47 u2)), .val (.ref b106)] [(.int (0 : Int32))])) _
          refine XS.ifYes X145.here hx rfl (pc0 := 120) (pc' := 125) rfl (hb hby at_120) rfl ((if0 _ _).trans (teq (by decide : (0 : Int32) = (0 : Int32))).1) (by decide) (by decide) ?_
          show Steps p.tables e below (T145.setTop (mkF m 125 #[.val (.int u0), .val (.int u1), .val (.int u2), .val (.int (u0 &&& (3 : Int32))), .val (.int (u1 &&& (3 : Int32))), .val (.ref b1), .val (.ref b97), .val (.int (j0_47 u2)), .val (.ref b106)] [])) _
          refine XS.iconst X145.here hx rfl (hb hby at_125) ?_
          show Steps p.tables e below (T145.setTop (mkF m 126 #[.val (.int u0), .val (.int u1), .val (.int u2), .val (.int (u0 &&& (3 : Int32))), .val (.int (u1 &&& (3 : Int32))), .val (.ref b1), .val (.ref b97), .val (.int (j0_47 u2)), .val (.ref b106)] [(.int (1 : Int32))])) _
          exact retN X145 hx (t := .boolean) Bd.returns (by simp) (hb hby at_126) hr
        · show QL n0 _ T145.heap _
          rw [e145]
          exact ⟨rfl, N145⟩
    · -- pc 32: not (0 : Int32) < (u1 &&& (3 : Int32))
      have pre146 : ∀ t, Steps p.tables e below (T97.setTop (mkF m 47 #[.val (.int u0), .val (.int u1), .val (.int u2), .val (.int (u0 &&& (3 : Int32))), .val (.int (u1 &&& (3 : Int32))), .val (.ref b1), .val (.ref b97), .unset, .unset] [])) t → Steps p.tables e below (s₁.setTop (entryFrame m #[(.int u0), (.int u1), (.int u2)] maxLocals)) t := fun t k => pre99 t (by
        show Steps p.tables e below (T97.setTop (mkF m 32 #[.val (.int u0), .val (.int u1), .val (.int u2), .val (.int (u0 &&& (3 : Int32))), .val (.int (u1 &&& (3 : Int32))), .val (.ref b1), .val (.ref b97), .unset, .unset] [(.int (u1 &&& (3 : Int32)))])) _
        refine XS.ifYes X97.here hx rfl (pc0 := 32) (pc' := 47) rfl (hb hby at_32) rfl ((if0 _ _).trans (flt hc32).2.2.2) (by decide) (by decide) ?_
        exact k)
      have pre147 : ∀ t, Steps p.tables e below (T97.setTop (mkF m 61 #[.val (.int u0), .val (.int u1), .val (.int u2), .val (.int (u0 &&& (3 : Int32))), .val (.int (u1 &&& (3 : Int32))), .val (.ref b1), .val (.ref b97), .unset, .unset] [(.int (j0_47 u2))])) t → Steps p.tables e below (s₁.setTop (entryFrame m #[(.int u0), (.int u1), (.int u2)] maxLocals)) t := by
        have pre148 : ∀ t, Steps p.tables e below (T97.setTop (mkF m 53 #[.val (.int u0), .val (.int u1), .val (.int u2), .val (.int (u0 &&& (3 : Int32))), .val (.int (u1 &&& (3 : Int32))), .val (.ref b1), .val (.ref b97), .unset, .unset] [(.int (((u2.toUInt32 >>> ((8 : Int32) &&& 31).toUInt32).toInt32) &&& (1 : Int32)))])) t → Steps p.tables e below (s₁.setTop (entryFrame m #[(.int u0), (.int u1), (.int u2)] maxLocals)) t := fun t k => pre146 t (by
          show Steps p.tables e below (T97.setTop (mkF m 47 #[.val (.int u0), .val (.int u1), .val (.int u2), .val (.int (u0 &&& (3 : Int32))), .val (.int (u1 &&& (3 : Int32))), .val (.ref b1), .val (.ref b97), .unset, .unset] [])) _
          refine XS.iloadN X97.here hx rfl (hb hby at_47) rfl ?_
          show Steps p.tables e below (T97.setTop (mkF m 48 #[.val (.int u0), .val (.int u1), .val (.int u2), .val (.int (u0 &&& (3 : Int32))), .val (.int (u1 &&& (3 : Int32))), .val (.ref b1), .val (.ref b97), .unset, .unset] [(.int u2)])) _
          refine XS.bipush X97.here hx rfl (hb hby at_48) ?_
          show Steps p.tables e below (T97.setTop (mkF m 50 #[.val (.int u0), .val (.int u1), .val (.int u2), .val (.int (u0 &&& (3 : Int32))), .val (.int (u1 &&& (3 : Int32))), .val (.ref b1), .val (.ref b97), .unset, .unset] [(.int (8 : Int32)), (.int u2)])) _
          refine XS.iushr X97.here hx rfl (hb hby at_50) rfl ?_
          show Steps p.tables e below (T97.setTop (mkF m 51 #[.val (.int u0), .val (.int u1), .val (.int u2), .val (.int (u0 &&& (3 : Int32))), .val (.int (u1 &&& (3 : Int32))), .val (.ref b1), .val (.ref b97), .unset, .unset] [(.int ((u2.toUInt32 >>> ((8 : Int32) &&& 31).toUInt32).toInt32))])) _
          refine XS.iconst X97.here hx rfl (hb hby at_51) ?_
          show Steps p.tables e below (T97.setTop (mkF m 52 #[.val (.int u0), .val (.int u1), .val (.int u2), .val (.int (u0 &&& (3 : Int32))), .val (.int (u1 &&& (3 : Int32))), .val (.ref b1), .val (.ref b97), .unset, .unset] [(.int (1 : Int32)), (.int ((u2.toUInt32 >>> ((8 : Int32) &&& 31).toUInt32).toInt32))])) _
          refine XS.iand X97.here hx rfl (hb hby at_52) rfl ?_
          exact k)
        by_cases hc53 : (((u2.toUInt32 >>> ((8 : Int32) &&& 31).toUInt32).toInt32) &&& (1 : Int32)) = (0 : Int32)
        · -- pc 53: (((u2.toUInt32 >>> ((8 : Int32) &&& 31).toUInt32).toInt32) &&& (1 : Int32)) = (0 : Int32)
          intro t k
          have qS0 : (j0_47 u2) = (0 : Int32) := (if_pos hc53).trans (rfl)
          rw [qS0] at k
          refine pre148 t ?_
          show Steps p.tables e below (T97.setTop (mkF m 53 #[.val (.int u0), .val (.int u1), .val (.int u2), .val (.int (u0 &&& (3 : Int32))), .val (.int (u1 &&& (3 : Int32))), .val (.ref b1), .val (.ref b97), .unset, .unset] [(.int (((u2.toUInt32 >>> ((8 : Int32) &&& 31).toUInt32).toInt32) &&& (1 : Int32)))])) _
          refine XS.ifYes X97.here hx rfl (pc0 := 53) (pc' := 60) rfl (hb hby at_53) rfl ((if0 _ _).trans (teq hc53).1) (by decide) (by decide) ?_
          show Steps p.tables e below (T97.setTop (mkF m 60 #[.val (.int u0), .val (.int u1), .val (.int u2), .val (.int (u0 &&& (3 : Int32))), .val (.int (u1 &&& (3 : Int32))), .val (.ref b1), .val (.ref b97), .unset, .unset] [])) _
          refine XS.iconst X97.here hx rfl (hb hby at_60) ?_
          exact k
        · -- pc 53: not (((u2.toUInt32 >>> ((8 : Int32) &&& 31).toUInt32).toInt32) &&& (1 : Int32)) = (0 : Int32)
          intro t k
          have qS0 : (j0_47 u2) = (1 : Int32) := (if_neg hc53).trans (rfl)
          rw [qS0] at k
          refine pre148 t ?_
          show Steps p.tables e below (T97.setTop (mkF m 53 #[.val (.int u0), .val (.int u1), .val (.int u2), .val (.int (u0 &&& (3 : Int32))), .val (.int (u1 &&& (3 : Int32))), .val (.ref b1), .val (.ref b97), .unset, .unset] [(.int (((u2.toUInt32 >>> ((8 : Int32) &&& 31).toUInt32).toInt32) &&& (1 : Int32)))])) _
          refine XS.ifNo X97.here hx rfl (hb hby at_53) rfl ((if0 _ _).trans (feq hc53).1) ?_
          show Steps p.tables e below (T97.setTop (mkF m 56 #[.val (.int u0), .val (.int u1), .val (.int u2), .val (.int (u0 &&& (3 : Int32))), .val (.int (u1 &&& (3 : Int32))), .val (.ref b1), .val (.ref b97), .unset, .unset] [])) _
          refine XS.iconst X97.here hx rfl (hb hby at_56) ?_
          show Steps p.tables e below (T97.setTop (mkF m 57 #[.val (.int u0), .val (.int u1), .val (.int u2), .val (.int (u0 &&& (3 : Int32))), .val (.int (u1 &&& (3 : Int32))), .val (.ref b1), .val (.ref b97), .unset, .unset] [(.int (1 : Int32))])) _
          refine XS.goto X97.here hx rfl (pc0 := 57) (pc' := 61) rfl (hb hby at_57) (by decide) (by decide) ?_
          exact k
      obtain ⟨T149, h149, X149, e149, E149, A149, D149, -, st149⟩ := newO X97 hx hZ hown (hw _ (List.mem_of_getElem? (i := 1) rfl)) (hw _ (List.mem_of_getElem? (i := 2) rfl)) (hw _ (List.mem_of_getElem? (i := 3) rfl)) e97 (g := (mkF m 63 #[.val (.int u0), .val (.int u1), .val (.int u2), .val (.int (u0 &&& (3 : Int32))), .val (.int (u1 &&& (3 : Int32))), .val (.ref b1), .val (.ref b97), .val (.int (j0_47 u2)), .unset] [])) rfl (hb hby at_63) (by decide) (by decide)
      obtain ⟨b149, g149⟩ : ∃ z, z = h97.size := ⟨_, rfl⟩
      rw [← g149] at A149 D149 st149
      have g_b149 : n0 ≤ b149 := Nat.le_trans (Nat.le_trans Z0 K97.1) (Nat.le_of_eq g149.symm)
      have sz_b149 : h0.size ≤ b149 := Nat.le_trans K97.1 (Nat.le_of_eq g149.symm)
      have ne_b1_b149 : b1 ≠ b149 := Nat.ne_of_lt (Nat.lt_of_lt_of_le Q1_98.lt (Nat.le_of_eq g149.symm))
      have ne_b97_b149 : b97 ≠ b149 := Nat.ne_of_lt (Nat.lt_of_lt_of_le Q97.lt (Nat.le_of_eq g149.symm))
      have Q1_150 := Q1_98.ext E149
      have Q97_151 := Q97.ext E149
      have K149 : Keep h0 h149 [] := K97.ext E149
      have F_key_b149 : Fld Z h149 b149 "com/example/sendlimitd/sendlimitd/core/StateStore$Change" "key" "[B" .null := D149 (Or.inr (hw _ (List.mem_of_getElem? (i := 27) rfl))) (ty := (.array .byte)) (by decide)
      have F_value_b149 : Fld Z h149 b149 "com/example/sendlimitd/sendlimitd/core/StateStore$Change" "value" "[B" .null := D149 (Or.inr (hw _ (List.mem_of_getElem? (i := 29) rfl))) (ty := (.array .byte)) (by decide)
      have pre152 : ∀ t, Steps p.tables e below (T149.setTop (mkF m 71 #[.val (.int u0), .val (.int u1), .val (.int u2), .val (.int (u0 &&& (3 : Int32))), .val (.int (u1 &&& (3 : Int32))), .val (.ref b1), .val (.ref b97), .val (.int (j0_47 u2)), .unset] [(.int (j0_47 u2)), (.ref b1), (.ref b149), (.ref b149)])) t → Steps p.tables e below (s₁.setTop (entryFrame m #[(.int u0), (.int u1), (.int u2)] maxLocals)) t := fun t k => pre147 t (by
        show Steps p.tables e below (T97.setTop (mkF m 61 #[.val (.int u0), .val (.int u1), .val (.int u2), .val (.int (u0 &&& (3 : Int32))), .val (.int (u1 &&& (3 : Int32))), .val (.ref b1), .val (.ref b97), .unset, .unset] [(.int (j0_47 u2))])) _
        refine XS.istore X97.here hx rfl (hb hby at_61) rfl (l' := #[.val (.int u0), .val (.int u1), .val (.int u2), .val (.int (u0 &&& (3 : Int32))), .val (.int (u1 &&& (3 : Int32))), .val (.ref b1), .val (.ref b97), .val (.int (j0_47 u2)), .unset]) rfl ?_
        show Steps p.tables e below (T97.setTop (mkF m 63 #[.val (.int u0), .val (.int u1), .val (.int u2), .val (.int (u0 &&& (3 : Int32))), .val (.int (u1 &&& (3 : Int32))), .val (.ref b1), .val (.ref b97), .val (.int (j0_47 u2)), .unset] [])) _
        refine st149 _ ?_
        show Steps p.tables e below (T149.setTop (mkF m 66 #[.val (.int u0), .val (.int u1), .val (.int u2), .val (.int (u0 &&& (3 : Int32))), .val (.int (u1 &&& (3 : Int32))), .val (.ref b1), .val (.ref b97), .val (.int (j0_47 u2)), .unset] [(.ref b149)])) _
        refine XS.dup X149.here hx rfl (hb hby at_66) rfl rfl ?_
        show Steps p.tables e below (T149.setTop (mkF m 67 #[.val (.int u0), .val (.int u1), .val (.int u2), .val (.int (u0 &&& (3 : Int32))), .val (.int (u1 &&& (3 : Int32))), .val (.ref b1), .val (.ref b97), .val (.int (j0_47 u2)), .unset] [(.ref b149), (.ref b149)])) _
        refine XS.aload X149.here hx rfl (hb hby at_67) rfl rfl ?_
        show Steps p.tables e below (T149.setTop (mkF m 69 #[.val (.int u0), .val (.int u1), .val (.int u2), .val (.int (u0 &&& (3 : Int32))), .val (.int (u1 &&& (3 : Int32))), .val (.ref b1), .val (.ref b97), .val (.int (j0_47 u2)), .unset] [(.ref b1), (.ref b149), (.ref b149)])) _
        refine XS.iload X149.here hx rfl (hb hby at_69) rfl ?_
        exact k)
      by_cases hc71 : (j0_47 u2) = (0 : Int32)
      · -- pc 71: (j0_47 u2) = (0 : Int32)
        obtain ⟨_, _, ⟨T153, L153, k153, n153⟩, -, X153, S153q, hg153, ⟨Lc153, hQ153, l153, y153, z153⟩, st153⟩ := X149.specialBackS hx (y := (⟨"com/example/sendlimitd/sendlimitd/core/StateStore$Change", "<init>", "([B[B)V"⟩ : MethodName)) rfl hown (mvT hZ (hw _ (List.mem_of_getElem? (i := 4) rfl))) (mvT hZ (hw _ (List.mem_of_getElem? (i := 5) rfl))) (mvT hZ (hw _ (List.mem_of_getElem? (i := 6) rfl))) (by decide) (backOfS (W := 1) (rm1 l Z a0 hw [] b149 b1 b97  h149 n0 (Nat.le_trans Z0 K149.1) A149 F_key_b149 F_value_b149 g_b149) hZ (hw _ (List.mem_of_getElem? (i := 6) rfl)) (hw _ (List.mem_of_getElem? (i := 3) rfl)) (by decide) (by decide)) (g := (mkF m 80 #[.val (.int u0), .val (.int u1), .val (.int u2), .val (.int (u0 &&& (3 : Int32))), .val (.int (u1 &&& (3 : Int32))), .val (.ref b1), .val (.ref b97), .val (.int (j0_47 u2)), .unset] [(.ref b97), (.ref b1), (.ref b149), (.ref b149)])) rfl (by rw [hml]; rfl) (Steps.refl _) (a := b149) (argsL := [(.ref b1), (.ref b97)]) (rest := [(.ref b149)]) (lenOf pd_2 rfl) rfl (by show 2 * 0 + _ ≤ _; exact Nat.le_of_eq rfl) (hb hby at_80) (fun _ _ => ⟨rfl, e149, (by decide : 3 + 2 ≤ _), (by decide : 8 + 16 ≤ _)⟩)
        dsimp only [Pt.U, Pt.locs, Pt.cells, Pt.slots] at X153 l153 y153 z153 st153 hQ153 S153q hg153
        subst l153 y153 z153
        have S153 := foldS (s := s) (vm0 := s.vm) ((State.WarmedH.refl s).since 0) (Nat.zero_le _) S153q hg153
        have hZ : Z.Warmed39 (s.setVm T153.vm).vm := State.Warmed39.trans (t := s.setVm s.vm) hZ S153q.1
        have hown : (s.setVm T153.vm).vm.findClass "com/example/sendlimitd/sendlimitd/core/ChangeIsDeletePinLaw" = some m.cls := by rw [show (s.setVm T153.vm).vm = T153.vm from rfl, S153q.1.alike.findClass]; exact hown
        obtain ⟨rfl, N153q, K153q, E_r153, F_value153⟩ := hQ153
        have N153 := Fr.app N0 N153q
        have K153 : Keep h0 T153.heap [] := K149.trans K153q (allS (Or.inr sz_b149) all0)
        have Q1_154 := Q1_150.keep K153q
        have Q97_155 := Q97_151.keep K153q
        obtain ⟨cq156, kq156, q156a, q156b, q156c⟩ := isOf hZ rfl E_r153
        obtain ⟨_, _, ⟨T156, L156, k156, n156⟩, -, X156, ⟨Lc156, hQ156, l156, y156, z156⟩, st156⟩ := X153.virtualBack hx (y := (⟨"com/example/sendlimitd/sendlimitd/core/StateStore$Change", "isDelete", "()Z"⟩ : MethodName)) (z := (⟨"com/example/sendlimitd/sendlimitd/core/StateStore$Change", "isDelete", "()Z"⟩ : MethodName)) hown (mvT hZ (hw _ (List.mem_of_getElem? (i := 30) rfl))) (mvT hZ (hw _ (List.mem_of_getElem? (i := 31) rfl))) (notFace_of_selects (args := #[]) (mvT hZ (hw _ (List.mem_of_getElem? (i := 33) rfl)))) (mvT hZ (hw _ (List.mem_of_getElem? (i := 33) rfl))) (mvT hZ (hw _ (List.mem_of_getElem? (i := 32) rfl))) (by decide) (backOf (W := 0) (rm5 l Z a0 hw [] b149 b97 T153.heap n0 (Nat.le_trans Z0 K153.1) F_value153) hZ (hw _ (List.mem_of_getElem? (i := 34) rfl)) (hw _ (List.mem_of_getElem? (i := 3) rfl)) (by decide) (by decide)) q156a q156c (g := (mkF m 87 #[.val (.int u0), .val (.int u1), .val (.int u2), .val (.int (u0 &&& (3 : Int32))), .val (.int (u1 &&& (3 : Int32))), .val (.ref b1), .val (.ref b97), .val (.int (j0_47 u2)), .val (.ref b149)] [(.ref b149)])) rfl (by rw [hml]; rfl) (Steps.refl _) (argsL := []) (rest := []) (lenOf pd_3 rfl) rfl (by show 2 * 0 + _ ≤ _; exact Nat.le_of_eq rfl) (hb hby at_87) (fun _ _ => ⟨rfl, rfl, (by decide : 5 + 0 ≤ _), (by decide : 24 + 0 ≤ _)⟩)
        dsimp only [Pt.U, Pt.locs, Pt.cells, Pt.slots] at X156 l156 y156 z156 st156 hQ156
        subst l156 y156 z156
        obtain ⟨rfl, N156q, e156⟩ := hQ156
        have N156 := Fr.app N153 N156q
        obtain ⟨_, _, ⟨T157, L157, k157, n157⟩, -, X157, S157q, hg157, ⟨Lc157, hQ157, l157, y157, z157⟩, st157⟩ := callSS X156 hx (y := (⟨"com/example/sendlimitd/sendlimitd/core/StateStore$Change", "delete", "([B)Lcom/example/sendlimitd/sendlimitd/core/StateStore$Change;"⟩ : MethodName)) hown (mvT hZ (hw _ (List.mem_of_getElem? (i := 35) rfl))) (mvT hZ (hw _ (List.mem_of_getElem? (i := 36) rfl))) (mvT hZ (hw _ (List.mem_of_getElem? (i := 3) rfl))) (mvT hZ (hw _ (List.mem_of_getElem? (i := 37) rfl))) (by decide) (backOfS (W := 0) (rm6 l Z a0 hw [] b1  T153.heap n0 (Nat.le_trans Z0 K153.1) ) hZ (hw _ (List.mem_of_getElem? (i := 37) rfl)) (hw _ (List.mem_of_getElem? (i := 3) rfl)) (by decide) (by decide)) (g := (mkF m 99 #[.val (.int u0), .val (.int u1), .val (.int u2), .val (.int (u0 &&& (3 : Int32))), .val (.int (u1 &&& (3 : Int32))), .val (.ref b1), .val (.ref b97), .val (.int (j0_47 u2)), .val (.ref b149)] [(.ref b1)])) rfl (by rw [hml]; rfl) (argsL := [(.ref b1)]) (rest := []) (lenOf pd_4 rfl) rfl (by show 2 * 0 + _ ≤ _; exact Nat.le_of_eq rfl) (hb hby at_99) (fun _ _ => ⟨rfl, e156, (by decide : 5 + 3 ≤ _), (by decide : 24 + 18 ≤ _)⟩)
        dsimp only [Pt.U, Pt.locs, Pt.cells, Pt.slots] at X157 l157 y157 z157 st157 hQ157 S157q hg157
        subst l157 y157 z157
        have S157 := foldS (s := s) (vm0 := T153.vm) S153 (by rw [e156]; exact (Nat.le_refl T153.heap.size)) S157q hg157
        have hZ : Z.Warmed39 (s.setVm T157.vm).vm := State.Warmed39.trans (t := s.setVm T153.vm) hZ S157q.1
        have hown : (s.setVm T157.vm).vm.findClass "com/example/sendlimitd/sendlimitd/core/ChangeIsDeletePinLaw" = some m.cls := by rw [show (s.setVm T157.vm).vm = T157.vm from rfl, S157q.1.alike.findClass]; exact hown
        obtain ⟨b157, rfl, N157q, K157q, E_r157, F_value157⟩ := hQ157
        have N157 := Fr.app N156 N157q
        have K157 : Keep h0 T157.heap [] := K153.trans K157q all0
        have Q1_158 := Q1_154.keep K157q
        have Q97_159 := Q97_155.keep K157q
        have E_r153_160 := E_r153.keep K157q
        have F_value153_161 := F_value153.keep K157q nin0
        obtain ⟨cq162, kq162, q162a, q162b, q162c⟩ := isOf hZ rfl E_r157
        obtain ⟨_, _, ⟨T162, L162, k162, n162⟩, -, X162, ⟨Lc162, hQ162, l162, y162, z162⟩, st162⟩ := X157.virtualBack hx (y := (⟨"com/example/sendlimitd/sendlimitd/core/StateStore$Change", "isDelete", "()Z"⟩ : MethodName)) (z := (⟨"com/example/sendlimitd/sendlimitd/core/StateStore$Change", "isDelete", "()Z"⟩ : MethodName)) hown (mvT hZ (hw _ (List.mem_of_getElem? (i := 30) rfl))) (mvT hZ (hw _ (List.mem_of_getElem? (i := 31) rfl))) (notFace_of_selects (args := #[]) (mvT hZ (hw _ (List.mem_of_getElem? (i := 33) rfl)))) (mvT hZ (hw _ (List.mem_of_getElem? (i := 33) rfl))) (mvT hZ (hw _ (List.mem_of_getElem? (i := 32) rfl))) (by decide) (backOf (W := 0) (rm5n l Z a0 hw [] b157  T157.heap n0 (Nat.le_trans Z0 K157.1) F_value157) hZ (hw _ (List.mem_of_getElem? (i := 34) rfl)) (hw _ (List.mem_of_getElem? (i := 3) rfl)) (by decide) (by decide)) q162a q162c (g := (mkF m 102 #[.val (.int u0), .val (.int u1), .val (.int u2), .val (.int (u0 &&& (3 : Int32))), .val (.int (u1 &&& (3 : Int32))), .val (.ref b1), .val (.ref b97), .val (.int (j0_47 u2)), .val (.ref b149)] [(.ref b157)])) rfl (by rw [hml]; rfl) (Steps.refl _) (argsL := []) (rest := []) (lenOf pd_3 rfl) rfl (by show 2 * 0 + _ ≤ _; exact Nat.le_of_eq rfl) (hb hby at_102) (fun _ _ => ⟨rfl, rfl, (by decide : 8 + 0 ≤ _), (by decide : 42 + 0 ≤ _)⟩)
        dsimp only [Pt.U, Pt.locs, Pt.cells, Pt.slots] at X162 l162 y162 z162 st162 hQ162
        subst l162 y162 z162
        obtain ⟨rfl, N162q, e162⟩ := hQ162
        have N162 := Fr.app N157 N162q
        obtain ⟨_, _, ⟨T163, L163, k163, n163⟩, -, X163, S163q, hg163, ⟨Lc163, hQ163, l163, y163, z163⟩, st163⟩ := callSS X162 hx (y := (⟨"com/example/sendlimitd/sendlimitd/core/StateStore$Change", "put", "([B[B)Lcom/example/sendlimitd/sendlimitd/core/StateStore$Change;"⟩ : MethodName)) hown (mvT hZ (hw _ (List.mem_of_getElem? (i := 40) rfl))) (mvT hZ (hw _ (List.mem_of_getElem? (i := 41) rfl))) (mvT hZ (hw _ (List.mem_of_getElem? (i := 3) rfl))) (mvT hZ (hw _ (List.mem_of_getElem? (i := 42) rfl))) (by decide) (backOfS (W := 0) (rm7 l Z a0 hw [] b1 b97  T157.heap n0 (Nat.le_trans Z0 K157.1) Q97_159) hZ (hw _ (List.mem_of_getElem? (i := 42) rfl)) (hw _ (List.mem_of_getElem? (i := 3) rfl)) (by decide) (by decide)) (g := (mkF m 114 #[.val (.int u0), .val (.int u1), .val (.int u2), .val (.int (u0 &&& (3 : Int32))), .val (.int (u1 &&& (3 : Int32))), .val (.ref b1), .val (.ref b97), .val (.int (j0_47 u2)), .val (.ref b149)] [(.ref b97), (.ref b1)])) rfl (by rw [hml]; rfl) (argsL := [(.ref b1), (.ref b97)]) (rest := []) (lenOf pd_5 rfl) rfl (by show 2 * 0 + _ ≤ _; exact Nat.le_of_eq rfl) (hb hby at_114) (fun _ _ => ⟨rfl, e162, (by decide : 8 + 5 ≤ _), (by decide : 42 + 42 ≤ _)⟩)
        dsimp only [Pt.U, Pt.locs, Pt.cells, Pt.slots] at X163 l163 y163 z163 st163 hQ163 S163q hg163
        subst l163 y163 z163
        have S163 := foldS (s := s) (vm0 := T157.vm) S157 (by rw [e162]; exact (Nat.le_refl T157.heap.size)) S163q hg163
        have hZ : Z.Warmed39 (s.setVm T163.vm).vm := State.Warmed39.trans (t := s.setVm T157.vm) hZ S163q.1
        have hown : (s.setVm T163.vm).vm.findClass "com/example/sendlimitd/sendlimitd/core/ChangeIsDeletePinLaw" = some m.cls := by rw [show (s.setVm T163.vm).vm = T163.vm from rfl, S163q.1.alike.findClass]; exact hown
        obtain ⟨b163, rfl, N163q, K163q, E_r163, F_value163⟩ := hQ163
        have N163 := Fr.app N162 N163q
        have K163 : Keep h0 T163.heap [] := K157.trans K163q all0
        have Q1_164 := Q1_158.keep K163q
        have Q97_165 := Q97_159.keep K163q
        have E_r153_166 := E_r153_160.keep K163q
        have F_value153_167 := F_value153_161.keep K163q nin0
        have E_r157_168 := E_r157.keep K163q
        have F_value157_169 := F_value157.keep K163q nin0
        obtain ⟨cq170, kq170, q170a, q170b, q170c⟩ := isOf hZ rfl E_r163
        obtain ⟨_, _, ⟨T170, L170, k170, n170⟩, -, X170, ⟨Lc170, hQ170, l170, y170, z170⟩, st170⟩ := X163.virtualBack hx (y := (⟨"com/example/sendlimitd/sendlimitd/core/StateStore$Change", "isDelete", "()Z"⟩ : MethodName)) (z := (⟨"com/example/sendlimitd/sendlimitd/core/StateStore$Change", "isDelete", "()Z"⟩ : MethodName)) hown (mvT hZ (hw _ (List.mem_of_getElem? (i := 30) rfl))) (mvT hZ (hw _ (List.mem_of_getElem? (i := 31) rfl))) (notFace_of_selects (args := #[]) (mvT hZ (hw _ (List.mem_of_getElem? (i := 33) rfl)))) (mvT hZ (hw _ (List.mem_of_getElem? (i := 33) rfl))) (mvT hZ (hw _ (List.mem_of_getElem? (i := 32) rfl))) (by decide) (backOf (W := 0) (rm5 l Z a0 hw [] b163 b97 T163.heap n0 (Nat.le_trans Z0 K163.1) F_value163) hZ (hw _ (List.mem_of_getElem? (i := 34) rfl)) (hw _ (List.mem_of_getElem? (i := 3) rfl)) (by decide) (by decide)) q170a q170c (g := (mkF m 117 #[.val (.int u0), .val (.int u1), .val (.int u2), .val (.int (u0 &&& (3 : Int32))), .val (.int (u1 &&& (3 : Int32))), .val (.ref b1), .val (.ref b97), .val (.int (j0_47 u2)), .val (.ref b149)] [(.ref b163)])) rfl (by rw [hml]; rfl) (Steps.refl _) (argsL := []) (rest := []) (lenOf pd_3 rfl) rfl (by show 2 * 0 + _ ≤ _; exact Nat.le_of_eq rfl) (hb hby at_117) (fun _ _ => ⟨rfl, rfl, (by decide : 13 + 0 ≤ _), (by decide : 84 + 0 ≤ _)⟩)
        dsimp only [Pt.U, Pt.locs, Pt.cells, Pt.slots] at X170 l170 y170 z170 st170 hQ170
        subst l170 y170 z170
        obtain ⟨rfl, N170q, e170⟩ := hQ170
        have N170 := Fr.app N163 N170q
        obtain ⟨fs, hr, hrun, hended, hRE⟩ := X170.leaveW (s := s) (vm₁ := T163.vm) S163 (by rw [e170]; exact (Nat.le_refl T163.heap.size)) (v := (some (.int (1 : Int32)))) (fun h => by rw [Bd.returns] at h; cases h)
        refine ⟨_, _, pre152 _ ?_, hrun, hended, _, _, rfl, ?_, hRE.1, hRE.2.1, hRE.2.2.1, hRE.2.2.2.mono (by decide) (by decide)⟩
        · show Steps p.tables e below (T149.setTop (mkF m 71 #[.val (.int u0), .val (.int u1), .val (.int u2), .val (.int (u0 &&& (3 : Int32))), .val (.int (u1 &&& (3 : Int32))), .val (.ref b1), .val (.ref b97), .val (.int (j0_47 u2)), .unset] [(.int (j0_47 u2)), (.ref b1), (.ref b149), (.ref b149)])) _
          refine XS.ifYes X149.here hx rfl (pc0 := 71) (pc' := 78) rfl (hb hby at_71) rfl ((if0 _ _).trans (teq hc71).1) (by decide) (by decide) ?_
          show Steps p.tables e below (T149.setTop (mkF m 78 #[.val (.int u0), .val (.int u1), .val (.int u2), .val (.int (u0 &&& (3 : Int32))), .val (.int (u1 &&& (3 : Int32))), .val (.ref b1), .val (.ref b97), .val (.int (j0_47 u2)), .unset] [(.ref b1), (.ref b149), (.ref b149)])) _
          refine XS.aload X149.here hx rfl (hb hby at_78) rfl rfl ?_
          show Steps p.tables e below (T149.setTop (mkF m 80 #[.val (.int u0), .val (.int u1), .val (.int u2), .val (.int (u0 &&& (3 : Int32))), .val (.int (u1 &&& (3 : Int32))), .val (.ref b1), .val (.ref b97), .val (.int (j0_47 u2)), .unset] [(.ref b97), (.ref b1), (.ref b149), (.ref b149)])) _
          refine st153.trans ?_
          show Steps p.tables e below (T153.setTop (mkF m 83 #[.val (.int u0), .val (.int u1), .val (.int u2), .val (.int (u0 &&& (3 : Int32))), .val (.int (u1 &&& (3 : Int32))), .val (.ref b1), .val (.ref b97), .val (.int (j0_47 u2)), .unset] [(.ref b149)])) _
          refine XS.astore X153.here hx rfl (hb hby at_83) rfl rfl (l' := #[.val (.int u0), .val (.int u1), .val (.int u2), .val (.int (u0 &&& (3 : Int32))), .val (.int (u1 &&& (3 : Int32))), .val (.ref b1), .val (.ref b97), .val (.int (j0_47 u2)), .val (.ref b149)]) rfl ?_
          show Steps p.tables e below (T153.setTop (mkF m 85 #[.val (.int u0), .val (.int u1), .val (.int u2), .val (.int (u0 &&& (3 : Int32))), .val (.int (u1 &&& (3 : Int32))), .val (.ref b1), .val (.ref b97), .val (.int (j0_47 u2)), .val (.ref b149)] [])) _
          refine XS.aload X153.here hx rfl (hb hby at_85) rfl rfl ?_
          show Steps p.tables e below (T153.setTop (mkF m 87 #[.val (.int u0), .val (.int u1), .val (.int u2), .val (.int (u0 &&& (3 : Int32))), .val (.int (u1 &&& (3 : Int32))), .val (.ref b1), .val (.ref b97), .val (.int (j0_47 u2)), .val (.ref b149)] [(.ref b149)])) _
          refine st156.trans ?_
          show Steps p.tables e below (T156.setTop (mkF m 90 #[.val (.int u0), .val (.int u1), .val (.int u2), .val (.int (u0 &&& (3 : Int32))), .val (.int (u1 &&& (3 : Int32))), .val (.ref b1), .val (.ref b97), .val (.int (j0_47 u2)), .val (.ref b149)] [(.int (0 : Int32))])) _
          refine XS.iload X156.here hx rfl (hb hby at_90) rfl ?_
          show Steps p.tables e below (T156.setTop (mkF m 92 #[.val (.int u0), .val (.int u1), .val (.int u2), .val (.int (u0 &&& (3 : Int32))), .val (.int (u1 &&& (3 : Int32))), .val (.ref b1), .val (.ref b97), .val (.int (j0_47 u2)), .val (.ref b149)] [(.int (j0_47 u2)), (.int (0 : Int32))])) _
          refine XS.icmpYes X156.here hx rfl (pc0 := 92) (pc' := 97) rfl (hb hby at_92) rfl (teq hc71.symm).1 (by decide) (by decide) ?_
          show Steps p.tables e below (T156.setTop (mkF m 97 #[.val (.int u0), .val (.int u1), .val (.int u2), .val (.int (u0 &&& (3 : Int32))), .val (.int (u1 &&& (3 : Int32))), .val (.ref b1), .val (.ref b97), .val (.int (j0_47 u2)), .val (.ref b149)] [])) _
          refine XS.aload X156.here hx rfl (hb hby at_97) rfl rfl ?_
          show Steps p.tables e below (T156.setTop (mkF m 99 #[.val (.int u0), .val (.int u1), .val (.int u2), .val (.int (u0 &&& (3 : Int32))), .val (.int (u1 &&& (3 : Int32))), .val (.ref b1), .val (.ref b97), .val (.int (j0_47 u2)), .val (.ref b149)] [(.ref b1)])) _
          refine st157.trans ?_
          show Steps p.tables e below (T157.setTop (mkF m 102 #[.val (.int u0), .val (.int u1), .val (.int u2), .val (.int (u0 &&& (3 : Int32))), .val (.int (u1 &&& (3 : Int32))), .val (.ref b1), .val (.ref b97), .val (.int (j0_47 u2)), .val (.ref b149)] [(.ref b157)])) _
          refine st162.trans ?_
          show Steps p.tables e below (T162.setTop (mkF m 105 #[.val (.int u0), .val (.int u1), .val (.int u2), .val (.int (u0 &&& (3 : Int32))), .val (.int (u1 &&& (3 : Int32))), .val (.ref b1), .val (.ref b97), .val (.int (j0_47 u2)), .val (.ref b149)] [(.int (1 : Int32))])) _
          refine XS.ifYes X162.here hx rfl (pc0 := 105) (pc' := 110) rfl (hb hby at_105) rfl ((if0 _ _).trans (feq (by decide : ¬ ((1 : Int32) = (0 : Int32)))).2) (by decide) (by decide) ?_
          show Steps p.tables e below (T162.setTop (mkF m 110 #[.val (.int u0), .val (.int u1), .val (.int u2), .val (.int (u0 &&& (3 : Int32))), .val (.int (u1 &&& (3 : Int32))), .val (.ref b1), .val (.ref b97), .val (.int (j0_47 u2)), .val (.ref b149)] [])) _
          refine XS.aload X162.here hx rfl (hb hby at_110) rfl rfl ?_
          show Steps p.tables e below (T162.setTop (mkF m 112 #[.val (.int u0), .val (.int u1), .val (.int u2), .val (.int (u0 &&& (3 : Int32))), .val (.int (u1 &&& (3 : Int32))), .val (.ref b1), .val (.ref b97), .val (.int (j0_47 u2)), .val (.ref b149)] [(.ref b1)])) _
          refine XS.aload X162.here hx rfl (hb hby at_112) rfl rfl ?_
          show Steps p.tables e below (T162.setTop (mkF m 114 #[.val (.int u0), .val (.int u1), .val (.int u2), .val (.int (u0 &&& (3 : Int32))), .val (.int (u1 &&& (3 : Int32))), .val (.ref b1), .val (.ref b97), .val (.int (j0_47 u2)), .val (.ref b149)] [(.ref b97), (.ref b1)])) _
          refine st163.trans ?_
          show Steps p.tables e below (T163.setTop (mkF m 117 #[.val (.int u0), .val (.int u1), .val (.int u2), .val (.int (u0 &&& (3 : Int32))), .val (.int (u1 &&& (3 : Int32))), .val (.ref b1), .val (.ref b97), .val (.int (j0_47 u2)), .val (.ref b149)] [(.ref b163)])) _
          refine st170.trans ?_
          show Steps p.tables e below (T170.setTop (mkF m 120 #[.val (.int u0), .val (.int u1), .val (.int u2), .val (.int (u0 &&& (3 : Int32))), .val (.int (u1 &&& (3 : Int32))), .val (.ref b1), .val (.ref b97), .val (.int (j0_47 u2)), .val (.ref b149)] [(.int (0 : Int32))])) _
          refine XS.ifYes X170.here hx rfl (pc0 := 120) (pc' := 125) rfl (hb hby at_120) rfl ((if0 _ _).trans (teq (by decide : (0 : Int32) = (0 : Int32))).1) (by decide) (by decide) ?_
          show Steps p.tables e below (T170.setTop (mkF m 125 #[.val (.int u0), .val (.int u1), .val (.int u2), .val (.int (u0 &&& (3 : Int32))), .val (.int (u1 &&& (3 : Int32))), .val (.ref b1), .val (.ref b97), .val (.int (j0_47 u2)), .val (.ref b149)] [])) _
          refine XS.iconst X170.here hx rfl (hb hby at_125) ?_
          show Steps p.tables e below (T170.setTop (mkF m 126 #[.val (.int u0), .val (.int u1), .val (.int u2), .val (.int (u0 &&& (3 : Int32))), .val (.int (u1 &&& (3 : Int32))), .val (.ref b1), .val (.ref b97), .val (.int (j0_47 u2)), .val (.ref b149)] [(.int (1 : Int32))])) _
          exact retN X170 hx (t := .boolean) Bd.returns (by simp) (hb hby at_126) hr
        · show QL n0 _ T170.heap _
          rw [e170]
          exact ⟨rfl, N170⟩
      · -- pc 71: not (j0_47 u2) = (0 : Int32)
        obtain ⟨_, _, ⟨T171, L171, k171, n171⟩, -, X171, S171q, hg171, ⟨Lc171, hQ171, l171, y171, z171⟩, st171⟩ := X149.specialBackS hx (y := (⟨"com/example/sendlimitd/sendlimitd/core/StateStore$Change", "<init>", "([B[B)V"⟩ : MethodName)) rfl hown (mvT hZ (hw _ (List.mem_of_getElem? (i := 4) rfl))) (mvT hZ (hw _ (List.mem_of_getElem? (i := 5) rfl))) (mvT hZ (hw _ (List.mem_of_getElem? (i := 6) rfl))) (by decide) (backOfS (W := 1) (rm1n l Z a0 hw [] b149 b1  h149 n0 (Nat.le_trans Z0 K149.1) A149 F_key_b149 F_value_b149 g_b149) hZ (hw _ (List.mem_of_getElem? (i := 6) rfl)) (hw _ (List.mem_of_getElem? (i := 3) rfl)) (by decide) (by decide)) (g := (mkF m 80 #[.val (.int u0), .val (.int u1), .val (.int u2), .val (.int (u0 &&& (3 : Int32))), .val (.int (u1 &&& (3 : Int32))), .val (.ref b1), .val (.ref b97), .val (.int (j0_47 u2)), .unset] [.null, (.ref b1), (.ref b149), (.ref b149)])) rfl (by rw [hml]; rfl) (Steps.refl _) (a := b149) (argsL := [(.ref b1), .null]) (rest := [(.ref b149)]) (lenOf pd_2 rfl) rfl (by show 2 * 0 + _ ≤ _; exact Nat.le_of_eq rfl) (hb hby at_80) (fun _ _ => ⟨rfl, e149, (by decide : 3 + 2 ≤ _), (by decide : 8 + 16 ≤ _)⟩)
        dsimp only [Pt.U, Pt.locs, Pt.cells, Pt.slots] at X171 l171 y171 z171 st171 hQ171 S171q hg171
        subst l171 y171 z171
        have S171 := foldS (s := s) (vm0 := s.vm) ((State.WarmedH.refl s).since 0) (Nat.zero_le _) S171q hg171
        have hZ : Z.Warmed39 (s.setVm T171.vm).vm := State.Warmed39.trans (t := s.setVm s.vm) hZ S171q.1
        have hown : (s.setVm T171.vm).vm.findClass "com/example/sendlimitd/sendlimitd/core/ChangeIsDeletePinLaw" = some m.cls := by rw [show (s.setVm T171.vm).vm = T171.vm from rfl, S171q.1.alike.findClass]; exact hown
        obtain ⟨rfl, N171q, K171q, E_r171, F_value171⟩ := hQ171
        have N171 := Fr.app N0 N171q
        have K171 : Keep h0 T171.heap [] := K149.trans K171q (allS (Or.inr sz_b149) all0)
        have Q1_172 := Q1_150.keep K171q
        have Q97_173 := Q97_151.keep K171q
        obtain ⟨cq174, kq174, q174a, q174b, q174c⟩ := isOf hZ rfl E_r171
        obtain ⟨_, _, ⟨T174, L174, k174, n174⟩, -, X174, ⟨Lc174, hQ174, l174, y174, z174⟩, st174⟩ := X171.virtualBack hx (y := (⟨"com/example/sendlimitd/sendlimitd/core/StateStore$Change", "isDelete", "()Z"⟩ : MethodName)) (z := (⟨"com/example/sendlimitd/sendlimitd/core/StateStore$Change", "isDelete", "()Z"⟩ : MethodName)) hown (mvT hZ (hw _ (List.mem_of_getElem? (i := 30) rfl))) (mvT hZ (hw _ (List.mem_of_getElem? (i := 31) rfl))) (notFace_of_selects (args := #[]) (mvT hZ (hw _ (List.mem_of_getElem? (i := 33) rfl)))) (mvT hZ (hw _ (List.mem_of_getElem? (i := 33) rfl))) (mvT hZ (hw _ (List.mem_of_getElem? (i := 32) rfl))) (by decide) (backOf (W := 0) (rm5n l Z a0 hw [] b149  T171.heap n0 (Nat.le_trans Z0 K171.1) F_value171) hZ (hw _ (List.mem_of_getElem? (i := 34) rfl)) (hw _ (List.mem_of_getElem? (i := 3) rfl)) (by decide) (by decide)) q174a q174c (g := (mkF m 87 #[.val (.int u0), .val (.int u1), .val (.int u2), .val (.int (u0 &&& (3 : Int32))), .val (.int (u1 &&& (3 : Int32))), .val (.ref b1), .val (.ref b97), .val (.int (j0_47 u2)), .val (.ref b149)] [(.ref b149)])) rfl (by rw [hml]; rfl) (Steps.refl _) (argsL := []) (rest := []) (lenOf pd_3 rfl) rfl (by show 2 * 0 + _ ≤ _; exact Nat.le_of_eq rfl) (hb hby at_87) (fun _ _ => ⟨rfl, rfl, (by decide : 5 + 0 ≤ _), (by decide : 24 + 0 ≤ _)⟩)
        dsimp only [Pt.U, Pt.locs, Pt.cells, Pt.slots] at X174 l174 y174 z174 st174 hQ174
        subst l174 y174 z174
        obtain ⟨rfl, N174q, e174⟩ := hQ174
        have N174 := Fr.app N171 N174q
        obtain ⟨_, _, ⟨T175, L175, k175, n175⟩, -, X175, S175q, hg175, ⟨Lc175, hQ175, l175, y175, z175⟩, st175⟩ := callSS X174 hx (y := (⟨"com/example/sendlimitd/sendlimitd/core/StateStore$Change", "delete", "([B)Lcom/example/sendlimitd/sendlimitd/core/StateStore$Change;"⟩ : MethodName)) hown (mvT hZ (hw _ (List.mem_of_getElem? (i := 35) rfl))) (mvT hZ (hw _ (List.mem_of_getElem? (i := 36) rfl))) (mvT hZ (hw _ (List.mem_of_getElem? (i := 3) rfl))) (mvT hZ (hw _ (List.mem_of_getElem? (i := 37) rfl))) (by decide) (backOfS (W := 0) (rm6 l Z a0 hw [] b1  T171.heap n0 (Nat.le_trans Z0 K171.1) ) hZ (hw _ (List.mem_of_getElem? (i := 37) rfl)) (hw _ (List.mem_of_getElem? (i := 3) rfl)) (by decide) (by decide)) (g := (mkF m 99 #[.val (.int u0), .val (.int u1), .val (.int u2), .val (.int (u0 &&& (3 : Int32))), .val (.int (u1 &&& (3 : Int32))), .val (.ref b1), .val (.ref b97), .val (.int (j0_47 u2)), .val (.ref b149)] [(.ref b1)])) rfl (by rw [hml]; rfl) (argsL := [(.ref b1)]) (rest := []) (lenOf pd_4 rfl) rfl (by show 2 * 0 + _ ≤ _; exact Nat.le_of_eq rfl) (hb hby at_99) (fun _ _ => ⟨rfl, e174, (by decide : 5 + 3 ≤ _), (by decide : 24 + 18 ≤ _)⟩)
        dsimp only [Pt.U, Pt.locs, Pt.cells, Pt.slots] at X175 l175 y175 z175 st175 hQ175 S175q hg175
        subst l175 y175 z175
        have S175 := foldS (s := s) (vm0 := T171.vm) S171 (by rw [e174]; exact (Nat.le_refl T171.heap.size)) S175q hg175
        have hZ : Z.Warmed39 (s.setVm T175.vm).vm := State.Warmed39.trans (t := s.setVm T171.vm) hZ S175q.1
        have hown : (s.setVm T175.vm).vm.findClass "com/example/sendlimitd/sendlimitd/core/ChangeIsDeletePinLaw" = some m.cls := by rw [show (s.setVm T175.vm).vm = T175.vm from rfl, S175q.1.alike.findClass]; exact hown
        obtain ⟨b175, rfl, N175q, K175q, E_r175, F_value175⟩ := hQ175
        have N175 := Fr.app N174 N175q
        have K175 : Keep h0 T175.heap [] := K171.trans K175q all0
        have Q1_176 := Q1_172.keep K175q
        have Q97_177 := Q97_173.keep K175q
        have E_r171_178 := E_r171.keep K175q
        have F_value171_179 := F_value171.keep K175q nin0
        obtain ⟨cq180, kq180, q180a, q180b, q180c⟩ := isOf hZ rfl E_r175
        obtain ⟨_, _, ⟨T180, L180, k180, n180⟩, -, X180, ⟨Lc180, hQ180, l180, y180, z180⟩, st180⟩ := X175.virtualBack hx (y := (⟨"com/example/sendlimitd/sendlimitd/core/StateStore$Change", "isDelete", "()Z"⟩ : MethodName)) (z := (⟨"com/example/sendlimitd/sendlimitd/core/StateStore$Change", "isDelete", "()Z"⟩ : MethodName)) hown (mvT hZ (hw _ (List.mem_of_getElem? (i := 30) rfl))) (mvT hZ (hw _ (List.mem_of_getElem? (i := 31) rfl))) (notFace_of_selects (args := #[]) (mvT hZ (hw _ (List.mem_of_getElem? (i := 33) rfl)))) (mvT hZ (hw _ (List.mem_of_getElem? (i := 33) rfl))) (mvT hZ (hw _ (List.mem_of_getElem? (i := 32) rfl))) (by decide) (backOf (W := 0) (rm5n l Z a0 hw [] b175  T175.heap n0 (Nat.le_trans Z0 K175.1) F_value175) hZ (hw _ (List.mem_of_getElem? (i := 34) rfl)) (hw _ (List.mem_of_getElem? (i := 3) rfl)) (by decide) (by decide)) q180a q180c (g := (mkF m 102 #[.val (.int u0), .val (.int u1), .val (.int u2), .val (.int (u0 &&& (3 : Int32))), .val (.int (u1 &&& (3 : Int32))), .val (.ref b1), .val (.ref b97), .val (.int (j0_47 u2)), .val (.ref b149)] [(.ref b175)])) rfl (by rw [hml]; rfl) (Steps.refl _) (argsL := []) (rest := []) (lenOf pd_3 rfl) rfl (by show 2 * 0 + _ ≤ _; exact Nat.le_of_eq rfl) (hb hby at_102) (fun _ _ => ⟨rfl, rfl, (by decide : 8 + 0 ≤ _), (by decide : 42 + 0 ≤ _)⟩)
        dsimp only [Pt.U, Pt.locs, Pt.cells, Pt.slots] at X180 l180 y180 z180 st180 hQ180
        subst l180 y180 z180
        obtain ⟨rfl, N180q, e180⟩ := hQ180
        have N180 := Fr.app N175 N180q
        obtain ⟨_, _, ⟨T181, L181, k181, n181⟩, -, X181, S181q, hg181, ⟨Lc181, hQ181, l181, y181, z181⟩, st181⟩ := callSS X180 hx (y := (⟨"com/example/sendlimitd/sendlimitd/core/StateStore$Change", "put", "([B[B)Lcom/example/sendlimitd/sendlimitd/core/StateStore$Change;"⟩ : MethodName)) hown (mvT hZ (hw _ (List.mem_of_getElem? (i := 40) rfl))) (mvT hZ (hw _ (List.mem_of_getElem? (i := 41) rfl))) (mvT hZ (hw _ (List.mem_of_getElem? (i := 3) rfl))) (mvT hZ (hw _ (List.mem_of_getElem? (i := 42) rfl))) (by decide) (backOfS (W := 0) (rm7 l Z a0 hw [] b1 b97  T175.heap n0 (Nat.le_trans Z0 K175.1) Q97_177) hZ (hw _ (List.mem_of_getElem? (i := 42) rfl)) (hw _ (List.mem_of_getElem? (i := 3) rfl)) (by decide) (by decide)) (g := (mkF m 114 #[.val (.int u0), .val (.int u1), .val (.int u2), .val (.int (u0 &&& (3 : Int32))), .val (.int (u1 &&& (3 : Int32))), .val (.ref b1), .val (.ref b97), .val (.int (j0_47 u2)), .val (.ref b149)] [(.ref b97), (.ref b1)])) rfl (by rw [hml]; rfl) (argsL := [(.ref b1), (.ref b97)]) (rest := []) (lenOf pd_5 rfl) rfl (by show 2 * 0 + _ ≤ _; exact Nat.le_of_eq rfl) (hb hby at_114) (fun _ _ => ⟨rfl, e180, (by decide : 8 + 5 ≤ _), (by decide : 42 + 42 ≤ _)⟩)
        dsimp only [Pt.U, Pt.locs, Pt.cells, Pt.slots] at X181 l181 y181 z181 st181 hQ181 S181q hg181
        subst l181 y181 z181
        have S181 := foldS (s := s) (vm0 := T175.vm) S175 (by rw [e180]; exact (Nat.le_refl T175.heap.size)) S181q hg181
        have hZ : Z.Warmed39 (s.setVm T181.vm).vm := State.Warmed39.trans (t := s.setVm T175.vm) hZ S181q.1
        have hown : (s.setVm T181.vm).vm.findClass "com/example/sendlimitd/sendlimitd/core/ChangeIsDeletePinLaw" = some m.cls := by rw [show (s.setVm T181.vm).vm = T181.vm from rfl, S181q.1.alike.findClass]; exact hown
        obtain ⟨b181, rfl, N181q, K181q, E_r181, F_value181⟩ := hQ181
        have N181 := Fr.app N180 N181q
        have K181 : Keep h0 T181.heap [] := K175.trans K181q all0
        have Q1_182 := Q1_176.keep K181q
        have Q97_183 := Q97_177.keep K181q
        have E_r171_184 := E_r171_178.keep K181q
        have F_value171_185 := F_value171_179.keep K181q nin0
        have E_r175_186 := E_r175.keep K181q
        have F_value175_187 := F_value175.keep K181q nin0
        obtain ⟨cq188, kq188, q188a, q188b, q188c⟩ := isOf hZ rfl E_r181
        obtain ⟨_, _, ⟨T188, L188, k188, n188⟩, -, X188, ⟨Lc188, hQ188, l188, y188, z188⟩, st188⟩ := X181.virtualBack hx (y := (⟨"com/example/sendlimitd/sendlimitd/core/StateStore$Change", "isDelete", "()Z"⟩ : MethodName)) (z := (⟨"com/example/sendlimitd/sendlimitd/core/StateStore$Change", "isDelete", "()Z"⟩ : MethodName)) hown (mvT hZ (hw _ (List.mem_of_getElem? (i := 30) rfl))) (mvT hZ (hw _ (List.mem_of_getElem? (i := 31) rfl))) (notFace_of_selects (args := #[]) (mvT hZ (hw _ (List.mem_of_getElem? (i := 33) rfl)))) (mvT hZ (hw _ (List.mem_of_getElem? (i := 33) rfl))) (mvT hZ (hw _ (List.mem_of_getElem? (i := 32) rfl))) (by decide) (backOf (W := 0) (rm5 l Z a0 hw [] b181 b97 T181.heap n0 (Nat.le_trans Z0 K181.1) F_value181) hZ (hw _ (List.mem_of_getElem? (i := 34) rfl)) (hw _ (List.mem_of_getElem? (i := 3) rfl)) (by decide) (by decide)) q188a q188c (g := (mkF m 117 #[.val (.int u0), .val (.int u1), .val (.int u2), .val (.int (u0 &&& (3 : Int32))), .val (.int (u1 &&& (3 : Int32))), .val (.ref b1), .val (.ref b97), .val (.int (j0_47 u2)), .val (.ref b149)] [(.ref b181)])) rfl (by rw [hml]; rfl) (Steps.refl _) (argsL := []) (rest := []) (lenOf pd_3 rfl) rfl (by show 2 * 0 + _ ≤ _; exact Nat.le_of_eq rfl) (hb hby at_117) (fun _ _ => ⟨rfl, rfl, (by decide : 13 + 0 ≤ _), (by decide : 84 + 0 ≤ _)⟩)
        dsimp only [Pt.U, Pt.locs, Pt.cells, Pt.slots] at X188 l188 y188 z188 st188 hQ188
        subst l188 y188 z188
        obtain ⟨rfl, N188q, e188⟩ := hQ188
        have N188 := Fr.app N181 N188q
        obtain ⟨fs, hr, hrun, hended, hRE⟩ := X188.leaveW (s := s) (vm₁ := T181.vm) S181 (by rw [e188]; exact (Nat.le_refl T181.heap.size)) (v := (some (.int (1 : Int32)))) (fun h => by rw [Bd.returns] at h; cases h)
        refine ⟨_, _, pre152 _ ?_, hrun, hended, _, _, rfl, ?_, hRE.1, hRE.2.1, hRE.2.2.1, hRE.2.2.2.mono (by decide) (by decide)⟩
        · show Steps p.tables e below (T149.setTop (mkF m 71 #[.val (.int u0), .val (.int u1), .val (.int u2), .val (.int (u0 &&& (3 : Int32))), .val (.int (u1 &&& (3 : Int32))), .val (.ref b1), .val (.ref b97), .val (.int (j0_47 u2)), .unset] [(.int (j0_47 u2)), (.ref b1), (.ref b149), (.ref b149)])) _
          refine XS.ifNo X149.here hx rfl (hb hby at_71) rfl ((if0 _ _).trans (feq hc71).1) ?_
          show Steps p.tables e below (T149.setTop (mkF m 74 #[.val (.int u0), .val (.int u1), .val (.int u2), .val (.int (u0 &&& (3 : Int32))), .val (.int (u1 &&& (3 : Int32))), .val (.ref b1), .val (.ref b97), .val (.int (j0_47 u2)), .unset] [(.ref b1), (.ref b149), (.ref b149)])) _
          refine XS.aconstNull X149.here hx rfl (hb hby at_74) ?_
          show Steps p.tables e below (T149.setTop (mkF m 75 #[.val (.int u0), .val (.int u1), .val (.int u2), .val (.int (u0 &&& (3 : Int32))), .val (.int (u1 &&& (3 : Int32))), .val (.ref b1), .val (.ref b97), .val (.int (j0_47 u2)), .unset] [.null, (.ref b1), (.ref b149), (.ref b149)])) _
          refine XS.goto X149.here hx rfl (pc0 := 75) (pc' := 80) rfl (hb hby at_75) (by decide) (by decide) ?_
          show Steps p.tables e below (T149.setTop (mkF m 80 #[.val (.int u0), .val (.int u1), .val (.int u2), .val (.int (u0 &&& (3 : Int32))), .val (.int (u1 &&& (3 : Int32))), .val (.ref b1), .val (.ref b97), .val (.int (j0_47 u2)), .unset] [.null, (.ref b1), (.ref b149), (.ref b149)])) _
          refine st171.trans ?_
          show Steps p.tables e below (T171.setTop (mkF m 83 #[.val (.int u0), .val (.int u1), .val (.int u2), .val (.int (u0 &&& (3 : Int32))), .val (.int (u1 &&& (3 : Int32))), .val (.ref b1), .val (.ref b97), .val (.int (j0_47 u2)), .unset] [(.ref b149)])) _
          refine XS.astore X171.here hx rfl (hb hby at_83) rfl rfl (l' := #[.val (.int u0), .val (.int u1), .val (.int u2), .val (.int (u0 &&& (3 : Int32))), .val (.int (u1 &&& (3 : Int32))), .val (.ref b1), .val (.ref b97), .val (.int (j0_47 u2)), .val (.ref b149)]) rfl ?_
          show Steps p.tables e below (T171.setTop (mkF m 85 #[.val (.int u0), .val (.int u1), .val (.int u2), .val (.int (u0 &&& (3 : Int32))), .val (.int (u1 &&& (3 : Int32))), .val (.ref b1), .val (.ref b97), .val (.int (j0_47 u2)), .val (.ref b149)] [])) _
          refine XS.aload X171.here hx rfl (hb hby at_85) rfl rfl ?_
          show Steps p.tables e below (T171.setTop (mkF m 87 #[.val (.int u0), .val (.int u1), .val (.int u2), .val (.int (u0 &&& (3 : Int32))), .val (.int (u1 &&& (3 : Int32))), .val (.ref b1), .val (.ref b97), .val (.int (j0_47 u2)), .val (.ref b149)] [(.ref b149)])) _
          refine st174.trans ?_
          show Steps p.tables e below (T174.setTop (mkF m 90 #[.val (.int u0), .val (.int u1), .val (.int u2), .val (.int (u0 &&& (3 : Int32))), .val (.int (u1 &&& (3 : Int32))), .val (.ref b1), .val (.ref b97), .val (.int (j0_47 u2)), .val (.ref b149)] [(.int (1 : Int32))])) _
          refine XS.iload X174.here hx rfl (hb hby at_90) rfl ?_
          show Steps p.tables e below (T174.setTop (mkF m 92 #[.val (.int u0), .val (.int u1), .val (.int u2), .val (.int (u0 &&& (3 : Int32))), .val (.int (u1 &&& (3 : Int32))), .val (.ref b1), .val (.ref b97), .val (.int (j0_47 u2)), .val (.ref b149)] [(.int (j0_47 u2)), (.int (1 : Int32))])) _
          refine XS.icmpYes X174.here hx rfl (pc0 := 92) (pc' := 97) rfl (hb hby at_92) rfl (teq (own_j1 hc71).symm).1 (by decide) (by decide) ?_
          show Steps p.tables e below (T174.setTop (mkF m 97 #[.val (.int u0), .val (.int u1), .val (.int u2), .val (.int (u0 &&& (3 : Int32))), .val (.int (u1 &&& (3 : Int32))), .val (.ref b1), .val (.ref b97), .val (.int (j0_47 u2)), .val (.ref b149)] [])) _
          refine XS.aload X174.here hx rfl (hb hby at_97) rfl rfl ?_
          show Steps p.tables e below (T174.setTop (mkF m 99 #[.val (.int u0), .val (.int u1), .val (.int u2), .val (.int (u0 &&& (3 : Int32))), .val (.int (u1 &&& (3 : Int32))), .val (.ref b1), .val (.ref b97), .val (.int (j0_47 u2)), .val (.ref b149)] [(.ref b1)])) _
          refine st175.trans ?_
          show Steps p.tables e below (T175.setTop (mkF m 102 #[.val (.int u0), .val (.int u1), .val (.int u2), .val (.int (u0 &&& (3 : Int32))), .val (.int (u1 &&& (3 : Int32))), .val (.ref b1), .val (.ref b97), .val (.int (j0_47 u2)), .val (.ref b149)] [(.ref b175)])) _
          refine st180.trans ?_
          show Steps p.tables e below (T180.setTop (mkF m 105 #[.val (.int u0), .val (.int u1), .val (.int u2), .val (.int (u0 &&& (3 : Int32))), .val (.int (u1 &&& (3 : Int32))), .val (.ref b1), .val (.ref b97), .val (.int (j0_47 u2)), .val (.ref b149)] [(.int (1 : Int32))])) _
          refine XS.ifYes X180.here hx rfl (pc0 := 105) (pc' := 110) rfl (hb hby at_105) rfl ((if0 _ _).trans (feq (by decide : ¬ ((1 : Int32) = (0 : Int32)))).2) (by decide) (by decide) ?_
          show Steps p.tables e below (T180.setTop (mkF m 110 #[.val (.int u0), .val (.int u1), .val (.int u2), .val (.int (u0 &&& (3 : Int32))), .val (.int (u1 &&& (3 : Int32))), .val (.ref b1), .val (.ref b97), .val (.int (j0_47 u2)), .val (.ref b149)] [])) _
          refine XS.aload X180.here hx rfl (hb hby at_110) rfl rfl ?_
          show Steps p.tables e below (T180.setTop (mkF m 112 #[.val (.int u0), .val (.int u1), .val (.int u2), .val (.int (u0 &&& (3 : Int32))), .val (.int (u1 &&& (3 : Int32))), .val (.ref b1), .val (.ref b97), .val (.int (j0_47 u2)), .val (.ref b149)] [(.ref b1)])) _
          refine XS.aload X180.here hx rfl (hb hby at_112) rfl rfl ?_
          show Steps p.tables e below (T180.setTop (mkF m 114 #[.val (.int u0), .val (.int u1), .val (.int u2), .val (.int (u0 &&& (3 : Int32))), .val (.int (u1 &&& (3 : Int32))), .val (.ref b1), .val (.ref b97), .val (.int (j0_47 u2)), .val (.ref b149)] [(.ref b97), (.ref b1)])) _
          refine st181.trans ?_
          show Steps p.tables e below (T181.setTop (mkF m 117 #[.val (.int u0), .val (.int u1), .val (.int u2), .val (.int (u0 &&& (3 : Int32))), .val (.int (u1 &&& (3 : Int32))), .val (.ref b1), .val (.ref b97), .val (.int (j0_47 u2)), .val (.ref b149)] [(.ref b181)])) _
          refine st188.trans ?_
          show Steps p.tables e below (T188.setTop (mkF m 120 #[.val (.int u0), .val (.int u1), .val (.int u2), .val (.int (u0 &&& (3 : Int32))), .val (.int (u1 &&& (3 : Int32))), .val (.ref b1), .val (.ref b97), .val (.int (j0_47 u2)), .val (.ref b149)] [(.int (0 : Int32))])) _
          refine XS.ifYes X188.here hx rfl (pc0 := 120) (pc' := 125) rfl (hb hby at_120) rfl ((if0 _ _).trans (teq (by decide : (0 : Int32) = (0 : Int32))).1) (by decide) (by decide) ?_
          show Steps p.tables e below (T188.setTop (mkF m 125 #[.val (.int u0), .val (.int u1), .val (.int u2), .val (.int (u0 &&& (3 : Int32))), .val (.int (u1 &&& (3 : Int32))), .val (.ref b1), .val (.ref b97), .val (.int (j0_47 u2)), .val (.ref b149)] [])) _
          refine XS.iconst X188.here hx rfl (hb hby at_125) ?_
          show Steps p.tables e below (T188.setTop (mkF m 126 #[.val (.int u0), .val (.int u1), .val (.int u2), .val (.int (u0 &&& (3 : Int32))), .val (.int (u1 &&& (3 : Int32))), .val (.ref b1), .val (.ref b97), .val (.int (j0_47 u2)), .val (.ref b149)] [(.int (1 : Int32))])) _
          exact retN X188 hx (t := .boolean) Bd.returns (by simp) (hb hby at_126) hr
        · show QL n0 _ T188.heap _
          rw [e188]
          exact ⟨rfl, N188⟩
set_option maxRecDepth 65536 in
set_option maxHeartbeats 40000000 in
theorem comes_1 {Post : Tables → Env → Array Value → State → Outcome → State → Prop} (hpost : ∀ tb e args s v u, (limb_1_1.after args s (.returned v) u = true ∧ limb_1_2.after args s (.returned v) u = true ∧ True) → ReturnedEndW s (.returned v) u (Jvm.fieldLocs frame_1_writes args s ++ Jvm.arrayLocs frame_1_arrays args s ++ Jvm.staticLocs frame_1_statics s) 24 2176 → Post tb e args s (.returned v) u) :
    ArmFor flags0 classFile x code maxLocals ret World_1 tables_1 room_1 Calls_1 rest_1 Pre_1 Post := by
  intro l hfl _ _ p e ha hc hk s m args below hf hA hF happ hP
  obtain ⟨hcalls, hrest, hpre⟩ := hP
  obtain ⟨-, -, -, hnamed, -, -, -, hat⟩ := (Spec.applies_iff hf).mp happ
  obtain ⟨hg, hn⟩ := and_e (Cond.before_iff.mp (show (Jvm.Cond.and given_1 narrow_1).before args s = true from hpre))
  obtain ⟨g0, G0⟩ := and_e hg
  obtain ⟨v0, G1⟩ := and_e G0
  obtain ⟨v1, G2⟩ := and_e G1
  have v2 := G2
  obtain ⟨w0, w1, w2, rfl⟩ : ∃ w0 w1 w2 : Value, args = #[w0, w1, w2] := by
    have hs : args.size = 3 := by simpa [Cond.value, given_1] using g0
    obtain ⟨L⟩ := args
    match L, hs with
    | [w0, w1, w2], _ => exact ⟨w0, w1, w2, rfl⟩
  have hw := fun d (hd : d ∈ tables_1) => atoms_spec (ws := Jvm.Cond.code x code maxLocals ret :: tables_1) hat d (List.mem_cons_of_mem _ hd)
  have hfit : Fit s := fun {y c} hc i hi => by
    obtain ⟨ha, rfl⟩ := Array.getElem?_eq_some_iff.mp hc
    have q := List.all_eq_true.mp ((Array.all_eq_true_iff_forall_mem.mp hF) _ (Array.getElem_mem ha)) i (List.mem_range.mpr hi)
    simpa [Array.getElem?_eq_getElem hi] using q
  obtain ⟨i0, ei0⟩ := is_v v0
  obtain rfl : w0 = (.int i0) := Option.some.inj ei0
  obtain ⟨i1, ei1⟩ := is_v v1
  obtain rfl : w1 = (.int i1) := Option.some.inj ei1
  obtain ⟨i2, ei2⟩ := is_v v2
  obtain rfl : w2 = (.int i2) := Option.some.inj ei2
  obtain ⟨n, o, h1, h2, h3, _, L, rfl, ⟨rfl, N⟩, hq⟩ := rm0 l s _ hw tables_1 i0 i1 i2  s.heap s.heap.size (Nat.le_refl _)  p e ha hc hk s m _ below hf ((Spec.applies_iff_loose hf).mp happ).1 ⟨rfl, State.Warmed39.refl s, rfl⟩ trivial
  refine ⟨n, _, h1, h2, h3, hpost _ _ _ _ _ _ ⟨Cond.after_iff.mpr rfl, Cond.after_iff.mpr (eq_i res_at (Term.int_eval (1)) rfl), trivial⟩ ⟨hq.1, hq.2.1, hq.2.2.1, (hq.2.2.2.sift fun y hy => Or.inr (N y hy)).mono (by decide) (by decide)⟩⟩
theorem main_1_1 : Claimed_1_1 := comes_1 fun _ _ _ _ _ _ h hF => ⟨h.1, hF⟩
theorem main_1_2 : Claimed_1_2 := comes_1 fun _ _ _ _ _ _ h hF => ⟨h.2.1, hF⟩
end Jvm.Pilot.@@N@@
namespace Jvm.Pilot.@@N@@
open Jvm Jvm.ClassFile Sem Op Lib Jvm.Free Jvm.Stand Jvm.Pilot.@@N@@.Jvm.D
/-! MADE BY PROGRAM (witnessworld.py) out of the Statement's table words and the real class files: 16 classes; the members and pool entries that the words name. The judged class is class 1, her method 1. -/
namespace start1
open Jvm.ClassFile
def u (s : String) : CpInfo := .utf8 (stringToUtf16 s)
/-- a pool by its gaps: so many unusable entries, then the entry; so many at the end -/
def gap : Nat → List CpInfo → List CpInfo
  | 0, r => r
  | n + 1, r => .unusable :: gap n r
def poolList (es : List (Nat × CpInfo)) (last : Nat) : List CpInfo := es.foldr (fun e r => gap e.1 (e.2 :: r)) (gap last [])
def pool (es : List (Nat × CpInfo)) (last : Nat) : Array CpInfo := ⟨poolList es last⟩
def fileOf (pool : Array CpInfo) (this : Nat) (attrs : Array Attribute := #[]) (ms : Array MethodInfo := #[]) (fl : Nat := 33) (sup : Nat := 0) (ifs : Array Nat := #[]) (fds : Array FieldInfo := #[]) : ClassFile where
  minorVersion := 0
  majorVersion := 65
  constantPool := pool
  accessFlags := fl
  thisClass := this
  superClass := sup
  interfaces := ifs
  fields := fds
  methods := ms
  attributes := attrs
def plain (name : String) (sup : Option ClassId) : Class where
  name := name
  kind := .ordinary
  loader := none
  accessFlags := 33
  super := sup
  interfaces := #[]
  cf := none
  fields := #[]
  methods := #[]
  instanceTypes := #[]
  staticTypes := #[]
  resolved := #[]
  callSites := []
  init := .initialized
  statics := none
  mirror := none

def pool0 : Array CpInfo := pool [(5, u "<init>"), (0, u "()V"), (1, .class_ 10), (1, u "java/lang/Object")] 113

def k0c0 : Code := { maxStack := 0, maxLocals := 1, code := object_method_1_code, exceptionTable := #[], attributes := #[] }
def k0m0 : Method := { name := "<init>", desc := "()V", sig := { parameters := [], returnType := none }, accessFlags := 1, code := some k0c0 }
/-- java/lang/Object -/
def k0 : Class := { plain "java/lang/Object" none with
  accessFlags := 33
  interfaces := #[]
  cf := some (fileOf pool0 8 #[] #[{ accessFlags := 1, nameIndex := 5, descriptorIndex := 6, attributes := #[] }] 33 0 #[] #[])
  fields := #[]
  methods := #[k0m0]
  instanceTypes := #[]
  staticTypes := #[]
  resolved := Array.replicate 124 none
  statics := none }

def pool1 : Array CpInfo := pool [(2, .class_ 4), (1, u "java/lang/Object"), (0, u "<init>"), (0, u "()V"), (0, .class_ 8), (0, u "com/example/sendlimitd/sendlimitd/core/StateStore$Change"), (0, .methodref 7 10), (0, .nameAndType 5 11), (0, u "([B[B)V"), (0, .methodref 7 13), (0, .nameAndType 14 15), (0, u "isDelete"), (0, u "()Z"), (0, .methodref 7 17), (0, .nameAndType 18 19), (0, u "delete"), (0, u "([B)Lcom/example/sendlimitd/sendlimitd/core/StateStore$Change;"), (0, .methodref 7 21), (0, .nameAndType 22 23), (0, u "put"), (0, u "([B[B)Lcom/example/sendlimitd/sendlimitd/core/StateStore$Change;"), (0, .class_ 25), (0, u "com/example/sendlimitd/sendlimitd/core/ChangeIsDeletePinLaw"), (2, u "law"), (0, u "(III)Z")] 9

def k1m0 : Method := { name := "<init>", desc := "()V", sig := { parameters := [], returnType := none }, accessFlags := 1, code := none }
def k1c1 : Code := { maxStack := 4, maxLocals := 9, code := code, exceptionTable := #[], attributes := #[] }
def k1m1 : Method := { name := "law", desc := "(III)Z", sig := { parameters := [.int, .int, .int], returnType := some .boolean }, accessFlags := 9, code := some k1c1 }
/-- com/example/sendlimitd/sendlimitd/core/ChangeIsDeletePinLaw -/
def k1 : Class := { plain "com/example/sendlimitd/sendlimitd/core/ChangeIsDeletePinLaw" (some 0) with
  accessFlags := 49
  interfaces := #[]
  cf := some (fileOf pool1 24 #[] #[{ accessFlags := 1, nameIndex := 5, descriptorIndex := 6, attributes := #[] }, { accessFlags := 9, nameIndex := 28, descriptorIndex := 29, attributes := #[] }] 49 2 #[] #[])
  fields := #[]
  methods := #[k1m0, k1m1]
  instanceTypes := #[]
  staticTypes := #[]
  resolved := Array.replicate 39 none
  statics := none }

def pool2 : Array CpInfo := pool [(1, .methodref 2 3), (0, .class_ 4), (0, .nameAndType 5 6), (0, u "java/lang/Object"), (0, u "<init>"), (0, u "()V"), (0, .class_ 8), (0, u "java/lang/Record")] 13

def k2c0 : Code := { maxStack := 1, maxLocals := 1, code := jdk_30_method_1_code, exceptionTable := #[], attributes := #[] }
def k2m0 : Method := { name := "<init>", desc := "()V", sig := { parameters := [], returnType := none }, accessFlags := 4, code := some k2c0 }
/-- java/lang/Record -/
def k2 : Class := { plain "java/lang/Record" (some 0) with
  accessFlags := 1057
  interfaces := #[]
  cf := some (fileOf pool2 7 #[] #[{ accessFlags := 4, nameIndex := 5, descriptorIndex := 6, attributes := #[] }] 1057 2 #[] #[])
  fields := #[]
  methods := #[k2m0]
  instanceTypes := #[]
  staticTypes := #[]
  resolved := Array.replicate 22 none
  statics := none }

def pool3 : Array CpInfo := pool [(1, .methodref 2 3), (0, .class_ 4), (0, .nameAndType 5 6), (0, u "java/lang/Record"), (0, u "<init>"), (0, u "()V"), (0, .string 8), (0, u "key"), (0, .methodref 10 11), (0, .class_ 12), (0, .nameAndType 13 14), (0, u "java/util/Objects"), (0, u "requireNonNull"), (0, u "(Ljava/lang/Object;Ljava/lang/String;)Ljava/lang/Object;"), (0, .fieldref 16 17), (0, .class_ 18), (0, .nameAndType 8 19), (0, u "com/example/sendlimitd/sendlimitd/core/StateStore$Change"), (0, u "[B"), (0, .fieldref 16 21), (0, .nameAndType 22 19), (0, u "value"), (0, .string 22), (0, .class_ 19), (0, .methodref 16 26), (0, .nameAndType 5 27), (0, u "([B[B)V"), (15, u "put"), (0, u "([B[B)Lcom/example/sendlimitd/sendlimitd/core/StateStore$Change;"), (0, u "delete"), (0, u "([B)Lcom/example/sendlimitd/sendlimitd/core/StateStore$Change;"), (0, u "isDelete"), (0, u "()Z"), (8, .class_ 58), (0, u "com/example/sendlimitd/sendlimitd/core/StateStore")] 20

def k3c0 : Code := { maxStack := 2, maxLocals := 3, code := prog_46_method_1_code, exceptionTable := #[], attributes := #[] }
def k3m0 : Method := { name := "<init>", desc := "([B[B)V", sig := { parameters := [(.array .byte), (.array .byte)], returnType := none }, accessFlags := 1, code := some k3c0 }
def k3c1 : Code := { maxStack := 5, maxLocals := 2, code := prog_46_method_2_code, exceptionTable := #[], attributes := #[] }
def k3m1 : Method := { name := "put", desc := "([B[B)Lcom/example/sendlimitd/sendlimitd/core/StateStore$Change;", sig := { parameters := [(.array .byte), (.array .byte)], returnType := some (.object "com/example/sendlimitd/sendlimitd/core/StateStore$Change") }, accessFlags := 9, code := some k3c1 }
def k3c2 : Code := { maxStack := 4, maxLocals := 1, code := prog_46_method_3_code, exceptionTable := #[], attributes := #[] }
def k3m2 : Method := { name := "delete", desc := "([B)Lcom/example/sendlimitd/sendlimitd/core/StateStore$Change;", sig := { parameters := [(.array .byte)], returnType := some (.object "com/example/sendlimitd/sendlimitd/core/StateStore$Change") }, accessFlags := 9, code := some k3c2 }
def k3c3 : Code := { maxStack := 1, maxLocals := 1, code := prog_46_method_4_code, exceptionTable := #[], attributes := #[] }
def k3m3 : Method := { name := "isDelete", desc := "()Z", sig := { parameters := [], returnType := some .boolean }, accessFlags := 1, code := some k3c3 }
/-- com/example/sendlimitd/sendlimitd/core/StateStore$Change -/
def k3 : Class := { plain "com/example/sendlimitd/sendlimitd/core/StateStore$Change" (some 2) with
  accessFlags := 49
  interfaces := #[]
  cf := some (fileOf pool3 16 #[.nestHost 57] #[{ accessFlags := 1, nameIndex := 5, descriptorIndex := 27, attributes := #[] }, { accessFlags := 9, nameIndex := 43, descriptorIndex := 44, attributes := #[] }, { accessFlags := 9, nameIndex := 45, descriptorIndex := 46, attributes := #[] }, { accessFlags := 1, nameIndex := 47, descriptorIndex := 48, attributes := #[] }] 49 2 #[] #[{ accessFlags := 18, nameIndex := 8, descriptorIndex := 19, attributes := #[] }, { accessFlags := 18, nameIndex := 22, descriptorIndex := 19, attributes := #[] }])
  fields := #[{ name := "key", type := (.array .byte), accessFlags := 18, slot := 0, constantValue := 0 }, { name := "value", type := (.array .byte), accessFlags := 18, slot := 1, constantValue := 0 }]
  methods := #[k3m0, k3m1, k3m2, k3m3]
  instanceTypes := #[(.array .byte), (.array .byte)]
  staticTypes := #[]
  resolved := Array.replicate 79 none
  statics := none }

def pool4 : Array CpInfo := pool [(1, .class_ 2), (0, u "java/io/Serializable"), (0, .class_ 4), (0, u "java/lang/Object")] 2

/-- java/io/Serializable -/
def k4 : Class := { plain "java/io/Serializable" (some 0) with
  accessFlags := 1537
  interfaces := #[]
  cf := some (fileOf pool4 1 #[] #[] 1537 3 #[] #[])
  fields := #[]
  methods := #[]
  instanceTypes := #[]
  staticTypes := #[]
  resolved := Array.replicate 7 none
  statics := none }

def pool5 : Array CpInfo := pool [(1, .class_ 2), (0, u "java/lang/Comparable"), (0, .class_ 4), (0, u "java/lang/Object")] 7

/-- java/lang/Comparable -/
def k5 : Class := { plain "java/lang/Comparable" (some 0) with
  accessFlags := 1537
  interfaces := #[]
  cf := some (fileOf pool5 1 #[] #[] 1537 3 #[] #[])
  fields := #[]
  methods := #[]
  instanceTypes := #[]
  staticTypes := #[]
  resolved := Array.replicate 12 none
  statics := none }

def pool6 : Array CpInfo := pool [(2, .class_ 4), (1, u "java/lang/CharSequence"), (42, .class_ 48), (0, u "java/lang/CharSequence$1CodePointIterator"), (10, .class_ 60), (0, u "java/lang/CharSequence$1CharIterator"), (5, .class_ 67), (0, u "java/lang/Object")] 63

/-- java/lang/CharSequence -/
def k6 : Class := { plain "java/lang/CharSequence" (some 0) with
  accessFlags := 1537
  interfaces := #[]
  cf := some (fileOf pool6 2 #[.nestMembers #[47, 59]] #[] 1537 66 #[] #[])
  fields := #[]
  methods := #[]
  instanceTypes := #[]
  staticTypes := #[]
  resolved := Array.replicate 131 none
  statics := none }

def pool7 : Array CpInfo := pool [(1, .class_ 2), (0, u "java/lang/constant/Constable"), (0, .class_ 4), (0, u "java/lang/Object")] 6

/-- java/lang/constant/Constable -/
def k7 : Class := { plain "java/lang/constant/Constable" (some 0) with
  accessFlags := 1537
  interfaces := #[]
  cf := some (fileOf pool7 1 #[] #[] 1537 3 #[] #[])
  fields := #[]
  methods := #[]
  instanceTypes := #[]
  staticTypes := #[]
  resolved := Array.replicate 11 none
  statics := none }

def pool8 : Array CpInfo := pool [(1, .class_ 2), (0, u "java/lang/constant/ConstantDesc"), (0, .class_ 4), (0, u "java/lang/Object")] 32

/-- java/lang/constant/ConstantDesc -/
def k8 : Class := { plain "java/lang/constant/ConstantDesc" (some 0) with
  accessFlags := 1537
  interfaces := #[]
  cf := some (fileOf pool8 1 #[] #[] 1537 3 #[] #[])
  fields := #[]
  methods := #[]
  instanceTypes := #[]
  staticTypes := #[]
  resolved := Array.replicate 37 none
  statics := none }

def pool9 : Array CpInfo := pool [(2, .class_ 4), (1, u "java/lang/Object"), (0, u "<init>"), (0, u "()V"), (3, .class_ 12), (1, u "java/lang/String"), (0, u "value"), (0, u "[B"), (2, u "coder"), (0, u "B"), (2, u "hash"), (0, u "I"), (2, u "hashIsZero"), (0, u "Z"), (13, u "COMPACT_STRINGS"), (534, .class_ 576), (0, u "java/lang/CharSequence"), (22, u "CASE_INSENSITIVE_ORDER"), (0, u "Ljava/util/Comparator;"), (500, u "serialPersistentFields"), (0, u "[Ljava/io/ObjectStreamField;"), (0, .class_ 1104), (0, u "java/lang/String$CaseInsensitiveComparator"), (1, .class_ 1107), (0, u "java/io/Serializable"), (0, .class_ 1109), (0, u "java/lang/Comparable"), (0, .class_ 1111), (0, u "java/lang/constant/Constable"), (0, .class_ 1113), (0, u "java/lang/constant/ConstantDesc"), (2, u "serialVersionUID"), (0, u "J"), (3, u "REPL"), (0, u "C"), (2, u "LATIN1"), (1, u "UTF16")] 323

def k9m0 : Method := { name := "<init>", desc := "()V", sig := { parameters := [], returnType := none }, accessFlags := 1, code := none }
/-- java/lang/String -/
def k9 : Class := { plain "java/lang/String" (some 0) with
  accessFlags := 49
  interfaces := #[4, 5, 6, 7, 8]
  cf := some (fileOf pool9 10 #[.nestMembers #[1103]] #[{ accessFlags := 1, nameIndex := 5, descriptorIndex := 6, attributes := #[] }] 49 2 #[1106, 1108, 575, 1110, 1112] #[{ accessFlags := 18, nameIndex := 13, descriptorIndex := 14, attributes := #[] }, { accessFlags := 18, nameIndex := 17, descriptorIndex := 18, attributes := #[] }, { accessFlags := 2, nameIndex := 21, descriptorIndex := 22, attributes := #[] }, { accessFlags := 2, nameIndex := 25, descriptorIndex := 26, attributes := #[] }, { accessFlags := 26, nameIndex := 1116, descriptorIndex := 1117, attributes := #[] }, { accessFlags := 24, nameIndex := 40, descriptorIndex := 26, attributes := #[] }, { accessFlags := 26, nameIndex := 1101, descriptorIndex := 1102, attributes := #[] }, { accessFlags := 26, nameIndex := 1121, descriptorIndex := 1122, attributes := #[] }, { accessFlags := 25, nameIndex := 599, descriptorIndex := 600, attributes := #[] }, { accessFlags := 24, nameIndex := 1125, descriptorIndex := 18, attributes := #[] }, { accessFlags := 24, nameIndex := 1127, descriptorIndex := 18, attributes := #[] }])
  fields := #[{ name := "value", type := (.array .byte), accessFlags := 18, slot := 0, constantValue := 0 }, { name := "coder", type := .byte, accessFlags := 18, slot := 1, constantValue := 0 }, { name := "hash", type := .int, accessFlags := 2, slot := 2, constantValue := 0 }, { name := "hashIsZero", type := .boolean, accessFlags := 2, slot := 3, constantValue := 0 }, { name := "serialVersionUID", type := .long, accessFlags := 26, slot := 0, constantValue := 0 }, { name := "COMPACT_STRINGS", type := .boolean, accessFlags := 24, slot := 1, constantValue := 0 }, { name := "serialPersistentFields", type := (.array (.object "java/io/ObjectStreamField")), accessFlags := 26, slot := 2, constantValue := 0 }, { name := "REPL", type := .char, accessFlags := 26, slot := 3, constantValue := 0 }, { name := "CASE_INSENSITIVE_ORDER", type := (.object "java/util/Comparator"), accessFlags := 25, slot := 4, constantValue := 0 }, { name := "LATIN1", type := .byte, accessFlags := 24, slot := 5, constantValue := 0 }, { name := "UTF16", type := .byte, accessFlags := 24, slot := 6, constantValue := 0 }]
  methods := #[k9m0]
  instanceTypes := #[(.array .byte), .byte, .int, .boolean]
  staticTypes := #[.long, .boolean, (.array (.object "java/io/ObjectStreamField")), .char, (.object "java/util/Comparator"), .byte, .byte]
  resolved := Array.replicate 1451 none
  statics := none }

def pool10 : Array CpInfo := pool [(2, .class_ 4), (1, u "java/lang/Object"), (0, u "<init>"), (0, u "()V"), (35, .class_ 44), (1, u "java/util/Objects"), (0, u "requireNonNull"), (48, u "(Ljava/lang/Object;Ljava/lang/String;)Ljava/lang/Object;")] 89

def k10m0 : Method := { name := "<init>", desc := "()V", sig := { parameters := [], returnType := none }, accessFlags := 2, code := none }
def k10c1 : Code := { maxStack := 3, maxLocals := 2, code := jdk_31_method_11_code, exceptionTable := #[], attributes := #[] }
def k10m1 : Method := { name := "requireNonNull", desc := "(Ljava/lang/Object;Ljava/lang/String;)Ljava/lang/Object;", sig := { parameters := [(.object "java/lang/Object"), (.object "java/lang/String")], returnType := some (.object "java/lang/Object") }, accessFlags := 9, code := some k10c1 }
/-- java/util/Objects -/
def k10 : Class := { plain "java/util/Objects" (some 0) with
  accessFlags := 49
  interfaces := #[]
  cf := some (fileOf pool10 42 #[] #[{ accessFlags := 2, nameIndex := 5, descriptorIndex := 6, attributes := #[] }, { accessFlags := 9, nameIndex := 45, descriptorIndex := 94, attributes := #[] }] 49 2 #[] #[])
  fields := #[]
  methods := #[k10m0, k10m1]
  instanceTypes := #[]
  staticTypes := #[]
  resolved := Array.replicate 184 none
  statics := none }

def pool11 : Array CpInfo := pool [(1, u "java/lang/Cloneable"), (0, .class_ 1), (0, u "java/lang/Object"), (0, .class_ 3)] 3

/-- java/lang/Cloneable -/
def k11 : Class := { plain "java/lang/Cloneable" (some 0) with
  accessFlags := 1537
  interfaces := #[]
  cf := some (fileOf pool11 2 #[] #[] 1537 4 #[] #[])
  fields := #[]
  methods := #[]
  instanceTypes := #[]
  staticTypes := #[]
  resolved := Array.replicate 8 none
  statics := none }

/-- the primitive byte -/
def k12 : Class := { plain "byte" none with kind := .primitive 'B', accessFlags := 0x411 }
/-- [B -/
def k13 : Class := { plain "[B" (some 0) with kind := .array 12 .byte, interfaces := #[11, 4], accessFlags := 1041 }

/-- the primitive int -/
def k14 : Class := { plain "int" none with kind := .primitive 'I', accessFlags := 0x411 }
/-- [I -/
def k15 : Class := { plain "[I" (some 0) with kind := .array 14 .int, interfaces := #[11, 4], accessFlags := 1041 }

def heap : Heap := #[]
def classes : Array Class := #[k0, k1, k2, k3, k4, k5, k6, k7, k8, k9, k10, k11, k12, k13, k14, k15]
def interned : List (Array UInt16 × Addr) := []
def slotsUsed : Nat := 0
def theMethod : MethodId := ⟨1, 1⟩
def args0 : Array Value := #[.int 5, .int 7, .int 300]
def aboutOver (below : List Frame) : State where
  vm := { classes := classes, interned := interned.toArray }
  heap := heap
  slotsUsed := slotsUsed
  threads := #[{ frames := .invoking theMethod args0 :: below }]
def below0 : List Frame := [.native { method := ⟨0, 0⟩, args := #[] }]
def about1 : State := aboutOver below0
def p0 : Program := .bare "" "" ""
def e0 : Env := launch0.env 0 0 0
theorem w_frames : about1.frames = Frame.invoking theMethod args0 :: below0 := rfl
set_option maxRecDepth 65536 in
theorem w_args : argsFit about1.vm theMethod args0 = true := by decide +kernel
set_option maxRecDepth 65536 in
theorem w_heap : heapFits about1 = true := by decide +kernel
set_option maxRecDepth 65536 in
theorem w_runnable : about1.curStatus? = some .runnable := by decide +kernel
set_option maxRecDepth 65536 in
theorem w_alone : about1.alone = true := by decide +kernel
set_option maxRecDepth 65536 in
theorem w_named : about1.methodNamed? x = some theMethod := by decide +kernel
set_option maxRecDepth 65536 in
theorem w_hears : about1.hears theMethod below0 = true := by decide +kernel
set_option maxRecDepth 65536 in
theorem w_ripe : about1.ripe theMethod args0 below0 = true := by decide +kernel
theorem w_running : about1.status = .running := rfl
set_option maxRecDepth 65536 in
theorem w_room : about1.hasRoom e0.platform room_1 = true :=
  launch0.hasRoom_least _ room_1 (by decide +kernel) (by decide +kernel) (by decide +kernel) (by decide +kernel) (by decide +kernel) (by decide +kernel)
theorem allAtoms_all (ts : List Jvm.Cond) (a : Array Jvm.Value) (st : Jvm.State) : (allAtoms ts).before a st = ts.all (fun c => c.before a st) := by
  induction ts with
  | nil => rfl
  | cons c t ih =>
    show (Jvm.Cond.and c (allAtoms t)).before a st = _
    rw [Jvm.Cond.before_and, ih, List.all_cons]
def words1 : List Jvm.Cond := Jvm.Cond.code x code maxLocals ret :: tables_1
/-- a 'code' word, met by the world's own term for the bytes: nothing is compared byte by byte -/
theorem code_word {y : MethodName} {bytes : ByteArray} {mx : Nat} {rt : Option FieldType} {a : Array Value} {s : State} {m : MethodId} {meth : Method} {c : Code} (h1 : s.methodNamed? y = some m) (h2 : s.vm.method? m = some meth) (h3 : meth.code = some c) (h4 : c.code = bytes)
    (h5 : (c.maxLocals == mx && c.exceptionTable.isEmpty && decide (c.maxStack ≤ mostOperands) && decide (meth.sig.returnType = rt) && !meth.locks && decide (parseMethodDescriptor y.desc = some meth.sig)) = true) : (Jvm.Cond.code y bytes mx rt).before a s = true := by
  simp only [Bool.and_eq_true, beq_iff_eq, Bool.not_eq_true', decide_eq_true_eq] at h5
  obtain ⟨⟨⟨⟨⟨g1, g2⟩, g3⟩, g4⟩, g5⟩, g6⟩ := h5
  simp [Cond.before, Cond.holds, Cond.value, h1, h2, h3, h4, g1, g2, g3, g4, g5, g6]
def isCode : Jvm.Cond → Bool
  | .code _ _ _ _ => true
  | _ => false
theorem all_split {L : List Jvm.Cond} {P : Jvm.Cond → Bool} (h1 : L.all (fun c => isCode c || P c) = true) (h2 : ∀ c ∈ L.filter isCode, P c = true) : L.all P = true := by
  refine List.all_eq_true.mpr fun c hc => ?_
  have h := List.all_eq_true.mp h1 c hc
  rcases Bool.eq_false_or_eq_true (isCode c) with hi | hi
  · exact h2 c (List.mem_filter.mpr ⟨hc, hi⟩)
  · simpa [hi] using h
set_option maxRecDepth 65536 in
theorem w_c0 : (Jvm.Cond.code x code maxLocals ret).before args0 about1 = true := code_word (m := ⟨1, 1⟩) (meth := k1m1) (c := k1c1) (by decide +kernel) rfl rfl rfl (by decide +kernel)
set_option maxRecDepth 65536 in
theorem w_c1 : (Jvm.Cond.code ({ cls := "com/example/sendlimitd/sendlimitd/core/StateStore$Change", name := "<init>", desc := "([B[B)V" } : Jvm.MethodName) prog_46_method_1_code (3 : Nat) (Option.none : Option Jvm.ClassFile.FieldType)).before args0 about1 = true := code_word (m := ⟨3, 0⟩) (meth := k3m0) (c := k3c0) (by decide +kernel) rfl rfl rfl (by decide +kernel)
set_option maxRecDepth 65536 in
theorem w_c2 : (Jvm.Cond.code ({ cls := "java/lang/Record", name := "<init>", desc := "()V" } : Jvm.MethodName) jdk_30_method_1_code (1 : Nat) (Option.none : Option Jvm.ClassFile.FieldType)).before args0 about1 = true := code_word (m := ⟨2, 0⟩) (meth := k2m0) (c := k2c0) (by decide +kernel) rfl rfl rfl (by decide +kernel)
set_option maxRecDepth 65536 in
theorem w_c3 : (Jvm.Cond.code ({ cls := "java/lang/Object", name := "<init>", desc := "()V" } : Jvm.MethodName) object_method_1_code (1 : Nat) (Option.none : Option Jvm.ClassFile.FieldType)).before args0 about1 = true := code_word (m := ⟨0, 0⟩) (meth := k0m0) (c := k0c0) (by decide +kernel) rfl rfl rfl (by decide +kernel)
set_option maxRecDepth 65536 in
theorem w_c4 : (Jvm.Cond.code ({ cls := "java/util/Objects", name := "requireNonNull", desc := "(Ljava/lang/Object;Ljava/lang/String;)Ljava/lang/Object;" } : Jvm.MethodName) jdk_31_method_11_code (2 : Nat) (Option.some (Jvm.ClassFile.FieldType.object "java/lang/Object"))).before args0 about1 = true := code_word (m := ⟨10, 1⟩) (meth := k10m1) (c := k10c1) (by decide +kernel) rfl rfl rfl (by decide +kernel)
set_option maxRecDepth 65536 in
theorem w_c5 : (Jvm.Cond.code ({ cls := "com/example/sendlimitd/sendlimitd/core/StateStore$Change", name := "isDelete", desc := "()Z" } : Jvm.MethodName) prog_46_method_4_code (1 : Nat) (Option.some Jvm.ClassFile.FieldType.boolean)).before args0 about1 = true := code_word (m := ⟨3, 3⟩) (meth := k3m3) (c := k3c3) (by decide +kernel) rfl rfl rfl (by decide +kernel)
set_option maxRecDepth 65536 in
theorem w_c6 : (Jvm.Cond.code ({ cls := "com/example/sendlimitd/sendlimitd/core/StateStore$Change", name := "delete", desc := "([B)Lcom/example/sendlimitd/sendlimitd/core/StateStore$Change;" } : Jvm.MethodName) prog_46_method_3_code (1 : Nat) (Option.some (Jvm.ClassFile.FieldType.object "com/example/sendlimitd/sendlimitd/core/StateStore$Change"))).before args0 about1 = true := code_word (m := ⟨3, 2⟩) (meth := k3m2) (c := k3c2) (by decide +kernel) rfl rfl rfl (by decide +kernel)
set_option maxRecDepth 65536 in
theorem w_c7 : (Jvm.Cond.code ({ cls := "com/example/sendlimitd/sendlimitd/core/StateStore$Change", name := "put", desc := "([B[B)Lcom/example/sendlimitd/sendlimitd/core/StateStore$Change;" } : Jvm.MethodName) prog_46_method_2_code (2 : Nat) (Option.some (Jvm.ClassFile.FieldType.object "com/example/sendlimitd/sendlimitd/core/StateStore$Change"))).before args0 about1 = true := code_word (m := ⟨3, 1⟩) (meth := k3m1) (c := k3c1) (by decide +kernel) rfl rfl rfl (by decide +kernel)
def codes1 : List Jvm.Cond := [Jvm.Cond.code x code maxLocals ret, Jvm.Cond.code ({ cls := "com/example/sendlimitd/sendlimitd/core/StateStore$Change", name := "<init>", desc := "([B[B)V" } : Jvm.MethodName) prog_46_method_1_code (3 : Nat) (Option.none : Option Jvm.ClassFile.FieldType), Jvm.Cond.code ({ cls := "java/lang/Record", name := "<init>", desc := "()V" } : Jvm.MethodName) jdk_30_method_1_code (1 : Nat) (Option.none : Option Jvm.ClassFile.FieldType), Jvm.Cond.code ({ cls := "java/lang/Object", name := "<init>", desc := "()V" } : Jvm.MethodName) object_method_1_code (1 : Nat) (Option.none : Option Jvm.ClassFile.FieldType), Jvm.Cond.code ({ cls := "java/util/Objects", name := "requireNonNull", desc := "(Ljava/lang/Object;Ljava/lang/String;)Ljava/lang/Object;" } : Jvm.MethodName) jdk_31_method_11_code (2 : Nat) (Option.some (Jvm.ClassFile.FieldType.object "java/lang/Object")), Jvm.Cond.code ({ cls := "com/example/sendlimitd/sendlimitd/core/StateStore$Change", name := "isDelete", desc := "()Z" } : Jvm.MethodName) prog_46_method_4_code (1 : Nat) (Option.some Jvm.ClassFile.FieldType.boolean), Jvm.Cond.code ({ cls := "com/example/sendlimitd/sendlimitd/core/StateStore$Change", name := "delete", desc := "([B)Lcom/example/sendlimitd/sendlimitd/core/StateStore$Change;" } : Jvm.MethodName) prog_46_method_3_code (1 : Nat) (Option.some (Jvm.ClassFile.FieldType.object "com/example/sendlimitd/sendlimitd/core/StateStore$Change")), Jvm.Cond.code ({ cls := "com/example/sendlimitd/sendlimitd/core/StateStore$Change", name := "put", desc := "([B[B)Lcom/example/sendlimitd/sendlimitd/core/StateStore$Change;" } : Jvm.MethodName) prog_46_method_2_code (2 : Nat) (Option.some (Jvm.ClassFile.FieldType.object "com/example/sendlimitd/sendlimitd/core/StateStore$Change"))]
set_option maxRecDepth 65536 in
theorem codes_eq : words1.filter isCode = codes1 := rfl
theorem w_codes : ∀ c ∈ words1.filter isCode, c.before args0 about1 = true := by
  rw [codes_eq]
  intro c hc
  simp only [codes1, List.mem_cons, List.not_mem_nil, or_false] at hc
  rcases hc with rfl | rfl | rfl | rfl | rfl | rfl | rfl | rfl
  · exact w_c0
  · exact w_c1
  · exact w_c2
  · exact w_c3
  · exact w_c4
  · exact w_c5
  · exact w_c6
  · exact w_c7
set_option maxRecDepth 65536 in
theorem w_t1 : (words1.take 24).all (fun c => isCode c || c.before args0 about1) = true := by decide +kernel
set_option maxRecDepth 65536 in
theorem w_t2 : (words1.drop 24).all (fun c => isCode c || c.before args0 about1) = true := by decide +kernel
theorem w_tables : (allAtoms (Jvm.Cond.code x code maxLocals ret :: tables_1)).before args0 about1 = true := by
  rw [allAtoms_all]
  show words1.all (fun c => c.before args0 about1) = true
  refine all_split ?_ w_codes
  rw [← List.take_append_drop 24 words1, List.all_append, w_t1, w_t2]
  rfl
set_option maxRecDepth 65536 in
theorem w_case : (Jvm.Cond.and given_1 narrow_1).before args0 about1 = true := by decide +kernel
theorem w_applies : (headSpec (Jvm.Cond.code x code maxLocals ret :: tables_1) room_1).applies x e0.platform about1 = true :=
  (Spec.applies_iff w_frames).mpr ⟨w_running, w_runnable, w_alone, w_named, w_hears, w_ripe, w_room, w_tables⟩
theorem atStart : AtStart classFile x code maxLocals ret World_1 tables_1 room_1 Calls_1 rest_1 Pre_1 launch0 p0 e0 about1 theMethod args0 below0 :=
  ⟨lists_1, trivial, launch0.admits_env _ _ _, launch0.least_env, fairChoices_fair.cas, fairChoices_fair.clock, w_frames, w_args, w_heap, w_applies, trivial, trivial, w_case⟩
end start1
theorem witness_1 : WitnessClaimed_1 := ⟨start1.p0, start1.e0, start1.about1, start1.theMethod, start1.args0, start1.below0, start1.atStart⟩
end Jvm.Pilot.@@N@@
