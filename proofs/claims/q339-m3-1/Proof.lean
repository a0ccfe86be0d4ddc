import JvmDerived
import JvmDerived.Pilot.@@N@@Statement
import JvmDerived.Pilot.@@N@@Code
set_option linter.unusedVariables false
set_option linter.unusedSimpArgs false
namespace Jvm.RoadKit
open Sem ClassFile Op Lib Jvm.Stand Jvm.Free Jvm.LawKit
section New
variable {p : Program} {l : Launch} {e : Env} {R : Room} {s : State} {m : MethodId} {args : Array Value} {below : List Frame} {meth : Method} {c : Code} {T : State} {locs : List Loc} {cells slots : Nat}
theorem retI (X : Stand p l e R s m args below meth c T locs cells slots) (hx : p.tables.exec = Jvm.exec) {pc : Nat} {Ls : Array Slot} {z : Int32} {rest : List Value} (hret : meth.sig.returnType = some .int) (hd : decode c.code pc = .ok (.ireturn, 1)) {fs : List Frame}
    (hl : ∀ (f : JFrame) (acts : List Action), f.method = m → f.locked = none → f.entered = [] → (doReturn e (T.setTop f) acts (some (.int z))).1 = T.setFrames fs) : Steps p.tables e below (T.setTop (mkF m pc Ls (.int z :: rest))) (T.setFrames fs) :=
  retOut X hx hret rfl (Or.inl ⟨rfl, Or.inl rfl, z, rfl⟩) hd hl
end New
end Jvm.RoadKit
namespace Jvm.Pilot.@@N@@
open Jvm Jvm.ClassFile Sem Op Lib Jvm.Free Jvm.Stand Jvm.LawKit Jvm.RoadKit Bundle Jvm.Pilot.@@N@@.Jvm.D
def QL (n0 : Nat) (v : Option Value) (h : Heap) (L : List Loc) : Prop := v = some (.int 1) ∧ Fr n0 L
def QP (r : Option Value) (h0 : Heap) (n0 : Nat) (v : Option Value) (h : Heap) (L : List Loc) : Prop := v = r ∧ Fr n0 L ∧ h = h0
theorem own_elem {Z : State} {h : Heap} {a : Addr} {k : ClassId} {ty : FieldType} {n : Int32} {vs : List Value} {d : Value} (F : Arv Z h a k ty n vs d) (ht : ty = .int ∨ ty = .boolean ∨ ty = .byte ∨ ty = .char ∨ ty = .short) {j : Int32} (q : ¬ j < 0 ∧ j < n) :
    ∃ (c : Cell) (z : Int32), Arr Z h a c ty ∧ ¬ (j < 0 ∨ c.slots.size ≤ j.toNatClampNeg) ∧ c.slots[j.toNatClampNeg]? = some (.int z) ∧ fits ty (.int z) = true ∧ vs.getD j.toNatClampNeg d = .int z := by
  obtain ⟨c, A, -, S, N, H, G⟩ := F
  have hin := inb_of S q
  have hlt := Nat.lt_of_not_le fun y => hin (Or.inr y)
  obtain ⟨z, hz⟩ := fit_I (G _ hlt) ht
  exact ⟨c, z, A, hin, by rw [H _ hlt, hz], by rw [← hz]; exact G _ hlt, hz⟩
theorem own_elemV {Z : State} {h : Heap} {a : Addr} {k : ClassId} {ty : FieldType} {n : Int32} {vs : List Value} {d : Value} (F : Arv Z h a k ty n vs d) {j : Int32} (q : ¬ j < 0 ∧ j < n) {v : Value} (u : vs.getD j.toNatClampNeg d = v) :
    ∃ c : Cell, Arr Z h a c ty ∧ ¬ (j < 0 ∨ c.slots.size ≤ j.toNatClampNeg) ∧ c.slots[j.toNatClampNeg]? = some v ∧ fits ty v = true := by
  obtain ⟨c, A, -, S, N, H, G⟩ := F
  have hin := inb_of S q
  have hlt := Nat.lt_of_not_le fun y => hin (Or.inr y)
  exact ⟨c, A, hin, by rw [H _ hlt, u], by rw [← u]; exact G _ hlt⟩
theorem d13_0 : decode jdk_42_method_152_code 0 = .ok (.getstatic 38, 3) := by decide +kernel
theorem d13_3 : decode jdk_42_method_152_code 3 = .ok (.ifCond .eq 10, 3) := by decide +kernel
theorem d13_6 : decode jdk_42_method_152_code 6 = .ok (.aload_n 0, 1) := by decide +kernel
theorem d13_7 : decode jdk_42_method_152_code 7 = .ok (.getfield 15, 3) := by decide +kernel
theorem d13_10 : decode jdk_42_method_152_code 10 = .ok (.goto 4, 3) := by decide +kernel
theorem d13_14 : decode jdk_42_method_152_code 14 = .ok (.ireturn, 1) := by decide +kernel
theorem pn_13 : plainName "java/lang/String" = true := by first | (simp [plainName, overriddenIn]; done) | decide +kernel
theorem ef_13 (m : MethodId) (x0 : Addr) : entryFrame m #[(.ref x0)] 1 = mkF m 0 #[.val (.ref x0)] [] := by first | (simp [entryFrame, mkF, argsToLocals, Value.category]; done) | rfl
set_option maxRecDepth 65536 in
set_option maxHeartbeats 40000000 in
theorem rm13 (l : Launch) (Z : State) (a0 : Array Value) (hw : ∀ d ∈ tables_1, d.before a0 Z = true) (ws : List Jvm.Cond) (r0 : Addr) (cd : Int32) (cs : Int32) (h0 : Heap) (n0 : Nat) (Z0 : n0 ≤ h0.size) (F_coder : Fld Z h0 r0 "java/lang/String" "coder" "B" (.int cd)) (S_C : Sta Z h0 "java/lang/String" "COMPACT_STRINGS" "Z" (.int cs)) (hcs : ¬ cs = 0) :
    MetFree l (⟨"java/lang/String", "coder", "()B"⟩ : MethodName) (head1 (Jvm.Cond.code (⟨"java/lang/String", "coder", "()B"⟩ : MethodName) jdk_42_method_152_code 1 (some .byte) :: ws) ({ frames := 0, cells := 0, slots := 0, locals := 0 } : Room)) (fun a U => a = #[(.ref r0)] ∧ Z.Warmed39 U.vm ∧ U.heap = h0) (fun _ _ _ _ _ => True) (fun _ U o U' => ∃ v L, o = .returned v ∧ QP (some (.int (nar .byte cd))) h0 n0 v U'.heap L ∧ FrameEnd U o U' L 0 0) := by
  refine MetFree.of_bodySF (plainFor_of_name pn_13) hisR ?_
  intro p e s m args below meth c s₁ Bd hml0 hP hK
  obtain ⟨rfl, hZ, hh⟩ := hP
  have hx := Bd.exec
  have hby := Bd.bytes
  have hml : c.maxLocals = 1 := hml0
  have hown : s.vm.findClass "java/lang/String" = some m.cls := findClass_of_methodNamed Bd.named
  have hnm := (name_of_methodNamed Bd.named Bd.method).1
  have X0 : Stand p l e ({ frames := 0, cells := 0, slots := 0, locals := 0 } : Room) s m #[(.ref r0)] below meth c s₁ [] 0 0 := Stand.of_body Bd
  have e0 : s₁.heap = h0 := by rw [← hh, Bd.state]; rfl
  have N0 := Fr.nil n0
  have pre0 : ∀ t, Steps p.tables e below (s₁.setTop (mkF m 0 #[.val (.ref r0)] [])) t → Steps p.tables e below (s₁.setTop (entryFrame m #[(.ref r0)] 1)) t := fun t k => castTop (ef_13 m r0) k
  obtain ⟨T1, X1, e1, st1⟩ := getS2 X0 hx hZ hown (host := "") (Or.inl (hw _ (List.mem_of_getElem? (i := 14) rfl))) Via.refl e0 S_C (g := (mkF m 0 #[.val (.ref r0)] [])) rfl (hb hby d13_0)
  obtain ⟨T2, X2, e2, st2⟩ := getF X1 hx hZ hown (host := "") (Or.inl (hw _ (List.mem_of_getElem? (i := 26) rfl))) Via.refl e1 F_coder (g := (mkF m 7 #[.val (.ref r0)] [(.ref r0)])) rfl rfl (hb hby d13_7)
  obtain ⟨fs, hr, hrun, hended, hW, hsame⟩ := X2.leave (v := (some (.int (nar .byte cd)))) (fun h => by rw [Bd.returns] at h; cases h)
  refine ⟨_, _, pre0 _ ?_, hrun, hended, _, _, rfl, ?_, ⟨_, rfl⟩, hW, hsame.mono (by decide) (by decide)⟩
  · show Steps p.tables e below (s₁.setTop (mkF m 0 #[.val (.ref r0)] [])) _
    refine st1 _ ?_
    show Steps p.tables e below (T1.setTop (mkF m 3 #[.val (.ref r0)] [(.int cs)])) _
    refine XS.ifNo X1.here hx rfl (hb hby d13_3) rfl ((if0 _ _).trans (feq hcs).1) ?_
    show Steps p.tables e below (T1.setTop (mkF m 6 #[.val (.ref r0)] [])) _
    refine XS.aloadN X1.here hx rfl (hb hby d13_6) rfl rfl ?_
    show Steps p.tables e below (T1.setTop (mkF m 7 #[.val (.ref r0)] [(.ref r0)])) _
    refine st2 _ ?_
    show Steps p.tables e below (T2.setTop (mkF m 10 #[.val (.ref r0)] [(.int cd)])) _
    refine XS.goto X2.here hx rfl (pc0 := 10) (pc' := 14) rfl (hb hby d13_10) (by decide) (by decide) ?_
    show Steps p.tables e below (T2.setTop (mkF m 14 #[.val (.ref r0)] [(.int cd)])) _
    exact retN X2 hx (t := .byte) Bd.returns (by simp) (hb hby d13_14) hr
  · show QP (some (.int (nar .byte cd))) h0 n0 _ T2.heap _
    rw [e2]
    exact ⟨rfl, N0, rfl⟩
theorem d12_0 : decode jdk_42_method_54_code 0 = .ok (.aload_n 0, 1) := by decide +kernel
theorem d12_1 : decode jdk_42_method_54_code 1 = .ok (.getfield 9, 3) := by decide +kernel
theorem d12_4 : decode jdk_42_method_54_code 4 = .ok (.arraylength, 1) := by decide +kernel
theorem d12_5 : decode jdk_42_method_54_code 5 = .ok (.aload_n 0, 1) := by decide +kernel
theorem d12_6 : decode jdk_42_method_54_code 6 = .ok (.invokevirtual 335, 3) := by decide +kernel
theorem d12_9 : decode jdk_42_method_54_code 9 = .ok (.ishr, 1) := by decide +kernel
theorem d12_10 : decode jdk_42_method_54_code 10 = .ok (.ireturn, 1) := by decide +kernel
theorem pn_12 : plainName "java/lang/String" = true := by first | (simp [plainName, overriddenIn]; done) | decide +kernel
theorem ef_12 (m : MethodId) (x0 : Addr) : entryFrame m #[(.ref x0)] 1 = mkF m 0 #[.val (.ref x0)] [] := by first | (simp [entryFrame, mkF, argsToLocals, Value.category]; done) | rfl
theorem pd_0 : parseMethodDescriptor "()B" = some ⟨[], some .byte⟩ := by decide +kernel
set_option maxRecDepth 65536 in
set_option maxHeartbeats 40000000 in
theorem rm12 (l : Launch) (Z : State) (a0 : Array Value) (hw : ∀ d ∈ tables_1, d.before a0 Z = true) (ws : List Jvm.Cond) (r0 : Addr) (rb : Addr) (kb : ClassId) (nb : Int32) (vs : List Value) (cd : Int32) (cs : Int32) (h0 : Heap) (n0 : Nat) (Z0 : n0 ≤ h0.size) (E_r : Exa Z h0 r0 "java/lang/String") (F_value : Fld Z h0 r0 "java/lang/String" "value" "[B" (.ref rb)) (F_coder : Fld Z h0 r0 "java/lang/String" "coder" "B" (.int cd)) (V_b : Arv Z h0 rb kb .byte nb vs (.int (0 : Int32))) (S_C : Sta Z h0 "java/lang/String" "COMPACT_STRINGS" "Z" (.int cs)) (hcs : ¬ cs = 0) :
    MetFree l (⟨"java/lang/String", "length", "()I"⟩ : MethodName) (head1 (Jvm.Cond.code (⟨"java/lang/String", "length", "()I"⟩ : MethodName) jdk_42_method_54_code 1 (some .int) :: ws) ({ frames := 1, cells := 0, slots := 0, locals := 13 } : Room)) (fun a U => a = #[(.ref r0)] ∧ Z.Warmed39 U.vm ∧ U.heap = h0) (fun _ _ _ _ _ => True) (fun _ U o U' => ∃ v L, o = .returned v ∧ QP (some (.int (nb >>> ((nar .byte cd) &&& 31)))) h0 n0 v U'.heap L ∧ FrameEnd U o U' L 0 0) := by
  refine MetFree.of_bodySF (plainFor_of_name pn_12) hisR ?_
  intro p e s m args below meth c s₁ Bd hml0 hP hK
  obtain ⟨rfl, hZ, hh⟩ := hP
  have hx := Bd.exec
  have hby := Bd.bytes
  have hml : c.maxLocals = 1 := hml0
  have hown : s.vm.findClass "java/lang/String" = some m.cls := findClass_of_methodNamed Bd.named
  have hnm := (name_of_methodNamed Bd.named Bd.method).1
  have X0 : Stand p l e ({ frames := 1, cells := 0, slots := 0, locals := 13 } : Room) s m #[(.ref r0)] below meth c s₁ [] 0 0 := Stand.of_body Bd
  have e0 : s₁.heap = h0 := by rw [← hh, Bd.state]; rfl
  have N0 := Fr.nil n0
  have pre0 : ∀ t, Steps p.tables e below (s₁.setTop (mkF m 0 #[.val (.ref r0)] [])) t → Steps p.tables e below (s₁.setTop (entryFrame m #[(.ref r0)] 1)) t := fun t k => castTop (ef_12 m r0) k
  obtain ⟨T1, X1, e1, st1⟩ := getF X0 hx hZ hown (host := "") (Or.inl (hw _ (List.mem_of_getElem? (i := 28) rfl))) Via.refl e0 F_value (g := (mkF m 1 #[.val (.ref r0)] [(.ref r0)])) rfl rfl (hb hby d12_1)
  obtain ⟨c2, Ar2, -, S2, N2n, -, -⟩ := id V_b
  obtain ⟨cq3, kq3, q3a, q3b, q3c⟩ := isOf hZ e1 E_r
  obtain ⟨_, _, ⟨T3, L3, k3, n3⟩, -, X3, ⟨Lc3, hQ3, l3, y3, z3⟩, st3⟩ := X1.virtualBack hx (y := (⟨"java/lang/String", "coder", "()B"⟩ : MethodName)) (z := (⟨"java/lang/String", "coder", "()B"⟩ : MethodName)) hown (mvT hZ (hw _ (List.mem_of_getElem? (i := 66) rfl))) (mvT hZ (hw _ (List.mem_of_getElem? (i := 67) rfl))) (notFace_of_selects (args := #[]) (mvT hZ (hw _ (List.mem_of_getElem? (i := 69) rfl)))) (mvT hZ (hw _ (List.mem_of_getElem? (i := 69) rfl))) (mvT hZ (hw _ (List.mem_of_getElem? (i := 68) rfl))) (by decide) (backOf (W := 1) (rm13 l Z a0 hw [] r0 cd cs h0 n0 Z0 F_coder S_C hcs) hZ (hw _ (List.mem_of_getElem? (i := 70) rfl)) (hw _ (List.mem_of_getElem? (i := 2) rfl)) (by decide) (by decide)) q3a q3c (g := (mkF m 6 #[.val (.ref r0)] [(.ref r0), (.int nb)])) rfl (by rw [hml]; rfl) (Steps.refl _) (argsL := []) (rest := [(.int nb)]) (lenOf pd_0 rfl) rfl (by show 2 * 0 + _ ≤ _; exact Nat.le_of_eq rfl) (hb hby d12_6) (fun _ _ => ⟨rfl, e1, (by decide : 0 + 0 ≤ _), (by decide : 0 + 0 ≤ _)⟩)
  dsimp only [Pt.U, Pt.locs, Pt.cells, Pt.slots] at X3 l3 y3 z3 st3 hQ3
  subst l3 y3 z3
  obtain ⟨rfl, N3q, e3⟩ := hQ3
  have N3 := Fr.app N0 N3q
  obtain ⟨fs, hr, hrun, hended, hW, hsame⟩ := X3.leave (v := (some (.int (nb >>> ((nar .byte cd) &&& 31))))) (fun h => by rw [Bd.returns] at h; cases h)
  refine ⟨_, _, pre0 _ ?_, hrun, hended, _, _, rfl, ?_, ⟨_, rfl⟩, hW, hsame.mono (by decide) (by decide)⟩
  · show Steps p.tables e below (s₁.setTop (mkF m 0 #[.val (.ref r0)] [])) _
    refine XS.aloadN X0.here hx rfl (hb hby d12_0) rfl rfl ?_
    show Steps p.tables e below (s₁.setTop (mkF m 1 #[.val (.ref r0)] [(.ref r0)])) _
    refine st1 _ ?_
    show Steps p.tables e below (T1.setTop (mkF m 4 #[.val (.ref r0)] [(.ref rb)])) _
    refine X1.arraylength hx (by rw [e1]; exact Ar2.1) (State.isArrayOf_alike hZ.alike Ar2.2.1) (g := (mkF m 4 #[.val (.ref r0)] [(.ref rb)])) rfl rfl (hb hby d12_4) _ ?_
    rw [len_of S2 N2n]
    show Steps p.tables e below (T1.setTop (mkF m 5 #[.val (.ref r0)] [(.int nb)])) _
    refine XS.aloadN X1.here hx rfl (hb hby d12_5) rfl rfl ?_
    show Steps p.tables e below (T1.setTop (mkF m 6 #[.val (.ref r0)] [(.ref r0), (.int nb)])) _
    refine st3.trans ?_
    show Steps p.tables e below (T3.setTop (mkF m 9 #[.val (.ref r0)] [(.int (nar .byte cd)), (.int nb)])) _
    refine XS.ishr X3.here hx rfl (hb hby d12_9) rfl ?_
    show Steps p.tables e below (T3.setTop (mkF m 10 #[.val (.ref r0)] [(.int (nb >>> ((nar .byte cd) &&& 31)))])) _
    exact retI X3 hx Bd.returns (hb hby d12_10) hr
  · show QP (some (.int (nb >>> ((nar .byte cd) &&& 31)))) h0 n0 _ T3.heap _
    rw [e3]
    exact ⟨rfl, N3, rfl⟩
theorem d11_0 : decode jdk_42_method_66_code 0 = .ok (.aload_n 0, 1) := by decide +kernel
theorem d11_1 : decode jdk_42_method_66_code 1 = .ok (.aload_n 1, 1) := by decide +kernel
theorem d11_2 : decode jdk_42_method_66_code 2 = .ok (.if_acmp .ne 5, 3) := by decide +kernel
theorem d11_5 : decode jdk_42_method_66_code 5 = .ok (.iconst 1, 1) := by decide +kernel
theorem d11_6 : decode jdk_42_method_66_code 6 = .ok (.ireturn, 1) := by decide +kernel
theorem pn_11 : plainName "java/lang/String" = true := by first | (simp [plainName, overriddenIn]; done) | decide +kernel
theorem ef_11 (m : MethodId) (x0 : Addr) (x1 : Addr) : entryFrame m #[(.ref x0), (.ref x1)] 3 = mkF m 0 #[.val (.ref x0), .val (.ref x1), .unset] [] := by first | (simp [entryFrame, mkF, argsToLocals, Value.category]; done) | rfl
set_option maxRecDepth 65536 in
set_option maxHeartbeats 40000000 in
theorem rm11 (l : Launch) (Z : State) (a0 : Array Value) (hw : ∀ d ∈ tables_1, d.before a0 Z = true) (ws : List Jvm.Cond) (r0 : Addr) (h0 : Heap) (n0 : Nat) (Z0 : n0 ≤ h0.size) :
    MetFree l (⟨"java/lang/String", "equals", "(Ljava/lang/Object;)Z"⟩ : MethodName) (head1 (Jvm.Cond.code (⟨"java/lang/String", "equals", "(Ljava/lang/Object;)Z"⟩ : MethodName) jdk_42_method_66_code 3 (some .boolean) :: ws) ({ frames := 0, cells := 0, slots := 0, locals := 0 } : Room)) (fun a U => a = #[(.ref r0), (.ref r0)] ∧ Z.Warmed39 U.vm ∧ U.heap = h0) (fun _ _ _ _ _ => True) (fun _ U o U' => ∃ v L, o = .returned v ∧ QP (some (.int 1)) h0 n0 v U'.heap L ∧ FrameEnd U o U' L 0 0) := by
  refine MetFree.of_bodySF (plainFor_of_name pn_11) hisR ?_
  intro p e s m args below meth c s₁ Bd hml0 hP hK
  obtain ⟨rfl, hZ, hh⟩ := hP
  have hx := Bd.exec
  have hby := Bd.bytes
  have hml : c.maxLocals = 3 := hml0
  have hown : s.vm.findClass "java/lang/String" = some m.cls := findClass_of_methodNamed Bd.named
  have hnm := (name_of_methodNamed Bd.named Bd.method).1
  have X0 : Stand p l e ({ frames := 0, cells := 0, slots := 0, locals := 0 } : Room) s m #[(.ref r0), (.ref r0)] below meth c s₁ [] 0 0 := Stand.of_body Bd
  have e0 : s₁.heap = h0 := by rw [← hh, Bd.state]; rfl
  have N0 := Fr.nil n0
  have pre0 : ∀ t, Steps p.tables e below (s₁.setTop (mkF m 0 #[.val (.ref r0), .val (.ref r0), .unset] [])) t → Steps p.tables e below (s₁.setTop (entryFrame m #[(.ref r0), (.ref r0)] 3)) t := fun t k => castTop (ef_11 m r0 r0) k
  obtain ⟨fs, hr, hrun, hended, hW, hsame⟩ := X0.leave (v := (some (.int (1 : Int32)))) (fun h => by rw [Bd.returns] at h; cases h)
  refine ⟨_, _, pre0 _ ?_, hrun, hended, _, _, rfl, ?_, ⟨_, rfl⟩, hW, hsame.mono (by decide) (by decide)⟩
  · show Steps p.tables e below (s₁.setTop (mkF m 0 #[.val (.ref r0), .val (.ref r0), .unset] [])) _
    refine XS.aloadN X0.here hx rfl (hb hby d11_0) rfl rfl ?_
    show Steps p.tables e below (s₁.setTop (mkF m 1 #[.val (.ref r0), .val (.ref r0), .unset] [(.ref r0)])) _
    refine XS.aloadN X0.here hx rfl (hb hby d11_1) rfl rfl ?_
    show Steps p.tables e below (s₁.setTop (mkF m 2 #[.val (.ref r0), .val (.ref r0), .unset] [(.ref r0), (.ref r0)])) _
    refine Jvm.RoadKit.acmp (g := (mkF m 2 #[.val (.ref r0), .val (.ref r0), .unset] [(.ref r0), (.ref r0)])) X0 hx rfl rfl rfl (pc0 := 2) (pc' := 5) (same := true) rfl (hb hby d11_2) rfl (decide_eq_true (congrArg Value.ref (rfl : r0 = r0))) (by decide) (by decide) ?_
    show Steps p.tables e below (s₁.setTop (mkF m 5 #[.val (.ref r0), .val (.ref r0), .unset] [])) _
    refine XS.iconst X0.here hx rfl (hb hby d11_5) ?_
    show Steps p.tables e below (s₁.setTop (mkF m 6 #[.val (.ref r0), .val (.ref r0), .unset] [(.int (1 : Int32))])) _
    exact retN X0 hx (t := .boolean) Bd.returns (by simp) (hb hby d11_6) hr
  · show QP (some (.int 1)) h0 n0 _ s₁.heap _
    rw [e0]
    exact ⟨rfl, N0, rfl⟩
theorem d10_0 : decode prog_30_method_4_code 0 = .ok (.aload_n 0, 1) := by decide +kernel
theorem d10_1 : decode prog_30_method_4_code 1 = .ok (.getfield 7, 3) := by decide +kernel
theorem d10_4 : decode prog_30_method_4_code 4 = .ok (.areturn, 1) := by decide +kernel
theorem pn_10 : plainName "com/example/scorpus/scorpus/engine/Explanation$Figure" = true := by first | (simp [plainName, overriddenIn]; done) | decide +kernel
theorem ef_10 (m : MethodId) (x0 : Addr) : entryFrame m #[(.ref x0)] 1 = mkF m 0 #[.val (.ref x0)] [] := by first | (simp [entryFrame, mkF, argsToLocals, Value.category]; done) | rfl
set_option maxRecDepth 65536 in
set_option maxHeartbeats 40000000 in
theorem rm10 (l : Launch) (Z : State) (a0 : Array Value) (hw : ∀ d ∈ tables_1, d.before a0 Z = true) (ws : List Jvm.Cond) (r0 : Addr) (rn : Addr) (h0 : Heap) (n0 : Nat) (Z0 : n0 ≤ h0.size) (F_f : Fld Z h0 r0 "com/example/scorpus/scorpus/engine/Explanation$Figure" "name" "Ljava/lang/String;" (.ref rn)) :
    MetFree l (⟨"com/example/scorpus/scorpus/engine/Explanation$Figure", "name", "()Ljava/lang/String;"⟩ : MethodName) (head1 (Jvm.Cond.code (⟨"com/example/scorpus/scorpus/engine/Explanation$Figure", "name", "()Ljava/lang/String;"⟩ : MethodName) prog_30_method_4_code 1 (some (.object "java/lang/String")) :: ws) ({ frames := 0, cells := 0, slots := 0, locals := 0 } : Room)) (fun a U => a = #[(.ref r0)] ∧ Z.Warmed39 U.vm ∧ U.heap = h0) (fun _ _ _ _ _ => True) (fun _ U o U' => ∃ v L, o = .returned v ∧ QP (some (.ref rn)) h0 n0 v U'.heap L ∧ FrameEnd U o U' L 0 0) := by
  refine MetFree.of_bodySF (plainFor_of_name pn_10) hisR ?_
  intro p e s m args below meth c s₁ Bd hml0 hP hK
  obtain ⟨rfl, hZ, hh⟩ := hP
  have hx := Bd.exec
  have hby := Bd.bytes
  have hml : c.maxLocals = 1 := hml0
  have hown : s.vm.findClass "com/example/scorpus/scorpus/engine/Explanation$Figure" = some m.cls := findClass_of_methodNamed Bd.named
  have hnm := (name_of_methodNamed Bd.named Bd.method).1
  have X0 : Stand p l e ({ frames := 0, cells := 0, slots := 0, locals := 0 } : Room) s m #[(.ref r0)] below meth c s₁ [] 0 0 := Stand.of_body Bd
  have e0 : s₁.heap = h0 := by rw [← hh, Bd.state]; rfl
  have N0 := Fr.nil n0
  have pre0 : ∀ t, Steps p.tables e below (s₁.setTop (mkF m 0 #[.val (.ref r0)] [])) t → Steps p.tables e below (s₁.setTop (entryFrame m #[(.ref r0)] 1)) t := fun t k => castTop (ef_10 m r0) k
  obtain ⟨T1, X1, e1, st1⟩ := getF X0 hx hZ hown (host := "") (Or.inl (hw _ (List.mem_of_getElem? (i := 40) rfl))) Via.refl e0 F_f (g := (mkF m 1 #[.val (.ref r0)] [(.ref r0)])) rfl rfl (hb hby d10_1)
  obtain ⟨fs, hr, hrun, hended, hW, hsame⟩ := X1.leave (v := (some (.ref rn))) (fun h => by rw [Bd.returns] at h; cases h)
  refine ⟨_, _, pre0 _ ?_, hrun, hended, _, _, rfl, ?_, ⟨_, rfl⟩, hW, hsame.mono (by decide) (by decide)⟩
  · show Steps p.tables e below (s₁.setTop (mkF m 0 #[.val (.ref r0)] [])) _
    refine XS.aloadN X0.here hx rfl (hb hby d10_0) rfl rfl ?_
    show Steps p.tables e below (s₁.setTop (mkF m 1 #[.val (.ref r0)] [(.ref r0)])) _
    refine st1 _ ?_
    show Steps p.tables e below (T1.setTop (mkF m 4 #[.val (.ref r0)] [(.ref rn)])) _
    exact retOut X1 hx Bd.returns rfl (Or.inr (Or.inr (Or.inr (Or.inr ⟨rfl, rfl, rfl⟩)))) (hb hby d10_4) hr
  · show QP (some (.ref rn)) h0 n0 _ T1.heap _
    rw [e1]
    exact ⟨rfl, N0, rfl⟩
theorem d14_0 : decode prog_30_method_5_code 0 = .ok (.aload_n 0, 1) := by decide +kernel
theorem d14_1 : decode prog_30_method_5_code 1 = .ok (.getfield 13, 3) := by decide +kernel
theorem d14_4 : decode prog_30_method_5_code 4 = .ok (.dreturn, 1) := by decide +kernel
theorem pn_14 : plainName "com/example/scorpus/scorpus/engine/Explanation$Figure" = true := by first | (simp [plainName, overriddenIn]; done) | decide +kernel
theorem ef_14 (m : MethodId) (x0 : Addr) : entryFrame m #[(.ref x0)] 1 = mkF m 0 #[.val (.ref x0)] [] := by first | (simp [entryFrame, mkF, argsToLocals, Value.category]; done) | rfl
set_option maxRecDepth 65536 in
set_option maxHeartbeats 40000000 in
theorem rm14 (l : Launch) (Z : State) (a0 : Array Value) (hw : ∀ d ∈ tables_1, d.before a0 Z = true) (ws : List Jvm.Cond) (r0 : Addr) (dv : UInt64) (h0 : Heap) (n0 : Nat) (Z0 : n0 ≤ h0.size) (F_f : Fld Z h0 r0 "com/example/scorpus/scorpus/engine/Explanation$Figure" "value" "D" (.double dv)) :
    MetFree l (⟨"com/example/scorpus/scorpus/engine/Explanation$Figure", "value", "()D"⟩ : MethodName) (head1 (Jvm.Cond.code (⟨"com/example/scorpus/scorpus/engine/Explanation$Figure", "value", "()D"⟩ : MethodName) prog_30_method_5_code 1 (some .double) :: ws) ({ frames := 0, cells := 0, slots := 0, locals := 0 } : Room)) (fun a U => a = #[(.ref r0)] ∧ Z.Warmed39 U.vm ∧ U.heap = h0) (fun _ _ _ _ _ => True) (fun _ U o U' => ∃ v L, o = .returned v ∧ QP (some (.double dv)) h0 n0 v U'.heap L ∧ FrameEnd U o U' L 0 0) := by
  refine MetFree.of_bodySF (plainFor_of_name pn_14) hisR ?_
  intro p e s m args below meth c s₁ Bd hml0 hP hK
  obtain ⟨rfl, hZ, hh⟩ := hP
  have hx := Bd.exec
  have hby := Bd.bytes
  have hml : c.maxLocals = 1 := hml0
  have hown : s.vm.findClass "com/example/scorpus/scorpus/engine/Explanation$Figure" = some m.cls := findClass_of_methodNamed Bd.named
  have hnm := (name_of_methodNamed Bd.named Bd.method).1
  have X0 : Stand p l e ({ frames := 0, cells := 0, slots := 0, locals := 0 } : Room) s m #[(.ref r0)] below meth c s₁ [] 0 0 := Stand.of_body Bd
  have e0 : s₁.heap = h0 := by rw [← hh, Bd.state]; rfl
  have N0 := Fr.nil n0
  have pre0 : ∀ t, Steps p.tables e below (s₁.setTop (mkF m 0 #[.val (.ref r0)] [])) t → Steps p.tables e below (s₁.setTop (entryFrame m #[(.ref r0)] 1)) t := fun t k => castTop (ef_14 m r0) k
  obtain ⟨T1, X1, e1, st1⟩ := getF X0 hx hZ hown (host := "") (Or.inl (hw _ (List.mem_of_getElem? (i := 42) rfl))) Via.refl e0 F_f (g := (mkF m 1 #[.val (.ref r0)] [(.ref r0)])) rfl rfl (hb hby d14_1)
  obtain ⟨fs, hr, hrun, hended, hW, hsame⟩ := X1.leave (v := (some (.double dv))) (fun h => by rw [Bd.returns] at h; cases h)
  refine ⟨_, _, pre0 _ ?_, hrun, hended, _, _, rfl, ?_, ⟨_, rfl⟩, hW, hsame.mono (by decide) (by decide)⟩
  · show Steps p.tables e below (s₁.setTop (mkF m 0 #[.val (.ref r0)] [])) _
    refine XS.aloadN X0.here hx rfl (hb hby d14_0) rfl rfl ?_
    show Steps p.tables e below (s₁.setTop (mkF m 1 #[.val (.ref r0)] [(.ref r0)])) _
    refine st1 _ ?_
    show Steps p.tables e below (T1.setTop (mkF m 4 #[.val (.ref r0)] [(.double dv)])) _
    exact retOut X1 hx Bd.returns rfl (Or.inr (Or.inr (Or.inl ⟨rfl, rfl, _, rfl⟩))) (hb hby d14_4) hr
  · show QP (some (.double dv)) h0 n0 _ T1.heap _
    rw [e1]
    exact ⟨rfl, N0, rfl⟩
theorem d9_0 : decode prog_30_method_6_code 0 = .ok (.aload_n 0, 1) := by decide +kernel
theorem d9_1 : decode prog_30_method_6_code 1 = .ok (.getfield 17, 3) := by decide +kernel
theorem d9_4 : decode prog_30_method_6_code 4 = .ok (.ireturn, 1) := by decide +kernel
theorem pn_9 : plainName "com/example/scorpus/scorpus/engine/Explanation$Figure" = true := by first | (simp [plainName, overriddenIn]; done) | decide +kernel
theorem ef_9 (m : MethodId) (x0 : Addr) : entryFrame m #[(.ref x0)] 1 = mkF m 0 #[.val (.ref x0)] [] := by first | (simp [entryFrame, mkF, argsToLocals, Value.category]; done) | rfl
set_option maxRecDepth 65536 in
set_option maxHeartbeats 40000000 in
theorem rm9 (l : Launch) (Z : State) (a0 : Array Value) (hw : ∀ d ∈ tables_1, d.before a0 Z = true) (ws : List Jvm.Cond) (r0 : Addr) (w : Int32) (h0 : Heap) (n0 : Nat) (Z0 : n0 ≤ h0.size) (F_f : Fld Z h0 r0 "com/example/scorpus/scorpus/engine/Explanation$Figure" "count" "Z" (.int w)) :
    MetFree l (⟨"com/example/scorpus/scorpus/engine/Explanation$Figure", "isCount", "()Z"⟩ : MethodName) (head1 (Jvm.Cond.code (⟨"com/example/scorpus/scorpus/engine/Explanation$Figure", "isCount", "()Z"⟩ : MethodName) prog_30_method_6_code 1 (some .boolean) :: ws) ({ frames := 0, cells := 0, slots := 0, locals := 0 } : Room)) (fun a U => a = #[(.ref r0)] ∧ Z.Warmed39 U.vm ∧ U.heap = h0) (fun _ _ _ _ _ => True) (fun _ U o U' => ∃ v L, o = .returned v ∧ QP (some (.int (nar .boolean w))) h0 n0 v U'.heap L ∧ FrameEnd U o U' L 0 0) := by
  refine MetFree.of_bodySF (plainFor_of_name pn_9) hisR ?_
  intro p e s m args below meth c s₁ Bd hml0 hP hK
  obtain ⟨rfl, hZ, hh⟩ := hP
  have hx := Bd.exec
  have hby := Bd.bytes
  have hml : c.maxLocals = 1 := hml0
  have hown : s.vm.findClass "com/example/scorpus/scorpus/engine/Explanation$Figure" = some m.cls := findClass_of_methodNamed Bd.named
  have hnm := (name_of_methodNamed Bd.named Bd.method).1
  have X0 : Stand p l e ({ frames := 0, cells := 0, slots := 0, locals := 0 } : Room) s m #[(.ref r0)] below meth c s₁ [] 0 0 := Stand.of_body Bd
  have e0 : s₁.heap = h0 := by rw [← hh, Bd.state]; rfl
  have N0 := Fr.nil n0
  have pre0 : ∀ t, Steps p.tables e below (s₁.setTop (mkF m 0 #[.val (.ref r0)] [])) t → Steps p.tables e below (s₁.setTop (entryFrame m #[(.ref r0)] 1)) t := fun t k => castTop (ef_9 m r0) k
  obtain ⟨T1, X1, e1, st1⟩ := getF X0 hx hZ hown (host := "") (Or.inl (hw _ (List.mem_of_getElem? (i := 44) rfl))) Via.refl e0 F_f (g := (mkF m 1 #[.val (.ref r0)] [(.ref r0)])) rfl rfl (hb hby d9_1)
  obtain ⟨fs, hr, hrun, hended, hW, hsame⟩ := X1.leave (v := (some (.int (nar .boolean w)))) (fun h => by rw [Bd.returns] at h; cases h)
  refine ⟨_, _, pre0 _ ?_, hrun, hended, _, _, rfl, ?_, ⟨_, rfl⟩, hW, hsame.mono (by decide) (by decide)⟩
  · show Steps p.tables e below (s₁.setTop (mkF m 0 #[.val (.ref r0)] [])) _
    refine XS.aloadN X0.here hx rfl (hb hby d9_0) rfl rfl ?_
    show Steps p.tables e below (s₁.setTop (mkF m 1 #[.val (.ref r0)] [(.ref r0)])) _
    refine st1 _ ?_
    show Steps p.tables e below (T1.setTop (mkF m 4 #[.val (.ref r0)] [(.int w)])) _
    exact retN X1 hx (t := .boolean) Bd.returns (by simp) (hb hby d9_4) hr
  · show QP (some (.int (nar .boolean w))) h0 n0 _ T1.heap _
    rw [e1]
    exact ⟨rfl, N0, rfl⟩
def QG (Z : State) (r0 r1 : Addr) (d2 : UInt64) (u3 : Int32) (h0 : Heap) (n0 : Nat) (v : Option Value) (h : Heap) (L : List Loc) : Prop := v = none ∧ Fr n0 L ∧ Keep h0 h [r0] ∧ Exa Z h r0 "com/example/scorpus/scorpus/engine/Explanation$Figure" ∧ Fld Z h r0 "com/example/scorpus/scorpus/engine/Explanation$Figure" "name" "Ljava/lang/String;" (.ref r1) ∧ Fld Z h r0 "com/example/scorpus/scorpus/engine/Explanation$Figure" "value" "D" (.double d2) ∧ Fld Z h r0 "com/example/scorpus/scorpus/engine/Explanation$Figure" "count" "Z" (.int (nar .boolean u3))
theorem d8_0 : decode prog_30_method_1_code 0 = .ok (.aload_n 0, 1) := by decide +kernel
theorem d8_1 : decode prog_30_method_1_code 1 = .ok (.invokespecial 1, 3) := by decide +kernel
theorem d8_4 : decode prog_30_method_1_code 4 = .ok (.aload_n 0, 1) := by decide +kernel
theorem d8_5 : decode prog_30_method_1_code 5 = .ok (.aload_n 1, 1) := by decide +kernel
theorem d8_6 : decode prog_30_method_1_code 6 = .ok (.putfield 7, 3) := by decide +kernel
theorem d8_9 : decode prog_30_method_1_code 9 = .ok (.aload_n 0, 1) := by decide +kernel
theorem d8_10 : decode prog_30_method_1_code 10 = .ok (.dload_n 2, 1) := by decide +kernel
theorem d8_11 : decode prog_30_method_1_code 11 = .ok (.putfield 13, 3) := by decide +kernel
theorem d8_14 : decode prog_30_method_1_code 14 = .ok (.aload_n 0, 1) := by decide +kernel
theorem d8_15 : decode prog_30_method_1_code 15 = .ok (.iload 4, 2) := by decide +kernel
theorem d8_17 : decode prog_30_method_1_code 17 = .ok (.putfield 17, 3) := by decide +kernel
theorem d8_20 : decode prog_30_method_1_code 20 = .ok (.return_, 1) := by decide +kernel
theorem pn_8 : plainName "com/example/scorpus/scorpus/engine/Explanation$Figure" = true := by first | (simp [plainName, overriddenIn]; done) | decide +kernel
theorem ef_8 (m : MethodId) (x0 : Addr) (x1 : Addr) (x2 : UInt64) (x3 : Int32) : entryFrame m #[(.ref x0), (.ref x1), (.double x2), (.int x3)] 5 = mkF m 0 #[.val (.ref x0), .val (.ref x1), .val (.double x2), .second, .val (.int x3)] [] := by first | (simp [entryFrame, mkF, argsToLocals, Value.category]; done) | rfl
set_option maxRecDepth 65536 in
set_option maxHeartbeats 40000000 in
theorem rm8 (l : Launch) (Z : State) (a0 : Array Value) (hw : ∀ d ∈ tables_1, d.before a0 Z = true) (ws : List Jvm.Cond) (r0 : Addr) (r1 : Addr) (d2 : UInt64) (u3 : Int32) (h0 : Heap) (n0 : Nat) (Z0 : n0 ≤ h0.size) (E_r : Exa Z h0 r0 "com/example/scorpus/scorpus/engine/Explanation$Figure") (F_name : Fld Z h0 r0 "com/example/scorpus/scorpus/engine/Explanation$Figure" "name" "Ljava/lang/String;" .null) (F_value : Fld Z h0 r0 "com/example/scorpus/scorpus/engine/Explanation$Figure" "value" "D" (.double (0 : UInt64))) (F_count : Fld Z h0 r0 "com/example/scorpus/scorpus/engine/Explanation$Figure" "count" "Z" (.int (0 : Int32))) (g_r0 : n0 ≤ r0) :
    MetFree l (⟨"com/example/scorpus/scorpus/engine/Explanation$Figure", "<init>", "(Ljava/lang/String;DZ)V"⟩ : MethodName) (head1 (Jvm.Cond.code (⟨"com/example/scorpus/scorpus/engine/Explanation$Figure", "<init>", "(Ljava/lang/String;DZ)V"⟩ : MethodName) prog_30_method_1_code 5 none :: ws) ({ frames := 1, cells := 0, slots := 0, locals := 12 } : Room)) (fun a U => a = #[(.ref r0), (.ref r1), (.double d2), (.int u3)] ∧ Z.Warmed39 U.vm ∧ U.heap = h0) (fun _ _ _ _ _ => True) (fun _ U o U' => ∃ v L, o = .returned v ∧ QG Z r0 r1 d2 u3 h0 n0 v U'.heap L ∧ FrameEnd U o U' L 0 0) := by
  refine MetFree.of_bodySF (plainFor_of_name pn_8) hisR ?_
  intro p e s m args below meth c s₁ Bd hml0 hP hK
  obtain ⟨rfl, hZ, hh⟩ := hP
  have hx := Bd.exec
  have hby := Bd.bytes
  have hml : c.maxLocals = 5 := hml0
  have hown : s.vm.findClass "com/example/scorpus/scorpus/engine/Explanation$Figure" = some m.cls := findClass_of_methodNamed Bd.named
  have hnm := (name_of_methodNamed Bd.named Bd.method).1
  have X0 : Stand p l e ({ frames := 1, cells := 0, slots := 0, locals := 12 } : Room) s m #[(.ref r0), (.ref r1), (.double d2), (.int u3)] below meth c s₁ [] 0 0 := Stand.of_body Bd
  have e0 : s₁.heap = h0 := by rw [← hh, Bd.state]; rfl
  have N0 := Fr.nil n0
  have pre0 : ∀ t, Steps p.tables e below (s₁.setTop (mkF m 0 #[.val (.ref r0), .val (.ref r1), .val (.double d2), .second, .val (.int u3)] [])) t → Steps p.tables e below (s₁.setTop (entryFrame m #[(.ref r0), (.ref r1), (.double d2), (.int u3)] 5)) t := fun t k => castTop (ef_8 m r0 r1 d2 u3) k
  have K0 : Keep h0 h0 [r0] := Keep.refl h0 [r0]
  obtain ⟨T1, X1, e1, st1⟩ := initO X0 hx hZ hown (hw _ (List.mem_of_getElem? (i := 39) rfl)) (hw _ (List.mem_of_getElem? (i := 12) rfl)) (hw _ (List.mem_of_getElem? (i := 13) rfl)) e0 (g := (mkF m 1 #[.val (.ref r0), .val (.ref r1), .val (.double d2), .second, .val (.int u3)] [(.ref r0)])) rfl (by rw [hml]; rfl) rfl (hb hby d8_1) (by decide) (W := 0) (by show 2 * 0 + _ ≤ _; exact Nat.le_of_eq rfl) (by decide)
  obtain ⟨T2, h2, X2, e2, W2, st2⟩ := putF X1 hx hZ hown (host := "") (Or.inl (hw _ (List.mem_of_getElem? (i := 40) rfl))) Via.refl e1 F_name E_r (Or.inr ⟨(hw _ (List.mem_of_getElem? (i := 41) rfl)), rfl, hnm⟩) (hw _ (List.mem_of_getElem? (i := 35) rfl)) (ty := (.object "java/lang/String")) (by decide) rfl rfl (g := (mkF m 6 #[.val (.ref r0), .val (.ref r1), .val (.double d2), .second, .val (.int u3)] [(.ref r1), (.ref r0)])) rfl rfl (hb hby d8_6)
  have F_name_r0_2 := F_name.same W2
  have E_r_3 := E_r.wr W2
  have F_value_4 := F_value.other W2 (Or.inr (slot_ne (Or.inr (hw _ (List.mem_of_getElem? (i := 43) rfl))) (Or.inr (hw _ (List.mem_of_getElem? (i := 41) rfl))) (by decide) (t := .double) (t' := (.object "java/lang/String")) (by decide) (by decide)))
  have F_count_5 := F_count.other W2 (Or.inr (slot_ne (Or.inr (hw _ (List.mem_of_getElem? (i := 45) rfl))) (Or.inr (hw _ (List.mem_of_getElem? (i := 41) rfl))) (by decide) (t := .boolean) (t' := (.object "java/lang/String")) (by decide) (by decide)))
  have K2 : Keep h0 h2 [r0] := K0.wr W2 (Or.inl (List.mem_of_getElem? (i := 0) rfl))
  have N2 := Fr.snoc X2 N0 g_r0
  obtain ⟨T6, h6, X6, e6, W6, st6⟩ := putF X2 hx hZ hown (host := "") (Or.inl (hw _ (List.mem_of_getElem? (i := 42) rfl))) Via.refl e2 F_value_4 E_r_3 (Or.inr ⟨(hw _ (List.mem_of_getElem? (i := 43) rfl)), rfl, hnm⟩) (hw _ (List.mem_of_getElem? (i := 35) rfl)) (ty := .double) (by decide) rfl rfl (g := (mkF m 11 #[.val (.ref r0), .val (.ref r1), .val (.double d2), .second, .val (.int u3)] [(.double d2), (.ref r0)])) rfl rfl (hb hby d8_11)
  have F_value_r0_6 := F_value_4.same W6
  have E_r_7 := E_r_3.wr W6
  have F_name_r0_8 := F_name_r0_2.other W6 (Or.inr (slot_ne (Or.inr (hw _ (List.mem_of_getElem? (i := 41) rfl))) (Or.inr (hw _ (List.mem_of_getElem? (i := 43) rfl))) (by decide) (t := (.object "java/lang/String")) (t' := .double) (by decide) (by decide)))
  have F_count_9 := F_count_5.other W6 (Or.inr (slot_ne (Or.inr (hw _ (List.mem_of_getElem? (i := 45) rfl))) (Or.inr (hw _ (List.mem_of_getElem? (i := 43) rfl))) (by decide) (t := .boolean) (t' := .double) (by decide) (by decide)))
  have K6 : Keep h0 h6 [r0] := K2.wr W6 (Or.inl (List.mem_of_getElem? (i := 0) rfl))
  have N6 := Fr.snoc X6 N2 g_r0
  obtain ⟨T10, h10, X10, e10, W10, st10⟩ := putFN X6 hx hZ hown (hw _ (List.mem_of_getElem? (i := 44) rfl)) Via.refl e6 F_count_9 E_r_7 (Or.inr ⟨(hw _ (List.mem_of_getElem? (i := 45) rfl)), rfl, hnm⟩) (hw _ (List.mem_of_getElem? (i := 35) rfl)) (ty := .boolean) (v' := (.int (nar .boolean u3))) (by decide) rfl (fits_nar_bool _) (g := (mkF m 17 #[.val (.ref r0), .val (.ref r1), .val (.double d2), .second, .val (.int u3)] [(.int u3), (.ref r0)])) rfl rfl (hb hby d8_17)
  have F_count_r0_10 := F_count_9.same W10
  have E_r_11 := E_r_7.wr W10
  have F_name_r0_12 := F_name_r0_8.other W10 (Or.inr (slot_ne (Or.inr (hw _ (List.mem_of_getElem? (i := 41) rfl))) (Or.inr (hw _ (List.mem_of_getElem? (i := 45) rfl))) (by decide) (t := (.object "java/lang/String")) (t' := .boolean) (by decide) (by decide)))
  have F_value_r0_13 := F_value_r0_6.other W10 (Or.inr (slot_ne (Or.inr (hw _ (List.mem_of_getElem? (i := 43) rfl))) (Or.inr (hw _ (List.mem_of_getElem? (i := 45) rfl))) (by decide) (t := .double) (t' := .boolean) (by decide) (by decide)))
  have K10 : Keep h0 h10 [r0] := K6.wr W10 (Or.inl (List.mem_of_getElem? (i := 0) rfl))
  have N10 := Fr.snoc X10 N6 g_r0
  obtain ⟨fs, hr, hrun, hended, hW, hsame⟩ := X10.leave (v := none) (fun _ => rfl)
  refine ⟨_, _, pre0 _ ?_, hrun, hended, _, _, rfl, ?_, ⟨_, rfl⟩, hW, hsame.mono (by decide) (by decide)⟩
  · show Steps p.tables e below (s₁.setTop (mkF m 0 #[.val (.ref r0), .val (.ref r1), .val (.double d2), .second, .val (.int u3)] [])) _
    refine XS.aloadN X0.here hx rfl (hb hby d8_0) rfl rfl ?_
    show Steps p.tables e below (s₁.setTop (mkF m 1 #[.val (.ref r0), .val (.ref r1), .val (.double d2), .second, .val (.int u3)] [(.ref r0)])) _
    refine st1 _ ?_
    show Steps p.tables e below (T1.setTop (mkF m 4 #[.val (.ref r0), .val (.ref r1), .val (.double d2), .second, .val (.int u3)] [])) _
    refine XS.aloadN X1.here hx rfl (hb hby d8_4) rfl rfl ?_
    show Steps p.tables e below (T1.setTop (mkF m 5 #[.val (.ref r0), .val (.ref r1), .val (.double d2), .second, .val (.int u3)] [(.ref r0)])) _
    refine XS.aloadN X1.here hx rfl (hb hby d8_5) rfl rfl ?_
    show Steps p.tables e below (T1.setTop (mkF m 6 #[.val (.ref r0), .val (.ref r1), .val (.double d2), .second, .val (.int u3)] [(.ref r1), (.ref r0)])) _
    refine st2 _ ?_
    show Steps p.tables e below (T2.setTop (mkF m 9 #[.val (.ref r0), .val (.ref r1), .val (.double d2), .second, .val (.int u3)] [])) _
    refine XS.aloadN X2.here hx rfl (hb hby d8_9) rfl rfl ?_
    show Steps p.tables e below (T2.setTop (mkF m 10 #[.val (.ref r0), .val (.ref r1), .val (.double d2), .second, .val (.int u3)] [(.ref r0)])) _
    refine XS.dloadN X2.here hx rfl (hb hby d8_10) rfl ?_
    show Steps p.tables e below (T2.setTop (mkF m 11 #[.val (.ref r0), .val (.ref r1), .val (.double d2), .second, .val (.int u3)] [(.double d2), (.ref r0)])) _
    refine st6 _ ?_
    show Steps p.tables e below (T6.setTop (mkF m 14 #[.val (.ref r0), .val (.ref r1), .val (.double d2), .second, .val (.int u3)] [])) _
    refine XS.aloadN X6.here hx rfl (hb hby d8_14) rfl rfl ?_
    show Steps p.tables e below (T6.setTop (mkF m 15 #[.val (.ref r0), .val (.ref r1), .val (.double d2), .second, .val (.int u3)] [(.ref r0)])) _
    refine XS.iload X6.here hx rfl (hb hby d8_15) rfl ?_
    show Steps p.tables e below (T6.setTop (mkF m 17 #[.val (.ref r0), .val (.ref r1), .val (.double d2), .second, .val (.int u3)] [(.int u3), (.ref r0)])) _
    refine st10 _ ?_
    show Steps p.tables e below (T10.setTop (mkF m 20 #[.val (.ref r0), .val (.ref r1), .val (.double d2), .second, .val (.int u3)] [])) _
    exact X10.returnOut hx Bd.returns (hb hby d8_20) hr
  · show QG Z r0 r1 d2 u3 h0 n0 _ T10.heap _
    rw [e10]
    exact ⟨rfl, N10, K10, E_r_11, F_name_r0_12, F_value_r0_13, F_count_r0_10⟩
def QT (Z : State) (r0 : Addr) (w1 : Int64) (h0 : Heap) (n0 : Nat) (v : Option Value) (h : Heap) (L : List Loc) : Prop := ∃ b : Addr, v = some (.ref b) ∧ Fr n0 L ∧ Keep h0 h [] ∧ Exa Z h b "com/example/scorpus/scorpus/engine/Explanation$Figure" ∧ Fld Z h b "com/example/scorpus/scorpus/engine/Explanation$Figure" "name" "Ljava/lang/String;" (.ref r0) ∧ Fld Z h b "com/example/scorpus/scorpus/engine/Explanation$Figure" "value" "D" (.double (FP.l2d w1)) ∧ Fld Z h b "com/example/scorpus/scorpus/engine/Explanation$Figure" "count" "Z" (.int (nar .boolean (1 : Int32)))
theorem d7_0 : decode prog_30_method_2_code 0 = .ok (.new 8, 3) := by decide +kernel
theorem d7_3 : decode prog_30_method_2_code 3 = .ok (.dup, 1) := by decide +kernel
theorem d7_4 : decode prog_30_method_2_code 4 = .ok (.aload_n 0, 1) := by decide +kernel
theorem d7_5 : decode prog_30_method_2_code 5 = .ok (.lload_n 1, 1) := by decide +kernel
theorem d7_6 : decode prog_30_method_2_code 6 = .ok (.l2d, 1) := by decide +kernel
theorem d7_7 : decode prog_30_method_2_code 7 = .ok (.iconst 1, 1) := by decide +kernel
theorem d7_8 : decode prog_30_method_2_code 8 = .ok (.invokespecial 21, 3) := by decide +kernel
theorem d7_11 : decode prog_30_method_2_code 11 = .ok (.areturn, 1) := by decide +kernel
theorem pn_7 : plainName "com/example/scorpus/scorpus/engine/Explanation$Figure" = true := by first | (simp [plainName, overriddenIn]; done) | decide +kernel
theorem ef_7 (m : MethodId) (x0 : Addr) (x1 : Int64) : entryFrame m #[(.ref x0), (.long x1)] 3 = mkF m 0 #[.val (.ref x0), .val (.long x1), .second] [] := by first | (simp [entryFrame, mkF, argsToLocals, Value.category]; done) | rfl
theorem pd_1 : parseMethodDescriptor "(Ljava/lang/String;DZ)V" = some ⟨[(.object "java/lang/String"), .double, .boolean], none⟩ := by decide +kernel
set_option maxRecDepth 65536 in
set_option maxHeartbeats 40000000 in
theorem rm7 (l : Launch) (Z : State) (a0 : Array Value) (hw : ∀ d ∈ tables_1, d.before a0 Z = true) (ws : List Jvm.Cond) (r0 : Addr) (w1 : Int64) (h0 : Heap) (n0 : Nat) (Z0 : n0 ≤ h0.size) :
    MetFree l (⟨"com/example/scorpus/scorpus/engine/Explanation$Figure", "count", "(Ljava/lang/String;J)Lcom/example/scorpus/scorpus/engine/Explanation$Figure;"⟩ : MethodName) (head1 (Jvm.Cond.code (⟨"com/example/scorpus/scorpus/engine/Explanation$Figure", "count", "(Ljava/lang/String;J)Lcom/example/scorpus/scorpus/engine/Explanation$Figure;"⟩ : MethodName) prog_30_method_2_code 3 (some (.object "com/example/scorpus/scorpus/engine/Explanation$Figure")) :: ws) ({ frames := 2, cells := 1, slots := 3, locals := 29 } : Room)) (fun a U => a = #[(.ref r0), (.long w1)] ∧ Z.Warmed39 U.vm ∧ U.heap = h0) (fun _ _ _ _ _ => True) (fun _ U o U' => ∃ v L, o = .returned v ∧ QT Z r0 w1 h0 n0 v U'.heap L ∧ FrameEnd U o U' L 1 3) := by
  refine MetFree.of_bodySF (plainFor_of_name pn_7) hisR ?_
  intro p e s m args below meth c s₁ Bd hml0 hP hK
  obtain ⟨rfl, hZ, hh⟩ := hP
  have hx := Bd.exec
  have hby := Bd.bytes
  have hml : c.maxLocals = 3 := hml0
  have hown : s.vm.findClass "com/example/scorpus/scorpus/engine/Explanation$Figure" = some m.cls := findClass_of_methodNamed Bd.named
  have hnm := (name_of_methodNamed Bd.named Bd.method).1
  have X0 : Stand p l e ({ frames := 2, cells := 1, slots := 3, locals := 29 } : Room) s m #[(.ref r0), (.long w1)] below meth c s₁ [] 0 0 := Stand.of_body Bd
  have e0 : s₁.heap = h0 := by rw [← hh, Bd.state]; rfl
  have N0 := Fr.nil n0
  have pre0 : ∀ t, Steps p.tables e below (s₁.setTop (mkF m 0 #[.val (.ref r0), .val (.long w1), .second] [])) t → Steps p.tables e below (s₁.setTop (entryFrame m #[(.ref r0), (.long w1)] 3)) t := fun t k => castTop (ef_7 m r0 w1) k
  have K0 : Keep h0 h0 [] := Keep.refl h0 []
  obtain ⟨T1, h1, X1, e1, E1, A1, D1, -, st1⟩ := newO X0 hx hZ hown (hw _ (List.mem_of_getElem? (i := 34) rfl)) (hw _ (List.mem_of_getElem? (i := 35) rfl)) (hw _ (List.mem_of_getElem? (i := 32) rfl)) e0 (g := (mkF m 0 #[.val (.ref r0), .val (.long w1), .second] [])) rfl (hb hby d7_0) (by decide) (by decide)
  obtain ⟨b1, g1⟩ : ∃ z, z = h0.size := ⟨_, rfl⟩
  rw [← g1] at A1 D1 st1
  have g_b1 : n0 ≤ b1 := Nat.le_trans Z0 (Nat.le_of_eq g1.symm)
  have sz_b1 : h0.size ≤ b1 := Nat.le_trans K0.1 (Nat.le_of_eq g1.symm)
  have K1 : Keep h0 h1 [] := K0.ext E1
  have F_name_b1 : Fld Z h1 b1 "com/example/scorpus/scorpus/engine/Explanation$Figure" "name" "Ljava/lang/String;" .null := D1 (Or.inr (hw _ (List.mem_of_getElem? (i := 41) rfl))) (ty := (.object "java/lang/String")) (by decide)
  have F_value_b1 : Fld Z h1 b1 "com/example/scorpus/scorpus/engine/Explanation$Figure" "value" "D" (.double (0 : UInt64)) := D1 (Or.inr (hw _ (List.mem_of_getElem? (i := 43) rfl))) (ty := .double) (by decide)
  have F_count_b1 : Fld Z h1 b1 "com/example/scorpus/scorpus/engine/Explanation$Figure" "count" "Z" (.int (0 : Int32)) := D1 (Or.inr (hw _ (List.mem_of_getElem? (i := 45) rfl))) (ty := .boolean) (by decide)
  obtain ⟨_, _, ⟨T2, L2, k2, n2⟩, -, X2, ⟨Lc2, hQ2, l2, y2, z2⟩, st2⟩ := X1.specialBack hx (y := (⟨"com/example/scorpus/scorpus/engine/Explanation$Figure", "<init>", "(Ljava/lang/String;DZ)V"⟩ : MethodName)) rfl hown (mvT hZ (hw _ (List.mem_of_getElem? (i := 36) rfl))) (mvT hZ (hw _ (List.mem_of_getElem? (i := 37) rfl))) (mvT hZ (hw _ (List.mem_of_getElem? (i := 38) rfl))) (by decide) (backOf (W := 1) (rm8 l Z a0 hw [] b1 r0 (FP.l2d w1) (1 : Int32)  h1 n0 (Nat.le_trans Z0 K1.1) A1 F_name_b1 F_value_b1 F_count_b1 g_b1) hZ (hw _ (List.mem_of_getElem? (i := 38) rfl)) (hw _ (List.mem_of_getElem? (i := 32) rfl)) (by decide) (by decide)) (g := (mkF m 8 #[.val (.ref r0), .val (.long w1), .second] [(.int (1 : Int32)), (.double (FP.l2d w1)), (.ref r0), (.ref b1), (.ref b1)])) rfl (by rw [hml]; rfl) (Steps.refl _) (a := b1) (argsL := [(.ref r0), (.double (FP.l2d w1)), (.int (1 : Int32))]) (rest := [(.ref b1)]) (lenOf pd_1 rfl) rfl (by show 2 * 0 + _ ≤ _; exact Nat.le_of_eq rfl) (hb hby d7_8) (fun _ _ => ⟨rfl, e1, (by decide : 1 + 0 ≤ _), (by decide : 3 + 0 ≤ _)⟩)
  dsimp only [Pt.U, Pt.locs, Pt.cells, Pt.slots] at X2 l2 y2 z2 st2 hQ2
  subst l2 y2 z2
  obtain ⟨rfl, N2q, K2q, E_r2, F_name2, F_value2, F_count2⟩ := hQ2
  have N2 := Fr.app N0 N2q
  have K2 : Keep h0 T2.heap [] := K1.trans K2q (allS (Or.inr sz_b1) all0)
  obtain ⟨fs, hr, hrun, hended, hW, hsame⟩ := X2.leave (v := (some (.ref b1))) (fun h => by rw [Bd.returns] at h; cases h)
  refine ⟨_, _, pre0 _ ?_, hrun, hended, _, _, rfl, ?_, ⟨_, rfl⟩, hW, hsame.mono (by decide) (by decide)⟩
  · show Steps p.tables e below (s₁.setTop (mkF m 0 #[.val (.ref r0), .val (.long w1), .second] [])) _
    refine st1 _ ?_
    show Steps p.tables e below (T1.setTop (mkF m 3 #[.val (.ref r0), .val (.long w1), .second] [(.ref b1)])) _
    refine XS.dup X1.here hx rfl (hb hby d7_3) rfl rfl ?_
    show Steps p.tables e below (T1.setTop (mkF m 4 #[.val (.ref r0), .val (.long w1), .second] [(.ref b1), (.ref b1)])) _
    refine XS.aloadN X1.here hx rfl (hb hby d7_4) rfl rfl ?_
    show Steps p.tables e below (T1.setTop (mkF m 5 #[.val (.ref r0), .val (.long w1), .second] [(.ref r0), (.ref b1), (.ref b1)])) _
    refine XS.lloadN X1.here hx rfl (hb hby d7_5) rfl ?_
    show Steps p.tables e below (T1.setTop (mkF m 6 #[.val (.ref r0), .val (.long w1), .second] [(.long w1), (.ref r0), (.ref b1), (.ref b1)])) _
    refine XS.l2dS X1.here hx rfl (hb hby d7_6) rfl rfl ?_
    show Steps p.tables e below (T1.setTop (mkF m 7 #[.val (.ref r0), .val (.long w1), .second] [(.double (FP.l2d w1)), (.ref r0), (.ref b1), (.ref b1)])) _
    refine XS.iconst X1.here hx rfl (hb hby d7_7) ?_
    show Steps p.tables e below (T1.setTop (mkF m 8 #[.val (.ref r0), .val (.long w1), .second] [(.int (1 : Int32)), (.double (FP.l2d w1)), (.ref r0), (.ref b1), (.ref b1)])) _
    refine st2.trans ?_
    show Steps p.tables e below (T2.setTop (mkF m 11 #[.val (.ref r0), .val (.long w1), .second] [(.ref b1)])) _
    exact retOut X2 hx Bd.returns rfl (Or.inr (Or.inr (Or.inr (Or.inr ⟨rfl, rfl, rfl⟩)))) (hb hby d7_11) hr
  · show QT Z r0 w1 h0 n0 _ T2.heap _
    exact ⟨_, rfl, N2, K2, E_r2, F_name2, F_value2, F_count2⟩
theorem d16_0 : decode jdk_43_method_3_code 0 = .ok (.iload_n 0, 1) := by decide +kernel
theorem d16_1 : decode jdk_43_method_3_code 1 = .ok (.sipush 255, 3) := by decide +kernel
theorem d16_4 : decode jdk_43_method_3_code 4 = .ok (.if_icmp .gt 7, 3) := by decide +kernel
theorem d16_7 : decode jdk_43_method_3_code 7 = .ok (.iconst 1, 1) := by decide +kernel
theorem d16_8 : decode jdk_43_method_3_code 8 = .ok (.goto 4, 3) := by decide +kernel
theorem d16_11 : decode jdk_43_method_3_code 11 = .ok (.iconst 0, 1) := by decide +kernel
theorem d16_12 : decode jdk_43_method_3_code 12 = .ok (.ireturn, 1) := by decide +kernel
theorem pn_16 : plainName "java/lang/StringLatin1" = true := by first | (simp [plainName, overriddenIn]; done) | decide +kernel
theorem ef_16 (m : MethodId) (x0 : Int32) : entryFrame m #[(.int x0)] 1 = mkF m 0 #[.val (.int x0)] [] := by first | (simp [entryFrame, mkF, argsToLocals, Value.category]; done) | rfl
def f16 (u0 : Int32) : Int32 := (if (255 : Int32) < u0 then (0 : Int32) else (1 : Int32))
set_option maxRecDepth 65536 in
set_option maxHeartbeats 40000000 in
theorem rm16 (l : Launch) (Z : State) (a0 : Array Value) (hw : ∀ d ∈ tables_1, d.before a0 Z = true) (ws : List Jvm.Cond) (u0 : Int32) (h0 : Heap) (n0 : Nat) (Z0 : n0 ≤ h0.size) :
    MetFree l (⟨"java/lang/StringLatin1", "canEncode", "(C)Z"⟩ : MethodName) (head1 (Jvm.Cond.code (⟨"java/lang/StringLatin1", "canEncode", "(C)Z"⟩ : MethodName) jdk_43_method_3_code 1 (some .boolean) :: ws) ({ frames := 0, cells := 0, slots := 0, locals := 0 } : Room)) (fun a U => a = #[(.int u0)] ∧ Z.Warmed39 U.vm ∧ U.heap = h0) (fun _ _ _ _ _ => True) (fun _ U o U' => ∃ v L, o = .returned v ∧ QP (some (.int (f16 u0))) h0 n0 v U'.heap L ∧ FrameEnd U o U' L 0 0) := by
  refine MetFree.of_bodySF (plainFor_of_name pn_16) hisR ?_
  intro p e s m args below meth c s₁ Bd hml0 hP hK
  obtain ⟨rfl, hZ, hh⟩ := hP
  have hx := Bd.exec
  have hby := Bd.bytes
  have hml : c.maxLocals = 1 := hml0
  have hown : s.vm.findClass "java/lang/StringLatin1" = some m.cls := findClass_of_methodNamed Bd.named
  have hnm := (name_of_methodNamed Bd.named Bd.method).1
  have X0 : Stand p l e ({ frames := 0, cells := 0, slots := 0, locals := 0 } : Room) s m #[(.int u0)] below meth c s₁ [] 0 0 := Stand.of_body Bd
  have e0 : s₁.heap = h0 := by rw [← hh, Bd.state]; rfl
  have N0 := Fr.nil n0
  have pre0 : ∀ t, Steps p.tables e below (s₁.setTop (mkF m 0 #[.val (.int u0)] [])) t → Steps p.tables e below (s₁.setTop (entryFrame m #[(.int u0)] 1)) t := fun t k => castTop (ef_16 m u0) k
  have pre1 : ∀ t, Steps p.tables e below (s₁.setTop (mkF m 4 #[.val (.int u0)] [(.int (255 : Int32)), (.int u0)])) t → Steps p.tables e below (s₁.setTop (entryFrame m #[(.int u0)] 1)) t := fun t k => pre0 t (by
    show Steps p.tables e below (s₁.setTop (mkF m 0 #[.val (.int u0)] [])) _
    refine XS.iloadN X0.here hx rfl (hb hby d16_0) rfl ?_
    show Steps p.tables e below (s₁.setTop (mkF m 1 #[.val (.int u0)] [(.int u0)])) _
    refine XS.sipush X0.here hx rfl (hb hby d16_1) ?_
    exact k)
  by_cases hc4 : (255 : Int32) < u0
  · -- pc 4: (255 : Int32) < u0
    obtain ⟨fs, hr, hrun, hended, hW, hsame⟩ := X0.leave (v := (some (.int (0 : Int32)))) (fun h => by rw [Bd.returns] at h; cases h)
    refine ⟨_, _, pre1 _ ?_, hrun, hended, _, _, rfl, ?_, ⟨_, rfl⟩, hW, hsame.mono (by decide) (by decide)⟩
    · show Steps p.tables e below (s₁.setTop (mkF m 4 #[.val (.int u0)] [(.int (255 : Int32)), (.int u0)])) _
      refine XS.icmpYes X0.here hx rfl (pc0 := 4) (pc' := 11) rfl (hb hby d16_4) rfl (tlt hc4).2.2.1 (by decide) (by decide) ?_
      show Steps p.tables e below (s₁.setTop (mkF m 11 #[.val (.int u0)] [])) _
      refine XS.iconst X0.here hx rfl (hb hby d16_11) ?_
      show Steps p.tables e below (s₁.setTop (mkF m 12 #[.val (.int u0)] [(.int (0 : Int32))])) _
      exact retN X0 hx (t := .boolean) Bd.returns (by simp) (hb hby d16_12) hr
    · show QP (some (.int (f16 u0))) h0 n0 _ s₁.heap _
      rw [e0]
      exact ⟨congrArg (fun z => some (Value.int z)) (Eq.symm (show (f16 u0) = (0 : Int32) from (if_pos hc4).trans (rfl))), N0, rfl⟩
  · -- pc 4: not (255 : Int32) < u0
    obtain ⟨fs, hr, hrun, hended, hW, hsame⟩ := X0.leave (v := (some (.int (1 : Int32)))) (fun h => by rw [Bd.returns] at h; cases h)
    refine ⟨_, _, pre1 _ ?_, hrun, hended, _, _, rfl, ?_, ⟨_, rfl⟩, hW, hsame.mono (by decide) (by decide)⟩
    · show Steps p.tables e below (s₁.setTop (mkF m 4 #[.val (.int u0)] [(.int (255 : Int32)), (.int u0)])) _
      refine XS.icmpNo X0.here hx rfl (hb hby d16_4) rfl (flt hc4).2.2.1 ?_
      show Steps p.tables e below (s₁.setTop (mkF m 7 #[.val (.int u0)] [])) _
      refine XS.iconst X0.here hx rfl (hb hby d16_7) ?_
      show Steps p.tables e below (s₁.setTop (mkF m 8 #[.val (.int u0)] [(.int (1 : Int32))])) _
      refine XS.goto X0.here hx rfl (pc0 := 8) (pc' := 12) rfl (hb hby d16_8) (by decide) (by decide) ?_
      show Steps p.tables e below (s₁.setTop (mkF m 12 #[.val (.int u0)] [(.int (1 : Int32))])) _
      exact retN X0 hx (t := .boolean) Bd.returns (by simp) (hb hby d16_12) hr
    · show QP (some (.int (f16 u0))) h0 n0 _ s₁.heap _
      rw [e0]
      exact ⟨congrArg (fun z => some (Value.int z)) (Eq.symm (show (f16 u0) = (1 : Int32) from (if_neg hc4).trans (rfl))), N0, rfl⟩
def QY (Z : State) (u0 : Int32) (h0 : Heap) (n0 : Nat) (v : Option Value) (h : Heap) (L : List Loc) : Prop := ∃ (b : Addr) (k : ClassId), v = some (.ref b) ∧ Fr n0 L ∧ Keep h0 h [] ∧ h0.size ≤ b ∧ Arv Z h b k .byte (1 : Int32) [(.int (nar .byte (u0.toInt8.toInt32)))] (.int (0 : Int32))
theorem d17_0 : decode jdk_43_method_46_code 0 = .ok (.iconst 1, 1) := by decide +kernel
theorem d17_1 : decode jdk_43_method_46_code 1 = .ok (.newarray .byte, 2) := by decide +kernel
theorem d17_3 : decode jdk_43_method_46_code 3 = .ok (.dup, 1) := by decide +kernel
theorem d17_4 : decode jdk_43_method_46_code 4 = .ok (.iconst 0, 1) := by decide +kernel
theorem d17_5 : decode jdk_43_method_46_code 5 = .ok (.iload_n 0, 1) := by decide +kernel
theorem d17_6 : decode jdk_43_method_46_code 6 = .ok (.i2b, 1) := by decide +kernel
theorem d17_7 : decode jdk_43_method_46_code 7 = .ok (.bastore, 1) := by decide +kernel
theorem d17_8 : decode jdk_43_method_46_code 8 = .ok (.areturn, 1) := by decide +kernel
theorem pn_17 : plainName "java/lang/StringLatin1" = true := by first | (simp [plainName, overriddenIn]; done) | decide +kernel
theorem ef_17 (m : MethodId) (x0 : Int32) : entryFrame m #[(.int x0)] 1 = mkF m 0 #[.val (.int x0)] [] := by first | (simp [entryFrame, mkF, argsToLocals, Value.category]; done) | rfl
set_option maxRecDepth 65536 in
set_option maxHeartbeats 40000000 in
theorem rm17 (l : Launch) (Z : State) (a0 : Array Value) (hw : ∀ d ∈ tables_1, d.before a0 Z = true) (ws : List Jvm.Cond) (u0 : Int32) (h0 : Heap) (n0 : Nat) (Z0 : n0 ≤ h0.size) :
    MetFree l (⟨"java/lang/StringLatin1", "toBytes", "(C)[B"⟩ : MethodName) (head1 (Jvm.Cond.code (⟨"java/lang/StringLatin1", "toBytes", "(C)[B"⟩ : MethodName) jdk_43_method_46_code 1 (some (.array .byte)) :: ws) ({ frames := 0, cells := 1, slots := 1, locals := 0 } : Room)) (fun a U => a = #[(.int u0)] ∧ Z.Warmed39 U.vm ∧ U.heap = h0) (fun _ _ _ _ _ => True) (fun _ U o U' => ∃ v L, o = .returned v ∧ QY Z u0 h0 n0 v U'.heap L ∧ FrameEnd U o U' L 1 1) := by
  refine MetFree.of_bodySF (plainFor_of_name pn_17) hisR ?_
  intro p e s m args below meth c s₁ Bd hml0 hP hK
  obtain ⟨rfl, hZ, hh⟩ := hP
  have hx := Bd.exec
  have hby := Bd.bytes
  have hml : c.maxLocals = 1 := hml0
  have hown : s.vm.findClass "java/lang/StringLatin1" = some m.cls := findClass_of_methodNamed Bd.named
  have hnm := (name_of_methodNamed Bd.named Bd.method).1
  have X0 : Stand p l e ({ frames := 0, cells := 1, slots := 1, locals := 0 } : Room) s m #[(.int u0)] below meth c s₁ [] 0 0 := Stand.of_body Bd
  have e0 : s₁.heap = h0 := by rw [← hh, Bd.state]; rfl
  have N0 := Fr.nil n0
  have pre0 : ∀ t, Steps p.tables e below (s₁.setTop (mkF m 0 #[.val (.int u0)] [])) t → Steps p.tables e below (s₁.setTop (entryFrame m #[(.int u0)] 1)) t := fun t k => castTop (ef_17 m u0) k
  have K0 : Keep h0 h0 [] := Keep.refl h0 []
  obtain ⟨T1, h1, k1, X1, e1, E1, A1, st1⟩ := newP X0 hx hZ (hw _ (List.mem_of_getElem? (i := 19) rfl)) e0 (g := (mkF m 1 #[.val (.int u0)] [(.int (1 : Int32))])) rfl (hb hby d17_1) rfl (by decide) (cap := 1) (by decide) (by decide) (by decide) (by decide)
  obtain ⟨b1, g1⟩ : ∃ z, z = h0.size := ⟨_, rfl⟩
  rw [← g1] at A1 st1
  have g_b1 : n0 ≤ b1 := Nat.le_trans Z0 (Nat.le_of_eq g1.symm)
  have sz_b1 : h0.size ≤ b1 := Nat.le_trans K0.1 (Nat.le_of_eq g1.symm)
  have K1 : Keep h0 h1 [] := K0.ext E1
  have V_b1 : Arv Z h1 b1 k1 .byte (1 : Int32) [(.int (0 : Int32))] (.int (0 : Int32)) := (Arv.new A1 (by decide)).pad (pad_rep [] (.int (0 : Int32)) 1)
  obtain ⟨c2, Ar2, q2, S2, N2n, H2, G2⟩ := V_b1
  have hin2 : ¬ ((0 : Int32) < 0 ∨ c2.slots.size ≤ ((0 : Int32)).toNatClampNeg) := inb_of S2 ⟨by decide, by decide⟩
  obtain ⟨T3, h3, X3, e3, W3, st3⟩ := stB X1 hx hZ e1 Ar2 (j := (0 : Int32)) hin2 (g := (mkF m 7 #[.val (.int u0)] [(.int (u0.toInt8.toInt32)), (.int (0 : Int32)), (.ref b1), (.ref b1)])) rfl rfl (hb hby d17_7)
  have V_b1_3 : Arv Z h3 b1 k1 .byte (1 : Int32) [(.int (nar .byte (u0.toInt8.toInt32)))] (.int (0 : Int32)) := Arv.set Ar2 q2 S2 N2n H2 G2 (fits_nar_byte _) W3 0 rfl (Nat.le_of_ble_eq_true rfl)
  have K3 : Keep h0 h3 [] := K1.wr W3 (Or.inr sz_b1)
  have N3 := Fr.snoc X3 N0 g_b1
  obtain ⟨fs, hr, hrun, hended, hW, hsame⟩ := X3.leave (v := (some (.ref b1))) (fun h => by rw [Bd.returns] at h; cases h)
  refine ⟨_, _, pre0 _ ?_, hrun, hended, _, _, rfl, ?_, ⟨_, rfl⟩, hW, hsame.mono (by decide) (by decide)⟩
  · show Steps p.tables e below (s₁.setTop (mkF m 0 #[.val (.int u0)] [])) _
    refine XS.iconst X0.here hx rfl (hb hby d17_0) ?_
    show Steps p.tables e below (s₁.setTop (mkF m 1 #[.val (.int u0)] [(.int (1 : Int32))])) _
    refine st1 _ ?_
    show Steps p.tables e below (T1.setTop (mkF m 3 #[.val (.int u0)] [(.ref b1)])) _
    refine XS.dup X1.here hx rfl (hb hby d17_3) rfl rfl ?_
    show Steps p.tables e below (T1.setTop (mkF m 4 #[.val (.int u0)] [(.ref b1), (.ref b1)])) _
    refine XS.iconst X1.here hx rfl (hb hby d17_4) ?_
    show Steps p.tables e below (T1.setTop (mkF m 5 #[.val (.int u0)] [(.int (0 : Int32)), (.ref b1), (.ref b1)])) _
    refine XS.iloadN X1.here hx rfl (hb hby d17_5) rfl ?_
    show Steps p.tables e below (T1.setTop (mkF m 6 #[.val (.int u0)] [(.int u0), (.int (0 : Int32)), (.ref b1), (.ref b1)])) _
    refine XS.i2b X1.here hx rfl (hb hby d17_6) rfl ?_
    show Steps p.tables e below (T1.setTop (mkF m 7 #[.val (.int u0)] [(.int (u0.toInt8.toInt32)), (.int (0 : Int32)), (.ref b1), (.ref b1)])) _
    refine st3 _ ?_
    show Steps p.tables e below (T3.setTop (mkF m 8 #[.val (.int u0)] [(.ref b1)])) _
    exact retOut X3 hx Bd.returns rfl (Or.inr (Or.inr (Or.inr (Or.inr ⟨rfl, rfl, rfl⟩)))) (hb hby d17_8) hr
  · show QY Z u0 h0 n0 _ T3.heap _
    rw [e3]
    exact ⟨_, _, rfl, N3, K3, sz_b1, V_b1_3⟩
def QS (Z : State) (r0 r1 : Addr) (cd : Int32) (h0 : Heap) (n0 : Nat) (v : Option Value) (h : Heap) (L : List Loc) : Prop := v = none ∧ Fr n0 L ∧ Keep h0 h [r0] ∧ Exa Z h r0 "java/lang/String" ∧ Fld Z h r0 "java/lang/String" "value" "[B" (.ref r1) ∧ Fld Z h r0 "java/lang/String" "coder" "B" (.int cd)
theorem d18_0 : decode jdk_42_method_151_code 0 = .ok (.aload_n 0, 1) := by decide +kernel
theorem d18_1 : decode jdk_42_method_151_code 1 = .ok (.invokespecial 1, 3) := by decide +kernel
theorem d18_4 : decode jdk_42_method_151_code 4 = .ok (.aload_n 0, 1) := by decide +kernel
theorem d18_5 : decode jdk_42_method_151_code 5 = .ok (.aload_n 1, 1) := by decide +kernel
theorem d18_6 : decode jdk_42_method_151_code 6 = .ok (.putfield 9, 3) := by decide +kernel
theorem d18_9 : decode jdk_42_method_151_code 9 = .ok (.aload_n 0, 1) := by decide +kernel
theorem d18_10 : decode jdk_42_method_151_code 10 = .ok (.iload_n 2, 1) := by decide +kernel
theorem d18_11 : decode jdk_42_method_151_code 11 = .ok (.putfield 15, 3) := by decide +kernel
theorem d18_14 : decode jdk_42_method_151_code 14 = .ok (.return_, 1) := by decide +kernel
theorem pn_18 : plainName "java/lang/String" = true := by first | (simp [plainName, overriddenIn]; done) | decide +kernel
theorem ef_18 (m : MethodId) (x0 : Addr) (x1 : Addr) (x2 : Int32) : entryFrame m #[(.ref x0), (.ref x1), (.int x2)] 3 = mkF m 0 #[.val (.ref x0), .val (.ref x1), .val (.int x2)] [] := by first | (simp [entryFrame, mkF, argsToLocals, Value.category]; done) | rfl
set_option maxRecDepth 65536 in
set_option maxHeartbeats 40000000 in
theorem rm18 (l : Launch) (Z : State) (a0 : Array Value) (hw : ∀ d ∈ tables_1, d.before a0 Z = true) (ws : List Jvm.Cond) (r0 : Addr) (r1 : Addr) (u2 : Int32) (h0 : Heap) (n0 : Nat) (Z0 : n0 ≤ h0.size) (E_r : Exa Z h0 r0 "java/lang/String") (F_value : Fld Z h0 r0 "java/lang/String" "value" "[B" .null) (F_coder : Fld Z h0 r0 "java/lang/String" "coder" "B" (.int (0 : Int32))) (g_r0 : n0 ≤ r0) :
    MetFree l (⟨"java/lang/String", "<init>", "([BB)V"⟩ : MethodName) (head1 (Jvm.Cond.code (⟨"java/lang/String", "<init>", "([BB)V"⟩ : MethodName) jdk_42_method_151_code 3 none :: ws) ({ frames := 1, cells := 0, slots := 0, locals := 12 } : Room)) (fun a U => a = #[(.ref r0), (.ref r1), (.int u2)] ∧ Z.Warmed39 U.vm ∧ U.heap = h0) (fun _ _ _ _ _ => True) (fun _ U o U' => ∃ v L, o = .returned v ∧ QS Z r0 r1 (nar .byte u2) h0 n0 v U'.heap L ∧ FrameEnd U o U' L 0 0) := by
  refine MetFree.of_bodySF (plainFor_of_name pn_18) hisR ?_
  intro p e s m args below meth c s₁ Bd hml0 hP hK
  obtain ⟨rfl, hZ, hh⟩ := hP
  have hx := Bd.exec
  have hby := Bd.bytes
  have hml : c.maxLocals = 3 := hml0
  have hown : s.vm.findClass "java/lang/String" = some m.cls := findClass_of_methodNamed Bd.named
  have hnm := (name_of_methodNamed Bd.named Bd.method).1
  have X0 : Stand p l e ({ frames := 1, cells := 0, slots := 0, locals := 12 } : Room) s m #[(.ref r0), (.ref r1), (.int u2)] below meth c s₁ [] 0 0 := Stand.of_body Bd
  have e0 : s₁.heap = h0 := by rw [← hh, Bd.state]; rfl
  have N0 := Fr.nil n0
  have pre0 : ∀ t, Steps p.tables e below (s₁.setTop (mkF m 0 #[.val (.ref r0), .val (.ref r1), .val (.int u2)] [])) t → Steps p.tables e below (s₁.setTop (entryFrame m #[(.ref r0), (.ref r1), (.int u2)] 3)) t := fun t k => castTop (ef_18 m r0 r1 u2) k
  have K0 : Keep h0 h0 [r0] := Keep.refl h0 [r0]
  obtain ⟨T1, X1, e1, st1⟩ := initO X0 hx hZ hown (hw _ (List.mem_of_getElem? (i := 11) rfl)) (hw _ (List.mem_of_getElem? (i := 12) rfl)) (hw _ (List.mem_of_getElem? (i := 13) rfl)) e0 (g := (mkF m 1 #[.val (.ref r0), .val (.ref r1), .val (.int u2)] [(.ref r0)])) rfl (by rw [hml]; rfl) rfl (hb hby d18_1) (by decide) (W := 0) (by show 2 * 0 + _ ≤ _; exact Nat.le_of_eq rfl) (by decide)
  obtain ⟨T2, h2, X2, e2, W2, st2⟩ := putF X1 hx hZ hown (host := "") (Or.inl (hw _ (List.mem_of_getElem? (i := 28) rfl))) Via.refl e1 F_value E_r (Or.inr ⟨(hw _ (List.mem_of_getElem? (i := 29) rfl)), rfl, hnm⟩) (hw _ (List.mem_of_getElem? (i := 1) rfl)) (ty := (.array .byte)) (by decide) rfl rfl (g := (mkF m 6 #[.val (.ref r0), .val (.ref r1), .val (.int u2)] [(.ref r1), (.ref r0)])) rfl rfl (hb hby d18_6)
  have F_value_r0_2 := F_value.same W2
  have E_r_3 := E_r.wr W2
  have F_coder_4 := F_coder.other W2 (Or.inr (slot_ne (Or.inr (hw _ (List.mem_of_getElem? (i := 27) rfl))) (Or.inr (hw _ (List.mem_of_getElem? (i := 29) rfl))) (by decide) (t := .byte) (t' := (.array .byte)) (by decide) (by decide)))
  have K2 : Keep h0 h2 [r0] := K0.wr W2 (Or.inl (List.mem_of_getElem? (i := 0) rfl))
  have N2 := Fr.snoc X2 N0 g_r0
  obtain ⟨T5, h5, X5, e5, W5, st5⟩ := putFN X2 hx hZ hown (hw _ (List.mem_of_getElem? (i := 26) rfl)) Via.refl e2 F_coder_4 E_r_3 (Or.inr ⟨(hw _ (List.mem_of_getElem? (i := 27) rfl)), rfl, hnm⟩) (hw _ (List.mem_of_getElem? (i := 1) rfl)) (ty := .byte) (v' := (.int (nar .byte u2))) (by decide) rfl (fits_nar_byte _) (g := (mkF m 11 #[.val (.ref r0), .val (.ref r1), .val (.int u2)] [(.int u2), (.ref r0)])) rfl rfl (hb hby d18_11)
  have F_coder_r0_5 := F_coder_4.same W5
  have E_r_6 := E_r_3.wr W5
  have F_value_r0_7 := F_value_r0_2.other W5 (Or.inr (slot_ne (Or.inr (hw _ (List.mem_of_getElem? (i := 29) rfl))) (Or.inr (hw _ (List.mem_of_getElem? (i := 27) rfl))) (by decide) (t := (.array .byte)) (t' := .byte) (by decide) (by decide)))
  have K5 : Keep h0 h5 [r0] := K2.wr W5 (Or.inl (List.mem_of_getElem? (i := 0) rfl))
  have N5 := Fr.snoc X5 N2 g_r0
  obtain ⟨fs, hr, hrun, hended, hW, hsame⟩ := X5.leave (v := none) (fun _ => rfl)
  refine ⟨_, _, pre0 _ ?_, hrun, hended, _, _, rfl, ?_, ⟨_, rfl⟩, hW, hsame.mono (by decide) (by decide)⟩
  · show Steps p.tables e below (s₁.setTop (mkF m 0 #[.val (.ref r0), .val (.ref r1), .val (.int u2)] [])) _
    refine XS.aloadN X0.here hx rfl (hb hby d18_0) rfl rfl ?_
    show Steps p.tables e below (s₁.setTop (mkF m 1 #[.val (.ref r0), .val (.ref r1), .val (.int u2)] [(.ref r0)])) _
    refine st1 _ ?_
    show Steps p.tables e below (T1.setTop (mkF m 4 #[.val (.ref r0), .val (.ref r1), .val (.int u2)] [])) _
    refine XS.aloadN X1.here hx rfl (hb hby d18_4) rfl rfl ?_
    show Steps p.tables e below (T1.setTop (mkF m 5 #[.val (.ref r0), .val (.ref r1), .val (.int u2)] [(.ref r0)])) _
    refine XS.aloadN X1.here hx rfl (hb hby d18_5) rfl rfl ?_
    show Steps p.tables e below (T1.setTop (mkF m 6 #[.val (.ref r0), .val (.ref r1), .val (.int u2)] [(.ref r1), (.ref r0)])) _
    refine st2 _ ?_
    show Steps p.tables e below (T2.setTop (mkF m 9 #[.val (.ref r0), .val (.ref r1), .val (.int u2)] [])) _
    refine XS.aloadN X2.here hx rfl (hb hby d18_9) rfl rfl ?_
    show Steps p.tables e below (T2.setTop (mkF m 10 #[.val (.ref r0), .val (.ref r1), .val (.int u2)] [(.ref r0)])) _
    refine XS.iloadN X2.here hx rfl (hb hby d18_10) rfl ?_
    show Steps p.tables e below (T2.setTop (mkF m 11 #[.val (.ref r0), .val (.ref r1), .val (.int u2)] [(.int u2), (.ref r0)])) _
    refine st5 _ ?_
    show Steps p.tables e below (T5.setTop (mkF m 14 #[.val (.ref r0), .val (.ref r1), .val (.int u2)] [])) _
    exact X5.returnOut hx Bd.returns (hb hby d18_14) hr
  · show QS Z r0 r1 (nar .byte u2) h0 n0 _ T5.heap _
    rw [e5]
    exact ⟨rfl, N5, K5, E_r_6, F_value_r0_7, F_coder_r0_5⟩
def QN (Z : State) (h0 : Heap) (n0 : Nat) (v : Option Value) (h : Heap) (L : List Loc) : Prop := ∃ (b rb : Addr) (kb : ClassId) (nb : Int32) (vs : List Value) (cd : Int32), v = some (.ref b) ∧ Fr n0 L ∧ Keep h0 h [] ∧ Exa Z h b "java/lang/String" ∧ Fld Z h b "java/lang/String" "value" "[B" (.ref rb) ∧ Fld Z h b "java/lang/String" "coder" "B" (.int cd) ∧ Arv Z h rb kb .byte nb vs (.int (0 : Int32))
theorem d15_0 : decode jdk_42_method_139_code 0 = .ok (.getstatic 38, 3) := by decide +kernel
theorem d15_3 : decode jdk_42_method_139_code 3 = .ok (.ifCond .eq 23, 3) := by decide +kernel
theorem d15_6 : decode jdk_42_method_139_code 6 = .ok (.iload_n 0, 1) := by decide +kernel
theorem d15_7 : decode jdk_42_method_139_code 7 = .ok (.invokestatic 1015, 3) := by decide +kernel
theorem d15_10 : decode jdk_42_method_139_code 10 = .ok (.ifCond .eq 16, 3) := by decide +kernel
theorem d15_13 : decode jdk_42_method_139_code 13 = .ok (.new 10, 3) := by decide +kernel
theorem d15_16 : decode jdk_42_method_139_code 16 = .ok (.dup, 1) := by decide +kernel
theorem d15_17 : decode jdk_42_method_139_code 17 = .ok (.iload_n 0, 1) := by decide +kernel
theorem d15_18 : decode jdk_42_method_139_code 18 = .ok (.invokestatic 1018, 3) := by decide +kernel
theorem d15_21 : decode jdk_42_method_139_code 21 = .ok (.iconst 0, 1) := by decide +kernel
theorem d15_22 : decode jdk_42_method_139_code 22 = .ok (.invokespecial 209, 3) := by decide +kernel
theorem d15_25 : decode jdk_42_method_139_code 25 = .ok (.areturn, 1) := by decide +kernel
theorem pn_15 : plainName "java/lang/String" = true := by first | (simp [plainName, overriddenIn]; done) | decide +kernel
theorem ef_15 (m : MethodId) (x0 : Int32) : entryFrame m #[(.int x0)] 1 = mkF m 0 #[.val (.int x0)] [] := by first | (simp [entryFrame, mkF, argsToLocals, Value.category]; done) | rfl
theorem pd_2 : parseMethodDescriptor "(C)Z" = some ⟨[.char], some .boolean⟩ := by decide +kernel
theorem pd_3 : parseMethodDescriptor "(C)[B" = some ⟨[.char], some (.array .byte)⟩ := by decide +kernel
theorem pd_4 : parseMethodDescriptor "([BB)V" = some ⟨[(.array .byte), .byte], none⟩ := by decide +kernel
set_option maxRecDepth 65536 in
set_option maxHeartbeats 40000000 in
theorem rm15 (l : Launch) (Z : State) (a0 : Array Value) (hw : ∀ d ∈ tables_1, d.before a0 Z = true) (ws : List Jvm.Cond) (u0 : Int32) (cs : Int32) (h0 : Heap) (n0 : Nat) (Z0 : n0 ≤ h0.size) (S_C : Sta Z h0 "java/lang/String" "COMPACT_STRINGS" "Z" (.int cs)) (hcs : ¬ cs = 0) (hu : ¬ (255 : Int32) < u0) :
    MetFree l (⟨"java/lang/String", "valueOf", "(C)Ljava/lang/String;"⟩ : MethodName) (head1 (Jvm.Cond.code (⟨"java/lang/String", "valueOf", "(C)Ljava/lang/String;"⟩ : MethodName) jdk_42_method_139_code 1 (some (.object "java/lang/String")) :: ws) ({ frames := 2, cells := 2, slots := 5, locals := 28 } : Room)) (fun a U => a = #[(.int u0)] ∧ Z.Warmed39 U.vm ∧ U.heap = h0) (fun _ _ _ _ _ => True) (fun _ U o U' => ∃ v L, o = .returned v ∧ QN Z h0 n0 v U'.heap L ∧ FrameEnd U o U' L 2 5) := by
  refine MetFree.of_bodySF (plainFor_of_name pn_15) hisR ?_
  intro p e s m args below meth c s₁ Bd hml0 hP hK
  obtain ⟨rfl, hZ, hh⟩ := hP
  have hx := Bd.exec
  have hby := Bd.bytes
  have hml : c.maxLocals = 1 := hml0
  have hown : s.vm.findClass "java/lang/String" = some m.cls := findClass_of_methodNamed Bd.named
  have hnm := (name_of_methodNamed Bd.named Bd.method).1
  have X0 : Stand p l e ({ frames := 2, cells := 2, slots := 5, locals := 28 } : Room) s m #[(.int u0)] below meth c s₁ [] 0 0 := Stand.of_body Bd
  have e0 : s₁.heap = h0 := by rw [← hh, Bd.state]; rfl
  have N0 := Fr.nil n0
  have pre0 : ∀ t, Steps p.tables e below (s₁.setTop (mkF m 0 #[.val (.int u0)] [])) t → Steps p.tables e below (s₁.setTop (entryFrame m #[(.int u0)] 1)) t := fun t k => castTop (ef_15 m u0) k
  have K0 : Keep h0 h0 [] := Keep.refl h0 []
  obtain ⟨T1, X1, e1, st1⟩ := getS2 X0 hx hZ hown (host := "") (Or.inl (hw _ (List.mem_of_getElem? (i := 14) rfl))) Via.refl e0 S_C (g := (mkF m 0 #[.val (.int u0)] [])) rfl (hb hby d15_0)
  obtain ⟨_, _, ⟨T2, L2, k2, n2⟩, -, X2, ⟨Lc2, hQ2, l2, y2, z2⟩, st2⟩ := Jvm.LawKit.callS X1 hx (y := (⟨"java/lang/StringLatin1", "canEncode", "(C)Z"⟩ : MethodName)) hown (mvT hZ (hw _ (List.mem_of_getElem? (i := 84) rfl))) (mvT hZ (hw _ (List.mem_of_getElem? (i := 85) rfl))) (mvT hZ (hw _ (List.mem_of_getElem? (i := 86) rfl))) (mvT hZ (hw _ (List.mem_of_getElem? (i := 87) rfl))) (by decide) (backOf (W := 0) (rm16 l Z a0 hw [] u0  h0 n0 Z0 ) hZ (hw _ (List.mem_of_getElem? (i := 87) rfl)) (hw _ (List.mem_of_getElem? (i := 86) rfl)) (by decide) (by decide)) (g := (mkF m 7 #[.val (.int u0)] [(.int u0)])) rfl (by rw [hml]; rfl) (argsL := [(.int u0)]) (rest := []) (lenOf pd_2 rfl) rfl (by show 2 * 0 + _ ≤ _; exact Nat.le_of_eq rfl) (hb hby d15_7) (fun _ _ => ⟨rfl, e1, (by decide : 0 + 0 ≤ _), (by decide : 0 + 0 ≤ _)⟩)
  dsimp only [Pt.U, Pt.locs, Pt.cells, Pt.slots] at X2 l2 y2 z2 st2 hQ2
  subst l2 y2 z2
  obtain ⟨rfl, N2q, e2⟩ := hQ2
  have N2 := Fr.app N0 N2q
  obtain ⟨T3, h3, X3, e3, E3, A3, D3, -, st3⟩ := newO X2 hx hZ hown (hw _ (List.mem_of_getElem? (i := 88) rfl)) (hw _ (List.mem_of_getElem? (i := 1) rfl)) (hw _ (List.mem_of_getElem? (i := 2) rfl)) e2 (g := (mkF m 13 #[.val (.int u0)] [])) rfl (hb hby d15_13) (by decide) (by decide)
  obtain ⟨b3, g3⟩ : ∃ z, z = h0.size := ⟨_, rfl⟩
  rw [← g3] at A3 D3 st3
  have g_b3 : n0 ≤ b3 := Nat.le_trans Z0 (Nat.le_of_eq g3.symm)
  have sz_b3 : h0.size ≤ b3 := Nat.le_trans K0.1 (Nat.le_of_eq g3.symm)
  have S_C_4 := S_C.ext E3
  have K3 : Keep h0 h3 [] := K0.ext E3
  have F_coder_b3 : Fld Z h3 b3 "java/lang/String" "coder" "B" (.int (0 : Int32)) := D3 (Or.inr (hw _ (List.mem_of_getElem? (i := 27) rfl))) (ty := .byte) (by decide)
  have F_value_b3 : Fld Z h3 b3 "java/lang/String" "value" "[B" .null := D3 (Or.inr (hw _ (List.mem_of_getElem? (i := 29) rfl))) (ty := (.array .byte)) (by decide)
  obtain ⟨_, _, ⟨T5, L5, k5, n5⟩, -, X5, ⟨Lc5, hQ5, l5, y5, z5⟩, st5⟩ := Jvm.LawKit.callS X3 hx (y := (⟨"java/lang/StringLatin1", "toBytes", "(C)[B"⟩ : MethodName)) hown (mvT hZ (hw _ (List.mem_of_getElem? (i := 89) rfl))) (mvT hZ (hw _ (List.mem_of_getElem? (i := 90) rfl))) (mvT hZ (hw _ (List.mem_of_getElem? (i := 86) rfl))) (mvT hZ (hw _ (List.mem_of_getElem? (i := 91) rfl))) (by decide) (backOf (W := 2) (rm17 l Z a0 hw [] u0  h3 n0 (Nat.le_trans Z0 K3.1) ) hZ (hw _ (List.mem_of_getElem? (i := 91) rfl)) (hw _ (List.mem_of_getElem? (i := 86) rfl)) (by decide) (by decide)) (g := (mkF m 18 #[.val (.int u0)] [(.int u0), (.ref b3), (.ref b3)])) rfl (by rw [hml]; rfl) (argsL := [(.int u0)]) (rest := [(.ref b3), (.ref b3)]) (lenOf pd_3 rfl) rfl (by show 2 * 0 + _ ≤ _; exact Nat.le_of_eq rfl) (hb hby d15_18) (fun _ _ => ⟨rfl, e3, (by decide : 1 + 1 ≤ _), (by decide : 4 + 1 ≤ _)⟩)
  dsimp only [Pt.U, Pt.locs, Pt.cells, Pt.slots] at X5 l5 y5 z5 st5 hQ5
  subst l5 y5 z5
  obtain ⟨b5, kb5, rfl, N5q, K5q, sq5, V_b5⟩ := hQ5
  have N5 := Fr.app N2 N5q
  have K5 : Keep h0 T5.heap [] := K3.trans K5q all0
  have ne_b3_b5 : b3 ≠ b5 := Nat.ne_of_lt (Nat.lt_of_lt_of_le A3.lt sq5)
  have A3_6 := A3.keep K5q
  have F_coder_b3_7 := F_coder_b3.keep K5q nin0
  have F_value_b3_8 := F_value_b3.keep K5q nin0
  obtain ⟨_, _, ⟨T9, L9, k9, n9⟩, -, X9, ⟨Lc9, hQ9, l9, y9, z9⟩, st9⟩ := X5.specialBack hx (y := (⟨"java/lang/String", "<init>", "([BB)V"⟩ : MethodName)) rfl hown (mvT hZ (hw _ (List.mem_of_getElem? (i := 92) rfl))) (mvT hZ (hw _ (List.mem_of_getElem? (i := 93) rfl))) (mvT hZ (hw _ (List.mem_of_getElem? (i := 94) rfl))) (by decide) (backOf (W := 1) (rm18 l Z a0 hw [] b3 b5 (0 : Int32)  T5.heap n0 (Nat.le_trans Z0 K5.1) A3_6 F_value_b3_8 F_coder_b3_7 g_b3) hZ (hw _ (List.mem_of_getElem? (i := 94) rfl)) (hw _ (List.mem_of_getElem? (i := 2) rfl)) (by decide) (by decide)) (g := (mkF m 22 #[.val (.int u0)] [(.int (0 : Int32)), (.ref b5), (.ref b3), (.ref b3)])) rfl (by rw [hml]; rfl) (Steps.refl _) (a := b3) (argsL := [(.ref b5), (.int (0 : Int32))]) (rest := [(.ref b3)]) (lenOf pd_4 rfl) rfl (by show 2 * 0 + _ ≤ _; exact Nat.le_of_eq rfl) (hb hby d15_22) (fun _ _ => ⟨rfl, rfl, (by decide : 2 + 0 ≤ _), (by decide : 5 + 0 ≤ _)⟩)
  dsimp only [Pt.U, Pt.locs, Pt.cells, Pt.slots] at X9 l9 y9 z9 st9 hQ9
  subst l9 y9 z9
  obtain ⟨rfl, N9q, K9q, E_r9, F_value9, F_coder9⟩ := hQ9
  have N9 := Fr.app N5 N9q
  have K9 : Keep h0 T9.heap [] := K5.trans K9q (allS (Or.inr sz_b3) all0)
  have V_b5_10 := V_b5.keep K9q (ninS (Ne.symm ne_b3_b5) nin0)
  obtain ⟨fs, hr, hrun, hended, hW, hsame⟩ := X9.leave (v := (some (.ref b3))) (fun h => by rw [Bd.returns] at h; cases h)
  refine ⟨_, _, pre0 _ ?_, hrun, hended, _, _, rfl, ?_, ⟨_, rfl⟩, hW, hsame.mono (by decide) (by decide)⟩
  · show Steps p.tables e below (s₁.setTop (mkF m 0 #[.val (.int u0)] [])) _
    refine st1 _ ?_
    show Steps p.tables e below (T1.setTop (mkF m 3 #[.val (.int u0)] [(.int cs)])) _
    refine XS.ifNo X1.here hx rfl (hb hby d15_3) rfl ((if0 _ _).trans (feq hcs).1) ?_
    show Steps p.tables e below (T1.setTop (mkF m 6 #[.val (.int u0)] [])) _
    refine XS.iloadN X1.here hx rfl (hb hby d15_6) rfl ?_
    show Steps p.tables e below (T1.setTop (mkF m 7 #[.val (.int u0)] [(.int u0)])) _
    refine st2 _ ?_
    show Steps p.tables e below (T2.setTop (mkF m 10 #[.val (.int u0)] [(.int (f16 u0))])) _
    refine XS.ifNo X2.here hx rfl (hb hby d15_10) rfl ((if0 _ _).trans (feq (by rw [show f16 u0 = 1 from if_neg hu]; decide)).1) ?_
    show Steps p.tables e below (T2.setTop (mkF m 13 #[.val (.int u0)] [])) _
    refine st3 _ ?_
    show Steps p.tables e below (T3.setTop (mkF m 16 #[.val (.int u0)] [(.ref b3)])) _
    refine XS.dup X3.here hx rfl (hb hby d15_16) rfl rfl ?_
    show Steps p.tables e below (T3.setTop (mkF m 17 #[.val (.int u0)] [(.ref b3), (.ref b3)])) _
    refine XS.iloadN X3.here hx rfl (hb hby d15_17) rfl ?_
    show Steps p.tables e below (T3.setTop (mkF m 18 #[.val (.int u0)] [(.int u0), (.ref b3), (.ref b3)])) _
    refine st5 _ ?_
    show Steps p.tables e below (T5.setTop (mkF m 21 #[.val (.int u0)] [(.ref b5), (.ref b3), (.ref b3)])) _
    refine XS.iconst X5.here hx rfl (hb hby d15_21) ?_
    show Steps p.tables e below (T5.setTop (mkF m 22 #[.val (.int u0)] [(.int (0 : Int32)), (.ref b5), (.ref b3), (.ref b3)])) _
    refine st9.trans ?_
    show Steps p.tables e below (T9.setTop (mkF m 25 #[.val (.int u0)] [(.ref b3)])) _
    exact retOut X9 hx Bd.returns rfl (Or.inr (Or.inr (Or.inr (Or.inr ⟨rfl, rfl, rfl⟩)))) (hb hby d15_25) hr
  · show QN Z h0 n0 _ T9.heap _
    exact ⟨_, _, _, _, _, _, rfl, N9, K9, E_r9, F_value9, F_coder9, V_b5_10⟩
def Q5 (Z : State) (r2 : Addr) (kd : ClassId) (ch0 ch1 : Int32) (h0 : Heap) (n0 : Nat) (v : Option Value) (h : Heap) (L : List Loc) : Prop := v = some (.int (2 : Int32)) ∧ Fr n0 L ∧ Keep h0 h [r2] ∧ Arv Z h r2 kd .byte (2 : Int32) [(.int (nar .byte (ch0.toInt8.toInt32))), (.int (nar .byte (ch1.toInt8.toInt32)))] (.int (0 : Int32))
theorem d5_0 : decode jdk_52_method_21_code 0 = .ok (.iconst 0, 1) := by decide +kernel
theorem d5_1 : decode jdk_52_method_21_code 1 = .ok (.istore 5, 2) := by decide +kernel
theorem d5_3 : decode jdk_52_method_21_code 3 = .ok (.iload 5, 2) := by decide +kernel
theorem d5_5 : decode jdk_52_method_21_code 5 = .ok (.iload 4, 2) := by decide +kernel
theorem d5_7 : decode jdk_52_method_21_code 7 = .ok (.if_icmp .ge 37, 3) := by decide +kernel
theorem d5_10 : decode jdk_52_method_21_code 10 = .ok (.aload_n 0, 1) := by decide +kernel
theorem d5_11 : decode jdk_52_method_21_code 11 = .ok (.iload_n 1, 1) := by decide +kernel
theorem d5_12 : decode jdk_52_method_21_code 12 = .ok (.caload, 1) := by decide +kernel
theorem d5_13 : decode jdk_52_method_21_code 13 = .ok (.istore 6, 2) := by decide +kernel
theorem d5_15 : decode jdk_52_method_21_code 15 = .ok (.iload 6, 2) := by decide +kernel
theorem d5_17 : decode jdk_52_method_21_code 17 = .ok (.sipush 255, 3) := by decide +kernel
theorem d5_20 : decode jdk_52_method_21_code 20 = .ok (.if_icmp .le 6, 3) := by decide +kernel
theorem d5_26 : decode jdk_52_method_21_code 26 = .ok (.aload_n 2, 1) := by decide +kernel
theorem d5_27 : decode jdk_52_method_21_code 27 = .ok (.iload_n 3, 1) := by decide +kernel
theorem d5_28 : decode jdk_52_method_21_code 28 = .ok (.iload 6, 2) := by decide +kernel
theorem d5_30 : decode jdk_52_method_21_code 30 = .ok (.i2b, 1) := by decide +kernel
theorem d5_31 : decode jdk_52_method_21_code 31 = .ok (.bastore, 1) := by decide +kernel
theorem d5_32 : decode jdk_52_method_21_code 32 = .ok (.iinc 1 1, 3) := by decide +kernel
theorem d5_35 : decode jdk_52_method_21_code 35 = .ok (.iinc 3 1, 3) := by decide +kernel
theorem d5_38 : decode jdk_52_method_21_code 38 = .ok (.iinc 5 1, 3) := by decide +kernel
theorem d5_41 : decode jdk_52_method_21_code 41 = .ok (.goto (-38), 3) := by decide +kernel
theorem d5_44 : decode jdk_52_method_21_code 44 = .ok (.iload 4, 2) := by decide +kernel
theorem d5_46 : decode jdk_52_method_21_code 46 = .ok (.ireturn, 1) := by decide +kernel
theorem pn_5 : plainName "java/lang/StringUTF16" = true := by first | (simp [plainName, overriddenIn]; done) | decide +kernel
theorem ef_5 (m : MethodId) (x0 : Addr) (x1 : Int32) (x2 : Addr) (x3 : Int32) (x4 : Int32) : entryFrame m #[(.ref x0), (.int x1), (.ref x2), (.int x3), (.int x4)] 7 = mkF m 0 #[.val (.ref x0), .val (.int x1), .val (.ref x2), .val (.int x3), .val (.int x4), .unset, .unset] [] := by first | (simp [entryFrame, mkF, argsToLocals, Value.category]; done) | rfl
set_option maxRecDepth 65536 in
set_option maxHeartbeats 40000000 in
theorem rm5 (l : Launch) (Z : State) (a0 : Array Value) (hw : ∀ d ∈ tables_1, d.before a0 Z = true) (ws : List Jvm.Cond) (r0 : Addr) (r2 : Addr) (kc : ClassId) (kd : ClassId) (ch0 : Int32) (ch1 : Int32) (h0 : Heap) (n0 : Nat) (Z0 : n0 ≤ h0.size) (V_0 : Arv Z h0 r0 kc .char (2 : Int32) [(.int ch0), (.int ch1)] (.int (0 : Int32))) (V_2 : Arv Z h0 r2 kd .byte (2 : Int32) [(.int (0 : Int32)), (.int (0 : Int32))] (.int (0 : Int32))) (n_02 : r0 ≠ r2) (g_r2 : n0 ≤ r2) (h_ch0 : ¬ (255 : Int32) < ch0) (h_ch1 : ¬ (255 : Int32) < ch1) :
    MetFree l (⟨"java/lang/StringUTF16", "compress", "([CI[BII)I"⟩ : MethodName) (head1 (Jvm.Cond.code (⟨"java/lang/StringUTF16", "compress", "([CI[BII)I"⟩ : MethodName) jdk_52_method_21_code 7 (some .int) :: ws) ({ frames := 0, cells := 0, slots := 0, locals := 0 } : Room)) (fun a U => a = #[(.ref r0), (.int (0 : Int32)), (.ref r2), (.int (0 : Int32)), (.int (2 : Int32))] ∧ Z.Warmed39 U.vm ∧ U.heap = h0) (fun _ _ _ _ _ => True) (fun _ U o U' => ∃ v L, o = .returned v ∧ Q5 Z r2 kd ch0 ch1 h0 n0 v U'.heap L ∧ FrameEnd U o U' L 0 0) := by
  refine MetFree.of_bodySF (plainFor_of_name pn_5) hisR ?_
  intro p e s m args below meth c s₁ Bd hml0 hP hK
  obtain ⟨rfl, hZ, hh⟩ := hP
  have hx := Bd.exec
  have hby := Bd.bytes
  have hml : c.maxLocals = 7 := hml0
  have hown : s.vm.findClass "java/lang/StringUTF16" = some m.cls := findClass_of_methodNamed Bd.named
  have hnm := (name_of_methodNamed Bd.named Bd.method).1
  have X0 : Stand p l e ({ frames := 0, cells := 0, slots := 0, locals := 0 } : Room) s m #[(.ref r0), (.int (0 : Int32)), (.ref r2), (.int (0 : Int32)), (.int (2 : Int32))] below meth c s₁ [] 0 0 := Stand.of_body Bd
  have e0 : s₁.heap = h0 := by rw [← hh, Bd.state]; rfl
  have N0 := Fr.nil n0
  have pre0 : ∀ t, Steps p.tables e below (s₁.setTop (mkF m 0 #[.val (.ref r0), .val (.int (0 : Int32)), .val (.ref r2), .val (.int (0 : Int32)), .val (.int (2 : Int32)), .unset, .unset] [])) t → Steps p.tables e below (s₁.setTop (entryFrame m #[(.ref r0), (.int (0 : Int32)), (.ref r2), (.int (0 : Int32)), (.int (2 : Int32))] 7)) t := fun t k => castTop (ef_5 m r0 (0 : Int32) r2 (0 : Int32) (2 : Int32)) k
  have K0 : Keep h0 h0 [r2] := Keep.refl h0 [r2]
  obtain ⟨c1, Ar1, hin1, hat1, hfit1⟩ := own_elemV V_0 (j := (0 : Int32)) ⟨by decide, by decide⟩ rfl
  obtain ⟨c2, Ar2, q2, S2, N2n, H2, G2⟩ := V_2
  have hin2 : ¬ ((0 : Int32) < 0 ∨ c2.slots.size ≤ ((0 : Int32)).toNatClampNeg) := inb_of S2 ⟨by decide, by decide⟩
  obtain ⟨T3, h3, X3, e3, W3, st3⟩ := stB X0 hx hZ e0 Ar2 (j := (0 : Int32)) hin2 (g := (mkF m 31 #[.val (.ref r0), .val (.int (0 : Int32)), .val (.ref r2), .val (.int (0 : Int32)), .val (.int (2 : Int32)), .val (.int (0 : Int32)), .val (.int ch0)] [(.int (ch0.toInt8.toInt32)), (.int (0 : Int32)), (.ref r2)])) rfl rfl (hb hby d5_31)
  have V_r2_3 : Arv Z h3 r2 kd .byte (2 : Int32) [(.int (nar .byte (ch0.toInt8.toInt32))), (.int (0 : Int32))] (.int (0 : Int32)) := Arv.set Ar2 q2 S2 N2n H2 G2 (fits_nar_byte _) W3 0 rfl (Nat.le_of_ble_eq_true rfl)
  have V_4 := V_0.other W3 n_02
  have K3 : Keep h0 h3 [r2] := K0.wr W3 (Or.inl (List.mem_of_getElem? (i := 0) rfl))
  have N3 := Fr.snoc X3 N0 g_r2
  obtain ⟨c5, Ar5, hin5, hat5, hfit5⟩ := own_elemV V_4 (j := ((0 : Int32) + (1 : Int32))) ⟨by decide, by decide⟩ rfl
  obtain ⟨c6, Ar6, q6, S6, N6n, H6, G6⟩ := V_r2_3
  have hin6 : ¬ (((0 : Int32) + (1 : Int32)) < 0 ∨ c6.slots.size ≤ (((0 : Int32) + (1 : Int32))).toNatClampNeg) := inb_of S6 ⟨by decide, by decide⟩
  obtain ⟨T7, h7, X7, e7, W7, st7⟩ := stB X3 hx hZ e3 Ar6 (j := ((0 : Int32) + (1 : Int32))) hin6 (g := (mkF m 31 #[.val (.ref r0), .val (.int ((0 : Int32) + (1 : Int32))), .val (.ref r2), .val (.int ((0 : Int32) + (1 : Int32))), .val (.int (2 : Int32)), .val (.int ((0 : Int32) + (1 : Int32))), .val (.int ch1)] [(.int (ch1.toInt8.toInt32)), (.int ((0 : Int32) + (1 : Int32))), (.ref r2)])) rfl rfl (hb hby d5_31)
  have V_r2_7 : Arv Z h7 r2 kd .byte (2 : Int32) [(.int (nar .byte (ch0.toInt8.toInt32))), (.int (nar .byte (ch1.toInt8.toInt32)))] (.int (0 : Int32)) := Arv.set Ar6 q6 S6 N6n H6 G6 (fits_nar_byte _) W7 1 rfl (Nat.le_of_ble_eq_true rfl)
  have V_8 := V_4.other W7 n_02
  have K7 : Keep h0 h7 [r2] := K3.wr W7 (Or.inl (List.mem_of_getElem? (i := 0) rfl))
  have N7 := Fr.snoc X7 N3 g_r2
  obtain ⟨fs, hr, hrun, hended, hW, hsame⟩ := X7.leave (v := (some (.int (2 : Int32)))) (fun h => by rw [Bd.returns] at h; cases h)
  refine ⟨_, _, pre0 _ ?_, hrun, hended, _, _, rfl, ?_, ⟨_, rfl⟩, hW, hsame.mono (by decide) (by decide)⟩
  · show Steps p.tables e below (s₁.setTop (mkF m 0 #[.val (.ref r0), .val (.int (0 : Int32)), .val (.ref r2), .val (.int (0 : Int32)), .val (.int (2 : Int32)), .unset, .unset] [])) _
    refine XS.iconst X0.here hx rfl (hb hby d5_0) ?_
    show Steps p.tables e below (s₁.setTop (mkF m 1 #[.val (.ref r0), .val (.int (0 : Int32)), .val (.ref r2), .val (.int (0 : Int32)), .val (.int (2 : Int32)), .unset, .unset] [(.int (0 : Int32))])) _
    refine XS.istore X0.here hx rfl (hb hby d5_1) rfl (l' := #[.val (.ref r0), .val (.int (0 : Int32)), .val (.ref r2), .val (.int (0 : Int32)), .val (.int (2 : Int32)), .val (.int (0 : Int32)), .unset]) rfl ?_
    show Steps p.tables e below (s₁.setTop (mkF m 3 #[.val (.ref r0), .val (.int (0 : Int32)), .val (.ref r2), .val (.int (0 : Int32)), .val (.int (2 : Int32)), .val (.int (0 : Int32)), .unset] [])) _
    refine XS.iload X0.here hx rfl (hb hby d5_3) rfl ?_
    show Steps p.tables e below (s₁.setTop (mkF m 5 #[.val (.ref r0), .val (.int (0 : Int32)), .val (.ref r2), .val (.int (0 : Int32)), .val (.int (2 : Int32)), .val (.int (0 : Int32)), .unset] [(.int (0 : Int32))])) _
    refine XS.iload X0.here hx rfl (hb hby d5_5) rfl ?_
    show Steps p.tables e below (s₁.setTop (mkF m 7 #[.val (.ref r0), .val (.int (0 : Int32)), .val (.ref r2), .val (.int (0 : Int32)), .val (.int (2 : Int32)), .val (.int (0 : Int32)), .unset] [(.int (2 : Int32)), (.int (0 : Int32))])) _
    refine XS.icmpNo X0.here hx rfl (hb hby d5_7) rfl (tlt (by decide)).2.1 ?_
    show Steps p.tables e below (s₁.setTop (mkF m 10 #[.val (.ref r0), .val (.int (0 : Int32)), .val (.ref r2), .val (.int (0 : Int32)), .val (.int (2 : Int32)), .val (.int (0 : Int32)), .unset] [])) _
    refine XS.aloadN X0.here hx rfl (hb hby d5_10) rfl rfl ?_
    show Steps p.tables e below (s₁.setTop (mkF m 11 #[.val (.ref r0), .val (.int (0 : Int32)), .val (.ref r2), .val (.int (0 : Int32)), .val (.int (2 : Int32)), .val (.int (0 : Int32)), .unset] [(.ref r0)])) _
    refine XS.iloadN X0.here hx rfl (hb hby d5_11) rfl ?_
    show Steps p.tables e below (s₁.setTop (mkF m 12 #[.val (.ref r0), .val (.int (0 : Int32)), .val (.ref r2), .val (.int (0 : Int32)), .val (.int (2 : Int32)), .val (.int (0 : Int32)), .unset] [(.int (0 : Int32)), (.ref r0)])) _
    refine X0.caload hx (j := (0 : Int32)) (v := (.int ch0)) (by rw [e0]; exact Ar1.1) (State.isArrayOf_alike hZ.alike Ar1.2.1) Ar1.2.2 hin1 hat1 (g := (mkF m 12 #[.val (.ref r0), .val (.int (0 : Int32)), .val (.ref r2), .val (.int (0 : Int32)), .val (.int (2 : Int32)), .val (.int (0 : Int32)), .unset] [(.int (0 : Int32)), (.ref r0)])) rfl rfl (hb hby d5_12) _ ?_
    show Steps p.tables e below (s₁.setTop (mkF m 13 #[.val (.ref r0), .val (.int (0 : Int32)), .val (.ref r2), .val (.int (0 : Int32)), .val (.int (2 : Int32)), .val (.int (0 : Int32)), .unset] [(.int ch0)])) _
    refine XS.istore X0.here hx rfl (hb hby d5_13) rfl (l' := #[.val (.ref r0), .val (.int (0 : Int32)), .val (.ref r2), .val (.int (0 : Int32)), .val (.int (2 : Int32)), .val (.int (0 : Int32)), .val (.int ch0)]) rfl ?_
    show Steps p.tables e below (s₁.setTop (mkF m 15 #[.val (.ref r0), .val (.int (0 : Int32)), .val (.ref r2), .val (.int (0 : Int32)), .val (.int (2 : Int32)), .val (.int (0 : Int32)), .val (.int ch0)] [])) _
    refine XS.iload X0.here hx rfl (hb hby d5_15) rfl ?_
    show Steps p.tables e below (s₁.setTop (mkF m 17 #[.val (.ref r0), .val (.int (0 : Int32)), .val (.ref r2), .val (.int (0 : Int32)), .val (.int (2 : Int32)), .val (.int (0 : Int32)), .val (.int ch0)] [(.int ch0)])) _
    refine XS.sipush X0.here hx rfl (hb hby d5_17) ?_
    show Steps p.tables e below (s₁.setTop (mkF m 20 #[.val (.ref r0), .val (.int (0 : Int32)), .val (.ref r2), .val (.int (0 : Int32)), .val (.int (2 : Int32)), .val (.int (0 : Int32)), .val (.int ch0)] [(.int (255 : Int32)), (.int ch0)])) _
    refine XS.icmpYes X0.here hx rfl (pc0 := 20) (pc' := 26) rfl (hb hby d5_20) rfl (flt h_ch0).2.2.2 (by decide) (by decide) ?_
    show Steps p.tables e below (s₁.setTop (mkF m 26 #[.val (.ref r0), .val (.int (0 : Int32)), .val (.ref r2), .val (.int (0 : Int32)), .val (.int (2 : Int32)), .val (.int (0 : Int32)), .val (.int ch0)] [])) _
    refine XS.aloadN X0.here hx rfl (hb hby d5_26) rfl rfl ?_
    show Steps p.tables e below (s₁.setTop (mkF m 27 #[.val (.ref r0), .val (.int (0 : Int32)), .val (.ref r2), .val (.int (0 : Int32)), .val (.int (2 : Int32)), .val (.int (0 : Int32)), .val (.int ch0)] [(.ref r2)])) _
    refine XS.iloadN X0.here hx rfl (hb hby d5_27) rfl ?_
    show Steps p.tables e below (s₁.setTop (mkF m 28 #[.val (.ref r0), .val (.int (0 : Int32)), .val (.ref r2), .val (.int (0 : Int32)), .val (.int (2 : Int32)), .val (.int (0 : Int32)), .val (.int ch0)] [(.int (0 : Int32)), (.ref r2)])) _
    refine XS.iload X0.here hx rfl (hb hby d5_28) rfl ?_
    show Steps p.tables e below (s₁.setTop (mkF m 30 #[.val (.ref r0), .val (.int (0 : Int32)), .val (.ref r2), .val (.int (0 : Int32)), .val (.int (2 : Int32)), .val (.int (0 : Int32)), .val (.int ch0)] [(.int ch0), (.int (0 : Int32)), (.ref r2)])) _
    refine XS.i2b X0.here hx rfl (hb hby d5_30) rfl ?_
    show Steps p.tables e below (s₁.setTop (mkF m 31 #[.val (.ref r0), .val (.int (0 : Int32)), .val (.ref r2), .val (.int (0 : Int32)), .val (.int (2 : Int32)), .val (.int (0 : Int32)), .val (.int ch0)] [(.int (ch0.toInt8.toInt32)), (.int (0 : Int32)), (.ref r2)])) _
    refine st3 _ ?_
    show Steps p.tables e below (T3.setTop (mkF m 32 #[.val (.ref r0), .val (.int (0 : Int32)), .val (.ref r2), .val (.int (0 : Int32)), .val (.int (2 : Int32)), .val (.int (0 : Int32)), .val (.int ch0)] [])) _
    refine XS.iinc X3.here hx rfl (hb hby d5_32) rfl (l' := #[.val (.ref r0), .val (.int ((0 : Int32) + (1 : Int32))), .val (.ref r2), .val (.int (0 : Int32)), .val (.int (2 : Int32)), .val (.int (0 : Int32)), .val (.int ch0)]) rfl ?_
    show Steps p.tables e below (T3.setTop (mkF m 35 #[.val (.ref r0), .val (.int ((0 : Int32) + (1 : Int32))), .val (.ref r2), .val (.int (0 : Int32)), .val (.int (2 : Int32)), .val (.int (0 : Int32)), .val (.int ch0)] [])) _
    refine XS.iinc X3.here hx rfl (hb hby d5_35) rfl (l' := #[.val (.ref r0), .val (.int ((0 : Int32) + (1 : Int32))), .val (.ref r2), .val (.int ((0 : Int32) + (1 : Int32))), .val (.int (2 : Int32)), .val (.int (0 : Int32)), .val (.int ch0)]) rfl ?_
    show Steps p.tables e below (T3.setTop (mkF m 38 #[.val (.ref r0), .val (.int ((0 : Int32) + (1 : Int32))), .val (.ref r2), .val (.int ((0 : Int32) + (1 : Int32))), .val (.int (2 : Int32)), .val (.int (0 : Int32)), .val (.int ch0)] [])) _
    refine XS.iinc X3.here hx rfl (hb hby d5_38) rfl (l' := #[.val (.ref r0), .val (.int ((0 : Int32) + (1 : Int32))), .val (.ref r2), .val (.int ((0 : Int32) + (1 : Int32))), .val (.int (2 : Int32)), .val (.int ((0 : Int32) + (1 : Int32))), .val (.int ch0)]) rfl ?_
    show Steps p.tables e below (T3.setTop (mkF m 41 #[.val (.ref r0), .val (.int ((0 : Int32) + (1 : Int32))), .val (.ref r2), .val (.int ((0 : Int32) + (1 : Int32))), .val (.int (2 : Int32)), .val (.int ((0 : Int32) + (1 : Int32))), .val (.int ch0)] [])) _
    refine XS.goto X3.here hx rfl (pc0 := 41) (pc' := 3) rfl (hb hby d5_41) (by decide) (by decide) ?_
    show Steps p.tables e below (T3.setTop (mkF m 3 #[.val (.ref r0), .val (.int ((0 : Int32) + (1 : Int32))), .val (.ref r2), .val (.int ((0 : Int32) + (1 : Int32))), .val (.int (2 : Int32)), .val (.int ((0 : Int32) + (1 : Int32))), .val (.int ch0)] [])) _
    refine XS.iload X3.here hx rfl (hb hby d5_3) rfl ?_
    show Steps p.tables e below (T3.setTop (mkF m 5 #[.val (.ref r0), .val (.int ((0 : Int32) + (1 : Int32))), .val (.ref r2), .val (.int ((0 : Int32) + (1 : Int32))), .val (.int (2 : Int32)), .val (.int ((0 : Int32) + (1 : Int32))), .val (.int ch0)] [(.int ((0 : Int32) + (1 : Int32)))])) _
    refine XS.iload X3.here hx rfl (hb hby d5_5) rfl ?_
    show Steps p.tables e below (T3.setTop (mkF m 7 #[.val (.ref r0), .val (.int ((0 : Int32) + (1 : Int32))), .val (.ref r2), .val (.int ((0 : Int32) + (1 : Int32))), .val (.int (2 : Int32)), .val (.int ((0 : Int32) + (1 : Int32))), .val (.int ch0)] [(.int (2 : Int32)), (.int ((0 : Int32) + (1 : Int32)))])) _
    refine XS.icmpNo X3.here hx rfl (hb hby d5_7) rfl (tlt (by decide)).2.1 ?_
    show Steps p.tables e below (T3.setTop (mkF m 10 #[.val (.ref r0), .val (.int ((0 : Int32) + (1 : Int32))), .val (.ref r2), .val (.int ((0 : Int32) + (1 : Int32))), .val (.int (2 : Int32)), .val (.int ((0 : Int32) + (1 : Int32))), .val (.int ch0)] [])) _
    refine XS.aloadN X3.here hx rfl (hb hby d5_10) rfl rfl ?_
    show Steps p.tables e below (T3.setTop (mkF m 11 #[.val (.ref r0), .val (.int ((0 : Int32) + (1 : Int32))), .val (.ref r2), .val (.int ((0 : Int32) + (1 : Int32))), .val (.int (2 : Int32)), .val (.int ((0 : Int32) + (1 : Int32))), .val (.int ch0)] [(.ref r0)])) _
    refine XS.iloadN X3.here hx rfl (hb hby d5_11) rfl ?_
    show Steps p.tables e below (T3.setTop (mkF m 12 #[.val (.ref r0), .val (.int ((0 : Int32) + (1 : Int32))), .val (.ref r2), .val (.int ((0 : Int32) + (1 : Int32))), .val (.int (2 : Int32)), .val (.int ((0 : Int32) + (1 : Int32))), .val (.int ch0)] [(.int ((0 : Int32) + (1 : Int32))), (.ref r0)])) _
    refine X3.caload hx (j := ((0 : Int32) + (1 : Int32))) (v := (.int ch1)) (by rw [e3]; exact Ar5.1) (State.isArrayOf_alike hZ.alike Ar5.2.1) Ar5.2.2 hin5 hat5 (g := (mkF m 12 #[.val (.ref r0), .val (.int ((0 : Int32) + (1 : Int32))), .val (.ref r2), .val (.int ((0 : Int32) + (1 : Int32))), .val (.int (2 : Int32)), .val (.int ((0 : Int32) + (1 : Int32))), .val (.int ch0)] [(.int ((0 : Int32) + (1 : Int32))), (.ref r0)])) rfl rfl (hb hby d5_12) _ ?_
    show Steps p.tables e below (T3.setTop (mkF m 13 #[.val (.ref r0), .val (.int ((0 : Int32) + (1 : Int32))), .val (.ref r2), .val (.int ((0 : Int32) + (1 : Int32))), .val (.int (2 : Int32)), .val (.int ((0 : Int32) + (1 : Int32))), .val (.int ch0)] [(.int ch1)])) _
    refine XS.istore X3.here hx rfl (hb hby d5_13) rfl (l' := #[.val (.ref r0), .val (.int ((0 : Int32) + (1 : Int32))), .val (.ref r2), .val (.int ((0 : Int32) + (1 : Int32))), .val (.int (2 : Int32)), .val (.int ((0 : Int32) + (1 : Int32))), .val (.int ch1)]) rfl ?_
    show Steps p.tables e below (T3.setTop (mkF m 15 #[.val (.ref r0), .val (.int ((0 : Int32) + (1 : Int32))), .val (.ref r2), .val (.int ((0 : Int32) + (1 : Int32))), .val (.int (2 : Int32)), .val (.int ((0 : Int32) + (1 : Int32))), .val (.int ch1)] [])) _
    refine XS.iload X3.here hx rfl (hb hby d5_15) rfl ?_
    show Steps p.tables e below (T3.setTop (mkF m 17 #[.val (.ref r0), .val (.int ((0 : Int32) + (1 : Int32))), .val (.ref r2), .val (.int ((0 : Int32) + (1 : Int32))), .val (.int (2 : Int32)), .val (.int ((0 : Int32) + (1 : Int32))), .val (.int ch1)] [(.int ch1)])) _
    refine XS.sipush X3.here hx rfl (hb hby d5_17) ?_
    show Steps p.tables e below (T3.setTop (mkF m 20 #[.val (.ref r0), .val (.int ((0 : Int32) + (1 : Int32))), .val (.ref r2), .val (.int ((0 : Int32) + (1 : Int32))), .val (.int (2 : Int32)), .val (.int ((0 : Int32) + (1 : Int32))), .val (.int ch1)] [(.int (255 : Int32)), (.int ch1)])) _
    refine XS.icmpYes X3.here hx rfl (pc0 := 20) (pc' := 26) rfl (hb hby d5_20) rfl (flt h_ch1).2.2.2 (by decide) (by decide) ?_
    show Steps p.tables e below (T3.setTop (mkF m 26 #[.val (.ref r0), .val (.int ((0 : Int32) + (1 : Int32))), .val (.ref r2), .val (.int ((0 : Int32) + (1 : Int32))), .val (.int (2 : Int32)), .val (.int ((0 : Int32) + (1 : Int32))), .val (.int ch1)] [])) _
    refine XS.aloadN X3.here hx rfl (hb hby d5_26) rfl rfl ?_
    show Steps p.tables e below (T3.setTop (mkF m 27 #[.val (.ref r0), .val (.int ((0 : Int32) + (1 : Int32))), .val (.ref r2), .val (.int ((0 : Int32) + (1 : Int32))), .val (.int (2 : Int32)), .val (.int ((0 : Int32) + (1 : Int32))), .val (.int ch1)] [(.ref r2)])) _
    refine XS.iloadN X3.here hx rfl (hb hby d5_27) rfl ?_
    show Steps p.tables e below (T3.setTop (mkF m 28 #[.val (.ref r0), .val (.int ((0 : Int32) + (1 : Int32))), .val (.ref r2), .val (.int ((0 : Int32) + (1 : Int32))), .val (.int (2 : Int32)), .val (.int ((0 : Int32) + (1 : Int32))), .val (.int ch1)] [(.int ((0 : Int32) + (1 : Int32))), (.ref r2)])) _
    refine XS.iload X3.here hx rfl (hb hby d5_28) rfl ?_
    show Steps p.tables e below (T3.setTop (mkF m 30 #[.val (.ref r0), .val (.int ((0 : Int32) + (1 : Int32))), .val (.ref r2), .val (.int ((0 : Int32) + (1 : Int32))), .val (.int (2 : Int32)), .val (.int ((0 : Int32) + (1 : Int32))), .val (.int ch1)] [(.int ch1), (.int ((0 : Int32) + (1 : Int32))), (.ref r2)])) _
    refine XS.i2b X3.here hx rfl (hb hby d5_30) rfl ?_
    show Steps p.tables e below (T3.setTop (mkF m 31 #[.val (.ref r0), .val (.int ((0 : Int32) + (1 : Int32))), .val (.ref r2), .val (.int ((0 : Int32) + (1 : Int32))), .val (.int (2 : Int32)), .val (.int ((0 : Int32) + (1 : Int32))), .val (.int ch1)] [(.int (ch1.toInt8.toInt32)), (.int ((0 : Int32) + (1 : Int32))), (.ref r2)])) _
    refine st7 _ ?_
    show Steps p.tables e below (T7.setTop (mkF m 32 #[.val (.ref r0), .val (.int ((0 : Int32) + (1 : Int32))), .val (.ref r2), .val (.int ((0 : Int32) + (1 : Int32))), .val (.int (2 : Int32)), .val (.int ((0 : Int32) + (1 : Int32))), .val (.int ch1)] [])) _
    refine XS.iinc X7.here hx rfl (hb hby d5_32) rfl (l' := #[.val (.ref r0), .val (.int (((0 : Int32) + (1 : Int32)) + (1 : Int32))), .val (.ref r2), .val (.int ((0 : Int32) + (1 : Int32))), .val (.int (2 : Int32)), .val (.int ((0 : Int32) + (1 : Int32))), .val (.int ch1)]) rfl ?_
    show Steps p.tables e below (T7.setTop (mkF m 35 #[.val (.ref r0), .val (.int (((0 : Int32) + (1 : Int32)) + (1 : Int32))), .val (.ref r2), .val (.int ((0 : Int32) + (1 : Int32))), .val (.int (2 : Int32)), .val (.int ((0 : Int32) + (1 : Int32))), .val (.int ch1)] [])) _
    refine XS.iinc X7.here hx rfl (hb hby d5_35) rfl (l' := #[.val (.ref r0), .val (.int (((0 : Int32) + (1 : Int32)) + (1 : Int32))), .val (.ref r2), .val (.int (((0 : Int32) + (1 : Int32)) + (1 : Int32))), .val (.int (2 : Int32)), .val (.int ((0 : Int32) + (1 : Int32))), .val (.int ch1)]) rfl ?_
    show Steps p.tables e below (T7.setTop (mkF m 38 #[.val (.ref r0), .val (.int (((0 : Int32) + (1 : Int32)) + (1 : Int32))), .val (.ref r2), .val (.int (((0 : Int32) + (1 : Int32)) + (1 : Int32))), .val (.int (2 : Int32)), .val (.int ((0 : Int32) + (1 : Int32))), .val (.int ch1)] [])) _
    refine XS.iinc X7.here hx rfl (hb hby d5_38) rfl (l' := #[.val (.ref r0), .val (.int (((0 : Int32) + (1 : Int32)) + (1 : Int32))), .val (.ref r2), .val (.int (((0 : Int32) + (1 : Int32)) + (1 : Int32))), .val (.int (2 : Int32)), .val (.int (((0 : Int32) + (1 : Int32)) + (1 : Int32))), .val (.int ch1)]) rfl ?_
    show Steps p.tables e below (T7.setTop (mkF m 41 #[.val (.ref r0), .val (.int (((0 : Int32) + (1 : Int32)) + (1 : Int32))), .val (.ref r2), .val (.int (((0 : Int32) + (1 : Int32)) + (1 : Int32))), .val (.int (2 : Int32)), .val (.int (((0 : Int32) + (1 : Int32)) + (1 : Int32))), .val (.int ch1)] [])) _
    refine XS.goto X7.here hx rfl (pc0 := 41) (pc' := 3) rfl (hb hby d5_41) (by decide) (by decide) ?_
    show Steps p.tables e below (T7.setTop (mkF m 3 #[.val (.ref r0), .val (.int (((0 : Int32) + (1 : Int32)) + (1 : Int32))), .val (.ref r2), .val (.int (((0 : Int32) + (1 : Int32)) + (1 : Int32))), .val (.int (2 : Int32)), .val (.int (((0 : Int32) + (1 : Int32)) + (1 : Int32))), .val (.int ch1)] [])) _
    refine XS.iload X7.here hx rfl (hb hby d5_3) rfl ?_
    show Steps p.tables e below (T7.setTop (mkF m 5 #[.val (.ref r0), .val (.int (((0 : Int32) + (1 : Int32)) + (1 : Int32))), .val (.ref r2), .val (.int (((0 : Int32) + (1 : Int32)) + (1 : Int32))), .val (.int (2 : Int32)), .val (.int (((0 : Int32) + (1 : Int32)) + (1 : Int32))), .val (.int ch1)] [(.int (((0 : Int32) + (1 : Int32)) + (1 : Int32)))])) _
    refine XS.iload X7.here hx rfl (hb hby d5_5) rfl ?_
    show Steps p.tables e below (T7.setTop (mkF m 7 #[.val (.ref r0), .val (.int (((0 : Int32) + (1 : Int32)) + (1 : Int32))), .val (.ref r2), .val (.int (((0 : Int32) + (1 : Int32)) + (1 : Int32))), .val (.int (2 : Int32)), .val (.int (((0 : Int32) + (1 : Int32)) + (1 : Int32))), .val (.int ch1)] [(.int (2 : Int32)), (.int (((0 : Int32) + (1 : Int32)) + (1 : Int32)))])) _
    refine XS.icmpYes X7.here hx rfl (pc0 := 7) (pc' := 44) rfl (hb hby d5_7) rfl (flt (by decide)).2.1 (by decide) (by decide) ?_
    show Steps p.tables e below (T7.setTop (mkF m 44 #[.val (.ref r0), .val (.int (((0 : Int32) + (1 : Int32)) + (1 : Int32))), .val (.ref r2), .val (.int (((0 : Int32) + (1 : Int32)) + (1 : Int32))), .val (.int (2 : Int32)), .val (.int (((0 : Int32) + (1 : Int32)) + (1 : Int32))), .val (.int ch1)] [])) _
    refine XS.iload X7.here hx rfl (hb hby d5_44) rfl ?_
    show Steps p.tables e below (T7.setTop (mkF m 46 #[.val (.ref r0), .val (.int (((0 : Int32) + (1 : Int32)) + (1 : Int32))), .val (.ref r2), .val (.int (((0 : Int32) + (1 : Int32)) + (1 : Int32))), .val (.int (2 : Int32)), .val (.int (((0 : Int32) + (1 : Int32)) + (1 : Int32))), .val (.int ch1)] [(.int (2 : Int32))])) _
    exact retI X7 hx Bd.returns (hb hby d5_46) hr
  · show Q5 Z r2 kd ch0 ch1 h0 n0 _ T7.heap _
    rw [e7]
    exact ⟨rfl, N7, K7, V_r2_7⟩
def Q3 (Z : State) (ch0 ch1 : Int32) (h0 : Heap) (n0 : Nat) (v : Option Value) (h : Heap) (L : List Loc) : Prop := ∃ (b : Addr) (k : ClassId), v = some (.ref b) ∧ Fr n0 L ∧ Keep h0 h [] ∧ h0.size ≤ b ∧ Arv Z h b k .byte (2 : Int32) [(.int (nar .byte (ch0.toInt8.toInt32))), (.int (nar .byte (ch1.toInt8.toInt32)))] (.int (0 : Int32))
theorem d4_0 : decode jdk_52_method_16_code 0 = .ok (.iload_n 2, 1) := by decide +kernel
theorem d4_1 : decode jdk_52_method_16_code 1 = .ok (.newarray .byte, 2) := by decide +kernel
theorem d4_3 : decode jdk_52_method_16_code 3 = .ok (.astore_n 3, 1) := by decide +kernel
theorem d4_4 : decode jdk_52_method_16_code 4 = .ok (.aload_n 0, 1) := by decide +kernel
theorem d4_5 : decode jdk_52_method_16_code 5 = .ok (.iload_n 1, 1) := by decide +kernel
theorem d4_6 : decode jdk_52_method_16_code 6 = .ok (.aload_n 3, 1) := by decide +kernel
theorem d4_7 : decode jdk_52_method_16_code 7 = .ok (.iconst 0, 1) := by decide +kernel
theorem d4_8 : decode jdk_52_method_16_code 8 = .ok (.iload_n 2, 1) := by decide +kernel
theorem d4_9 : decode jdk_52_method_16_code 9 = .ok (.invokestatic 115, 3) := by decide +kernel
theorem d4_12 : decode jdk_52_method_16_code 12 = .ok (.istore 4, 2) := by decide +kernel
theorem d4_14 : decode jdk_52_method_16_code 14 = .ok (.iload 4, 2) := by decide +kernel
theorem d4_16 : decode jdk_52_method_16_code 16 = .ok (.iload_n 2, 1) := by decide +kernel
theorem d4_17 : decode jdk_52_method_16_code 17 = .ok (.if_icmp .eq 40, 3) := by decide +kernel
theorem d4_57 : decode jdk_52_method_16_code 57 = .ok (.aload_n 3, 1) := by decide +kernel
theorem d4_58 : decode jdk_52_method_16_code 58 = .ok (.areturn, 1) := by decide +kernel
theorem pn_4 : plainName "java/lang/StringUTF16" = true := by first | (simp [plainName, overriddenIn]; done) | decide +kernel
theorem ef_4 (m : MethodId) (x0 : Addr) (x1 : Int32) (x2 : Int32) : entryFrame m #[(.ref x0), (.int x1), (.int x2)] 6 = mkF m 0 #[.val (.ref x0), .val (.int x1), .val (.int x2), .unset, .unset, .unset] [] := by first | (simp [entryFrame, mkF, argsToLocals, Value.category]; done) | rfl
theorem pd_5 : parseMethodDescriptor "([CI[BII)I" = some ⟨[(.array .char), .int, (.array .byte), .int, .int], some .int⟩ := by decide +kernel
set_option maxRecDepth 65536 in
set_option maxHeartbeats 40000000 in
theorem rm4 (l : Launch) (Z : State) (a0 : Array Value) (hw : ∀ d ∈ tables_1, d.before a0 Z = true) (ws : List Jvm.Cond) (r0 : Addr) (kc : ClassId) (ch0 : Int32) (ch1 : Int32) (h0 : Heap) (n0 : Nat) (Z0 : n0 ≤ h0.size) (V_0 : Arv Z h0 r0 kc .char (2 : Int32) [(.int ch0), (.int ch1)] (.int (0 : Int32))) (h_ch0 : ¬ (255 : Int32) < ch0) (h_ch1 : ¬ (255 : Int32) < ch1) :
    MetFree l (⟨"java/lang/StringUTF16", "compress", "([CII)[B"⟩ : MethodName) (head1 (Jvm.Cond.code (⟨"java/lang/StringUTF16", "compress", "([CII)[B"⟩ : MethodName) jdk_52_method_16_code 6 (some (.array .byte)) :: ws) ({ frames := 1, cells := 1, slots := 2, locals := 18 } : Room)) (fun a U => a = #[(.ref r0), (.int (0 : Int32)), (.int (2 : Int32))] ∧ Z.Warmed39 U.vm ∧ U.heap = h0) (fun _ _ _ _ _ => True) (fun _ U o U' => ∃ v L, o = .returned v ∧ Q3 Z ch0 ch1 h0 n0 v U'.heap L ∧ FrameEnd U o U' L 1 2) := by
  refine MetFree.of_bodySF (plainFor_of_name pn_4) hisR ?_
  intro p e s m args below meth c s₁ Bd hml0 hP hK
  obtain ⟨rfl, hZ, hh⟩ := hP
  have hx := Bd.exec
  have hby := Bd.bytes
  have hml : c.maxLocals = 6 := hml0
  have hown : s.vm.findClass "java/lang/StringUTF16" = some m.cls := findClass_of_methodNamed Bd.named
  have hnm := (name_of_methodNamed Bd.named Bd.method).1
  have X0 : Stand p l e ({ frames := 1, cells := 1, slots := 2, locals := 18 } : Room) s m #[(.ref r0), (.int (0 : Int32)), (.int (2 : Int32))] below meth c s₁ [] 0 0 := Stand.of_body Bd
  have e0 : s₁.heap = h0 := by rw [← hh, Bd.state]; rfl
  have N0 := Fr.nil n0
  have pre0 : ∀ t, Steps p.tables e below (s₁.setTop (mkF m 0 #[.val (.ref r0), .val (.int (0 : Int32)), .val (.int (2 : Int32)), .unset, .unset, .unset] [])) t → Steps p.tables e below (s₁.setTop (entryFrame m #[(.ref r0), (.int (0 : Int32)), (.int (2 : Int32))] 6)) t := fun t k => castTop (ef_4 m r0 (0 : Int32) (2 : Int32)) k
  have K0 : Keep h0 h0 [] := Keep.refl h0 []
  obtain ⟨T1, h1, k1, X1, e1, E1, A1, st1⟩ := newP X0 hx hZ (hw _ (List.mem_of_getElem? (i := 19) rfl)) e0 (g := (mkF m 1 #[.val (.ref r0), .val (.int (0 : Int32)), .val (.int (2 : Int32)), .unset, .unset, .unset] [(.int (2 : Int32))])) rfl (hb hby d4_1) rfl (by decide) (cap := 2) (by decide) (by decide) (by decide) (by decide)
  obtain ⟨b1, g1⟩ : ∃ z, z = h0.size := ⟨_, rfl⟩
  rw [← g1] at A1 st1
  have g_b1 : n0 ≤ b1 := Nat.le_trans Z0 (Nat.le_of_eq g1.symm)
  have sz_b1 : h0.size ≤ b1 := Nat.le_trans K0.1 (Nat.le_of_eq g1.symm)
  have ne_r0_b1 : r0 ≠ b1 := Nat.ne_of_lt (Nat.lt_of_lt_of_le V_0.lt (Nat.le_of_eq g1.symm))
  have V_2 := V_0.ext E1
  have K1 : Keep h0 h1 [] := K0.ext E1
  have V_b1 : Arv Z h1 b1 k1 .byte (2 : Int32) [(.int (0 : Int32)), (.int (0 : Int32))] (.int (0 : Int32)) := (Arv.new A1 (by decide)).pad (pad_rep [] (.int (0 : Int32)) 2)
  obtain ⟨_, _, ⟨T3, L3, k3, n3⟩, -, X3, ⟨Lc3, hQ3, l3, y3, z3⟩, st3⟩ := Jvm.LawKit.callS X1 hx (y := (⟨"java/lang/StringUTF16", "compress", "([CI[BII)I"⟩ : MethodName)) hown (mvT hZ (hw _ (List.mem_of_getElem? (i := 20) rfl))) (mvT hZ (hw _ (List.mem_of_getElem? (i := 21) rfl))) (mvT hZ (hw _ (List.mem_of_getElem? (i := 17) rfl))) (mvT hZ (hw _ (List.mem_of_getElem? (i := 22) rfl))) (by decide) (backOf (W := 0) (rm5 l Z a0 hw [] r0 b1 kc k1 ch0 ch1 h1 n0 (Nat.le_trans Z0 K1.1) V_2 V_b1 ne_r0_b1 g_b1 h_ch0 h_ch1) hZ (hw _ (List.mem_of_getElem? (i := 22) rfl)) (hw _ (List.mem_of_getElem? (i := 17) rfl)) (by decide) (by decide)) (g := (mkF m 9 #[.val (.ref r0), .val (.int (0 : Int32)), .val (.int (2 : Int32)), .val (.ref b1), .unset, .unset] [(.int (2 : Int32)), (.int (0 : Int32)), (.ref b1), (.int (0 : Int32)), (.ref r0)])) rfl (by rw [hml]; rfl) (argsL := [(.ref r0), (.int (0 : Int32)), (.ref b1), (.int (0 : Int32)), (.int (2 : Int32))]) (rest := []) (lenOf pd_5 rfl) rfl (by show 2 * 0 + _ ≤ _; exact Nat.le_of_eq rfl) (hb hby d4_9) (fun _ _ => ⟨rfl, e1, (by decide : 1 + 0 ≤ _), (by decide : 2 + 0 ≤ _)⟩)
  dsimp only [Pt.U, Pt.locs, Pt.cells, Pt.slots] at X3 l3 y3 z3 st3 hQ3
  subst l3 y3 z3
  obtain ⟨rfl, N3q, K3q, V_b1_3⟩ := hQ3
  have N3 := Fr.app N0 N3q
  have K3 : Keep h0 T3.heap [] := K1.trans K3q (allS (Or.inr sz_b1) all0)
  have V_4 := V_2.keep K3q (ninS ne_r0_b1 nin0)
  obtain ⟨fs, hr, hrun, hended, hW, hsame⟩ := X3.leave (v := (some (.ref b1))) (fun h => by rw [Bd.returns] at h; cases h)
  refine ⟨_, _, pre0 _ ?_, hrun, hended, _, _, rfl, ?_, ⟨_, rfl⟩, hW, hsame.mono (by decide) (by decide)⟩
  · show Steps p.tables e below (s₁.setTop (mkF m 0 #[.val (.ref r0), .val (.int (0 : Int32)), .val (.int (2 : Int32)), .unset, .unset, .unset] [])) _
    refine XS.iloadN X0.here hx rfl (hb hby d4_0) rfl ?_
    show Steps p.tables e below (s₁.setTop (mkF m 1 #[.val (.ref r0), .val (.int (0 : Int32)), .val (.int (2 : Int32)), .unset, .unset, .unset] [(.int (2 : Int32))])) _
    refine st1 _ ?_
    show Steps p.tables e below (T1.setTop (mkF m 3 #[.val (.ref r0), .val (.int (0 : Int32)), .val (.int (2 : Int32)), .unset, .unset, .unset] [(.ref b1)])) _
    refine XS.astoreN X1.here hx rfl (hb hby d4_3) rfl rfl (l' := #[.val (.ref r0), .val (.int (0 : Int32)), .val (.int (2 : Int32)), .val (.ref b1), .unset, .unset]) rfl ?_
    show Steps p.tables e below (T1.setTop (mkF m 4 #[.val (.ref r0), .val (.int (0 : Int32)), .val (.int (2 : Int32)), .val (.ref b1), .unset, .unset] [])) _
    refine XS.aloadN X1.here hx rfl (hb hby d4_4) rfl rfl ?_
    show Steps p.tables e below (T1.setTop (mkF m 5 #[.val (.ref r0), .val (.int (0 : Int32)), .val (.int (2 : Int32)), .val (.ref b1), .unset, .unset] [(.ref r0)])) _
    refine XS.iloadN X1.here hx rfl (hb hby d4_5) rfl ?_
    show Steps p.tables e below (T1.setTop (mkF m 6 #[.val (.ref r0), .val (.int (0 : Int32)), .val (.int (2 : Int32)), .val (.ref b1), .unset, .unset] [(.int (0 : Int32)), (.ref r0)])) _
    refine XS.aloadN X1.here hx rfl (hb hby d4_6) rfl rfl ?_
    show Steps p.tables e below (T1.setTop (mkF m 7 #[.val (.ref r0), .val (.int (0 : Int32)), .val (.int (2 : Int32)), .val (.ref b1), .unset, .unset] [(.ref b1), (.int (0 : Int32)), (.ref r0)])) _
    refine XS.iconst X1.here hx rfl (hb hby d4_7) ?_
    show Steps p.tables e below (T1.setTop (mkF m 8 #[.val (.ref r0), .val (.int (0 : Int32)), .val (.int (2 : Int32)), .val (.ref b1), .unset, .unset] [(.int (0 : Int32)), (.ref b1), (.int (0 : Int32)), (.ref r0)])) _
    refine XS.iloadN X1.here hx rfl (hb hby d4_8) rfl ?_
    show Steps p.tables e below (T1.setTop (mkF m 9 #[.val (.ref r0), .val (.int (0 : Int32)), .val (.int (2 : Int32)), .val (.ref b1), .unset, .unset] [(.int (2 : Int32)), (.int (0 : Int32)), (.ref b1), (.int (0 : Int32)), (.ref r0)])) _
    refine st3 _ ?_
    show Steps p.tables e below (T3.setTop (mkF m 12 #[.val (.ref r0), .val (.int (0 : Int32)), .val (.int (2 : Int32)), .val (.ref b1), .unset, .unset] [(.int (2 : Int32))])) _
    refine XS.istore X3.here hx rfl (hb hby d4_12) rfl (l' := #[.val (.ref r0), .val (.int (0 : Int32)), .val (.int (2 : Int32)), .val (.ref b1), .val (.int (2 : Int32)), .unset]) rfl ?_
    show Steps p.tables e below (T3.setTop (mkF m 14 #[.val (.ref r0), .val (.int (0 : Int32)), .val (.int (2 : Int32)), .val (.ref b1), .val (.int (2 : Int32)), .unset] [])) _
    refine XS.iload X3.here hx rfl (hb hby d4_14) rfl ?_
    show Steps p.tables e below (T3.setTop (mkF m 16 #[.val (.ref r0), .val (.int (0 : Int32)), .val (.int (2 : Int32)), .val (.ref b1), .val (.int (2 : Int32)), .unset] [(.int (2 : Int32))])) _
    refine XS.iloadN X3.here hx rfl (hb hby d4_16) rfl ?_
    show Steps p.tables e below (T3.setTop (mkF m 17 #[.val (.ref r0), .val (.int (0 : Int32)), .val (.int (2 : Int32)), .val (.ref b1), .val (.int (2 : Int32)), .unset] [(.int (2 : Int32)), (.int (2 : Int32))])) _
    refine XS.icmpYes X3.here hx rfl (pc0 := 17) (pc' := 57) rfl (hb hby d4_17) rfl (teq (rfl : (2 : Int32) = (2 : Int32))).1 (by decide) (by decide) ?_
    show Steps p.tables e below (T3.setTop (mkF m 57 #[.val (.ref r0), .val (.int (0 : Int32)), .val (.int (2 : Int32)), .val (.ref b1), .val (.int (2 : Int32)), .unset] [])) _
    refine XS.aloadN X3.here hx rfl (hb hby d4_57) rfl rfl ?_
    show Steps p.tables e below (T3.setTop (mkF m 58 #[.val (.ref r0), .val (.int (0 : Int32)), .val (.int (2 : Int32)), .val (.ref b1), .val (.int (2 : Int32)), .unset] [(.ref b1)])) _
    exact retOut X3 hx Bd.returns rfl (Or.inr (Or.inr (Or.inr (Or.inr ⟨rfl, rfl, rfl⟩)))) (hb hby d4_58) hr
  · show Q3 Z ch0 ch1 h0 n0 _ T3.heap _
    exact ⟨_, _, rfl, N3, K3, sz_b1, V_b1_3⟩
theorem d6_0 : decode jdk_52_method_15_code 0 = .ok (.iload_n 1, 1) := by decide +kernel
theorem d6_1 : decode jdk_52_method_15_code 1 = .ok (.aload_n 0, 1) := by decide +kernel
theorem d6_2 : decode jdk_52_method_15_code 2 = .ok (.arraylength, 1) := by decide +kernel
theorem d6_3 : decode jdk_52_method_15_code 3 = .ok (.isub, 1) := by decide +kernel
theorem d6_4 : decode jdk_52_method_15_code 4 = .ok (.bipush 31, 2) := by decide +kernel
theorem d6_6 : decode jdk_52_method_15_code 6 = .ok (.iushr, 1) := by decide +kernel
theorem d6_7 : decode jdk_52_method_15_code 7 = .ok (.i2b, 1) := by decide +kernel
theorem d6_8 : decode jdk_52_method_15_code 8 = .ok (.ireturn, 1) := by decide +kernel
theorem pn_6 : plainName "java/lang/StringUTF16" = true := by first | (simp [plainName, overriddenIn]; done) | decide +kernel
theorem ef_6 (m : MethodId) (x0 : Addr) (x1 : Int32) : entryFrame m #[(.ref x0), (.int x1)] 2 = mkF m 0 #[.val (.ref x0), .val (.int x1)] [] := by first | (simp [entryFrame, mkF, argsToLocals, Value.category]; done) | rfl
set_option maxRecDepth 65536 in
set_option maxHeartbeats 40000000 in
theorem rm6 (l : Launch) (Z : State) (a0 : Array Value) (hw : ∀ d ∈ tables_1, d.before a0 Z = true) (ws : List Jvm.Cond) (r0 : Addr) (kc : ClassId) (n : Int32) (vs : List Value) (h0 : Heap) (n0 : Nat) (Z0 : n0 ≤ h0.size) (V_0 : Arv Z h0 r0 kc .byte n vs (.int (0 : Int32))) :
    MetFree l (⟨"java/lang/StringUTF16", "coderFromArrayLen", "([BI)B"⟩ : MethodName) (head1 (Jvm.Cond.code (⟨"java/lang/StringUTF16", "coderFromArrayLen", "([BI)B"⟩ : MethodName) jdk_52_method_15_code 2 (some .byte) :: ws) ({ frames := 0, cells := 0, slots := 0, locals := 0 } : Room)) (fun a U => a = #[(.ref r0), (.int (2 : Int32))] ∧ Z.Warmed39 U.vm ∧ U.heap = h0) (fun _ _ _ _ _ => True) (fun _ U o U' => ∃ v L, o = .returned v ∧ QP (some (.int (nar .byte ((((((2 : Int32) - n).toUInt32 >>> ((31 : Int32) &&& 31).toUInt32).toInt32)).toInt8.toInt32)))) h0 n0 v U'.heap L ∧ FrameEnd U o U' L 0 0) := by
  refine MetFree.of_bodySF (plainFor_of_name pn_6) hisR ?_
  intro p e s m args below meth c s₁ Bd hml0 hP hK
  obtain ⟨rfl, hZ, hh⟩ := hP
  have hx := Bd.exec
  have hby := Bd.bytes
  have hml : c.maxLocals = 2 := hml0
  have hown : s.vm.findClass "java/lang/StringUTF16" = some m.cls := findClass_of_methodNamed Bd.named
  have hnm := (name_of_methodNamed Bd.named Bd.method).1
  have X0 : Stand p l e ({ frames := 0, cells := 0, slots := 0, locals := 0 } : Room) s m #[(.ref r0), (.int (2 : Int32))] below meth c s₁ [] 0 0 := Stand.of_body Bd
  have e0 : s₁.heap = h0 := by rw [← hh, Bd.state]; rfl
  have N0 := Fr.nil n0
  have pre0 : ∀ t, Steps p.tables e below (s₁.setTop (mkF m 0 #[.val (.ref r0), .val (.int (2 : Int32))] [])) t → Steps p.tables e below (s₁.setTop (entryFrame m #[(.ref r0), (.int (2 : Int32))] 2)) t := fun t k => castTop (ef_6 m r0 (2 : Int32)) k
  obtain ⟨c1, Ar1, -, S1, N1n, -, -⟩ := id V_0
  obtain ⟨fs, hr, hrun, hended, hW, hsame⟩ := X0.leave (v := (some (.int (nar .byte (((((2 : Int32) - n).toUInt32 >>> ((31 : Int32) &&& 31).toUInt32).toInt32).toInt8.toInt32))))) (fun h => by rw [Bd.returns] at h; cases h)
  refine ⟨_, _, pre0 _ ?_, hrun, hended, _, _, rfl, ?_, ⟨_, rfl⟩, hW, hsame.mono (by decide) (by decide)⟩
  · show Steps p.tables e below (s₁.setTop (mkF m 0 #[.val (.ref r0), .val (.int (2 : Int32))] [])) _
    refine XS.iloadN X0.here hx rfl (hb hby d6_0) rfl ?_
    show Steps p.tables e below (s₁.setTop (mkF m 1 #[.val (.ref r0), .val (.int (2 : Int32))] [(.int (2 : Int32))])) _
    refine XS.aloadN X0.here hx rfl (hb hby d6_1) rfl rfl ?_
    show Steps p.tables e below (s₁.setTop (mkF m 2 #[.val (.ref r0), .val (.int (2 : Int32))] [(.ref r0), (.int (2 : Int32))])) _
    refine X0.arraylength hx (by rw [e0]; exact Ar1.1) (State.isArrayOf_alike hZ.alike Ar1.2.1) (g := (mkF m 2 #[.val (.ref r0), .val (.int (2 : Int32))] [(.ref r0), (.int (2 : Int32))])) rfl rfl (hb hby d6_2) _ ?_
    rw [len_of S1 N1n]
    show Steps p.tables e below (s₁.setTop (mkF m 3 #[.val (.ref r0), .val (.int (2 : Int32))] [(.int n), (.int (2 : Int32))])) _
    refine XS.isub X0.here hx rfl (hb hby d6_3) rfl ?_
    show Steps p.tables e below (s₁.setTop (mkF m 4 #[.val (.ref r0), .val (.int (2 : Int32))] [(.int ((2 : Int32) - n))])) _
    refine XS.bipush X0.here hx rfl (hb hby d6_4) ?_
    show Steps p.tables e below (s₁.setTop (mkF m 6 #[.val (.ref r0), .val (.int (2 : Int32))] [(.int (31 : Int32)), (.int ((2 : Int32) - n))])) _
    refine XS.iushr X0.here hx rfl (hb hby d6_6) rfl ?_
    show Steps p.tables e below (s₁.setTop (mkF m 7 #[.val (.ref r0), .val (.int (2 : Int32))] [(.int ((((2 : Int32) - n).toUInt32 >>> ((31 : Int32) &&& 31).toUInt32).toInt32))])) _
    refine XS.i2b X0.here hx rfl (hb hby d6_7) rfl ?_
    show Steps p.tables e below (s₁.setTop (mkF m 8 #[.val (.ref r0), .val (.int (2 : Int32))] [(.int (((((2 : Int32) - n).toUInt32 >>> ((31 : Int32) &&& 31).toUInt32).toInt32).toInt8.toInt32))])) _
    exact retN X0 hx (t := .byte) Bd.returns (by simp) (hb hby d6_8) hr
  · show QP (some (.int (nar .byte ((((((2 : Int32) - n).toUInt32 >>> ((31 : Int32) &&& 31).toUInt32).toInt32)).toInt8.toInt32)))) h0 n0 _ s₁.heap _
    rw [e0]
    exact ⟨rfl, N0, rfl⟩
def QW (Z : State) (r0 : Addr) (h0 : Heap) (n0 : Nat) (v : Option Value) (h : Heap) (L : List Loc) : Prop := ∃ (rb : Addr) (kb : ClassId) (nb : Int32) (vs : List Value) (cd : Int32), v = none ∧ Fr n0 L ∧ Keep h0 h [r0] ∧ Exa Z h r0 "java/lang/String" ∧ Fld Z h r0 "java/lang/String" "value" "[B" (.ref rb) ∧ Fld Z h r0 "java/lang/String" "coder" "B" (.int cd) ∧ Arv Z h rb kb .byte nb vs (.int (0 : Int32))
theorem d2_0 : decode jdk_42_method_149_code 0 = .ok (.aload_n 0, 1) := by decide +kernel
theorem d2_1 : decode jdk_42_method_149_code 1 = .ok (.invokespecial 1, 3) := by decide +kernel
theorem d2_4 : decode jdk_42_method_149_code 4 = .ok (.iload_n 3, 1) := by decide +kernel
theorem d2_5 : decode jdk_42_method_149_code 5 = .ok (.ifCond .ne 22, 3) := by decide +kernel
theorem d2_27 : decode jdk_42_method_149_code 27 = .ok (.getstatic 38, 3) := by decide +kernel
theorem d2_30 : decode jdk_42_method_149_code 30 = .ok (.ifCond .eq 28, 3) := by decide +kernel
theorem d2_33 : decode jdk_42_method_149_code 33 = .ok (.aload_n 1, 1) := by decide +kernel
theorem d2_34 : decode jdk_42_method_149_code 34 = .ok (.iload_n 2, 1) := by decide +kernel
theorem d2_35 : decode jdk_42_method_149_code 35 = .ok (.iload_n 3, 1) := by decide +kernel
theorem d2_36 : decode jdk_42_method_149_code 36 = .ok (.invokestatic 177, 3) := by decide +kernel
theorem d2_39 : decode jdk_42_method_149_code 39 = .ok (.astore 5, 2) := by decide +kernel
theorem d2_41 : decode jdk_42_method_149_code 41 = .ok (.aload_n 0, 1) := by decide +kernel
theorem d2_42 : decode jdk_42_method_149_code 42 = .ok (.aload 5, 2) := by decide +kernel
theorem d2_44 : decode jdk_42_method_149_code 44 = .ok (.iload_n 3, 1) := by decide +kernel
theorem d2_45 : decode jdk_42_method_149_code 45 = .ok (.invokestatic 47, 3) := by decide +kernel
theorem d2_48 : decode jdk_42_method_149_code 48 = .ok (.putfield 15, 3) := by decide +kernel
theorem d2_51 : decode jdk_42_method_149_code 51 = .ok (.aload_n 0, 1) := by decide +kernel
theorem d2_52 : decode jdk_42_method_149_code 52 = .ok (.aload 5, 2) := by decide +kernel
theorem d2_54 : decode jdk_42_method_149_code 54 = .ok (.putfield 9, 3) := by decide +kernel
theorem d2_57 : decode jdk_42_method_149_code 57 = .ok (.return_, 1) := by decide +kernel
theorem pn_2 : plainName "java/lang/String" = true := by first | (simp [plainName, overriddenIn]; done) | decide +kernel
theorem ef_2 (m : MethodId) (x0 : Addr) (x1 : Addr) (x2 : Int32) (x3 : Int32) : entryFrame m #[(.ref x0), (.ref x1), (.int x2), (.int x3), .null] 6 = mkF m 0 #[.val (.ref x0), .val (.ref x1), .val (.int x2), .val (.int x3), .val .null, .unset] [] := by first | (simp [entryFrame, mkF, argsToLocals, Value.category]; done) | rfl
theorem pd_6 : parseMethodDescriptor "([CII)[B" = some ⟨[(.array .char), .int, .int], some (.array .byte)⟩ := by decide +kernel
theorem pd_7 : parseMethodDescriptor "([BI)B" = some ⟨[(.array .byte), .int], some .byte⟩ := by decide +kernel
set_option maxRecDepth 65536 in
set_option maxHeartbeats 40000000 in
theorem rm2 (l : Launch) (Z : State) (a0 : Array Value) (hw : ∀ d ∈ tables_1, d.before a0 Z = true) (ws : List Jvm.Cond) (r0 : Addr) (r1 : Addr) (kc : ClassId) (ch0 : Int32) (ch1 : Int32) (cs : Int32) (h0 : Heap) (n0 : Nat) (Z0 : n0 ≤ h0.size) (E_r : Exa Z h0 r0 "java/lang/String") (F_value : Fld Z h0 r0 "java/lang/String" "value" "[B" .null) (F_coder : Fld Z h0 r0 "java/lang/String" "coder" "B" (.int (0 : Int32))) (g_r0 : n0 ≤ r0) (V_0 : Arv Z h0 r1 kc .char (2 : Int32) [(.int ch0), (.int ch1)] (.int (0 : Int32))) (n_10 : r1 ≠ r0) (S_C : Sta Z h0 "java/lang/String" "COMPACT_STRINGS" "Z" (.int cs)) (hcs : ¬ cs = 0) (h_ch0 : ¬ (255 : Int32) < ch0) (h_ch1 : ¬ (255 : Int32) < ch1) :
    MetFree l (⟨"java/lang/String", "<init>", "([CIILjava/lang/Void;)V"⟩ : MethodName) (head1 (Jvm.Cond.code (⟨"java/lang/String", "<init>", "([CIILjava/lang/Void;)V"⟩ : MethodName) jdk_42_method_149_code 6 none :: ws) ({ frames := 2, cells := 1, slots := 2, locals := 36 } : Room)) (fun a U => a = #[(.ref r0), (.ref r1), (.int (0 : Int32)), (.int (2 : Int32)), .null] ∧ Z.Warmed39 U.vm ∧ U.heap = h0) (fun _ _ _ _ _ => True) (fun _ U o U' => ∃ v L, o = .returned v ∧ QW Z r0 h0 n0 v U'.heap L ∧ FrameEnd U o U' L 1 2) := by
  refine MetFree.of_bodySF (plainFor_of_name pn_2) hisR ?_
  intro p e s m args below meth c s₁ Bd hml0 hP hK
  obtain ⟨rfl, hZ, hh⟩ := hP
  have hx := Bd.exec
  have hby := Bd.bytes
  have hml : c.maxLocals = 6 := hml0
  have hown : s.vm.findClass "java/lang/String" = some m.cls := findClass_of_methodNamed Bd.named
  have hnm := (name_of_methodNamed Bd.named Bd.method).1
  have X0 : Stand p l e ({ frames := 2, cells := 1, slots := 2, locals := 36 } : Room) s m #[(.ref r0), (.ref r1), (.int (0 : Int32)), (.int (2 : Int32)), .null] below meth c s₁ [] 0 0 := Stand.of_body Bd
  have e0 : s₁.heap = h0 := by rw [← hh, Bd.state]; rfl
  have N0 := Fr.nil n0
  have pre0 : ∀ t, Steps p.tables e below (s₁.setTop (mkF m 0 #[.val (.ref r0), .val (.ref r1), .val (.int (0 : Int32)), .val (.int (2 : Int32)), .val .null, .unset] [])) t → Steps p.tables e below (s₁.setTop (entryFrame m #[(.ref r0), (.ref r1), (.int (0 : Int32)), (.int (2 : Int32)), .null] 6)) t := fun t k => castTop (ef_2 m r0 r1 (0 : Int32) (2 : Int32)) k
  have K0 : Keep h0 h0 [r0] := Keep.refl h0 [r0]
  obtain ⟨T1, X1, e1, st1⟩ := initO X0 hx hZ hown (hw _ (List.mem_of_getElem? (i := 11) rfl)) (hw _ (List.mem_of_getElem? (i := 12) rfl)) (hw _ (List.mem_of_getElem? (i := 13) rfl)) e0 (g := (mkF m 1 #[.val (.ref r0), .val (.ref r1), .val (.int (0 : Int32)), .val (.int (2 : Int32)), .val .null, .unset] [(.ref r0)])) rfl (by rw [hml]; rfl) rfl (hb hby d2_1) (by decide) (W := 0) (by show 2 * 0 + _ ≤ _; exact Nat.le_of_eq rfl) (by decide)
  obtain ⟨T2, X2, e2, st2⟩ := getS2 X1 hx hZ hown (host := "") (Or.inl (hw _ (List.mem_of_getElem? (i := 14) rfl))) Via.refl e1 S_C (g := (mkF m 27 #[.val (.ref r0), .val (.ref r1), .val (.int (0 : Int32)), .val (.int (2 : Int32)), .val .null, .unset] [])) rfl (hb hby d2_27)
  obtain ⟨_, _, ⟨T3, L3, k3, n3⟩, -, X3, ⟨Lc3, hQ3, l3, y3, z3⟩, st3⟩ := Jvm.LawKit.callS X2 hx (y := (⟨"java/lang/StringUTF16", "compress", "([CII)[B"⟩ : MethodName)) hown (mvT hZ (hw _ (List.mem_of_getElem? (i := 15) rfl))) (mvT hZ (hw _ (List.mem_of_getElem? (i := 16) rfl))) (mvT hZ (hw _ (List.mem_of_getElem? (i := 17) rfl))) (mvT hZ (hw _ (List.mem_of_getElem? (i := 18) rfl))) (by decide) (backOf (W := 0) (rm4 l Z a0 hw [] r1 kc ch0 ch1 h0 n0 Z0 V_0 h_ch0 h_ch1) hZ (hw _ (List.mem_of_getElem? (i := 18) rfl)) (hw _ (List.mem_of_getElem? (i := 17) rfl)) (by decide) (by decide)) (g := (mkF m 36 #[.val (.ref r0), .val (.ref r1), .val (.int (0 : Int32)), .val (.int (2 : Int32)), .val .null, .unset] [(.int (2 : Int32)), (.int (0 : Int32)), (.ref r1)])) rfl (by rw [hml]; rfl) (argsL := [(.ref r1), (.int (0 : Int32)), (.int (2 : Int32))]) (rest := []) (lenOf pd_6 rfl) rfl (by show 2 * 0 + _ ≤ _; exact Nat.le_of_eq rfl) (hb hby d2_36) (fun _ _ => ⟨rfl, e2, (by decide : 0 + 1 ≤ _), (by decide : 0 + 2 ≤ _)⟩)
  dsimp only [Pt.U, Pt.locs, Pt.cells, Pt.slots] at X3 l3 y3 z3 st3 hQ3
  subst l3 y3 z3
  obtain ⟨b3, kb3, rfl, N3q, K3q, sq3, V_b3⟩ := hQ3
  have N3 := Fr.app N0 N3q
  have K3 : Keep h0 T3.heap [r0] := K0.trans K3q all0
  have ne_r0_b3 : r0 ≠ b3 := Nat.ne_of_lt (Nat.lt_of_lt_of_le E_r.lt sq3)
  have E_r_4 := E_r.keep K3q
  have F_value_5 := F_value.keep K3q nin0
  have F_coder_6 := F_coder.keep K3q nin0
  have V_7 := V_0.keep K3q nin0
  obtain ⟨_, _, ⟨T8, L8, k8, n8⟩, -, X8, ⟨Lc8, hQ8, l8, y8, z8⟩, st8⟩ := Jvm.LawKit.callS X3 hx (y := (⟨"java/lang/StringUTF16", "coderFromArrayLen", "([BI)B"⟩ : MethodName)) hown (mvT hZ (hw _ (List.mem_of_getElem? (i := 23) rfl))) (mvT hZ (hw _ (List.mem_of_getElem? (i := 24) rfl))) (mvT hZ (hw _ (List.mem_of_getElem? (i := 17) rfl))) (mvT hZ (hw _ (List.mem_of_getElem? (i := 25) rfl))) (by decide) (backOf (W := 1) (rm6 l Z a0 hw [] b3 kb3 (2 : Int32) [(.int (nar .byte (ch0.toInt8.toInt32))), (.int (nar .byte (ch1.toInt8.toInt32)))] T3.heap n0 (Nat.le_trans Z0 K3.1) V_b3) hZ (hw _ (List.mem_of_getElem? (i := 25) rfl)) (hw _ (List.mem_of_getElem? (i := 17) rfl)) (by decide) (by decide)) (g := (mkF m 45 #[.val (.ref r0), .val (.ref r1), .val (.int (0 : Int32)), .val (.int (2 : Int32)), .val .null, .val (.ref b3)] [(.int (2 : Int32)), (.ref b3), (.ref r0)])) rfl (by rw [hml]; rfl) (argsL := [(.ref b3), (.int (2 : Int32))]) (rest := [(.ref r0)]) (lenOf pd_7 rfl) rfl (by show 2 * 0 + _ ≤ _; exact Nat.le_of_eq rfl) (hb hby d2_45) (fun _ _ => ⟨rfl, rfl, (by decide : 1 + 0 ≤ _), (by decide : 2 + 0 ≤ _)⟩)
  dsimp only [Pt.U, Pt.locs, Pt.cells, Pt.slots] at X8 l8 y8 z8 st8 hQ8
  subst l8 y8 z8
  obtain ⟨rfl, N8q, e8⟩ := hQ8
  have N8 := Fr.app N3 N8q
  obtain ⟨T9, h9, X9, e9, W9, st9⟩ := putFN X8 hx hZ hown (hw _ (List.mem_of_getElem? (i := 26) rfl)) Via.refl e8 F_coder_6 E_r_4 (Or.inr ⟨(hw _ (List.mem_of_getElem? (i := 27) rfl)), rfl, hnm⟩) (hw _ (List.mem_of_getElem? (i := 1) rfl)) (ty := .byte) (v' := (.int (nar .byte (nar .byte ((((((2 : Int32) - (2 : Int32)).toUInt32 >>> ((31 : Int32) &&& 31).toUInt32).toInt32)).toInt8.toInt32))))) (by decide) rfl (fits_nar_byte _) (g := (mkF m 48 #[.val (.ref r0), .val (.ref r1), .val (.int (0 : Int32)), .val (.int (2 : Int32)), .val .null, .val (.ref b3)] [(.int (nar .byte ((((((2 : Int32) - (2 : Int32)).toUInt32 >>> ((31 : Int32) &&& 31).toUInt32).toInt32)).toInt8.toInt32))), (.ref r0)])) rfl rfl (hb hby d2_48)
  have F_coder_r0_9 := F_coder_6.same W9
  have E_r_10 := E_r_4.wr W9
  have F_value_11 := F_value_5.other W9 (Or.inr (slot_ne (Or.inr (hw _ (List.mem_of_getElem? (i := 29) rfl))) (Or.inr (hw _ (List.mem_of_getElem? (i := 27) rfl))) (by decide) (t := (.array .byte)) (t' := .byte) (by decide) (by decide)))
  have V_12 := V_7.other W9 n_10
  have V_b3_13 := V_b3.other W9 (Ne.symm ne_r0_b3)
  have K9 : Keep h0 h9 [r0] := K3.wr W9 (Or.inl (List.mem_of_getElem? (i := 0) rfl))
  have N9 := Fr.snoc X9 N8 g_r0
  obtain ⟨T14, h14, X14, e14, W14, st14⟩ := putF X9 hx hZ hown (host := "") (Or.inl (hw _ (List.mem_of_getElem? (i := 28) rfl))) Via.refl e9 F_value_11 E_r_10 (Or.inr ⟨(hw _ (List.mem_of_getElem? (i := 29) rfl)), rfl, hnm⟩) (hw _ (List.mem_of_getElem? (i := 1) rfl)) (ty := (.array .byte)) (by decide) rfl rfl (g := (mkF m 54 #[.val (.ref r0), .val (.ref r1), .val (.int (0 : Int32)), .val (.int (2 : Int32)), .val .null, .val (.ref b3)] [(.ref b3), (.ref r0)])) rfl rfl (hb hby d2_54)
  have F_value_r0_14 := F_value_11.same W14
  have E_r_15 := E_r_10.wr W14
  have F_coder_r0_16 := F_coder_r0_9.other W14 (Or.inr (slot_ne (Or.inr (hw _ (List.mem_of_getElem? (i := 27) rfl))) (Or.inr (hw _ (List.mem_of_getElem? (i := 29) rfl))) (by decide) (t := .byte) (t' := (.array .byte)) (by decide) (by decide)))
  have V_17 := V_12.other W14 n_10
  have V_b3_18 := V_b3_13.other W14 (Ne.symm ne_r0_b3)
  have K14 : Keep h0 h14 [r0] := K9.wr W14 (Or.inl (List.mem_of_getElem? (i := 0) rfl))
  have N14 := Fr.snoc X14 N9 g_r0
  obtain ⟨fs, hr, hrun, hended, hW, hsame⟩ := X14.leave (v := none) (fun _ => rfl)
  refine ⟨_, _, pre0 _ ?_, hrun, hended, _, _, rfl, ?_, ⟨_, rfl⟩, hW, hsame.mono (by decide) (by decide)⟩
  · show Steps p.tables e below (s₁.setTop (mkF m 0 #[.val (.ref r0), .val (.ref r1), .val (.int (0 : Int32)), .val (.int (2 : Int32)), .val .null, .unset] [])) _
    refine XS.aloadN X0.here hx rfl (hb hby d2_0) rfl rfl ?_
    show Steps p.tables e below (s₁.setTop (mkF m 1 #[.val (.ref r0), .val (.ref r1), .val (.int (0 : Int32)), .val (.int (2 : Int32)), .val .null, .unset] [(.ref r0)])) _
    refine st1 _ ?_
    show Steps p.tables e below (T1.setTop (mkF m 4 #[.val (.ref r0), .val (.ref r1), .val (.int (0 : Int32)), .val (.int (2 : Int32)), .val .null, .unset] [])) _
    refine XS.iloadN X1.here hx rfl (hb hby d2_4) rfl ?_
    show Steps p.tables e below (T1.setTop (mkF m 5 #[.val (.ref r0), .val (.ref r1), .val (.int (0 : Int32)), .val (.int (2 : Int32)), .val .null, .unset] [(.int (2 : Int32))])) _
    refine XS.ifYes X1.here hx rfl (pc0 := 5) (pc' := 27) rfl (hb hby d2_5) rfl ((if0 _ _).trans (feq (by decide : ¬ ((2 : Int32) = (0 : Int32)))).2) (by decide) (by decide) ?_
    show Steps p.tables e below (T1.setTop (mkF m 27 #[.val (.ref r0), .val (.ref r1), .val (.int (0 : Int32)), .val (.int (2 : Int32)), .val .null, .unset] [])) _
    refine st2 _ ?_
    show Steps p.tables e below (T2.setTop (mkF m 30 #[.val (.ref r0), .val (.ref r1), .val (.int (0 : Int32)), .val (.int (2 : Int32)), .val .null, .unset] [(.int cs)])) _
    refine XS.ifNo X2.here hx rfl (hb hby d2_30) rfl ((if0 _ _).trans (feq hcs).1) ?_
    show Steps p.tables e below (T2.setTop (mkF m 33 #[.val (.ref r0), .val (.ref r1), .val (.int (0 : Int32)), .val (.int (2 : Int32)), .val .null, .unset] [])) _
    refine XS.aloadN X2.here hx rfl (hb hby d2_33) rfl rfl ?_
    show Steps p.tables e below (T2.setTop (mkF m 34 #[.val (.ref r0), .val (.ref r1), .val (.int (0 : Int32)), .val (.int (2 : Int32)), .val .null, .unset] [(.ref r1)])) _
    refine XS.iloadN X2.here hx rfl (hb hby d2_34) rfl ?_
    show Steps p.tables e below (T2.setTop (mkF m 35 #[.val (.ref r0), .val (.ref r1), .val (.int (0 : Int32)), .val (.int (2 : Int32)), .val .null, .unset] [(.int (0 : Int32)), (.ref r1)])) _
    refine XS.iloadN X2.here hx rfl (hb hby d2_35) rfl ?_
    show Steps p.tables e below (T2.setTop (mkF m 36 #[.val (.ref r0), .val (.ref r1), .val (.int (0 : Int32)), .val (.int (2 : Int32)), .val .null, .unset] [(.int (2 : Int32)), (.int (0 : Int32)), (.ref r1)])) _
    refine st3 _ ?_
    show Steps p.tables e below (T3.setTop (mkF m 39 #[.val (.ref r0), .val (.ref r1), .val (.int (0 : Int32)), .val (.int (2 : Int32)), .val .null, .unset] [(.ref b3)])) _
    refine XS.astore X3.here hx rfl (hb hby d2_39) rfl rfl (l' := #[.val (.ref r0), .val (.ref r1), .val (.int (0 : Int32)), .val (.int (2 : Int32)), .val .null, .val (.ref b3)]) rfl ?_
    show Steps p.tables e below (T3.setTop (mkF m 41 #[.val (.ref r0), .val (.ref r1), .val (.int (0 : Int32)), .val (.int (2 : Int32)), .val .null, .val (.ref b3)] [])) _
    refine XS.aloadN X3.here hx rfl (hb hby d2_41) rfl rfl ?_
    show Steps p.tables e below (T3.setTop (mkF m 42 #[.val (.ref r0), .val (.ref r1), .val (.int (0 : Int32)), .val (.int (2 : Int32)), .val .null, .val (.ref b3)] [(.ref r0)])) _
    refine XS.aload X3.here hx rfl (hb hby d2_42) rfl rfl ?_
    show Steps p.tables e below (T3.setTop (mkF m 44 #[.val (.ref r0), .val (.ref r1), .val (.int (0 : Int32)), .val (.int (2 : Int32)), .val .null, .val (.ref b3)] [(.ref b3), (.ref r0)])) _
    refine XS.iloadN X3.here hx rfl (hb hby d2_44) rfl ?_
    show Steps p.tables e below (T3.setTop (mkF m 45 #[.val (.ref r0), .val (.ref r1), .val (.int (0 : Int32)), .val (.int (2 : Int32)), .val .null, .val (.ref b3)] [(.int (2 : Int32)), (.ref b3), (.ref r0)])) _
    refine st8 _ ?_
    show Steps p.tables e below (T8.setTop (mkF m 48 #[.val (.ref r0), .val (.ref r1), .val (.int (0 : Int32)), .val (.int (2 : Int32)), .val .null, .val (.ref b3)] [(.int (nar .byte ((((((2 : Int32) - (2 : Int32)).toUInt32 >>> ((31 : Int32) &&& 31).toUInt32).toInt32)).toInt8.toInt32))), (.ref r0)])) _
    refine st9 _ ?_
    show Steps p.tables e below (T9.setTop (mkF m 51 #[.val (.ref r0), .val (.ref r1), .val (.int (0 : Int32)), .val (.int (2 : Int32)), .val .null, .val (.ref b3)] [])) _
    refine XS.aloadN X9.here hx rfl (hb hby d2_51) rfl rfl ?_
    show Steps p.tables e below (T9.setTop (mkF m 52 #[.val (.ref r0), .val (.ref r1), .val (.int (0 : Int32)), .val (.int (2 : Int32)), .val .null, .val (.ref b3)] [(.ref r0)])) _
    refine XS.aload X9.here hx rfl (hb hby d2_52) rfl rfl ?_
    show Steps p.tables e below (T9.setTop (mkF m 54 #[.val (.ref r0), .val (.ref r1), .val (.int (0 : Int32)), .val (.int (2 : Int32)), .val .null, .val (.ref b3)] [(.ref b3), (.ref r0)])) _
    refine st14 _ ?_
    show Steps p.tables e below (T14.setTop (mkF m 57 #[.val (.ref r0), .val (.ref r1), .val (.int (0 : Int32)), .val (.int (2 : Int32)), .val .null, .val (.ref b3)] [])) _
    exact X14.returnOut hx Bd.returns (hb hby d2_57) hr
  · show QW Z r0 h0 n0 _ T14.heap _
    rw [e14]
    exact ⟨_, _, _, _, _, rfl, N14, K14, E_r_15, F_value_r0_14, F_coder_r0_16, V_b3_18⟩
theorem d1_0 : decode jdk_42_method_3_code 0 = .ok (.aload_n 0, 1) := by decide +kernel
theorem d1_1 : decode jdk_42_method_3_code 1 = .ok (.aload_n 1, 1) := by decide +kernel
theorem d1_2 : decode jdk_42_method_3_code 2 = .ok (.iconst 0, 1) := by decide +kernel
theorem d1_3 : decode jdk_42_method_3_code 3 = .ok (.aload_n 1, 1) := by decide +kernel
theorem d1_4 : decode jdk_42_method_3_code 4 = .ok (.arraylength, 1) := by decide +kernel
theorem d1_5 : decode jdk_42_method_3_code 5 = .ok (.aconst_null, 1) := by decide +kernel
theorem d1_6 : decode jdk_42_method_3_code 6 = .ok (.invokespecial 27, 3) := by decide +kernel
theorem d1_9 : decode jdk_42_method_3_code 9 = .ok (.return_, 1) := by decide +kernel
theorem pn_1 : plainName "java/lang/String" = true := by first | (simp [plainName, overriddenIn]; done) | decide +kernel
theorem ef_1 (m : MethodId) (x0 : Addr) (x1 : Addr) : entryFrame m #[(.ref x0), (.ref x1)] 2 = mkF m 0 #[.val (.ref x0), .val (.ref x1)] [] := by first | (simp [entryFrame, mkF, argsToLocals, Value.category]; done) | rfl
theorem pd_8 : parseMethodDescriptor "([CIILjava/lang/Void;)V" = some ⟨[(.array .char), .int, .int, (.object "java/lang/Void")], none⟩ := by decide +kernel
set_option maxRecDepth 65536 in
set_option maxHeartbeats 40000000 in
theorem rm1 (l : Launch) (Z : State) (a0 : Array Value) (hw : ∀ d ∈ tables_1, d.before a0 Z = true) (ws : List Jvm.Cond) (r0 : Addr) (r1 : Addr) (kc : ClassId) (ch0 : Int32) (ch1 : Int32) (cs : Int32) (h0 : Heap) (n0 : Nat) (Z0 : n0 ≤ h0.size) (E_r : Exa Z h0 r0 "java/lang/String") (F_value : Fld Z h0 r0 "java/lang/String" "value" "[B" .null) (F_coder : Fld Z h0 r0 "java/lang/String" "coder" "B" (.int (0 : Int32))) (g_r0 : n0 ≤ r0) (V_0 : Arv Z h0 r1 kc .char (2 : Int32) [(.int ch0), (.int ch1)] (.int (0 : Int32))) (n_10 : r1 ≠ r0) (S_C : Sta Z h0 "java/lang/String" "COMPACT_STRINGS" "Z" (.int cs)) (hcs : ¬ cs = 0) (h_ch0 : ¬ (255 : Int32) < ch0) (h_ch1 : ¬ (255 : Int32) < ch1) :
    MetFree l (⟨"java/lang/String", "<init>", "([C)V"⟩ : MethodName) (head1 (Jvm.Cond.code (⟨"java/lang/String", "<init>", "([C)V"⟩ : MethodName) jdk_42_method_3_code 2 none :: ws) ({ frames := 3, cells := 1, slots := 2, locals := 53 } : Room)) (fun a U => a = #[(.ref r0), (.ref r1)] ∧ Z.Warmed39 U.vm ∧ U.heap = h0) (fun _ _ _ _ _ => True) (fun _ U o U' => ∃ v L, o = .returned v ∧ QW Z r0 h0 n0 v U'.heap L ∧ FrameEnd U o U' L 1 2) := by
  refine MetFree.of_bodySF (plainFor_of_name pn_1) hisR ?_
  intro p e s m args below meth c s₁ Bd hml0 hP hK
  obtain ⟨rfl, hZ, hh⟩ := hP
  have hx := Bd.exec
  have hby := Bd.bytes
  have hml : c.maxLocals = 2 := hml0
  have hown : s.vm.findClass "java/lang/String" = some m.cls := findClass_of_methodNamed Bd.named
  have hnm := (name_of_methodNamed Bd.named Bd.method).1
  have X0 : Stand p l e ({ frames := 3, cells := 1, slots := 2, locals := 53 } : Room) s m #[(.ref r0), (.ref r1)] below meth c s₁ [] 0 0 := Stand.of_body Bd
  have e0 : s₁.heap = h0 := by rw [← hh, Bd.state]; rfl
  have N0 := Fr.nil n0
  have pre0 : ∀ t, Steps p.tables e below (s₁.setTop (mkF m 0 #[.val (.ref r0), .val (.ref r1)] [])) t → Steps p.tables e below (s₁.setTop (entryFrame m #[(.ref r0), (.ref r1)] 2)) t := fun t k => castTop (ef_1 m r0 r1) k
  have K0 : Keep h0 h0 [r0] := Keep.refl h0 [r0]
  obtain ⟨c1, Ar1, -, S1, N1n, -, -⟩ := id V_0
  obtain ⟨_, _, ⟨T2, L2, k2, n2⟩, -, X2, ⟨Lc2, hQ2, l2, y2, z2⟩, st2⟩ := X0.specialBack hx (y := (⟨"java/lang/String", "<init>", "([CIILjava/lang/Void;)V"⟩ : MethodName)) rfl hown (mvT hZ (hw _ (List.mem_of_getElem? (i := 7) rfl))) (mvT hZ (hw _ (List.mem_of_getElem? (i := 8) rfl))) (mvT hZ (hw _ (List.mem_of_getElem? (i := 10) rfl))) (by decide) (backOf (W := 0) (rm2 l Z a0 hw [] r0 r1 kc ch0 ch1 cs h0 n0 Z0 E_r F_value F_coder g_r0 V_0 n_10 S_C hcs h_ch0 h_ch1) hZ (hw _ (List.mem_of_getElem? (i := 10) rfl)) (hw _ (List.mem_of_getElem? (i := 2) rfl)) (by decide) (by decide)) (g := (mkF m 6 #[.val (.ref r0), .val (.ref r1)] [.null, (.int (2 : Int32)), (.int (0 : Int32)), (.ref r1), (.ref r0)])) rfl (by rw [hml]; rfl) (Steps.refl _) (a := r0) (argsL := [(.ref r1), (.int (0 : Int32)), (.int (2 : Int32)), .null]) (rest := []) (lenOf pd_8 rfl) rfl (by show 2 * 0 + _ ≤ _; exact Nat.le_of_eq rfl) (hb hby d1_6) (fun _ _ => ⟨rfl, e0, (by decide : 0 + 1 ≤ _), (by decide : 0 + 2 ≤ _)⟩)
  dsimp only [Pt.U, Pt.locs, Pt.cells, Pt.slots] at X2 l2 y2 z2 st2 hQ2
  subst l2 y2 z2
  obtain ⟨rb2, kb2, nb2, vs2, cd2, rfl, N2q, K2q, E_r2, F_value2, F_coder2, V_b2⟩ := hQ2
  have N2 := Fr.app N0 N2q
  have K2 : Keep h0 T2.heap [r0] := K0.trans K2q (allS (Or.inl (List.mem_of_getElem? (i := 0) rfl)) all0)
  have V_3 := V_0.keep K2q (ninS n_10 nin0)
  obtain ⟨fs, hr, hrun, hended, hW, hsame⟩ := X2.leave (v := none) (fun _ => rfl)
  refine ⟨_, _, pre0 _ ?_, hrun, hended, _, _, rfl, ?_, ⟨_, rfl⟩, hW, hsame.mono (by decide) (by decide)⟩
  · show Steps p.tables e below (s₁.setTop (mkF m 0 #[.val (.ref r0), .val (.ref r1)] [])) _
    refine XS.aloadN X0.here hx rfl (hb hby d1_0) rfl rfl ?_
    show Steps p.tables e below (s₁.setTop (mkF m 1 #[.val (.ref r0), .val (.ref r1)] [(.ref r0)])) _
    refine XS.aloadN X0.here hx rfl (hb hby d1_1) rfl rfl ?_
    show Steps p.tables e below (s₁.setTop (mkF m 2 #[.val (.ref r0), .val (.ref r1)] [(.ref r1), (.ref r0)])) _
    refine XS.iconst X0.here hx rfl (hb hby d1_2) ?_
    show Steps p.tables e below (s₁.setTop (mkF m 3 #[.val (.ref r0), .val (.ref r1)] [(.int (0 : Int32)), (.ref r1), (.ref r0)])) _
    refine XS.aloadN X0.here hx rfl (hb hby d1_3) rfl rfl ?_
    show Steps p.tables e below (s₁.setTop (mkF m 4 #[.val (.ref r0), .val (.ref r1)] [(.ref r1), (.int (0 : Int32)), (.ref r1), (.ref r0)])) _
    refine X0.arraylength hx (by rw [e0]; exact Ar1.1) (State.isArrayOf_alike hZ.alike Ar1.2.1) (g := (mkF m 4 #[.val (.ref r0), .val (.ref r1)] [(.ref r1), (.int (0 : Int32)), (.ref r1), (.ref r0)])) rfl rfl (hb hby d1_4) _ ?_
    rw [len_of S1 N1n]
    show Steps p.tables e below (s₁.setTop (mkF m 5 #[.val (.ref r0), .val (.ref r1)] [(.int (2 : Int32)), (.int (0 : Int32)), (.ref r1), (.ref r0)])) _
    refine XS.aconstNull X0.here hx rfl (hb hby d1_5) ?_
    show Steps p.tables e below (s₁.setTop (mkF m 6 #[.val (.ref r0), .val (.ref r1)] [.null, (.int (2 : Int32)), (.int (0 : Int32)), (.ref r1), (.ref r0)])) _
    refine st2.trans ?_
    show Steps p.tables e below (T2.setTop (mkF m 9 #[.val (.ref r0), .val (.ref r1)] [])) _
    exact X2.returnOut hx Bd.returns (hb hby d1_9) hr
  · show QW Z r0 h0 n0 _ T2.heap _
    exact ⟨_, _, _, _, _, rfl, N2, K2, E_r2, F_value2, F_coder2, V_b2⟩
def own_EL : List (String × Nat) := [("java/lang/String", 7)]
theorem own_wS {Z : State} {a0 : Array Value} (hw : ∀ d ∈ tables_1, d.before a0 Z = true) : ∀ a ∈ Bundle.stringAtoms, a.before a0 Z = true := fun d hd => by
  rcases List.mem_cons.mp hd with rfl | hd
  · exact hw _ (List.mem_of_getElem? (i := 2) rfl)
  rcases List.mem_cons.mp hd with rfl | hd
  · exact hw _ (List.mem_of_getElem? (i := 1) rfl)
  rcases List.mem_cons.mp hd with rfl | hd
  · exact hw _ (List.mem_of_getElem? (i := 19) rfl)
  rcases List.mem_cons.mp hd with rfl | hd
  · exact hw _ (List.mem_of_getElem? (i := 29) rfl)
  rcases List.mem_cons.mp hd with rfl | hd
  · exact hw _ (List.mem_of_getElem? (i := 27) rfl)
  rcases List.mem_cons.mp hd with rfl | hd
  · exact hw _ (List.mem_of_getElem? (i := 79) rfl)
  rcases List.mem_cons.mp hd with rfl | hd
  · exact hw _ (List.mem_of_getElem? (i := 80) rfl)
  exact nomatch hd
theorem own_e : (∀ c ∈ ("" : String).toList, c.toNat < 256) ∧ ("" : String).toList.map (fun c => Value.int (Jvm.Lit.byteI c.toNat.toUInt16)) = [] := ⟨by intro c hc; simp at hc, by simp⟩
theorem own_EW {Z : State} {a0 : Array Value} (hw : ∀ d ∈ tables_1, d.before a0 Z = true) : EW Z a0 own_EL := EW.cons (hw _ (List.mem_of_getElem? (i := 78) rfl)) own_e.1 EW.nil
theorem own_backH {p : Program} {l : Launch} {e : Env} {R : Room} {s : State} {args : Array Value} {below : List Frame} {Z : State} {a0 : Array Value} {EL : List (String × Nat)} {h : Heap} {vm0 : Vm} {y : MethodName} {bytes : ByteArray} {maxL : Nat} {ret : Option FieldType} {rm : Room} {len W : Nat} {as' : Array Value} {Q : Option Value → Heap → List Loc → Prop}
    (hM : MetFree l y (head1 [Cond.code y bytes maxL ret] rm) (fun a U => a = as' ∧ Z.Warmed39 U.vm ∧ U.heap = h ∧ CHv Z EL U.vm h) (fun _ _ _ _ _ => True) (fun _ U o U' => ∃ v L, o = .returned v ∧ Q v U'.heap L ∧ ReturnedEndW U o U' L rm.cells rm.slots))
    (hZ : Z.Warmed39 vm0) (wc : (Cond.code y bytes maxL ret).before a0 Z = true) (wz : (Cond.initialized y.cls).before a0 Z = true) (hf : rm.frames + 1 ≤ R.frames) (hl : W + (maxL + 11) + rm.locals ≤ R.locals) (hEL : EW Z a0 EL) (H : CHv Z EL vm0 h) :
    BackS l R p e below (s.setVm vm0) args y len W (fun A a => a = as' ∧ A.U.heap = h ∧ A.cells + rm.cells ≤ R.cells ∧ A.slots + rm.slots ≤ R.slots)
      (fun A _ v B => ∃ L, Q v B.U.heap L ∧ B.locs = A.locs ++ L ∧ B.cells = A.cells + rm.cells ∧ B.slots = A.slots + rm.slots) :=
  BackS.of_freeW (bytes := bytes) (maxL := maxL) (ret := ret) (E := fun _ _ o t L k n => k = rm.cells ∧ n = rm.slots ∧ ∃ v, o = .returned v ∧ Q v t.heap L) hM hf hl
    (fun m meth c A a Y hp => have hU : Z.Warmed39 A.U.vm := wtrans (s := s.setVm vm0) hZ Y.warmed
      ⟨by show (Cond.and _ .tt).before a A.U = true; rw [Cond.before_and, mv hU wc]; rfl, mv hU wc, mv hU wz, hp.2.2.1, hp.2.2.2⟩)
    (fun m meth c A a g mk Y hp => ⟨hp.1, wtrans (s := s.setVm vm0) hZ Y.warmed, hp.2.1, (CHv.at Y hZ hEL H).1⟩) (fun _ _ _ _ _ _ _ _ _ => trivial)
    (fun _ _ _ _ ⟨v, L, h1, h2, h3⟩ => ⟨L, _, _, h3, rfl, rfl, v, h1, h2⟩)
    (fun m meth c A a g mk v t L k n Y hp _ _ ⟨e1, e2, v', e3, e4⟩ => by cases e3; subst e1 e2; exact ⟨L, e4, rfl, rfl, rfl⟩)
theorem d2_8 : decode jdk_42_method_149_code 8 = .ok (.aload_n 0, 1) := by decide +kernel
theorem d2_9 : decode jdk_42_method_149_code 9 = .ok (.ldc 7, 2) := by decide +kernel
theorem d2_11 : decode jdk_42_method_149_code 11 = .ok (.getfield 9, 3) := by decide +kernel
theorem d2_14 : decode jdk_42_method_149_code 14 = .ok (.putfield 9, 3) := by decide +kernel
theorem d2_17 : decode jdk_42_method_149_code 17 = .ok (.aload_n 0, 1) := by decide +kernel
theorem d2_18 : decode jdk_42_method_149_code 18 = .ok (.ldc 7, 2) := by decide +kernel
theorem d2_20 : decode jdk_42_method_149_code 20 = .ok (.getfield 15, 3) := by decide +kernel
theorem d2_23 : decode jdk_42_method_149_code 23 = .ok (.putfield 15, 3) := by decide +kernel
theorem d2_26 : decode jdk_42_method_149_code 26 = .ok (.return_, 1) := by decide +kernel
theorem ef_2z (m : MethodId) (x0 : Addr) (x1 : Addr) (x2 : Int32) (x3 : Int32) : entryFrame m #[(.ref x0), (.ref x1), (.int x2), (.int x3), .null] 6 = mkF m 0 #[.val (.ref x0), .val (.ref x1), .val (.int x2), .val (.int x3), .val .null, .unset] [] := by first | (simp [entryFrame, mkF, argsToLocals, Value.category]; done) | rfl
set_option maxRecDepth 65536 in
set_option maxHeartbeats 40000000 in
theorem rm2z (l : Launch) (Z : State) (a0 : Array Value) (hw : ∀ d ∈ tables_1, d.before a0 Z = true) (ws : List Jvm.Cond) (r0 : Addr) (r1 : Addr) (h0 : Heap) (n0 : Nat) (Z0 : n0 ≤ h0.size) (E_r : Exa Z h0 r0 "java/lang/String") (F_value : Fld Z h0 r0 "java/lang/String" "value" "[B" .null) (F_coder : Fld Z h0 r0 "java/lang/String" "coder" "B" (.int (0 : Int32))) (g_r0 : n0 ≤ r0) :
    MetFree l (⟨"java/lang/String", "<init>", "([CIILjava/lang/Void;)V"⟩ : MethodName) (head1 (Jvm.Cond.code (⟨"java/lang/String", "<init>", "([CIILjava/lang/Void;)V"⟩ : MethodName) jdk_42_method_149_code 6 none :: ws) ({ frames := 1, cells := 2, slots := 4, locals := 12 } : Room)) (fun a U => a = #[(.ref r0), (.ref r1), (.int (0 : Int32)), (.int (0 : Int32)), .null] ∧ Z.Warmed39 U.vm ∧ U.heap = h0 ∧ CHv Z own_EL U.vm h0) (fun _ _ _ _ _ => True) (fun _ U o U' => ∃ v L, o = .returned v ∧ QW Z r0 h0 n0 v U'.heap L ∧ ReturnedEndW U o U' L 2 4) := by
  refine MetFree.of_bodySF (plainFor_of_name pn_2) hisR ?_
  intro p e s m args below meth c s₁ Bd hml0 hP hK
  obtain ⟨rfl, hZ, hh, HC⟩ := hP
  have hx := Bd.exec
  have hby := Bd.bytes
  have hml : c.maxLocals = 6 := hml0
  have hown : s.vm.findClass "java/lang/String" = some m.cls := findClass_of_methodNamed Bd.named
  have hnm := (name_of_methodNamed Bd.named Bd.method).1
  have X0 : Stand p l e ({ frames := 1, cells := 2, slots := 4, locals := 12 } : Room) s m #[(.ref r0), (.ref r1), (.int (0 : Int32)), (.int (0 : Int32)), .null] below meth c s₁ [] 0 0 := Stand.of_body Bd
  have e0 : s₁.heap = h0 := by rw [← hh, Bd.state]; rfl
  have N0 := Fr.nil n0
  have pre0 : ∀ t, Steps p.tables e below (s₁.setTop (mkF m 0 #[.val (.ref r0), .val (.ref r1), .val (.int (0 : Int32)), .val (.int (0 : Int32)), .val .null, .unset] [])) t → Steps p.tables e below (s₁.setTop (entryFrame m #[(.ref r0), (.ref r1), (.int (0 : Int32)), (.int (0 : Int32)), .null] 6)) t := fun t k => castTop (ef_2z m r0 r1 (0 : Int32) (0 : Int32)) k
  have K0 : Keep h0 h0 [r0] := Keep.refl h0 [r0]
  obtain ⟨T1, X1, e1, st1⟩ := initO X0 hx hZ hown (hw _ (List.mem_of_getElem? (i := 11) rfl)) (hw _ (List.mem_of_getElem? (i := 12) rfl)) (hw _ (List.mem_of_getElem? (i := 13) rfl)) e0 (g := (mkF m 1 #[.val (.ref r0), .val (.ref r1), .val (.int (0 : Int32)), .val (.int (0 : Int32)), .val .null, .unset] [(.ref r0)])) rfl (by rw [hml]; rfl) rfl (hb hby d2_1) (by decide) (W := 0) (by show 2 * 0 + _ ≤ _; exact Nat.le_of_eq rfl) (by decide)
  have pre2 : ∀ t, Steps p.tables e below (T1.setTop (mkF m 9 #[.val (.ref r0), .val (.ref r1), .val (.int (0 : Int32)), .val (.int (0 : Int32)), .val .null, .unset] [(.ref r0)])) t → Steps p.tables e below (s₁.setTop (entryFrame m #[(.ref r0), (.ref r1), (.int (0 : Int32)), (.int (0 : Int32)), .null] 6)) t := fun t k => pre0 t (by
    show Steps p.tables e below (s₁.setTop (mkF m 0 #[.val (.ref r0), .val (.ref r1), .val (.int (0 : Int32)), .val (.int (0 : Int32)), .val .null, .unset] [])) _
    refine XS.aloadN X0.here hx rfl (hb hby d2_0) rfl rfl ?_
    show Steps p.tables e below (s₁.setTop (mkF m 1 #[.val (.ref r0), .val (.ref r1), .val (.int (0 : Int32)), .val (.int (0 : Int32)), .val .null, .unset] [(.ref r0)])) _
    refine st1 _ ?_
    show Steps p.tables e below (T1.setTop (mkF m 4 #[.val (.ref r0), .val (.ref r1), .val (.int (0 : Int32)), .val (.int (0 : Int32)), .val .null, .unset] [])) _
    refine XS.iloadN X1.here hx rfl (hb hby d2_4) rfl ?_
    show Steps p.tables e below (T1.setTop (mkF m 5 #[.val (.ref r0), .val (.ref r1), .val (.int (0 : Int32)), .val (.int (0 : Int32)), .val .null, .unset] [(.int (0 : Int32))])) _
    refine XS.ifNo X1.here hx rfl (hb hby d2_5) rfl ((if0 _ _).trans (teq (by decide : (0 : Int32) = (0 : Int32))).2) ?_
    show Steps p.tables e below (T1.setTop (mkF m 8 #[.val (.ref r0), .val (.ref r1), .val (.int (0 : Int32)), .val (.int (0 : Int32)), .val .null, .unset] [])) _
    refine XS.aloadN X1.here hx rfl (hb hby d2_8) rfl rfl ?_
    exact k)
  obtain ⟨a3, T3, h3, k3, b3, kb3, X3, e3, E3, S3, hle3, hZ3, hown3, A3, Fc3, Fv3, V3, -, -, -, Lt3, -, st3⟩ := ldcCH (s := s) (vm0 := s.vm) X1 hx hZ hown (hw _ (List.mem_of_getElem? (i := 78) rfl)) (own_wS hw) e1 ((State.WarmedH.refl s).since 0) (Nat.zero_le _) (own_EW hw) (List.mem_of_getElem? (i := 0) rfl) HC (z := (0 : Int32)) own_e (by decide) rfl (g := (mkF m 9 #[.val (.ref r0), .val (.ref r1), .val (.int (0 : Int32)), .val (.int (0 : Int32)), .val .null, .unset] [(.ref r0)])) rfl (hb hby d2_9) (n := 0) (by decide) (by decide) (by decide) (by decide)
  have hZ := hZ3
  have hown := hown3
  have E_r_4 := E_r.ext E3
  have F_value_5 := F_value.ext E3
  have F_coder_6 := F_coder.ext E3
  have K3 : Keep h0 h3 [r0] := K0.ext E3
  have na3 : a3 ≠ r0 := Fld.ne Fv3 F_value_5 (by simp)
  have nb3 : b3 ≠ r0 := fun q => by
    obtain ⟨cz, Az, -⟩ := V3
    exact ne_arr E_r_4 (hw _ (List.mem_of_getElem? (i := 1) rfl)) Az q.symm
  obtain ⟨T7, X7, e7, st7⟩ := getF X3 hx hZ hown (host := "") (Or.inl (hw _ (List.mem_of_getElem? (i := 28) rfl))) Via.refl e3 Fv3 (g := (mkF m 11 #[.val (.ref r0), .val (.ref r1), .val (.int (0 : Int32)), .val (.int (0 : Int32)), .val .null, .unset] [(.ref a3), (.ref r0)])) rfl rfl (hb hby d2_11)
  obtain ⟨T8, h8, X8, e8, W8, st8⟩ := putF X7 hx hZ hown (host := "") (Or.inl (hw _ (List.mem_of_getElem? (i := 28) rfl))) Via.refl e7 F_value_5 E_r_4 (Or.inr ⟨(hw _ (List.mem_of_getElem? (i := 29) rfl)), rfl, hnm⟩) (hw _ (List.mem_of_getElem? (i := 1) rfl)) (ty := (.array .byte)) (by decide) rfl rfl (g := (mkF m 14 #[.val (.ref r0), .val (.ref r1), .val (.int (0 : Int32)), .val (.int (0 : Int32)), .val .null, .unset] [(.ref b3), (.ref r0)])) rfl rfl (hb hby d2_14)
  have F_value_r0_8 := F_value_5.same W8
  have E_r_9 := E_r_4.wr W8
  have F_coder_10 := F_coder_6.other W8 (Or.inr (slot_ne (Or.inr (hw _ (List.mem_of_getElem? (i := 27) rfl))) (Or.inr (hw _ (List.mem_of_getElem? (i := 29) rfl))) (by decide) (t := .byte) (t' := (.array .byte)) (by decide) (by decide)))
  have hle_11 := Nat.le_trans hle3 (Keep.of_wr W8).1
  have Fv3_12 := Fv3.other W8 (Or.inl na3)
  have Fc3_13 := Fc3.other W8 (Or.inl na3)
  have V3_14 := V3.other W8 nb3
  have K8 : Keep h0 h8 [r0] := K3.wr W8 (Or.inl (List.mem_of_getElem? (i := 0) rfl))
  have N8 := Fr.snoc X8 N0 g_r0
  obtain ⟨T15, X15, e15, st15⟩ := getF X8 hx hZ hown (host := "") (Or.inl (hw _ (List.mem_of_getElem? (i := 26) rfl))) Via.refl e8 Fc3_13 (g := (mkF m 20 #[.val (.ref r0), .val (.ref r1), .val (.int (0 : Int32)), .val (.int (0 : Int32)), .val .null, .unset] [(.ref a3), (.ref r0)])) rfl rfl (hb hby d2_20)
  obtain ⟨T16, h16, X16, e16, W16, st16⟩ := putFN X15 hx hZ hown (hw _ (List.mem_of_getElem? (i := 26) rfl)) Via.refl e15 F_coder_10 E_r_9 (Or.inr ⟨(hw _ (List.mem_of_getElem? (i := 27) rfl)), rfl, hnm⟩) (hw _ (List.mem_of_getElem? (i := 1) rfl)) (ty := .byte) (v' := (.int (nar .byte (0 : Int32)))) (by decide) rfl (fits_nar_byte _) (g := (mkF m 23 #[.val (.ref r0), .val (.ref r1), .val (.int (0 : Int32)), .val (.int (0 : Int32)), .val .null, .unset] [(.int (0 : Int32)), (.ref r0)])) rfl rfl (hb hby d2_23)
  have F_coder_r0_16 := F_coder_10.same W16
  have E_r_17 := E_r_9.wr W16
  have F_value_r0_18 := F_value_r0_8.other W16 (Or.inr (slot_ne (Or.inr (hw _ (List.mem_of_getElem? (i := 29) rfl))) (Or.inr (hw _ (List.mem_of_getElem? (i := 27) rfl))) (by decide) (t := (.array .byte)) (t' := .byte) (by decide) (by decide)))
  have hle_19 := Nat.le_trans hle_11 (Keep.of_wr W16).1
  have Fv3_20 := Fv3_12.other W16 (Or.inl na3)
  have Fc3_21 := Fc3_13.other W16 (Or.inl na3)
  have V3_22 := V3_14.other W16 nb3
  have K16 : Keep h0 h16 [r0] := K8.wr W16 (Or.inl (List.mem_of_getElem? (i := 0) rfl))
  have N16 := Fr.snoc X16 N8 g_r0
  obtain ⟨fs, hr, hrun, hended, hRE⟩ := X16.leaveW (s := s) (vm₁ := T3.vm) S3 (by rw [e16]; exact hle_19) (v := none) (fun _ => rfl)
  refine ⟨_, _, pre2 _ ?_, hrun, hended, _, _, rfl, ?_, hRE.1, hRE.2.1, hRE.2.2.1, hRE.2.2.2.mono (by decide) (by decide)⟩
  · show Steps p.tables e below (T1.setTop (mkF m 9 #[.val (.ref r0), .val (.ref r1), .val (.int (0 : Int32)), .val (.int (0 : Int32)), .val .null, .unset] [(.ref r0)])) _
    refine st3 _ ?_
    show Steps p.tables e below (T3.setTop (mkF m 11 #[.val (.ref r0), .val (.ref r1), .val (.int (0 : Int32)), .val (.int (0 : Int32)), .val .null, .unset] [(.ref a3), (.ref r0)])) _
    refine st7 _ ?_
    show Steps p.tables e below (T7.setTop (mkF m 14 #[.val (.ref r0), .val (.ref r1), .val (.int (0 : Int32)), .val (.int (0 : Int32)), .val .null, .unset] [(.ref b3), (.ref r0)])) _
    refine st8 _ ?_
    show Steps p.tables e below (T8.setTop (mkF m 17 #[.val (.ref r0), .val (.ref r1), .val (.int (0 : Int32)), .val (.int (0 : Int32)), .val .null, .unset] [])) _
    refine XS.aloadN X8.here hx rfl (hb hby d2_17) rfl rfl ?_
    show Steps p.tables e below (T8.setTop (mkF m 18 #[.val (.ref r0), .val (.ref r1), .val (.int (0 : Int32)), .val (.int (0 : Int32)), .val .null, .unset] [(.ref r0)])) _
    refine ldcAgain (s := s) (vm0 := T3.vm) X8 hx hZ hown (hw _ (List.mem_of_getElem? (i := 78) rfl)) Lt3 (g := (mkF m 18 #[.val (.ref r0), .val (.ref r1), .val (.int (0 : Int32)), .val (.int (0 : Int32)), .val .null, .unset] [(.ref r0)])) rfl (hb hby d2_18) _ ?_
    show Steps p.tables e below (T8.setTop (mkF m 20 #[.val (.ref r0), .val (.ref r1), .val (.int (0 : Int32)), .val (.int (0 : Int32)), .val .null, .unset] [(.ref a3), (.ref r0)])) _
    refine st15 _ ?_
    show Steps p.tables e below (T15.setTop (mkF m 23 #[.val (.ref r0), .val (.ref r1), .val (.int (0 : Int32)), .val (.int (0 : Int32)), .val .null, .unset] [(.int (0 : Int32)), (.ref r0)])) _
    refine st16 _ ?_
    show Steps p.tables e below (T16.setTop (mkF m 26 #[.val (.ref r0), .val (.ref r1), .val (.int (0 : Int32)), .val (.int (0 : Int32)), .val .null, .unset] [])) _
    exact X16.returnOut hx Bd.returns (hb hby d2_26) hr
  · show QW Z r0 h0 n0 _ T16.heap _
    rw [e16]
    exact ⟨_, _, _, _, _, rfl, N16, K16, E_r_17, F_value_r0_18, F_coder_r0_16, V3_22⟩
theorem ef_1z (m : MethodId) (x0 : Addr) (x1 : Addr) : entryFrame m #[(.ref x0), (.ref x1)] 2 = mkF m 0 #[.val (.ref x0), .val (.ref x1)] [] := by first | (simp [entryFrame, mkF, argsToLocals, Value.category]; done) | rfl
set_option maxRecDepth 65536 in
set_option maxHeartbeats 40000000 in
theorem rm1z (l : Launch) (Z : State) (a0 : Array Value) (hw : ∀ d ∈ tables_1, d.before a0 Z = true) (ws : List Jvm.Cond) (r0 : Addr) (r1 : Addr) (kc : ClassId) (vs : List Value) (h0 : Heap) (n0 : Nat) (Z0 : n0 ≤ h0.size) (E_r : Exa Z h0 r0 "java/lang/String") (F_value : Fld Z h0 r0 "java/lang/String" "value" "[B" .null) (F_coder : Fld Z h0 r0 "java/lang/String" "coder" "B" (.int (0 : Int32))) (g_r0 : n0 ≤ r0) (V_0 : Arv Z h0 r1 kc .char (0 : Int32) vs (.int (0 : Int32))) :
    MetFree l (⟨"java/lang/String", "<init>", "([C)V"⟩ : MethodName) (head1 (Jvm.Cond.code (⟨"java/lang/String", "<init>", "([C)V"⟩ : MethodName) jdk_42_method_3_code 2 none :: ws) ({ frames := 2, cells := 2, slots := 4, locals := 36 } : Room)) (fun a U => a = #[(.ref r0), (.ref r1)] ∧ Z.Warmed39 U.vm ∧ U.heap = h0 ∧ CHv Z own_EL U.vm h0) (fun _ _ _ _ _ => True) (fun _ U o U' => ∃ v L, o = .returned v ∧ QW Z r0 h0 n0 v U'.heap L ∧ ReturnedEndW U o U' L 2 4) := by
  refine MetFree.of_bodySF (plainFor_of_name pn_1) hisR ?_
  intro p e s m args below meth c s₁ Bd hml0 hP hK
  obtain ⟨rfl, hZ, hh, HC⟩ := hP
  have hx := Bd.exec
  have hby := Bd.bytes
  have hml : c.maxLocals = 2 := hml0
  have hown : s.vm.findClass "java/lang/String" = some m.cls := findClass_of_methodNamed Bd.named
  have hnm := (name_of_methodNamed Bd.named Bd.method).1
  have X0 : Stand p l e ({ frames := 2, cells := 2, slots := 4, locals := 36 } : Room) s m #[(.ref r0), (.ref r1)] below meth c s₁ [] 0 0 := Stand.of_body Bd
  have e0 : s₁.heap = h0 := by rw [← hh, Bd.state]; rfl
  have N0 := Fr.nil n0
  have pre0 : ∀ t, Steps p.tables e below (s₁.setTop (mkF m 0 #[.val (.ref r0), .val (.ref r1)] [])) t → Steps p.tables e below (s₁.setTop (entryFrame m #[(.ref r0), (.ref r1)] 2)) t := fun t k => castTop (ef_1z m r0 r1) k
  have K0 : Keep h0 h0 [r0] := Keep.refl h0 [r0]
  obtain ⟨c1, Ar1, -, S1, N1n, -, -⟩ := id V_0
  have pre2 : ∀ t, Steps p.tables e below (s₁.setTop (mkF m 6 #[.val (.ref r0), .val (.ref r1)] [.null, (.int (0 : Int32)), (.int (0 : Int32)), (.ref r1), (.ref r0)])) t → Steps p.tables e below (s₁.setTop (entryFrame m #[(.ref r0), (.ref r1)] 2)) t := fun t k => pre0 t (by
    show Steps p.tables e below (s₁.setTop (mkF m 0 #[.val (.ref r0), .val (.ref r1)] [])) _
    refine XS.aloadN X0.here hx rfl (hb hby d1_0) rfl rfl ?_
    show Steps p.tables e below (s₁.setTop (mkF m 1 #[.val (.ref r0), .val (.ref r1)] [(.ref r0)])) _
    refine XS.aloadN X0.here hx rfl (hb hby d1_1) rfl rfl ?_
    show Steps p.tables e below (s₁.setTop (mkF m 2 #[.val (.ref r0), .val (.ref r1)] [(.ref r1), (.ref r0)])) _
    refine XS.iconst X0.here hx rfl (hb hby d1_2) ?_
    show Steps p.tables e below (s₁.setTop (mkF m 3 #[.val (.ref r0), .val (.ref r1)] [(.int (0 : Int32)), (.ref r1), (.ref r0)])) _
    refine XS.aloadN X0.here hx rfl (hb hby d1_3) rfl rfl ?_
    show Steps p.tables e below (s₁.setTop (mkF m 4 #[.val (.ref r0), .val (.ref r1)] [(.ref r1), (.int (0 : Int32)), (.ref r1), (.ref r0)])) _
    refine X0.arraylength hx (by rw [e0]; exact Ar1.1) (State.isArrayOf_alike hZ.alike Ar1.2.1) (g := (mkF m 4 #[.val (.ref r0), .val (.ref r1)] [(.ref r1), (.int (0 : Int32)), (.ref r1), (.ref r0)])) rfl rfl (hb hby d1_4) _ ?_
    rw [len_of S1 N1n]
    show Steps p.tables e below (s₁.setTop (mkF m 5 #[.val (.ref r0), .val (.ref r1)] [(.int (0 : Int32)), (.int (0 : Int32)), (.ref r1), (.ref r0)])) _
    refine XS.aconstNull X0.here hx rfl (hb hby d1_5) ?_
    exact k)
  obtain ⟨_, _, ⟨T3, L3, k3, n3⟩, -, X3, S3q, hg3, ⟨Lc3, hQ3, l3, y3, z3⟩, st3⟩ := X0.specialBackS hx (y := (⟨"java/lang/String", "<init>", "([CIILjava/lang/Void;)V"⟩ : MethodName)) rfl hown (mvT hZ (hw _ (List.mem_of_getElem? (i := 7) rfl))) (mvT hZ (hw _ (List.mem_of_getElem? (i := 8) rfl))) (mvT hZ (hw _ (List.mem_of_getElem? (i := 10) rfl))) (by decide) (own_backH (s := s) (vm0 := s.vm) (W := 0) (rm2z l Z a0 hw [] r0 r1  h0 n0 Z0 E_r F_value F_coder g_r0) hZ (hw _ (List.mem_of_getElem? (i := 10) rfl)) (hw _ (List.mem_of_getElem? (i := 2) rfl)) (by decide) (by decide) (own_EW hw) HC) (g := (mkF m 6 #[.val (.ref r0), .val (.ref r1)] [.null, (.int (0 : Int32)), (.int (0 : Int32)), (.ref r1), (.ref r0)])) rfl (by rw [hml]; rfl) (Steps.refl _) (a := r0) (argsL := [(.ref r1), (.int (0 : Int32)), (.int (0 : Int32)), .null]) (rest := []) (lenOf pd_8 rfl) rfl (by show 2 * 0 + _ ≤ _; exact Nat.le_of_eq rfl) (hb hby d1_6) (fun _ _ => ⟨rfl, e0, (by decide : 0 + 2 ≤ _), (by decide : 0 + 4 ≤ _)⟩)
  dsimp only [Pt.U, Pt.locs, Pt.cells, Pt.slots] at X3 l3 y3 z3 st3 hQ3 S3q hg3
  subst l3 y3 z3
  have S3 := foldS (s := s) (vm0 := s.vm) ((State.WarmedH.refl s).since 0) (Nat.zero_le _) S3q hg3
  have hZ : Z.Warmed39 (s.setVm T3.vm).vm := State.Warmed39.trans (t := s.setVm s.vm) hZ S3q.1
  have hown : (s.setVm T3.vm).vm.findClass "java/lang/String" = some m.cls := by rw [show (s.setVm T3.vm).vm = T3.vm from rfl, S3q.1.alike.findClass]; exact hown
  obtain ⟨rb3, kb3, nb3, vs3, cd3, rfl, N3q, K3q, E_r3, F_value3, F_coder3, V_b3⟩ := hQ3
  have N3 := Fr.app N0 N3q
  have K3 : Keep h0 T3.heap [r0] := K0.trans K3q (allS (Or.inl (List.mem_of_getElem? (i := 0) rfl)) all0)
  obtain ⟨fs, hr, hrun, hended, hRE⟩ := X3.leaveW (s := s) (vm₁ := T3.vm) S3 (Nat.le_refl T3.heap.size) (v := none) (fun _ => rfl)
  refine ⟨_, _, pre2 _ ?_, hrun, hended, _, _, rfl, ?_, hRE.1, hRE.2.1, hRE.2.2.1, hRE.2.2.2.mono (by decide) (by decide)⟩
  · show Steps p.tables e below (s₁.setTop (mkF m 6 #[.val (.ref r0), .val (.ref r1)] [.null, (.int (0 : Int32)), (.int (0 : Int32)), (.ref r1), (.ref r0)])) _
    refine st3.trans ?_
    show Steps p.tables e below (T3.setTop (mkF m 9 #[.val (.ref r0), .val (.ref r1)] [])) _
    exact X3.returnOut hx Bd.returns (hb hby d1_9) hr
  · show QW Z r0 h0 n0 _ T3.heap _
    exact ⟨_, _, _, _, _, rfl, N3, K3, E_r3, F_value3, F_coder3, V_b3⟩
theorem own_c (x : Int32) : ¬ (255 : Int32) < nar .char ((x &&& (255 : Int32)).toUInt32.toUInt16.toUInt32.toInt32) := by
  have h1 := c_mask x 255 8 (by decide) (by decide)
  have h2 := c_i2c (x &&& 255)
  have h3 := c_i2c ((x &&& 255).toUInt32.toUInt16.toUInt32.toInt32)
  show ¬ (255 : Int32) < ((x &&& (255 : Int32)).toUInt32.toUInt16.toUInt32.toInt32).toUInt32.toUInt16.toUInt32.toInt32
  rw [Int32.lt_iff_toInt_lt, show (255 : Int32).toInt = 255 from rfl]
  omega
theorem own_v (x : Int32) : ¬ (255 : Int32) < ((x &&& (255 : Int32)).toUInt32.toUInt16.toUInt32.toInt32) := by
  have h1 := c_mask x 255 8 (by decide) (by decide)
  have h2 := c_i2c (x &&& 255)
  rw [Int32.lt_iff_toInt_lt, show (255 : Int32).toInt = 255 from rfl]
  omega
theorem own_d2l {n : Int64} (h1 : ¬ (lcmpW n (-9007199254740992 : Int64)) < (0 : Int32)) (h2 : ¬ (0 : Int32) < (lcmpW n (9007199254740992 : Int64))) : FP.d2l (FP.l2d n) = n := by
  rw [lw_lt, Int64.lt_iff_toInt_lt, show (-9007199254740992 : Int64).toInt = -9007199254740992 from rfl] at h1
  rw [lw_gt, Int64.lt_iff_toInt_lt, show (9007199254740992 : Int64).toInt = 9007199254740992 from rfl] at h2
  exact Jvm.FP.Core.d2l_l2d (by omega)
theorem pn_0 : plainName "com/example/scorpus/scorpus/engine/FigureCountPinLaw" = true := by first | (simp [plainName, overriddenIn]; done) | decide +kernel
theorem ef_0 (m : MethodId) (x0 : Int32) (x1 : Int32) (x2 : Int64) : entryFrame m #[(.int x0), (.int x1), (.long x2)] maxLocals = mkF m 0 #[.val (.int x0), .val (.int x1), .val (.long x2), .second, .unset, .unset, .unset, .unset, .unset, .unset, .unset, .unset] [] := by first | (simp [entryFrame, mkF, argsToLocals, Value.category, maxLocals]; done) | rfl
theorem pd_9 : parseMethodDescriptor "([C)V" = some ⟨[(.array .char)], none⟩ := by decide +kernel
theorem pd_10 : parseMethodDescriptor "(Ljava/lang/String;J)Lcom/example/scorpus/scorpus/engine/Explanation$Figure;" = some ⟨[(.object "java/lang/String"), .long], some (.object "com/example/scorpus/scorpus/engine/Explanation$Figure")⟩ := by decide +kernel
theorem pd_11 : parseMethodDescriptor "()Z" = some ⟨[], some .boolean⟩ := by decide +kernel
theorem pd_12 : parseMethodDescriptor "()Ljava/lang/String;" = some ⟨[], some (.object "java/lang/String")⟩ := by decide +kernel
theorem pd_13 : parseMethodDescriptor "(Ljava/lang/Object;)Z" = some ⟨[(.object "java/lang/Object")], some .boolean⟩ := by decide +kernel
theorem pd_14 : parseMethodDescriptor "()I" = some ⟨[], some .int⟩ := by decide +kernel
theorem pd_15 : parseMethodDescriptor "()D" = some ⟨[], some .double⟩ := by decide +kernel
theorem pd_16 : parseMethodDescriptor "(C)Ljava/lang/String;" = some ⟨[.char], some (.object "java/lang/String")⟩ := by decide +kernel
set_option maxRecDepth 65536 in
set_option maxHeartbeats 40000000 in
theorem rm0 (l : Launch) (Z : State) (a0 : Array Value) (hw : ∀ d ∈ tables_1, d.before a0 Z = true) (ws : List Jvm.Cond) (u0 : Int32) (u1 : Int32) (w2 : Int64) (cs : Int32) (h0 : Heap) (n0 : Nat) (Z0 : n0 ≤ h0.size) (SZ_C : Sta Z Z.heap "java/lang/String" "COMPACT_STRINGS" "Z" (.int cs)) (hcs : ¬ cs = 0) (O0 : Old Z n0 h0) (HZ : CHv Z own_EL Z.vm h0) :
    MetFree l x (head1 (Jvm.Cond.code x code maxLocals ret :: ws) room_1) (fun a U => a = #[(.int u0), (.int u1), (.long w2)] ∧ Z.Warmed39 U.vm ∧ U.heap = h0 ∧ U.vm = Z.vm) (fun _ _ _ _ _ => True) (fun _ U o U' => ∃ v L, o = .returned v ∧ QL n0 v U'.heap L ∧ ReturnedEndW U o U' L 7 14) := by
  refine MetFree.of_bodySF (plainFor_of_name pn_0) hisR ?_
  intro p e s m args below meth c s₁ Bd hml0 hP hK
  obtain ⟨rfl, hZ, hh, hvm⟩ := hP
  have hx := Bd.exec
  have hby := Bd.bytes
  have hml : c.maxLocals = 12 := hml0
  have hown : s.vm.findClass "com/example/scorpus/scorpus/engine/FigureCountPinLaw" = some m.cls := findClass_of_methodNamed Bd.named
  have hnm := (name_of_methodNamed Bd.named Bd.method).1
  have X0 : Stand p l e room_1 s m #[(.int u0), (.int u1), (.long w2)] below meth c s₁ [] 0 0 := Stand.of_body Bd
  have e0 : s₁.heap = h0 := by rw [← hh, Bd.state]; rfl
  have N0 := Fr.nil n0
  have pre0 : ∀ t, Steps p.tables e below (s₁.setTop (mkF m 0 #[.val (.int u0), .val (.int u1), .val (.long w2), .second, .unset, .unset, .unset, .unset, .unset, .unset, .unset, .unset] [])) t → Steps p.tables e below (s₁.setTop (entryFrame m #[(.int u0), (.int u1), (.long w2)] maxLocals)) t := fun t k => castTop (ef_0 m u0 u1 w2) k
  have K0 : Keep h0 h0 [] := Keep.refl h0 []
  have pre1 : ∀ t, Steps p.tables e below (s₁.setTop (mkF m 26 #[.val (.int u0), .val (.int u1), .val (.long w2), .second, .val (.int ((u0 &&& (255 : Int32)).toUInt32.toUInt16.toUInt32.toInt32)), .val (.int ((((u0.toUInt32 >>> ((8 : Int32) &&& 31).toUInt32).toInt32) &&& (255 : Int32)).toUInt32.toUInt16.toUInt32.toInt32)), .val (.int (u1 &&& (3 : Int32))), .unset, .unset, .unset, .unset, .unset] [(.int (u1 &&& (3 : Int32)))])) t → Steps p.tables e below (s₁.setTop (entryFrame m #[(.int u0), (.int u1), (.long w2)] maxLocals)) t := fun t k => pre0 t (by
    show Steps p.tables e below (s₁.setTop (mkF m 0 #[.val (.int u0), .val (.int u1), .val (.long w2), .second, .unset, .unset, .unset, .unset, .unset, .unset, .unset, .unset] [])) _
    refine XS.iloadN X0.here hx rfl (hb hby at_0) rfl ?_
    show Steps p.tables e below (s₁.setTop (mkF m 1 #[.val (.int u0), .val (.int u1), .val (.long w2), .second, .unset, .unset, .unset, .unset, .unset, .unset, .unset, .unset] [(.int u0)])) _
    refine XS.sipush X0.here hx rfl (hb hby at_1) ?_
    show Steps p.tables e below (s₁.setTop (mkF m 4 #[.val (.int u0), .val (.int u1), .val (.long w2), .second, .unset, .unset, .unset, .unset, .unset, .unset, .unset, .unset] [(.int (255 : Int32)), (.int u0)])) _
    refine XS.iand X0.here hx rfl (hb hby at_4) rfl ?_
    show Steps p.tables e below (s₁.setTop (mkF m 5 #[.val (.int u0), .val (.int u1), .val (.long w2), .second, .unset, .unset, .unset, .unset, .unset, .unset, .unset, .unset] [(.int (u0 &&& (255 : Int32)))])) _
    refine XS.i2c X0.here hx rfl (hb hby at_5) rfl ?_
    show Steps p.tables e below (s₁.setTop (mkF m 6 #[.val (.int u0), .val (.int u1), .val (.long w2), .second, .unset, .unset, .unset, .unset, .unset, .unset, .unset, .unset] [(.int ((u0 &&& (255 : Int32)).toUInt32.toUInt16.toUInt32.toInt32))])) _
    refine XS.istore X0.here hx rfl (hb hby at_6) rfl (l' := #[.val (.int u0), .val (.int u1), .val (.long w2), .second, .val (.int ((u0 &&& (255 : Int32)).toUInt32.toUInt16.toUInt32.toInt32)), .unset, .unset, .unset, .unset, .unset, .unset, .unset]) rfl ?_
    show Steps p.tables e below (s₁.setTop (mkF m 8 #[.val (.int u0), .val (.int u1), .val (.long w2), .second, .val (.int ((u0 &&& (255 : Int32)).toUInt32.toUInt16.toUInt32.toInt32)), .unset, .unset, .unset, .unset, .unset, .unset, .unset] [])) _
    refine XS.iloadN X0.here hx rfl (hb hby at_8) rfl ?_
    show Steps p.tables e below (s₁.setTop (mkF m 9 #[.val (.int u0), .val (.int u1), .val (.long w2), .second, .val (.int ((u0 &&& (255 : Int32)).toUInt32.toUInt16.toUInt32.toInt32)), .unset, .unset, .unset, .unset, .unset, .unset, .unset] [(.int u0)])) _
    refine XS.bipush X0.here hx rfl (hb hby at_9) ?_
    show Steps p.tables e below (s₁.setTop (mkF m 11 #[.val (.int u0), .val (.int u1), .val (.long w2), .second, .val (.int ((u0 &&& (255 : Int32)).toUInt32.toUInt16.toUInt32.toInt32)), .unset, .unset, .unset, .unset, .unset, .unset, .unset] [(.int (8 : Int32)), (.int u0)])) _
    refine XS.iushr X0.here hx rfl (hb hby at_11) rfl ?_
    show Steps p.tables e below (s₁.setTop (mkF m 12 #[.val (.int u0), .val (.int u1), .val (.long w2), .second, .val (.int ((u0 &&& (255 : Int32)).toUInt32.toUInt16.toUInt32.toInt32)), .unset, .unset, .unset, .unset, .unset, .unset, .unset] [(.int ((u0.toUInt32 >>> ((8 : Int32) &&& 31).toUInt32).toInt32))])) _
    refine XS.sipush X0.here hx rfl (hb hby at_12) ?_
    show Steps p.tables e below (s₁.setTop (mkF m 15 #[.val (.int u0), .val (.int u1), .val (.long w2), .second, .val (.int ((u0 &&& (255 : Int32)).toUInt32.toUInt16.toUInt32.toInt32)), .unset, .unset, .unset, .unset, .unset, .unset, .unset] [(.int (255 : Int32)), (.int ((u0.toUInt32 >>> ((8 : Int32) &&& 31).toUInt32).toInt32))])) _
    refine XS.iand X0.here hx rfl (hb hby at_15) rfl ?_
    show Steps p.tables e below (s₁.setTop (mkF m 16 #[.val (.int u0), .val (.int u1), .val (.long w2), .second, .val (.int ((u0 &&& (255 : Int32)).toUInt32.toUInt16.toUInt32.toInt32)), .unset, .unset, .unset, .unset, .unset, .unset, .unset] [(.int (((u0.toUInt32 >>> ((8 : Int32) &&& 31).toUInt32).toInt32) &&& (255 : Int32)))])) _
    refine XS.i2c X0.here hx rfl (hb hby at_16) rfl ?_
    show Steps p.tables e below (s₁.setTop (mkF m 17 #[.val (.int u0), .val (.int u1), .val (.long w2), .second, .val (.int ((u0 &&& (255 : Int32)).toUInt32.toUInt16.toUInt32.toInt32)), .unset, .unset, .unset, .unset, .unset, .unset, .unset] [(.int ((((u0.toUInt32 >>> ((8 : Int32) &&& 31).toUInt32).toInt32) &&& (255 : Int32)).toUInt32.toUInt16.toUInt32.toInt32))])) _
    refine XS.istore X0.here hx rfl (hb hby at_17) rfl (l' := #[.val (.int u0), .val (.int u1), .val (.long w2), .second, .val (.int ((u0 &&& (255 : Int32)).toUInt32.toUInt16.toUInt32.toInt32)), .val (.int ((((u0.toUInt32 >>> ((8 : Int32) &&& 31).toUInt32).toInt32) &&& (255 : Int32)).toUInt32.toUInt16.toUInt32.toInt32)), .unset, .unset, .unset, .unset, .unset, .unset]) rfl ?_
    show Steps p.tables e below (s₁.setTop (mkF m 19 #[.val (.int u0), .val (.int u1), .val (.long w2), .second, .val (.int ((u0 &&& (255 : Int32)).toUInt32.toUInt16.toUInt32.toInt32)), .val (.int ((((u0.toUInt32 >>> ((8 : Int32) &&& 31).toUInt32).toInt32) &&& (255 : Int32)).toUInt32.toUInt16.toUInt32.toInt32)), .unset, .unset, .unset, .unset, .unset, .unset] [])) _
    refine XS.iloadN X0.here hx rfl (hb hby at_19) rfl ?_
    show Steps p.tables e below (s₁.setTop (mkF m 20 #[.val (.int u0), .val (.int u1), .val (.long w2), .second, .val (.int ((u0 &&& (255 : Int32)).toUInt32.toUInt16.toUInt32.toInt32)), .val (.int ((((u0.toUInt32 >>> ((8 : Int32) &&& 31).toUInt32).toInt32) &&& (255 : Int32)).toUInt32.toUInt16.toUInt32.toInt32)), .unset, .unset, .unset, .unset, .unset, .unset] [(.int u1)])) _
    refine XS.iconst X0.here hx rfl (hb hby at_20) ?_
    show Steps p.tables e below (s₁.setTop (mkF m 21 #[.val (.int u0), .val (.int u1), .val (.long w2), .second, .val (.int ((u0 &&& (255 : Int32)).toUInt32.toUInt16.toUInt32.toInt32)), .val (.int ((((u0.toUInt32 >>> ((8 : Int32) &&& 31).toUInt32).toInt32) &&& (255 : Int32)).toUInt32.toUInt16.toUInt32.toInt32)), .unset, .unset, .unset, .unset, .unset, .unset] [(.int (3 : Int32)), (.int u1)])) _
    refine XS.iand X0.here hx rfl (hb hby at_21) rfl ?_
    show Steps p.tables e below (s₁.setTop (mkF m 22 #[.val (.int u0), .val (.int u1), .val (.long w2), .second, .val (.int ((u0 &&& (255 : Int32)).toUInt32.toUInt16.toUInt32.toInt32)), .val (.int ((((u0.toUInt32 >>> ((8 : Int32) &&& 31).toUInt32).toInt32) &&& (255 : Int32)).toUInt32.toUInt16.toUInt32.toInt32)), .unset, .unset, .unset, .unset, .unset, .unset] [(.int (u1 &&& (3 : Int32)))])) _
    refine XS.istore X0.here hx rfl (hb hby at_22) rfl (l' := #[.val (.int u0), .val (.int u1), .val (.long w2), .second, .val (.int ((u0 &&& (255 : Int32)).toUInt32.toUInt16.toUInt32.toInt32)), .val (.int ((((u0.toUInt32 >>> ((8 : Int32) &&& 31).toUInt32).toInt32) &&& (255 : Int32)).toUInt32.toUInt16.toUInt32.toInt32)), .val (.int (u1 &&& (3 : Int32))), .unset, .unset, .unset, .unset, .unset]) rfl ?_
    show Steps p.tables e below (s₁.setTop (mkF m 24 #[.val (.int u0), .val (.int u1), .val (.long w2), .second, .val (.int ((u0 &&& (255 : Int32)).toUInt32.toUInt16.toUInt32.toInt32)), .val (.int ((((u0.toUInt32 >>> ((8 : Int32) &&& 31).toUInt32).toInt32) &&& (255 : Int32)).toUInt32.toUInt16.toUInt32.toInt32)), .val (.int (u1 &&& (3 : Int32))), .unset, .unset, .unset, .unset, .unset] [])) _
    refine XS.iload X0.here hx rfl (hb hby at_24) rfl ?_
    exact k)
  by_cases hc26 : (u1 &&& (3 : Int32)) = (0 : Int32)
  · -- pc 26: (u1 &&& (3 : Int32)) = (0 : Int32)
    obtain ⟨T2, h2, X2, e2, E2, A2, D2, -, st2⟩ := newO X0 hx hZ hown (hw _ (List.mem_of_getElem? (i := 0) rfl)) (hw _ (List.mem_of_getElem? (i := 1) rfl)) (hw _ (List.mem_of_getElem? (i := 2) rfl)) e0 (g := (mkF m 29 #[.val (.int u0), .val (.int u1), .val (.long w2), .second, .val (.int ((u0 &&& (255 : Int32)).toUInt32.toUInt16.toUInt32.toInt32)), .val (.int ((((u0.toUInt32 >>> ((8 : Int32) &&& 31).toUInt32).toInt32) &&& (255 : Int32)).toUInt32.toUInt16.toUInt32.toInt32)), .val (.int (u1 &&& (3 : Int32))), .unset, .unset, .unset, .unset, .unset] [])) rfl (hb hby at_29) (by decide) (by decide)
    obtain ⟨b2, g2⟩ : ∃ z, z = h0.size := ⟨_, rfl⟩
    rw [← g2] at A2 D2 st2
    have g_b2 : n0 ≤ b2 := Nat.le_trans Z0 (Nat.le_of_eq g2.symm)
    have sz_b2 : h0.size ≤ b2 := Nat.le_trans K0.1 (Nat.le_of_eq g2.symm)
    have CH2 := CHv.ext E2 (hvm ▸ HZ : CHv Z own_EL s.vm h0)
    have O0_3 := O0.ext E2
    have K2 : Keep h0 h2 [] := K0.ext E2
    have F_coder_b2 : Fld Z h2 b2 "java/lang/String" "coder" "B" (.int (0 : Int32)) := D2 (Or.inr (hw _ (List.mem_of_getElem? (i := 27) rfl))) (ty := .byte) (by decide)
    have F_value_b2 : Fld Z h2 b2 "java/lang/String" "value" "[B" .null := D2 (Or.inr (hw _ (List.mem_of_getElem? (i := 29) rfl))) (ty := (.array .byte)) (by decide)
    obtain ⟨T4, h4, k4, X4, e4, E4, A4, st4⟩ := newP X2 hx hZ (hw _ (List.mem_of_getElem? (i := 3) rfl)) e2 (g := (mkF m 34 #[.val (.int u0), .val (.int u1), .val (.long w2), .second, .val (.int ((u0 &&& (255 : Int32)).toUInt32.toUInt16.toUInt32.toInt32)), .val (.int ((((u0.toUInt32 >>> ((8 : Int32) &&& 31).toUInt32).toInt32) &&& (255 : Int32)).toUInt32.toUInt16.toUInt32.toInt32)), .val (.int (u1 &&& (3 : Int32))), .unset, .unset, .unset, .unset, .unset] [(.int (0 : Int32)), (.ref b2), (.ref b2)])) rfl (hb hby at_34) rfl (by decide) (cap := 0) (by decide) (by decide) (by decide) (by decide)
    obtain ⟨b4, g4⟩ : ∃ z, z = h2.size := ⟨_, rfl⟩
    rw [← g4] at A4 st4
    have g_b4 : n0 ≤ b4 := Nat.le_trans (Nat.le_trans Z0 K2.1) (Nat.le_of_eq g4.symm)
    have sz_b4 : h0.size ≤ b4 := Nat.le_trans K2.1 (Nat.le_of_eq g4.symm)
    have ne_b2_b4 : b2 ≠ b4 := Nat.ne_of_lt (Nat.lt_of_lt_of_le A2.lt (Nat.le_of_eq g4.symm))
    have CH4 := CHv.ext E4 CH2
    have O0_5 := O0_3.ext E4
    have A2_6 := A2.ext E4
    have F_coder_b2_7 := F_coder_b2.ext E4
    have F_value_b2_8 := F_value_b2.ext E4
    have K4 : Keep h0 h4 [] := K2.ext E4
    have V_b4 : Arv Z h4 b4 k4 .char (0 : Int32) [] (.int (0 : Int32)) := Arv.new A4 (by decide)
    have pre9 : ∀ t, Steps p.tables e below (T4.setTop (mkF m 36 #[.val (.int u0), .val (.int u1), .val (.long w2), .second, .val (.int ((u0 &&& (255 : Int32)).toUInt32.toUInt16.toUInt32.toInt32)), .val (.int ((((u0.toUInt32 >>> ((8 : Int32) &&& 31).toUInt32).toInt32) &&& (255 : Int32)).toUInt32.toUInt16.toUInt32.toInt32)), .val (.int (u1 &&& (3 : Int32))), .unset, .unset, .unset, .unset, .unset] [(.ref b4), (.ref b2), (.ref b2)])) t → Steps p.tables e below (s₁.setTop (entryFrame m #[(.int u0), (.int u1), (.long w2)] maxLocals)) t := fun t k => pre1 t (by
      show Steps p.tables e below (s₁.setTop (mkF m 26 #[.val (.int u0), .val (.int u1), .val (.long w2), .second, .val (.int ((u0 &&& (255 : Int32)).toUInt32.toUInt16.toUInt32.toInt32)), .val (.int ((((u0.toUInt32 >>> ((8 : Int32) &&& 31).toUInt32).toInt32) &&& (255 : Int32)).toUInt32.toUInt16.toUInt32.toInt32)), .val (.int (u1 &&& (3 : Int32))), .unset, .unset, .unset, .unset, .unset] [(.int (u1 &&& (3 : Int32)))])) _
      refine XS.ifNo X0.here hx rfl (hb hby at_26) rfl ((if0 _ _).trans (teq hc26).2) ?_
      show Steps p.tables e below (s₁.setTop (mkF m 29 #[.val (.int u0), .val (.int u1), .val (.long w2), .second, .val (.int ((u0 &&& (255 : Int32)).toUInt32.toUInt16.toUInt32.toInt32)), .val (.int ((((u0.toUInt32 >>> ((8 : Int32) &&& 31).toUInt32).toInt32) &&& (255 : Int32)).toUInt32.toUInt16.toUInt32.toInt32)), .val (.int (u1 &&& (3 : Int32))), .unset, .unset, .unset, .unset, .unset] [])) _
      refine st2 _ ?_
      show Steps p.tables e below (T2.setTop (mkF m 32 #[.val (.int u0), .val (.int u1), .val (.long w2), .second, .val (.int ((u0 &&& (255 : Int32)).toUInt32.toUInt16.toUInt32.toInt32)), .val (.int ((((u0.toUInt32 >>> ((8 : Int32) &&& 31).toUInt32).toInt32) &&& (255 : Int32)).toUInt32.toUInt16.toUInt32.toInt32)), .val (.int (u1 &&& (3 : Int32))), .unset, .unset, .unset, .unset, .unset] [(.ref b2)])) _
      refine XS.dup X2.here hx rfl (hb hby at_32) rfl rfl ?_
      show Steps p.tables e below (T2.setTop (mkF m 33 #[.val (.int u0), .val (.int u1), .val (.long w2), .second, .val (.int ((u0 &&& (255 : Int32)).toUInt32.toUInt16.toUInt32.toInt32)), .val (.int ((((u0.toUInt32 >>> ((8 : Int32) &&& 31).toUInt32).toInt32) &&& (255 : Int32)).toUInt32.toUInt16.toUInt32.toInt32)), .val (.int (u1 &&& (3 : Int32))), .unset, .unset, .unset, .unset, .unset] [(.ref b2), (.ref b2)])) _
      refine XS.iconst X2.here hx rfl (hb hby at_33) ?_
      show Steps p.tables e below (T2.setTop (mkF m 34 #[.val (.int u0), .val (.int u1), .val (.long w2), .second, .val (.int ((u0 &&& (255 : Int32)).toUInt32.toUInt16.toUInt32.toInt32)), .val (.int ((((u0.toUInt32 >>> ((8 : Int32) &&& 31).toUInt32).toInt32) &&& (255 : Int32)).toUInt32.toUInt16.toUInt32.toInt32)), .val (.int (u1 &&& (3 : Int32))), .unset, .unset, .unset, .unset, .unset] [(.int (0 : Int32)), (.ref b2), (.ref b2)])) _
      refine st4 _ ?_
      exact k)
    obtain ⟨_, _, ⟨T10, L10, k10, n10⟩, -, X10, S10q, hg10, ⟨Lc10, hQ10, l10, y10, z10⟩, st10⟩ := X4.specialBackS hx (y := (⟨"java/lang/String", "<init>", "([C)V"⟩ : MethodName)) rfl hown (mvT hZ (hw _ (List.mem_of_getElem? (i := 4) rfl))) (mvT hZ (hw _ (List.mem_of_getElem? (i := 5) rfl))) (mvT hZ (hw _ (List.mem_of_getElem? (i := 6) rfl))) (by decide) (own_backH (s := s) (vm0 := s.vm) (W := 1) (rm1z l Z a0 hw [] b2 b4 k4 [] h4 n0 (Nat.le_trans Z0 K4.1) A2_6 F_value_b2_8 F_coder_b2_7 g_b2 V_b4) hZ (hw _ (List.mem_of_getElem? (i := 6) rfl)) (hw _ (List.mem_of_getElem? (i := 2) rfl)) (by decide) (by decide) (own_EW hw) CH4) (g := (mkF m 36 #[.val (.int u0), .val (.int u1), .val (.long w2), .second, .val (.int ((u0 &&& (255 : Int32)).toUInt32.toUInt16.toUInt32.toInt32)), .val (.int ((((u0.toUInt32 >>> ((8 : Int32) &&& 31).toUInt32).toInt32) &&& (255 : Int32)).toUInt32.toUInt16.toUInt32.toInt32)), .val (.int (u1 &&& (3 : Int32))), .unset, .unset, .unset, .unset, .unset] [(.ref b4), (.ref b2), (.ref b2)])) rfl (by rw [hml]; rfl) (Steps.refl _) (a := b2) (argsL := [(.ref b4)]) (rest := [(.ref b2)]) (lenOf pd_9 rfl) rfl (by show 2 * 0 + _ ≤ _; exact Nat.le_of_eq rfl) (hb hby at_36) (fun _ _ => ⟨rfl, e4, (by decide : 2 + 2 ≤ _), (by decide : 4 + 4 ≤ _)⟩)
    dsimp only [Pt.U, Pt.locs, Pt.cells, Pt.slots] at X10 l10 y10 z10 st10 hQ10 S10q hg10
    subst l10 y10 z10
    have S10 := foldS (s := s) (vm0 := s.vm) ((State.WarmedH.refl s).since 0) (Nat.zero_le _) S10q hg10
    have hZ : Z.Warmed39 (s.setVm T10.vm).vm := State.Warmed39.trans (t := s.setVm s.vm) hZ S10q.1
    have hown : (s.setVm T10.vm).vm.findClass "com/example/scorpus/scorpus/engine/FigureCountPinLaw" = some m.cls := by rw [show (s.setVm T10.vm).vm = T10.vm from rfl, S10q.1.alike.findClass]; exact hown
    obtain ⟨rb10, kb10, nb10, vs10, cd10, rfl, N10q, K10q, E_r10, F_value10, F_coder10, V_b10⟩ := hQ10
    have N10 := Fr.app N0 N10q
    have K10 : Keep h0 T10.heap [] := K4.trans K10q (allS (Or.inr sz_b2) all0)
    have O0_11 := O0_5.keep K10q ((allS g_b2 all0))
    have pre12 : ∀ t, Steps p.tables e below (T10.setTop (mkF m 85 #[.val (.int u0), .val (.int u1), .val (.long w2), .second, .val (.int ((u0 &&& (255 : Int32)).toUInt32.toUInt16.toUInt32.toInt32)), .val (.int ((((u0.toUInt32 >>> ((8 : Int32) &&& 31).toUInt32).toInt32) &&& (255 : Int32)).toUInt32.toUInt16.toUInt32.toInt32)), .val (.int (u1 &&& (3 : Int32))), .val (.ref b2), .unset, .unset, .unset, .unset] [(.long w2), (.ref b2)])) t → Steps p.tables e below (s₁.setTop (entryFrame m #[(.int u0), (.int u1), (.long w2)] maxLocals)) t := fun t k => pre9 t (by
      show Steps p.tables e below (T4.setTop (mkF m 36 #[.val (.int u0), .val (.int u1), .val (.long w2), .second, .val (.int ((u0 &&& (255 : Int32)).toUInt32.toUInt16.toUInt32.toInt32)), .val (.int ((((u0.toUInt32 >>> ((8 : Int32) &&& 31).toUInt32).toInt32) &&& (255 : Int32)).toUInt32.toUInt16.toUInt32.toInt32)), .val (.int (u1 &&& (3 : Int32))), .unset, .unset, .unset, .unset, .unset] [(.ref b4), (.ref b2), (.ref b2)])) _
      refine st10.trans ?_
      show Steps p.tables e below (T10.setTop (mkF m 39 #[.val (.int u0), .val (.int u1), .val (.long w2), .second, .val (.int ((u0 &&& (255 : Int32)).toUInt32.toUInt16.toUInt32.toInt32)), .val (.int ((((u0.toUInt32 >>> ((8 : Int32) &&& 31).toUInt32).toInt32) &&& (255 : Int32)).toUInt32.toUInt16.toUInt32.toInt32)), .val (.int (u1 &&& (3 : Int32))), .unset, .unset, .unset, .unset, .unset] [(.ref b2)])) _
      refine XS.astore X10.here hx rfl (hb hby at_39) rfl rfl (l' := #[.val (.int u0), .val (.int u1), .val (.long w2), .second, .val (.int ((u0 &&& (255 : Int32)).toUInt32.toUInt16.toUInt32.toInt32)), .val (.int ((((u0.toUInt32 >>> ((8 : Int32) &&& 31).toUInt32).toInt32) &&& (255 : Int32)).toUInt32.toUInt16.toUInt32.toInt32)), .val (.int (u1 &&& (3 : Int32))), .val (.ref b2), .unset, .unset, .unset, .unset]) rfl ?_
      show Steps p.tables e below (T10.setTop (mkF m 41 #[.val (.int u0), .val (.int u1), .val (.long w2), .second, .val (.int ((u0 &&& (255 : Int32)).toUInt32.toUInt16.toUInt32.toInt32)), .val (.int ((((u0.toUInt32 >>> ((8 : Int32) &&& 31).toUInt32).toInt32) &&& (255 : Int32)).toUInt32.toUInt16.toUInt32.toInt32)), .val (.int (u1 &&& (3 : Int32))), .val (.ref b2), .unset, .unset, .unset, .unset] [])) _
      refine XS.goto X10.here hx rfl (pc0 := 41) (pc' := 82) rfl (hb hby at_41) (by decide) (by decide) ?_
      show Steps p.tables e below (T10.setTop (mkF m 82 #[.val (.int u0), .val (.int u1), .val (.long w2), .second, .val (.int ((u0 &&& (255 : Int32)).toUInt32.toUInt16.toUInt32.toInt32)), .val (.int ((((u0.toUInt32 >>> ((8 : Int32) &&& 31).toUInt32).toInt32) &&& (255 : Int32)).toUInt32.toUInt16.toUInt32.toInt32)), .val (.int (u1 &&& (3 : Int32))), .val (.ref b2), .unset, .unset, .unset, .unset] [])) _
      refine XS.aload X10.here hx rfl (hb hby at_82) rfl rfl ?_
      show Steps p.tables e below (T10.setTop (mkF m 84 #[.val (.int u0), .val (.int u1), .val (.long w2), .second, .val (.int ((u0 &&& (255 : Int32)).toUInt32.toUInt16.toUInt32.toInt32)), .val (.int ((((u0.toUInt32 >>> ((8 : Int32) &&& 31).toUInt32).toInt32) &&& (255 : Int32)).toUInt32.toUInt16.toUInt32.toInt32)), .val (.int (u1 &&& (3 : Int32))), .val (.ref b2), .unset, .unset, .unset, .unset] [(.ref b2)])) _
      refine XS.lloadN X10.here hx rfl (hb hby at_84) rfl ?_
      exact k)
    obtain ⟨_, _, ⟨T13, L13, k13, n13⟩, -, X13, ⟨Lc13, hQ13, l13, y13, z13⟩, st13⟩ := Jvm.LawKit.callS X10 hx (y := (⟨"com/example/scorpus/scorpus/engine/Explanation$Figure", "count", "(Ljava/lang/String;J)Lcom/example/scorpus/scorpus/engine/Explanation$Figure;"⟩ : MethodName)) hown (mvT hZ (hw _ (List.mem_of_getElem? (i := 30) rfl))) (mvT hZ (hw _ (List.mem_of_getElem? (i := 31) rfl))) (mvT hZ (hw _ (List.mem_of_getElem? (i := 32) rfl))) (mvT hZ (hw _ (List.mem_of_getElem? (i := 33) rfl))) (by decide) (backOf (W := 0) (rm7 l Z a0 hw [] b2 w2  T10.heap n0 (Nat.le_trans Z0 K10.1) ) hZ (hw _ (List.mem_of_getElem? (i := 33) rfl)) (hw _ (List.mem_of_getElem? (i := 32) rfl)) (by decide) (by decide)) (g := (mkF m 85 #[.val (.int u0), .val (.int u1), .val (.long w2), .second, .val (.int ((u0 &&& (255 : Int32)).toUInt32.toUInt16.toUInt32.toInt32)), .val (.int ((((u0.toUInt32 >>> ((8 : Int32) &&& 31).toUInt32).toInt32) &&& (255 : Int32)).toUInt32.toUInt16.toUInt32.toInt32)), .val (.int (u1 &&& (3 : Int32))), .val (.ref b2), .unset, .unset, .unset, .unset] [(.long w2), (.ref b2)])) rfl (by rw [hml]; rfl) (argsL := [(.ref b2), (.long w2)]) (rest := []) (lenOf pd_10 rfl) rfl (by show 2 * 0 + _ ≤ _; exact Nat.le_of_eq rfl) (hb hby at_85) (fun _ _ => ⟨rfl, rfl, (by decide : 4 + 1 ≤ _), (by decide : 8 + 3 ≤ _)⟩)
    dsimp only [Pt.U, Pt.locs, Pt.cells, Pt.slots] at X13 l13 y13 z13 st13 hQ13
    subst l13 y13 z13
    obtain ⟨b13, rfl, N13q, K13q, E_r13, F_name13, F_value13, F_count13⟩ := hQ13
    have N13 := Fr.app N10 N13q
    have K13 : Keep h0 T13.heap [] := K10.trans K13q all0
    have O0_14 := O0_11.keep K13q (all0)
    have E_r10_15 := E_r10.keep K13q
    have F_value10_16 := F_value10.keep K13q nin0
    have F_coder10_17 := F_coder10.keep K13q nin0
    have V_b10_18 := V_b10.keep K13q nin0
    have hle_19 := Nat.le_trans (Nat.le_refl T10.heap.size) K13q.1
    have pre20 : ∀ t, Steps p.tables e below (T13.setTop (mkF m 92 #[.val (.int u0), .val (.int u1), .val (.long w2), .second, .val (.int ((u0 &&& (255 : Int32)).toUInt32.toUInt16.toUInt32.toInt32)), .val (.int ((((u0.toUInt32 >>> ((8 : Int32) &&& 31).toUInt32).toInt32) &&& (255 : Int32)).toUInt32.toUInt16.toUInt32.toInt32)), .val (.int (u1 &&& (3 : Int32))), .val (.ref b2), .val (.ref b13), .unset, .unset, .unset] [(.ref b13)])) t → Steps p.tables e below (s₁.setTop (entryFrame m #[(.int u0), (.int u1), (.long w2)] maxLocals)) t := fun t k => pre12 t (by
      show Steps p.tables e below (T10.setTop (mkF m 85 #[.val (.int u0), .val (.int u1), .val (.long w2), .second, .val (.int ((u0 &&& (255 : Int32)).toUInt32.toUInt16.toUInt32.toInt32)), .val (.int ((((u0.toUInt32 >>> ((8 : Int32) &&& 31).toUInt32).toInt32) &&& (255 : Int32)).toUInt32.toUInt16.toUInt32.toInt32)), .val (.int (u1 &&& (3 : Int32))), .val (.ref b2), .unset, .unset, .unset, .unset] [(.long w2), (.ref b2)])) _
      refine st13 _ ?_
      show Steps p.tables e below (T13.setTop (mkF m 88 #[.val (.int u0), .val (.int u1), .val (.long w2), .second, .val (.int ((u0 &&& (255 : Int32)).toUInt32.toUInt16.toUInt32.toInt32)), .val (.int ((((u0.toUInt32 >>> ((8 : Int32) &&& 31).toUInt32).toInt32) &&& (255 : Int32)).toUInt32.toUInt16.toUInt32.toInt32)), .val (.int (u1 &&& (3 : Int32))), .val (.ref b2), .unset, .unset, .unset, .unset] [(.ref b13)])) _
      refine XS.astore X13.here hx rfl (hb hby at_88) rfl rfl (l' := #[.val (.int u0), .val (.int u1), .val (.long w2), .second, .val (.int ((u0 &&& (255 : Int32)).toUInt32.toUInt16.toUInt32.toInt32)), .val (.int ((((u0.toUInt32 >>> ((8 : Int32) &&& 31).toUInt32).toInt32) &&& (255 : Int32)).toUInt32.toUInt16.toUInt32.toInt32)), .val (.int (u1 &&& (3 : Int32))), .val (.ref b2), .val (.ref b13), .unset, .unset, .unset]) rfl ?_
      show Steps p.tables e below (T13.setTop (mkF m 90 #[.val (.int u0), .val (.int u1), .val (.long w2), .second, .val (.int ((u0 &&& (255 : Int32)).toUInt32.toUInt16.toUInt32.toInt32)), .val (.int ((((u0.toUInt32 >>> ((8 : Int32) &&& 31).toUInt32).toInt32) &&& (255 : Int32)).toUInt32.toUInt16.toUInt32.toInt32)), .val (.int (u1 &&& (3 : Int32))), .val (.ref b2), .val (.ref b13), .unset, .unset, .unset] [])) _
      refine XS.aload X13.here hx rfl (hb hby at_90) rfl rfl ?_
      exact k)
    obtain ⟨cq21, kq21, q21a, q21b, q21c⟩ := isOf hZ rfl E_r13
    obtain ⟨_, _, ⟨T21, L21, k21, n21⟩, -, X21, ⟨Lc21, hQ21, l21, y21, z21⟩, st21⟩ := X13.virtualBack hx (y := (⟨"com/example/scorpus/scorpus/engine/Explanation$Figure", "isCount", "()Z"⟩ : MethodName)) (z := (⟨"com/example/scorpus/scorpus/engine/Explanation$Figure", "isCount", "()Z"⟩ : MethodName)) hown (mvT hZ (hw _ (List.mem_of_getElem? (i := 46) rfl))) (mvT hZ (hw _ (List.mem_of_getElem? (i := 47) rfl))) (notFace_of_selects (args := #[]) (mvT hZ (hw _ (List.mem_of_getElem? (i := 49) rfl)))) (mvT hZ (hw _ (List.mem_of_getElem? (i := 49) rfl))) (mvT hZ (hw _ (List.mem_of_getElem? (i := 48) rfl))) (by decide) (backOf (W := 0) (rm9 l Z a0 hw [] b13 (nar .boolean (1 : Int32)) T13.heap n0 (Nat.le_trans Z0 K13.1) F_count13) hZ (hw _ (List.mem_of_getElem? (i := 50) rfl)) (hw _ (List.mem_of_getElem? (i := 32) rfl)) (by decide) (by decide)) q21a q21c (g := (mkF m 92 #[.val (.int u0), .val (.int u1), .val (.long w2), .second, .val (.int ((u0 &&& (255 : Int32)).toUInt32.toUInt16.toUInt32.toInt32)), .val (.int ((((u0.toUInt32 >>> ((8 : Int32) &&& 31).toUInt32).toInt32) &&& (255 : Int32)).toUInt32.toUInt16.toUInt32.toInt32)), .val (.int (u1 &&& (3 : Int32))), .val (.ref b2), .val (.ref b13), .unset, .unset, .unset] [(.ref b13)])) rfl (by rw [hml]; rfl) (Steps.refl _) (argsL := []) (rest := []) (lenOf pd_11 rfl) rfl (by show 2 * 0 + _ ≤ _; exact Nat.le_of_eq rfl) (hb hby at_92) (fun _ _ => ⟨rfl, rfl, (by decide : 5 + 0 ≤ _), (by decide : 11 + 0 ≤ _)⟩)
    dsimp only [Pt.U, Pt.locs, Pt.cells, Pt.slots] at X21 l21 y21 z21 st21 hQ21
    subst l21 y21 z21
    obtain ⟨rfl, N21q, e21⟩ := hQ21
    have N21 := Fr.app N13 N21q
    have pre22 : ∀ t, Steps p.tables e below (T21.setTop (mkF m 104 #[.val (.int u0), .val (.int u1), .val (.long w2), .second, .val (.int ((u0 &&& (255 : Int32)).toUInt32.toUInt16.toUInt32.toInt32)), .val (.int ((((u0.toUInt32 >>> ((8 : Int32) &&& 31).toUInt32).toInt32) &&& (255 : Int32)).toUInt32.toUInt16.toUInt32.toInt32)), .val (.int (u1 &&& (3 : Int32))), .val (.ref b2), .val (.ref b13), .val (.int (nar .boolean (nar .boolean (1 : Int32)))), .unset, .unset] [(.ref b13)])) t → Steps p.tables e below (s₁.setTop (entryFrame m #[(.int u0), (.int u1), (.long w2)] maxLocals)) t := fun t k => pre20 t (by
      show Steps p.tables e below (T13.setTop (mkF m 92 #[.val (.int u0), .val (.int u1), .val (.long w2), .second, .val (.int ((u0 &&& (255 : Int32)).toUInt32.toUInt16.toUInt32.toInt32)), .val (.int ((((u0.toUInt32 >>> ((8 : Int32) &&& 31).toUInt32).toInt32) &&& (255 : Int32)).toUInt32.toUInt16.toUInt32.toInt32)), .val (.int (u1 &&& (3 : Int32))), .val (.ref b2), .val (.ref b13), .unset, .unset, .unset] [(.ref b13)])) _
      refine st21.trans ?_
      show Steps p.tables e below (T21.setTop (mkF m 95 #[.val (.int u0), .val (.int u1), .val (.long w2), .second, .val (.int ((u0 &&& (255 : Int32)).toUInt32.toUInt16.toUInt32.toInt32)), .val (.int ((((u0.toUInt32 >>> ((8 : Int32) &&& 31).toUInt32).toInt32) &&& (255 : Int32)).toUInt32.toUInt16.toUInt32.toInt32)), .val (.int (u1 &&& (3 : Int32))), .val (.ref b2), .val (.ref b13), .unset, .unset, .unset] [(.int (nar .boolean (nar .boolean (1 : Int32))))])) _
      refine XS.istore X21.here hx rfl (hb hby at_95) rfl (l' := #[.val (.int u0), .val (.int u1), .val (.long w2), .second, .val (.int ((u0 &&& (255 : Int32)).toUInt32.toUInt16.toUInt32.toInt32)), .val (.int ((((u0.toUInt32 >>> ((8 : Int32) &&& 31).toUInt32).toInt32) &&& (255 : Int32)).toUInt32.toUInt16.toUInt32.toInt32)), .val (.int (u1 &&& (3 : Int32))), .val (.ref b2), .val (.ref b13), .val (.int (nar .boolean (nar .boolean (1 : Int32)))), .unset, .unset]) rfl ?_
      show Steps p.tables e below (T21.setTop (mkF m 97 #[.val (.int u0), .val (.int u1), .val (.long w2), .second, .val (.int ((u0 &&& (255 : Int32)).toUInt32.toUInt16.toUInt32.toInt32)), .val (.int ((((u0.toUInt32 >>> ((8 : Int32) &&& 31).toUInt32).toInt32) &&& (255 : Int32)).toUInt32.toUInt16.toUInt32.toInt32)), .val (.int (u1 &&& (3 : Int32))), .val (.ref b2), .val (.ref b13), .val (.int (nar .boolean (nar .boolean (1 : Int32)))), .unset, .unset] [])) _
      refine XS.iload X21.here hx rfl (hb hby at_97) rfl ?_
      show Steps p.tables e below (T21.setTop (mkF m 99 #[.val (.int u0), .val (.int u1), .val (.long w2), .second, .val (.int ((u0 &&& (255 : Int32)).toUInt32.toUInt16.toUInt32.toInt32)), .val (.int ((((u0.toUInt32 >>> ((8 : Int32) &&& 31).toUInt32).toInt32) &&& (255 : Int32)).toUInt32.toUInt16.toUInt32.toInt32)), .val (.int (u1 &&& (3 : Int32))), .val (.ref b2), .val (.ref b13), .val (.int (nar .boolean (nar .boolean (1 : Int32)))), .unset, .unset] [(.int (nar .boolean (nar .boolean (1 : Int32))))])) _
      refine XS.ifNo X21.here hx rfl (hb hby at_99) rfl ((if0 _ _).trans (feq (by decide)).1) ?_
      show Steps p.tables e below (T21.setTop (mkF m 102 #[.val (.int u0), .val (.int u1), .val (.long w2), .second, .val (.int ((u0 &&& (255 : Int32)).toUInt32.toUInt16.toUInt32.toInt32)), .val (.int ((((u0.toUInt32 >>> ((8 : Int32) &&& 31).toUInt32).toInt32) &&& (255 : Int32)).toUInt32.toUInt16.toUInt32.toInt32)), .val (.int (u1 &&& (3 : Int32))), .val (.ref b2), .val (.ref b13), .val (.int (nar .boolean (nar .boolean (1 : Int32)))), .unset, .unset] [])) _
      refine XS.aload X21.here hx rfl (hb hby at_102) rfl rfl ?_
      exact k)
    obtain ⟨cq23, kq23, q23a, q23b, q23c⟩ := isOf hZ e21 E_r13
    obtain ⟨_, _, ⟨T23, L23, k23, n23⟩, -, X23, ⟨Lc23, hQ23, l23, y23, z23⟩, st23⟩ := X21.virtualBack hx (y := (⟨"com/example/scorpus/scorpus/engine/Explanation$Figure", "name", "()Ljava/lang/String;"⟩ : MethodName)) (z := (⟨"com/example/scorpus/scorpus/engine/Explanation$Figure", "name", "()Ljava/lang/String;"⟩ : MethodName)) hown (mvT hZ (hw _ (List.mem_of_getElem? (i := 51) rfl))) (mvT hZ (hw _ (List.mem_of_getElem? (i := 52) rfl))) (notFace_of_selects (args := #[]) (mvT hZ (hw _ (List.mem_of_getElem? (i := 54) rfl)))) (mvT hZ (hw _ (List.mem_of_getElem? (i := 54) rfl))) (mvT hZ (hw _ (List.mem_of_getElem? (i := 53) rfl))) (by decide) (backOf (W := 0) (rm10 l Z a0 hw [] b13 b2 T13.heap n0 (Nat.le_trans Z0 K13.1) F_name13) hZ (hw _ (List.mem_of_getElem? (i := 55) rfl)) (hw _ (List.mem_of_getElem? (i := 32) rfl)) (by decide) (by decide)) q23a q23c (g := (mkF m 104 #[.val (.int u0), .val (.int u1), .val (.long w2), .second, .val (.int ((u0 &&& (255 : Int32)).toUInt32.toUInt16.toUInt32.toInt32)), .val (.int ((((u0.toUInt32 >>> ((8 : Int32) &&& 31).toUInt32).toInt32) &&& (255 : Int32)).toUInt32.toUInt16.toUInt32.toInt32)), .val (.int (u1 &&& (3 : Int32))), .val (.ref b2), .val (.ref b13), .val (.int (nar .boolean (nar .boolean (1 : Int32)))), .unset, .unset] [(.ref b13)])) rfl (by rw [hml]; rfl) (Steps.refl _) (argsL := []) (rest := []) (lenOf pd_12 rfl) rfl (by show 2 * 0 + _ ≤ _; exact Nat.le_of_eq rfl) (hb hby at_104) (fun _ _ => ⟨rfl, e21, (by decide : 5 + 0 ≤ _), (by decide : 11 + 0 ≤ _)⟩)
    dsimp only [Pt.U, Pt.locs, Pt.cells, Pt.slots] at X23 l23 y23 z23 st23 hQ23
    subst l23 y23 z23
    obtain ⟨rfl, N23q, e23⟩ := hQ23
    have N23 := Fr.app N21 N23q
    have pre24 : ∀ t, Steps p.tables e below (T23.setTop (mkF m 109 #[.val (.int u0), .val (.int u1), .val (.long w2), .second, .val (.int ((u0 &&& (255 : Int32)).toUInt32.toUInt16.toUInt32.toInt32)), .val (.int ((((u0.toUInt32 >>> ((8 : Int32) &&& 31).toUInt32).toInt32) &&& (255 : Int32)).toUInt32.toUInt16.toUInt32.toInt32)), .val (.int (u1 &&& (3 : Int32))), .val (.ref b2), .val (.ref b13), .val (.int (nar .boolean (nar .boolean (1 : Int32)))), .unset, .unset] [(.ref b2), (.ref b2)])) t → Steps p.tables e below (s₁.setTop (entryFrame m #[(.int u0), (.int u1), (.long w2)] maxLocals)) t := fun t k => pre22 t (by
      show Steps p.tables e below (T21.setTop (mkF m 104 #[.val (.int u0), .val (.int u1), .val (.long w2), .second, .val (.int ((u0 &&& (255 : Int32)).toUInt32.toUInt16.toUInt32.toInt32)), .val (.int ((((u0.toUInt32 >>> ((8 : Int32) &&& 31).toUInt32).toInt32) &&& (255 : Int32)).toUInt32.toUInt16.toUInt32.toInt32)), .val (.int (u1 &&& (3 : Int32))), .val (.ref b2), .val (.ref b13), .val (.int (nar .boolean (nar .boolean (1 : Int32)))), .unset, .unset] [(.ref b13)])) _
      refine st23.trans ?_
      show Steps p.tables e below (T23.setTop (mkF m 107 #[.val (.int u0), .val (.int u1), .val (.long w2), .second, .val (.int ((u0 &&& (255 : Int32)).toUInt32.toUInt16.toUInt32.toInt32)), .val (.int ((((u0.toUInt32 >>> ((8 : Int32) &&& 31).toUInt32).toInt32) &&& (255 : Int32)).toUInt32.toUInt16.toUInt32.toInt32)), .val (.int (u1 &&& (3 : Int32))), .val (.ref b2), .val (.ref b13), .val (.int (nar .boolean (nar .boolean (1 : Int32)))), .unset, .unset] [(.ref b2)])) _
      refine XS.aload X23.here hx rfl (hb hby at_107) rfl rfl ?_
      exact k)
    obtain ⟨cq25, kq25, q25a, q25b, q25c⟩ := isOf hZ e23 E_r10_15
    obtain ⟨_, _, ⟨T25, L25, k25, n25⟩, -, X25, ⟨Lc25, hQ25, l25, y25, z25⟩, st25⟩ := X23.virtualBack hx (y := (⟨"java/lang/String", "equals", "(Ljava/lang/Object;)Z"⟩ : MethodName)) (z := (⟨"java/lang/String", "equals", "(Ljava/lang/Object;)Z"⟩ : MethodName)) hown (mvT hZ (hw _ (List.mem_of_getElem? (i := 56) rfl))) (mvT hZ (hw _ (List.mem_of_getElem? (i := 57) rfl))) (notFace_of_selects (args := #[]) (mvT hZ (hw _ (List.mem_of_getElem? (i := 59) rfl)))) (mvT hZ (hw _ (List.mem_of_getElem? (i := 59) rfl))) (mvT hZ (hw _ (List.mem_of_getElem? (i := 58) rfl))) (by decide) (backOf (W := 0) (rm11 l Z a0 hw [] b2  T13.heap n0 (Nat.le_trans Z0 K13.1) ) hZ (hw _ (List.mem_of_getElem? (i := 60) rfl)) (hw _ (List.mem_of_getElem? (i := 2) rfl)) (by decide) (by decide)) q25a q25c (g := (mkF m 109 #[.val (.int u0), .val (.int u1), .val (.long w2), .second, .val (.int ((u0 &&& (255 : Int32)).toUInt32.toUInt16.toUInt32.toInt32)), .val (.int ((((u0.toUInt32 >>> ((8 : Int32) &&& 31).toUInt32).toInt32) &&& (255 : Int32)).toUInt32.toUInt16.toUInt32.toInt32)), .val (.int (u1 &&& (3 : Int32))), .val (.ref b2), .val (.ref b13), .val (.int (nar .boolean (nar .boolean (1 : Int32)))), .unset, .unset] [(.ref b2), (.ref b2)])) rfl (by rw [hml]; rfl) (Steps.refl _) (argsL := [(.ref b2)]) (rest := []) (lenOf pd_13 rfl) rfl (by show 2 * 0 + _ ≤ _; exact Nat.le_of_eq rfl) (hb hby at_109) (fun _ _ => ⟨rfl, e23, (by decide : 5 + 0 ≤ _), (by decide : 11 + 0 ≤ _)⟩)
    dsimp only [Pt.U, Pt.locs, Pt.cells, Pt.slots] at X25 l25 y25 z25 st25 hQ25
    subst l25 y25 z25
    obtain ⟨rfl, N25q, e25⟩ := hQ25
    have N25 := Fr.app N23 N25q
    have pre26 : ∀ t, Steps p.tables e below (T25.setTop (mkF m 117 #[.val (.int u0), .val (.int u1), .val (.long w2), .second, .val (.int ((u0 &&& (255 : Int32)).toUInt32.toUInt16.toUInt32.toInt32)), .val (.int ((((u0.toUInt32 >>> ((8 : Int32) &&& 31).toUInt32).toInt32) &&& (255 : Int32)).toUInt32.toUInt16.toUInt32.toInt32)), .val (.int (u1 &&& (3 : Int32))), .val (.ref b2), .val (.ref b13), .val (.int (nar .boolean (nar .boolean (1 : Int32)))), .unset, .unset] [(.ref b13)])) t → Steps p.tables e below (s₁.setTop (entryFrame m #[(.int u0), (.int u1), (.long w2)] maxLocals)) t := fun t k => pre24 t (by
      show Steps p.tables e below (T23.setTop (mkF m 109 #[.val (.int u0), .val (.int u1), .val (.long w2), .second, .val (.int ((u0 &&& (255 : Int32)).toUInt32.toUInt16.toUInt32.toInt32)), .val (.int ((((u0.toUInt32 >>> ((8 : Int32) &&& 31).toUInt32).toInt32) &&& (255 : Int32)).toUInt32.toUInt16.toUInt32.toInt32)), .val (.int (u1 &&& (3 : Int32))), .val (.ref b2), .val (.ref b13), .val (.int (nar .boolean (nar .boolean (1 : Int32)))), .unset, .unset] [(.ref b2), (.ref b2)])) _
      refine st25.trans ?_
      show Steps p.tables e below (T25.setTop (mkF m 112 #[.val (.int u0), .val (.int u1), .val (.long w2), .second, .val (.int ((u0 &&& (255 : Int32)).toUInt32.toUInt16.toUInt32.toInt32)), .val (.int ((((u0.toUInt32 >>> ((8 : Int32) &&& 31).toUInt32).toInt32) &&& (255 : Int32)).toUInt32.toUInt16.toUInt32.toInt32)), .val (.int (u1 &&& (3 : Int32))), .val (.ref b2), .val (.ref b13), .val (.int (nar .boolean (nar .boolean (1 : Int32)))), .unset, .unset] [(.int (1 : Int32))])) _
      refine XS.ifNo X25.here hx rfl (hb hby at_112) rfl ((if0 _ _).trans (feq (by decide : ¬ ((1 : Int32) = (0 : Int32)))).1) ?_
      show Steps p.tables e below (T25.setTop (mkF m 115 #[.val (.int u0), .val (.int u1), .val (.long w2), .second, .val (.int ((u0 &&& (255 : Int32)).toUInt32.toUInt16.toUInt32.toInt32)), .val (.int ((((u0.toUInt32 >>> ((8 : Int32) &&& 31).toUInt32).toInt32) &&& (255 : Int32)).toUInt32.toUInt16.toUInt32.toInt32)), .val (.int (u1 &&& (3 : Int32))), .val (.ref b2), .val (.ref b13), .val (.int (nar .boolean (nar .boolean (1 : Int32)))), .unset, .unset] [])) _
      refine XS.aload X25.here hx rfl (hb hby at_115) rfl rfl ?_
      exact k)
    obtain ⟨cq27, kq27, q27a, q27b, q27c⟩ := isOf hZ e25 E_r13
    obtain ⟨_, _, ⟨T27, L27, k27, n27⟩, -, X27, ⟨Lc27, hQ27, l27, y27, z27⟩, st27⟩ := X25.virtualBack hx (y := (⟨"com/example/scorpus/scorpus/engine/Explanation$Figure", "name", "()Ljava/lang/String;"⟩ : MethodName)) (z := (⟨"com/example/scorpus/scorpus/engine/Explanation$Figure", "name", "()Ljava/lang/String;"⟩ : MethodName)) hown (mvT hZ (hw _ (List.mem_of_getElem? (i := 51) rfl))) (mvT hZ (hw _ (List.mem_of_getElem? (i := 52) rfl))) (notFace_of_selects (args := #[]) (mvT hZ (hw _ (List.mem_of_getElem? (i := 54) rfl)))) (mvT hZ (hw _ (List.mem_of_getElem? (i := 54) rfl))) (mvT hZ (hw _ (List.mem_of_getElem? (i := 53) rfl))) (by decide) (backOf (W := 0) (rm10 l Z a0 hw [] b13 b2 T13.heap n0 (Nat.le_trans Z0 K13.1) F_name13) hZ (hw _ (List.mem_of_getElem? (i := 55) rfl)) (hw _ (List.mem_of_getElem? (i := 32) rfl)) (by decide) (by decide)) q27a q27c (g := (mkF m 117 #[.val (.int u0), .val (.int u1), .val (.long w2), .second, .val (.int ((u0 &&& (255 : Int32)).toUInt32.toUInt16.toUInt32.toInt32)), .val (.int ((((u0.toUInt32 >>> ((8 : Int32) &&& 31).toUInt32).toInt32) &&& (255 : Int32)).toUInt32.toUInt16.toUInt32.toInt32)), .val (.int (u1 &&& (3 : Int32))), .val (.ref b2), .val (.ref b13), .val (.int (nar .boolean (nar .boolean (1 : Int32)))), .unset, .unset] [(.ref b13)])) rfl (by rw [hml]; rfl) (Steps.refl _) (argsL := []) (rest := []) (lenOf pd_12 rfl) rfl (by show 2 * 0 + _ ≤ _; exact Nat.le_of_eq rfl) (hb hby at_117) (fun _ _ => ⟨rfl, e25, (by decide : 5 + 0 ≤ _), (by decide : 11 + 0 ≤ _)⟩)
    dsimp only [Pt.U, Pt.locs, Pt.cells, Pt.slots] at X27 l27 y27 z27 st27 hQ27
    subst l27 y27 z27
    obtain ⟨rfl, N27q, e27⟩ := hQ27
    have N27 := Fr.app N25 N27q
    have SC28 := SZ_C.ext O0_14.2
    have pre29 : ∀ t, Steps p.tables e below (T27.setTop (mkF m 120 #[.val (.int u0), .val (.int u1), .val (.long w2), .second, .val (.int ((u0 &&& (255 : Int32)).toUInt32.toUInt16.toUInt32.toInt32)), .val (.int ((((u0.toUInt32 >>> ((8 : Int32) &&& 31).toUInt32).toInt32) &&& (255 : Int32)).toUInt32.toUInt16.toUInt32.toInt32)), .val (.int (u1 &&& (3 : Int32))), .val (.ref b2), .val (.ref b13), .val (.int (nar .boolean (nar .boolean (1 : Int32)))), .unset, .unset] [(.ref b2)])) t → Steps p.tables e below (s₁.setTop (entryFrame m #[(.int u0), (.int u1), (.long w2)] maxLocals)) t := fun t k => pre26 t (by
      show Steps p.tables e below (T25.setTop (mkF m 117 #[.val (.int u0), .val (.int u1), .val (.long w2), .second, .val (.int ((u0 &&& (255 : Int32)).toUInt32.toUInt16.toUInt32.toInt32)), .val (.int ((((u0.toUInt32 >>> ((8 : Int32) &&& 31).toUInt32).toInt32) &&& (255 : Int32)).toUInt32.toUInt16.toUInt32.toInt32)), .val (.int (u1 &&& (3 : Int32))), .val (.ref b2), .val (.ref b13), .val (.int (nar .boolean (nar .boolean (1 : Int32)))), .unset, .unset] [(.ref b13)])) _
      refine st27.trans ?_
      exact k)
    obtain ⟨cq30, kq30, q30a, q30b, q30c⟩ := isOf hZ e27 E_r10_15
    obtain ⟨_, _, ⟨T30, L30, k30, n30⟩, -, X30, ⟨Lc30, hQ30, l30, y30, z30⟩, st30⟩ := X27.virtualBack hx (y := (⟨"java/lang/String", "length", "()I"⟩ : MethodName)) (z := (⟨"java/lang/String", "length", "()I"⟩ : MethodName)) hown (mvT hZ (hw _ (List.mem_of_getElem? (i := 61) rfl))) (mvT hZ (hw _ (List.mem_of_getElem? (i := 62) rfl))) (notFace_of_selects (args := #[]) (mvT hZ (hw _ (List.mem_of_getElem? (i := 64) rfl)))) (mvT hZ (hw _ (List.mem_of_getElem? (i := 64) rfl))) (mvT hZ (hw _ (List.mem_of_getElem? (i := 63) rfl))) (by decide) (backOf (W := 0) (rm12 l Z a0 hw [] b2 rb10 kb10 nb10 vs10 cd10 cs T13.heap n0 (Nat.le_trans Z0 K13.1) E_r10_15 F_value10_16 F_coder10_17 V_b10_18 SC28 hcs) hZ (hw _ (List.mem_of_getElem? (i := 65) rfl)) (hw _ (List.mem_of_getElem? (i := 2) rfl)) (by decide) (by decide)) q30a q30c (g := (mkF m 120 #[.val (.int u0), .val (.int u1), .val (.long w2), .second, .val (.int ((u0 &&& (255 : Int32)).toUInt32.toUInt16.toUInt32.toInt32)), .val (.int ((((u0.toUInt32 >>> ((8 : Int32) &&& 31).toUInt32).toInt32) &&& (255 : Int32)).toUInt32.toUInt16.toUInt32.toInt32)), .val (.int (u1 &&& (3 : Int32))), .val (.ref b2), .val (.ref b13), .val (.int (nar .boolean (nar .boolean (1 : Int32)))), .unset, .unset] [(.ref b2)])) rfl (by rw [hml]; rfl) (Steps.refl _) (argsL := []) (rest := []) (lenOf pd_14 rfl) rfl (by show 2 * 0 + _ ≤ _; exact Nat.le_of_eq rfl) (hb hby at_120) (fun _ _ => ⟨rfl, e27, (by decide : 5 + 0 ≤ _), (by decide : 11 + 0 ≤ _)⟩)
    dsimp only [Pt.U, Pt.locs, Pt.cells, Pt.slots] at X30 l30 y30 z30 st30 hQ30
    subst l30 y30 z30
    obtain ⟨rfl, N30q, e30⟩ := hQ30
    have N30 := Fr.app N27 N30q
    have SC31 := SZ_C.ext O0_14.2
    have pre32 : ∀ t, Steps p.tables e below (T30.setTop (mkF m 125 #[.val (.int u0), .val (.int u1), .val (.long w2), .second, .val (.int ((u0 &&& (255 : Int32)).toUInt32.toUInt16.toUInt32.toInt32)), .val (.int ((((u0.toUInt32 >>> ((8 : Int32) &&& 31).toUInt32).toInt32) &&& (255 : Int32)).toUInt32.toUInt16.toUInt32.toInt32)), .val (.int (u1 &&& (3 : Int32))), .val (.ref b2), .val (.ref b13), .val (.int (nar .boolean (nar .boolean (1 : Int32)))), .unset, .unset] [(.ref b2), (.int (nb10 >>> ((nar .byte cd10) &&& 31)))])) t → Steps p.tables e below (s₁.setTop (entryFrame m #[(.int u0), (.int u1), (.long w2)] maxLocals)) t := fun t k => pre29 t (by
      show Steps p.tables e below (T27.setTop (mkF m 120 #[.val (.int u0), .val (.int u1), .val (.long w2), .second, .val (.int ((u0 &&& (255 : Int32)).toUInt32.toUInt16.toUInt32.toInt32)), .val (.int ((((u0.toUInt32 >>> ((8 : Int32) &&& 31).toUInt32).toInt32) &&& (255 : Int32)).toUInt32.toUInt16.toUInt32.toInt32)), .val (.int (u1 &&& (3 : Int32))), .val (.ref b2), .val (.ref b13), .val (.int (nar .boolean (nar .boolean (1 : Int32)))), .unset, .unset] [(.ref b2)])) _
      refine st30.trans ?_
      show Steps p.tables e below (T30.setTop (mkF m 123 #[.val (.int u0), .val (.int u1), .val (.long w2), .second, .val (.int ((u0 &&& (255 : Int32)).toUInt32.toUInt16.toUInt32.toInt32)), .val (.int ((((u0.toUInt32 >>> ((8 : Int32) &&& 31).toUInt32).toInt32) &&& (255 : Int32)).toUInt32.toUInt16.toUInt32.toInt32)), .val (.int (u1 &&& (3 : Int32))), .val (.ref b2), .val (.ref b13), .val (.int (nar .boolean (nar .boolean (1 : Int32)))), .unset, .unset] [(.int (nb10 >>> ((nar .byte cd10) &&& 31)))])) _
      refine XS.aload X30.here hx rfl (hb hby at_123) rfl rfl ?_
      exact k)
    obtain ⟨cq33, kq33, q33a, q33b, q33c⟩ := isOf hZ e30 E_r10_15
    obtain ⟨_, _, ⟨T33, L33, k33, n33⟩, -, X33, ⟨Lc33, hQ33, l33, y33, z33⟩, st33⟩ := X30.virtualBack hx (y := (⟨"java/lang/String", "length", "()I"⟩ : MethodName)) (z := (⟨"java/lang/String", "length", "()I"⟩ : MethodName)) hown (mvT hZ (hw _ (List.mem_of_getElem? (i := 61) rfl))) (mvT hZ (hw _ (List.mem_of_getElem? (i := 62) rfl))) (notFace_of_selects (args := #[]) (mvT hZ (hw _ (List.mem_of_getElem? (i := 64) rfl)))) (mvT hZ (hw _ (List.mem_of_getElem? (i := 64) rfl))) (mvT hZ (hw _ (List.mem_of_getElem? (i := 63) rfl))) (by decide) (backOf (W := 1) (rm12 l Z a0 hw [] b2 rb10 kb10 nb10 vs10 cd10 cs T13.heap n0 (Nat.le_trans Z0 K13.1) E_r10_15 F_value10_16 F_coder10_17 V_b10_18 SC31 hcs) hZ (hw _ (List.mem_of_getElem? (i := 65) rfl)) (hw _ (List.mem_of_getElem? (i := 2) rfl)) (by decide) (by decide)) q33a q33c (g := (mkF m 125 #[.val (.int u0), .val (.int u1), .val (.long w2), .second, .val (.int ((u0 &&& (255 : Int32)).toUInt32.toUInt16.toUInt32.toInt32)), .val (.int ((((u0.toUInt32 >>> ((8 : Int32) &&& 31).toUInt32).toInt32) &&& (255 : Int32)).toUInt32.toUInt16.toUInt32.toInt32)), .val (.int (u1 &&& (3 : Int32))), .val (.ref b2), .val (.ref b13), .val (.int (nar .boolean (nar .boolean (1 : Int32)))), .unset, .unset] [(.ref b2), (.int (nb10 >>> ((nar .byte cd10) &&& 31)))])) rfl (by rw [hml]; rfl) (Steps.refl _) (argsL := []) (rest := [(.int (nb10 >>> ((nar .byte cd10) &&& 31)))]) (lenOf pd_14 rfl) rfl (by show 2 * 0 + _ ≤ _; exact Nat.le_of_eq rfl) (hb hby at_125) (fun _ _ => ⟨rfl, e30, (by decide : 5 + 0 ≤ _), (by decide : 11 + 0 ≤ _)⟩)
    dsimp only [Pt.U, Pt.locs, Pt.cells, Pt.slots] at X33 l33 y33 z33 st33 hQ33
    subst l33 y33 z33
    obtain ⟨rfl, N33q, e33⟩ := hQ33
    have N33 := Fr.app N30 N33q
    have pre34 : ∀ t, Steps p.tables e below (T33.setTop (mkF m 149 #[.val (.int u0), .val (.int u1), .val (.long w2), .second, .val (.int ((u0 &&& (255 : Int32)).toUInt32.toUInt16.toUInt32.toInt32)), .val (.int ((((u0.toUInt32 >>> ((8 : Int32) &&& 31).toUInt32).toInt32) &&& (255 : Int32)).toUInt32.toUInt16.toUInt32.toInt32)), .val (.int (u1 &&& (3 : Int32))), .val (.ref b2), .val (.ref b13), .val (.int (1 : Int32)), .val (.double (FP.l2d w2)), .second] [(.ref b13)])) t → Steps p.tables e below (s₁.setTop (entryFrame m #[(.int u0), (.int u1), (.long w2)] maxLocals)) t := fun t k => pre32 t (by
      show Steps p.tables e below (T30.setTop (mkF m 125 #[.val (.int u0), .val (.int u1), .val (.long w2), .second, .val (.int ((u0 &&& (255 : Int32)).toUInt32.toUInt16.toUInt32.toInt32)), .val (.int ((((u0.toUInt32 >>> ((8 : Int32) &&& 31).toUInt32).toInt32) &&& (255 : Int32)).toUInt32.toUInt16.toUInt32.toInt32)), .val (.int (u1 &&& (3 : Int32))), .val (.ref b2), .val (.ref b13), .val (.int (nar .boolean (nar .boolean (1 : Int32)))), .unset, .unset] [(.ref b2), (.int (nb10 >>> ((nar .byte cd10) &&& 31)))])) _
      refine st33.trans ?_
      show Steps p.tables e below (T33.setTop (mkF m 128 #[.val (.int u0), .val (.int u1), .val (.long w2), .second, .val (.int ((u0 &&& (255 : Int32)).toUInt32.toUInt16.toUInt32.toInt32)), .val (.int ((((u0.toUInt32 >>> ((8 : Int32) &&& 31).toUInt32).toInt32) &&& (255 : Int32)).toUInt32.toUInt16.toUInt32.toInt32)), .val (.int (u1 &&& (3 : Int32))), .val (.ref b2), .val (.ref b13), .val (.int (nar .boolean (nar .boolean (1 : Int32)))), .unset, .unset] [(.int (nb10 >>> ((nar .byte cd10) &&& 31))), (.int (nb10 >>> ((nar .byte cd10) &&& 31)))])) _
      refine XS.icmpNo X33.here hx rfl (hb hby at_128) rfl (teq (rfl : (nb10 >>> ((nar .byte cd10) &&& 31)) = (nb10 >>> ((nar .byte cd10) &&& 31)))).2 ?_
      show Steps p.tables e below (T33.setTop (mkF m 131 #[.val (.int u0), .val (.int u1), .val (.long w2), .second, .val (.int ((u0 &&& (255 : Int32)).toUInt32.toUInt16.toUInt32.toInt32)), .val (.int ((((u0.toUInt32 >>> ((8 : Int32) &&& 31).toUInt32).toInt32) &&& (255 : Int32)).toUInt32.toUInt16.toUInt32.toInt32)), .val (.int (u1 &&& (3 : Int32))), .val (.ref b2), .val (.ref b13), .val (.int (nar .boolean (nar .boolean (1 : Int32)))), .unset, .unset] [])) _
      refine XS.iconst X33.here hx rfl (hb hby at_131) ?_
      show Steps p.tables e below (T33.setTop (mkF m 132 #[.val (.int u0), .val (.int u1), .val (.long w2), .second, .val (.int ((u0 &&& (255 : Int32)).toUInt32.toUInt16.toUInt32.toInt32)), .val (.int ((((u0.toUInt32 >>> ((8 : Int32) &&& 31).toUInt32).toInt32) &&& (255 : Int32)).toUInt32.toUInt16.toUInt32.toInt32)), .val (.int (u1 &&& (3 : Int32))), .val (.ref b2), .val (.ref b13), .val (.int (nar .boolean (nar .boolean (1 : Int32)))), .unset, .unset] [(.int (1 : Int32))])) _
      refine XS.goto X33.here hx rfl (pc0 := 132) (pc' := 136) rfl (hb hby at_132) (by decide) (by decide) ?_
      show Steps p.tables e below (T33.setTop (mkF m 136 #[.val (.int u0), .val (.int u1), .val (.long w2), .second, .val (.int ((u0 &&& (255 : Int32)).toUInt32.toUInt16.toUInt32.toInt32)), .val (.int ((((u0.toUInt32 >>> ((8 : Int32) &&& 31).toUInt32).toInt32) &&& (255 : Int32)).toUInt32.toUInt16.toUInt32.toInt32)), .val (.int (u1 &&& (3 : Int32))), .val (.ref b2), .val (.ref b13), .val (.int (nar .boolean (nar .boolean (1 : Int32)))), .unset, .unset] [(.int (1 : Int32))])) _
      refine XS.istore X33.here hx rfl (hb hby at_136) rfl (l' := #[.val (.int u0), .val (.int u1), .val (.long w2), .second, .val (.int ((u0 &&& (255 : Int32)).toUInt32.toUInt16.toUInt32.toInt32)), .val (.int ((((u0.toUInt32 >>> ((8 : Int32) &&& 31).toUInt32).toInt32) &&& (255 : Int32)).toUInt32.toUInt16.toUInt32.toInt32)), .val (.int (u1 &&& (3 : Int32))), .val (.ref b2), .val (.ref b13), .val (.int (1 : Int32)), .unset, .unset]) rfl ?_
      show Steps p.tables e below (T33.setTop (mkF m 138 #[.val (.int u0), .val (.int u1), .val (.long w2), .second, .val (.int ((u0 &&& (255 : Int32)).toUInt32.toUInt16.toUInt32.toInt32)), .val (.int ((((u0.toUInt32 >>> ((8 : Int32) &&& 31).toUInt32).toInt32) &&& (255 : Int32)).toUInt32.toUInt16.toUInt32.toInt32)), .val (.int (u1 &&& (3 : Int32))), .val (.ref b2), .val (.ref b13), .val (.int (1 : Int32)), .unset, .unset] [])) _
      refine XS.lloadN X33.here hx rfl (hb hby at_138) rfl ?_
      show Steps p.tables e below (T33.setTop (mkF m 139 #[.val (.int u0), .val (.int u1), .val (.long w2), .second, .val (.int ((u0 &&& (255 : Int32)).toUInt32.toUInt16.toUInt32.toInt32)), .val (.int ((((u0.toUInt32 >>> ((8 : Int32) &&& 31).toUInt32).toInt32) &&& (255 : Int32)).toUInt32.toUInt16.toUInt32.toInt32)), .val (.int (u1 &&& (3 : Int32))), .val (.ref b2), .val (.ref b13), .val (.int (1 : Int32)), .unset, .unset] [(.long w2)])) _
      refine XS.l2dS X33.here hx rfl (hb hby at_139) rfl rfl ?_
      show Steps p.tables e below (T33.setTop (mkF m 140 #[.val (.int u0), .val (.int u1), .val (.long w2), .second, .val (.int ((u0 &&& (255 : Int32)).toUInt32.toUInt16.toUInt32.toInt32)), .val (.int ((((u0.toUInt32 >>> ((8 : Int32) &&& 31).toUInt32).toInt32) &&& (255 : Int32)).toUInt32.toUInt16.toUInt32.toInt32)), .val (.int (u1 &&& (3 : Int32))), .val (.ref b2), .val (.ref b13), .val (.int (1 : Int32)), .unset, .unset] [(.double (FP.l2d w2))])) _
      refine XS.dstore X33.here hx rfl (hb hby at_140) rfl (l' := #[.val (.int u0), .val (.int u1), .val (.long w2), .second, .val (.int ((u0 &&& (255 : Int32)).toUInt32.toUInt16.toUInt32.toInt32)), .val (.int ((((u0.toUInt32 >>> ((8 : Int32) &&& 31).toUInt32).toInt32) &&& (255 : Int32)).toUInt32.toUInt16.toUInt32.toInt32)), .val (.int (u1 &&& (3 : Int32))), .val (.ref b2), .val (.ref b13), .val (.int (1 : Int32)), .val (.double (FP.l2d w2)), .second]) rfl ?_
      show Steps p.tables e below (T33.setTop (mkF m 142 #[.val (.int u0), .val (.int u1), .val (.long w2), .second, .val (.int ((u0 &&& (255 : Int32)).toUInt32.toUInt16.toUInt32.toInt32)), .val (.int ((((u0.toUInt32 >>> ((8 : Int32) &&& 31).toUInt32).toInt32) &&& (255 : Int32)).toUInt32.toUInt16.toUInt32.toInt32)), .val (.int (u1 &&& (3 : Int32))), .val (.ref b2), .val (.ref b13), .val (.int (1 : Int32)), .val (.double (FP.l2d w2)), .second] [])) _
      refine XS.iload X33.here hx rfl (hb hby at_142) rfl ?_
      show Steps p.tables e below (T33.setTop (mkF m 144 #[.val (.int u0), .val (.int u1), .val (.long w2), .second, .val (.int ((u0 &&& (255 : Int32)).toUInt32.toUInt16.toUInt32.toInt32)), .val (.int ((((u0.toUInt32 >>> ((8 : Int32) &&& 31).toUInt32).toInt32) &&& (255 : Int32)).toUInt32.toUInt16.toUInt32.toInt32)), .val (.int (u1 &&& (3 : Int32))), .val (.ref b2), .val (.ref b13), .val (.int (1 : Int32)), .val (.double (FP.l2d w2)), .second] [(.int (1 : Int32))])) _
      refine XS.ifNo X33.here hx rfl (hb hby at_144) rfl ((if0 _ _).trans (feq (by decide : ¬ ((1 : Int32) = (0 : Int32)))).1) ?_
      show Steps p.tables e below (T33.setTop (mkF m 147 #[.val (.int u0), .val (.int u1), .val (.long w2), .second, .val (.int ((u0 &&& (255 : Int32)).toUInt32.toUInt16.toUInt32.toInt32)), .val (.int ((((u0.toUInt32 >>> ((8 : Int32) &&& 31).toUInt32).toInt32) &&& (255 : Int32)).toUInt32.toUInt16.toUInt32.toInt32)), .val (.int (u1 &&& (3 : Int32))), .val (.ref b2), .val (.ref b13), .val (.int (1 : Int32)), .val (.double (FP.l2d w2)), .second] [])) _
      refine XS.aload X33.here hx rfl (hb hby at_147) rfl rfl ?_
      exact k)
    obtain ⟨cq35, kq35, q35a, q35b, q35c⟩ := isOf hZ e33 E_r13
    obtain ⟨_, _, ⟨T35, L35, k35, n35⟩, -, X35, ⟨Lc35, hQ35, l35, y35, z35⟩, st35⟩ := X33.virtualBack hx (y := (⟨"com/example/scorpus/scorpus/engine/Explanation$Figure", "value", "()D"⟩ : MethodName)) (z := (⟨"com/example/scorpus/scorpus/engine/Explanation$Figure", "value", "()D"⟩ : MethodName)) hown (mvT hZ (hw _ (List.mem_of_getElem? (i := 71) rfl))) (mvT hZ (hw _ (List.mem_of_getElem? (i := 72) rfl))) (notFace_of_selects (args := #[]) (mvT hZ (hw _ (List.mem_of_getElem? (i := 74) rfl)))) (mvT hZ (hw _ (List.mem_of_getElem? (i := 74) rfl))) (mvT hZ (hw _ (List.mem_of_getElem? (i := 73) rfl))) (by decide) (backOf (W := 0) (rm14 l Z a0 hw [] b13 (FP.l2d w2) T13.heap n0 (Nat.le_trans Z0 K13.1) F_value13) hZ (hw _ (List.mem_of_getElem? (i := 75) rfl)) (hw _ (List.mem_of_getElem? (i := 32) rfl)) (by decide) (by decide)) q35a q35c (g := (mkF m 149 #[.val (.int u0), .val (.int u1), .val (.long w2), .second, .val (.int ((u0 &&& (255 : Int32)).toUInt32.toUInt16.toUInt32.toInt32)), .val (.int ((((u0.toUInt32 >>> ((8 : Int32) &&& 31).toUInt32).toInt32) &&& (255 : Int32)).toUInt32.toUInt16.toUInt32.toInt32)), .val (.int (u1 &&& (3 : Int32))), .val (.ref b2), .val (.ref b13), .val (.int (1 : Int32)), .val (.double (FP.l2d w2)), .second] [(.ref b13)])) rfl (by rw [hml]; rfl) (Steps.refl _) (argsL := []) (rest := []) (lenOf pd_15 rfl) rfl (by show 2 * 0 + _ ≤ _; exact Nat.le_of_eq rfl) (hb hby at_149) (fun _ _ => ⟨rfl, e33, (by decide : 5 + 0 ≤ _), (by decide : 11 + 0 ≤ _)⟩)
    dsimp only [Pt.U, Pt.locs, Pt.cells, Pt.slots] at X35 l35 y35 z35 st35 hQ35
    subst l35 y35 z35
    obtain ⟨rfl, N35q, e35⟩ := hQ35
    have N35 := Fr.app N33 N35q
    have pre36 : ∀ t, Steps p.tables e below (T35.setTop (mkF m 170 #[.val (.int u0), .val (.int u1), .val (.long w2), .second, .val (.int ((u0 &&& (255 : Int32)).toUInt32.toUInt16.toUInt32.toInt32)), .val (.int ((((u0.toUInt32 >>> ((8 : Int32) &&& 31).toUInt32).toInt32) &&& (255 : Int32)).toUInt32.toUInt16.toUInt32.toInt32)), .val (.int (u1 &&& (3 : Int32))), .val (.ref b2), .val (.ref b13), .val (.int (1 : Int32)), .val (.double (FP.l2d w2)), .second] [(.int (lcmpW w2 (-9007199254740992 : Int64)))])) t → Steps p.tables e below (s₁.setTop (entryFrame m #[(.int u0), (.int u1), (.long w2)] maxLocals)) t := fun t k => pre34 t (by
      show Steps p.tables e below (T33.setTop (mkF m 149 #[.val (.int u0), .val (.int u1), .val (.long w2), .second, .val (.int ((u0 &&& (255 : Int32)).toUInt32.toUInt16.toUInt32.toInt32)), .val (.int ((((u0.toUInt32 >>> ((8 : Int32) &&& 31).toUInt32).toInt32) &&& (255 : Int32)).toUInt32.toUInt16.toUInt32.toInt32)), .val (.int (u1 &&& (3 : Int32))), .val (.ref b2), .val (.ref b13), .val (.int (1 : Int32)), .val (.double (FP.l2d w2)), .second] [(.ref b13)])) _
      refine st35.trans ?_
      show Steps p.tables e below (T35.setTop (mkF m 152 #[.val (.int u0), .val (.int u1), .val (.long w2), .second, .val (.int ((u0 &&& (255 : Int32)).toUInt32.toUInt16.toUInt32.toInt32)), .val (.int ((((u0.toUInt32 >>> ((8 : Int32) &&& 31).toUInt32).toInt32) &&& (255 : Int32)).toUInt32.toUInt16.toUInt32.toInt32)), .val (.int (u1 &&& (3 : Int32))), .val (.ref b2), .val (.ref b13), .val (.int (1 : Int32)), .val (.double (FP.l2d w2)), .second] [(.double (FP.l2d w2))])) _
      refine XS.dload X35.here hx rfl (hb hby at_152) rfl ?_
      show Steps p.tables e below (T35.setTop (mkF m 154 #[.val (.int u0), .val (.int u1), .val (.long w2), .second, .val (.int ((u0 &&& (255 : Int32)).toUInt32.toUInt16.toUInt32.toInt32)), .val (.int ((((u0.toUInt32 >>> ((8 : Int32) &&& 31).toUInt32).toInt32) &&& (255 : Int32)).toUInt32.toUInt16.toUInt32.toInt32)), .val (.int (u1 &&& (3 : Int32))), .val (.ref b2), .val (.ref b13), .val (.int (1 : Int32)), .val (.double (FP.l2d w2)), .second] [(.double (FP.l2d w2)), (.double (FP.l2d w2))])) _
      refine XS.dcmpS X35.here hx rfl (hb hby at_154) rfl rfl ?_
      show Steps p.tables e below (T35.setTop (mkF m 155 #[.val (.int u0), .val (.int u1), .val (.long w2), .second, .val (.int ((u0 &&& (255 : Int32)).toUInt32.toUInt16.toUInt32.toInt32)), .val (.int ((((u0.toUInt32 >>> ((8 : Int32) &&& 31).toUInt32).toInt32) &&& (255 : Int32)).toUInt32.toUInt16.toUInt32.toInt32)), .val (.int (u1 &&& (3 : Int32))), .val (.ref b2), .val (.ref b13), .val (.int (1 : Int32)), .val (.double (FP.l2d w2)), .second] [(.int (cmpValue (FP.dcmp (FP.l2d w2) (FP.l2d w2)) .l))])) _
      refine XS.ifNo X35.here hx rfl (hb hby at_155) rfl ((if0 _ _).trans (teq (dcmpV_self (Jvm.Free.Fl.l2d_fin _).noNaN .l)).2) ?_
      show Steps p.tables e below (T35.setTop (mkF m 158 #[.val (.int u0), .val (.int u1), .val (.long w2), .second, .val (.int ((u0 &&& (255 : Int32)).toUInt32.toUInt16.toUInt32.toInt32)), .val (.int ((((u0.toUInt32 >>> ((8 : Int32) &&& 31).toUInt32).toInt32) &&& (255 : Int32)).toUInt32.toUInt16.toUInt32.toInt32)), .val (.int (u1 &&& (3 : Int32))), .val (.ref b2), .val (.ref b13), .val (.int (1 : Int32)), .val (.double (FP.l2d w2)), .second] [])) _
      refine XS.iconst X35.here hx rfl (hb hby at_158) ?_
      show Steps p.tables e below (T35.setTop (mkF m 159 #[.val (.int u0), .val (.int u1), .val (.long w2), .second, .val (.int ((u0 &&& (255 : Int32)).toUInt32.toUInt16.toUInt32.toInt32)), .val (.int ((((u0.toUInt32 >>> ((8 : Int32) &&& 31).toUInt32).toInt32) &&& (255 : Int32)).toUInt32.toUInt16.toUInt32.toInt32)), .val (.int (u1 &&& (3 : Int32))), .val (.ref b2), .val (.ref b13), .val (.int (1 : Int32)), .val (.double (FP.l2d w2)), .second] [(.int (1 : Int32))])) _
      refine XS.goto X35.here hx rfl (pc0 := 159) (pc' := 163) rfl (hb hby at_159) (by decide) (by decide) ?_
      show Steps p.tables e below (T35.setTop (mkF m 163 #[.val (.int u0), .val (.int u1), .val (.long w2), .second, .val (.int ((u0 &&& (255 : Int32)).toUInt32.toUInt16.toUInt32.toInt32)), .val (.int ((((u0.toUInt32 >>> ((8 : Int32) &&& 31).toUInt32).toInt32) &&& (255 : Int32)).toUInt32.toUInt16.toUInt32.toInt32)), .val (.int (u1 &&& (3 : Int32))), .val (.ref b2), .val (.ref b13), .val (.int (1 : Int32)), .val (.double (FP.l2d w2)), .second] [(.int (1 : Int32))])) _
      refine XS.istore X35.here hx rfl (hb hby at_163) rfl (l' := #[.val (.int u0), .val (.int u1), .val (.long w2), .second, .val (.int ((u0 &&& (255 : Int32)).toUInt32.toUInt16.toUInt32.toInt32)), .val (.int ((((u0.toUInt32 >>> ((8 : Int32) &&& 31).toUInt32).toInt32) &&& (255 : Int32)).toUInt32.toUInt16.toUInt32.toInt32)), .val (.int (u1 &&& (3 : Int32))), .val (.ref b2), .val (.ref b13), .val (.int (1 : Int32)), .val (.double (FP.l2d w2)), .second]) rfl ?_
      show Steps p.tables e below (T35.setTop (mkF m 165 #[.val (.int u0), .val (.int u1), .val (.long w2), .second, .val (.int ((u0 &&& (255 : Int32)).toUInt32.toUInt16.toUInt32.toInt32)), .val (.int ((((u0.toUInt32 >>> ((8 : Int32) &&& 31).toUInt32).toInt32) &&& (255 : Int32)).toUInt32.toUInt16.toUInt32.toInt32)), .val (.int (u1 &&& (3 : Int32))), .val (.ref b2), .val (.ref b13), .val (.int (1 : Int32)), .val (.double (FP.l2d w2)), .second] [])) _
      refine XS.lloadN X35.here hx rfl (hb hby at_165) rfl ?_
      show Steps p.tables e below (T35.setTop (mkF m 166 #[.val (.int u0), .val (.int u1), .val (.long w2), .second, .val (.int ((u0 &&& (255 : Int32)).toUInt32.toUInt16.toUInt32.toInt32)), .val (.int ((((u0.toUInt32 >>> ((8 : Int32) &&& 31).toUInt32).toInt32) &&& (255 : Int32)).toUInt32.toUInt16.toUInt32.toInt32)), .val (.int (u1 &&& (3 : Int32))), .val (.ref b2), .val (.ref b13), .val (.int (1 : Int32)), .val (.double (FP.l2d w2)), .second] [(.long w2)])) _
      refine X35.ldc2Long hx hown (mvT hZ (hw _ (List.mem_of_getElem? (i := 76) rfl))) (g := (mkF m 166 #[.val (.int u0), .val (.int u1), .val (.long w2), .second, .val (.int ((u0 &&& (255 : Int32)).toUInt32.toUInt16.toUInt32.toInt32)), .val (.int ((((u0.toUInt32 >>> ((8 : Int32) &&& 31).toUInt32).toInt32) &&& (255 : Int32)).toUInt32.toUInt16.toUInt32.toInt32)), .val (.int (u1 &&& (3 : Int32))), .val (.ref b2), .val (.ref b13), .val (.int (1 : Int32)), .val (.double (FP.l2d w2)), .second] [(.long w2)])) rfl (hb hby at_166) _ ?_
      show Steps p.tables e below (T35.setTop (mkF m 169 #[.val (.int u0), .val (.int u1), .val (.long w2), .second, .val (.int ((u0 &&& (255 : Int32)).toUInt32.toUInt16.toUInt32.toInt32)), .val (.int ((((u0.toUInt32 >>> ((8 : Int32) &&& 31).toUInt32).toInt32) &&& (255 : Int32)).toUInt32.toUInt16.toUInt32.toInt32)), .val (.int (u1 &&& (3 : Int32))), .val (.ref b2), .val (.ref b13), .val (.int (1 : Int32)), .val (.double (FP.l2d w2)), .second] [(.long (-9007199254740992 : Int64)), (.long w2)])) _
      refine XS.lcmp X35.here hx rfl (hb hby at_169) rfl ?_
      exact k)
    by_cases hc170 : (lcmpW w2 (-9007199254740992 : Int64)) < (0 : Int32)
    · -- pc 170: (lcmpW w2 (-9007199254740992 : Int64)) < (0 : Int32)
      obtain ⟨fs, hr, hrun, hended, hRE⟩ := X35.leaveW (s := s) (vm₁ := T10.vm) S10 (by rw [e35]; exact hle_19) (v := (some (.int (1 : Int32)))) (fun h => by rw [Bd.returns] at h; cases h)
      refine ⟨_, _, pre36 _ ?_, hrun, hended, _, _, rfl, ?_, hRE.1, hRE.2.1, hRE.2.2.1, hRE.2.2.2.mono (by decide) (by decide)⟩
      · show Steps p.tables e below (T35.setTop (mkF m 170 #[.val (.int u0), .val (.int u1), .val (.long w2), .second, .val (.int ((u0 &&& (255 : Int32)).toUInt32.toUInt16.toUInt32.toInt32)), .val (.int ((((u0.toUInt32 >>> ((8 : Int32) &&& 31).toUInt32).toInt32) &&& (255 : Int32)).toUInt32.toUInt16.toUInt32.toInt32)), .val (.int (u1 &&& (3 : Int32))), .val (.ref b2), .val (.ref b13), .val (.int (1 : Int32)), .val (.double (FP.l2d w2)), .second] [(.int (lcmpW w2 (-9007199254740992 : Int64)))])) _
        refine XS.ifYes X35.here hx rfl (pc0 := 170) (pc' := 204) rfl (hb hby at_170) rfl ((if0 _ _).trans (tlt hc170).1) (by decide) (by decide) ?_
        show Steps p.tables e below (T35.setTop (mkF m 204 #[.val (.int u0), .val (.int u1), .val (.long w2), .second, .val (.int ((u0 &&& (255 : Int32)).toUInt32.toUInt16.toUInt32.toInt32)), .val (.int ((((u0.toUInt32 >>> ((8 : Int32) &&& 31).toUInt32).toInt32) &&& (255 : Int32)).toUInt32.toUInt16.toUInt32.toInt32)), .val (.int (u1 &&& (3 : Int32))), .val (.ref b2), .val (.ref b13), .val (.int (1 : Int32)), .val (.double (FP.l2d w2)), .second] [])) _
        refine XS.iload X35.here hx rfl (hb hby at_204) rfl ?_
        show Steps p.tables e below (T35.setTop (mkF m 206 #[.val (.int u0), .val (.int u1), .val (.long w2), .second, .val (.int ((u0 &&& (255 : Int32)).toUInt32.toUInt16.toUInt32.toInt32)), .val (.int ((((u0.toUInt32 >>> ((8 : Int32) &&& 31).toUInt32).toInt32) &&& (255 : Int32)).toUInt32.toUInt16.toUInt32.toInt32)), .val (.int (u1 &&& (3 : Int32))), .val (.ref b2), .val (.ref b13), .val (.int (1 : Int32)), .val (.double (FP.l2d w2)), .second] [(.int (1 : Int32))])) _
        exact retN X35 hx (t := .boolean) Bd.returns (by simp) (hb hby at_206) hr
      · show QL n0 _ T35.heap _
        rw [e35]
        exact ⟨rfl, N35⟩
    · -- pc 170: not (lcmpW w2 (-9007199254740992 : Int64)) < (0 : Int32)
      have pre37 : ∀ t, Steps p.tables e below (T35.setTop (mkF m 178 #[.val (.int u0), .val (.int u1), .val (.long w2), .second, .val (.int ((u0 &&& (255 : Int32)).toUInt32.toUInt16.toUInt32.toInt32)), .val (.int ((((u0.toUInt32 >>> ((8 : Int32) &&& 31).toUInt32).toInt32) &&& (255 : Int32)).toUInt32.toUInt16.toUInt32.toInt32)), .val (.int (u1 &&& (3 : Int32))), .val (.ref b2), .val (.ref b13), .val (.int (1 : Int32)), .val (.double (FP.l2d w2)), .second] [(.int (lcmpW w2 (9007199254740992 : Int64)))])) t → Steps p.tables e below (s₁.setTop (entryFrame m #[(.int u0), (.int u1), (.long w2)] maxLocals)) t := fun t k => pre36 t (by
        show Steps p.tables e below (T35.setTop (mkF m 170 #[.val (.int u0), .val (.int u1), .val (.long w2), .second, .val (.int ((u0 &&& (255 : Int32)).toUInt32.toUInt16.toUInt32.toInt32)), .val (.int ((((u0.toUInt32 >>> ((8 : Int32) &&& 31).toUInt32).toInt32) &&& (255 : Int32)).toUInt32.toUInt16.toUInt32.toInt32)), .val (.int (u1 &&& (3 : Int32))), .val (.ref b2), .val (.ref b13), .val (.int (1 : Int32)), .val (.double (FP.l2d w2)), .second] [(.int (lcmpW w2 (-9007199254740992 : Int64)))])) _
        refine XS.ifNo X35.here hx rfl (hb hby at_170) rfl ((if0 _ _).trans (flt hc170).1) ?_
        show Steps p.tables e below (T35.setTop (mkF m 173 #[.val (.int u0), .val (.int u1), .val (.long w2), .second, .val (.int ((u0 &&& (255 : Int32)).toUInt32.toUInt16.toUInt32.toInt32)), .val (.int ((((u0.toUInt32 >>> ((8 : Int32) &&& 31).toUInt32).toInt32) &&& (255 : Int32)).toUInt32.toUInt16.toUInt32.toInt32)), .val (.int (u1 &&& (3 : Int32))), .val (.ref b2), .val (.ref b13), .val (.int (1 : Int32)), .val (.double (FP.l2d w2)), .second] [])) _
        refine XS.lloadN X35.here hx rfl (hb hby at_173) rfl ?_
        show Steps p.tables e below (T35.setTop (mkF m 174 #[.val (.int u0), .val (.int u1), .val (.long w2), .second, .val (.int ((u0 &&& (255 : Int32)).toUInt32.toUInt16.toUInt32.toInt32)), .val (.int ((((u0.toUInt32 >>> ((8 : Int32) &&& 31).toUInt32).toInt32) &&& (255 : Int32)).toUInt32.toUInt16.toUInt32.toInt32)), .val (.int (u1 &&& (3 : Int32))), .val (.ref b2), .val (.ref b13), .val (.int (1 : Int32)), .val (.double (FP.l2d w2)), .second] [(.long w2)])) _
        refine X35.ldc2Long hx hown (mvT hZ (hw _ (List.mem_of_getElem? (i := 77) rfl))) (g := (mkF m 174 #[.val (.int u0), .val (.int u1), .val (.long w2), .second, .val (.int ((u0 &&& (255 : Int32)).toUInt32.toUInt16.toUInt32.toInt32)), .val (.int ((((u0.toUInt32 >>> ((8 : Int32) &&& 31).toUInt32).toInt32) &&& (255 : Int32)).toUInt32.toUInt16.toUInt32.toInt32)), .val (.int (u1 &&& (3 : Int32))), .val (.ref b2), .val (.ref b13), .val (.int (1 : Int32)), .val (.double (FP.l2d w2)), .second] [(.long w2)])) rfl (hb hby at_174) _ ?_
        show Steps p.tables e below (T35.setTop (mkF m 177 #[.val (.int u0), .val (.int u1), .val (.long w2), .second, .val (.int ((u0 &&& (255 : Int32)).toUInt32.toUInt16.toUInt32.toInt32)), .val (.int ((((u0.toUInt32 >>> ((8 : Int32) &&& 31).toUInt32).toInt32) &&& (255 : Int32)).toUInt32.toUInt16.toUInt32.toInt32)), .val (.int (u1 &&& (3 : Int32))), .val (.ref b2), .val (.ref b13), .val (.int (1 : Int32)), .val (.double (FP.l2d w2)), .second] [(.long (9007199254740992 : Int64)), (.long w2)])) _
        refine XS.lcmp X35.here hx rfl (hb hby at_177) rfl ?_
        exact k)
      by_cases hc178 : (0 : Int32) < (lcmpW w2 (9007199254740992 : Int64))
      · -- pc 178: (0 : Int32) < (lcmpW w2 (9007199254740992 : Int64))
        obtain ⟨fs, hr, hrun, hended, hRE⟩ := X35.leaveW (s := s) (vm₁ := T10.vm) S10 (by rw [e35]; exact hle_19) (v := (some (.int (1 : Int32)))) (fun h => by rw [Bd.returns] at h; cases h)
        refine ⟨_, _, pre37 _ ?_, hrun, hended, _, _, rfl, ?_, hRE.1, hRE.2.1, hRE.2.2.1, hRE.2.2.2.mono (by decide) (by decide)⟩
        · show Steps p.tables e below (T35.setTop (mkF m 178 #[.val (.int u0), .val (.int u1), .val (.long w2), .second, .val (.int ((u0 &&& (255 : Int32)).toUInt32.toUInt16.toUInt32.toInt32)), .val (.int ((((u0.toUInt32 >>> ((8 : Int32) &&& 31).toUInt32).toInt32) &&& (255 : Int32)).toUInt32.toUInt16.toUInt32.toInt32)), .val (.int (u1 &&& (3 : Int32))), .val (.ref b2), .val (.ref b13), .val (.int (1 : Int32)), .val (.double (FP.l2d w2)), .second] [(.int (lcmpW w2 (9007199254740992 : Int64)))])) _
          refine XS.ifYes X35.here hx rfl (pc0 := 178) (pc' := 204) rfl (hb hby at_178) rfl ((if0 _ _).trans (tlt hc178).2.2.1) (by decide) (by decide) ?_
          show Steps p.tables e below (T35.setTop (mkF m 204 #[.val (.int u0), .val (.int u1), .val (.long w2), .second, .val (.int ((u0 &&& (255 : Int32)).toUInt32.toUInt16.toUInt32.toInt32)), .val (.int ((((u0.toUInt32 >>> ((8 : Int32) &&& 31).toUInt32).toInt32) &&& (255 : Int32)).toUInt32.toUInt16.toUInt32.toInt32)), .val (.int (u1 &&& (3 : Int32))), .val (.ref b2), .val (.ref b13), .val (.int (1 : Int32)), .val (.double (FP.l2d w2)), .second] [])) _
          refine XS.iload X35.here hx rfl (hb hby at_204) rfl ?_
          show Steps p.tables e below (T35.setTop (mkF m 206 #[.val (.int u0), .val (.int u1), .val (.long w2), .second, .val (.int ((u0 &&& (255 : Int32)).toUInt32.toUInt16.toUInt32.toInt32)), .val (.int ((((u0.toUInt32 >>> ((8 : Int32) &&& 31).toUInt32).toInt32) &&& (255 : Int32)).toUInt32.toUInt16.toUInt32.toInt32)), .val (.int (u1 &&& (3 : Int32))), .val (.ref b2), .val (.ref b13), .val (.int (1 : Int32)), .val (.double (FP.l2d w2)), .second] [(.int (1 : Int32))])) _
          exact retN X35 hx (t := .boolean) Bd.returns (by simp) (hb hby at_206) hr
        · show QL n0 _ T35.heap _
          rw [e35]
          exact ⟨rfl, N35⟩
      · -- pc 178: not (0 : Int32) < (lcmpW w2 (9007199254740992 : Int64))
        have pre38 : ∀ t, Steps p.tables e below (T35.setTop (mkF m 188 #[.val (.int u0), .val (.int u1), .val (.long w2), .second, .val (.int ((u0 &&& (255 : Int32)).toUInt32.toUInt16.toUInt32.toInt32)), .val (.int ((((u0.toUInt32 >>> ((8 : Int32) &&& 31).toUInt32).toInt32) &&& (255 : Int32)).toUInt32.toUInt16.toUInt32.toInt32)), .val (.int (u1 &&& (3 : Int32))), .val (.ref b2), .val (.ref b13), .val (.int (1 : Int32)), .val (.double (FP.l2d w2)), .second] [(.ref b13)])) t → Steps p.tables e below (s₁.setTop (entryFrame m #[(.int u0), (.int u1), (.long w2)] maxLocals)) t := fun t k => pre37 t (by
          show Steps p.tables e below (T35.setTop (mkF m 178 #[.val (.int u0), .val (.int u1), .val (.long w2), .second, .val (.int ((u0 &&& (255 : Int32)).toUInt32.toUInt16.toUInt32.toInt32)), .val (.int ((((u0.toUInt32 >>> ((8 : Int32) &&& 31).toUInt32).toInt32) &&& (255 : Int32)).toUInt32.toUInt16.toUInt32.toInt32)), .val (.int (u1 &&& (3 : Int32))), .val (.ref b2), .val (.ref b13), .val (.int (1 : Int32)), .val (.double (FP.l2d w2)), .second] [(.int (lcmpW w2 (9007199254740992 : Int64)))])) _
          refine XS.ifNo X35.here hx rfl (hb hby at_178) rfl ((if0 _ _).trans (flt hc178).2.2.1) ?_
          show Steps p.tables e below (T35.setTop (mkF m 181 #[.val (.int u0), .val (.int u1), .val (.long w2), .second, .val (.int ((u0 &&& (255 : Int32)).toUInt32.toUInt16.toUInt32.toInt32)), .val (.int ((((u0.toUInt32 >>> ((8 : Int32) &&& 31).toUInt32).toInt32) &&& (255 : Int32)).toUInt32.toUInt16.toUInt32.toInt32)), .val (.int (u1 &&& (3 : Int32))), .val (.ref b2), .val (.ref b13), .val (.int (1 : Int32)), .val (.double (FP.l2d w2)), .second] [])) _
          refine XS.iload X35.here hx rfl (hb hby at_181) rfl ?_
          show Steps p.tables e below (T35.setTop (mkF m 183 #[.val (.int u0), .val (.int u1), .val (.long w2), .second, .val (.int ((u0 &&& (255 : Int32)).toUInt32.toUInt16.toUInt32.toInt32)), .val (.int ((((u0.toUInt32 >>> ((8 : Int32) &&& 31).toUInt32).toInt32) &&& (255 : Int32)).toUInt32.toUInt16.toUInt32.toInt32)), .val (.int (u1 &&& (3 : Int32))), .val (.ref b2), .val (.ref b13), .val (.int (1 : Int32)), .val (.double (FP.l2d w2)), .second] [(.int (1 : Int32))])) _
          refine XS.ifNo X35.here hx rfl (hb hby at_183) rfl ((if0 _ _).trans (feq (by decide : ¬ ((1 : Int32) = (0 : Int32)))).1) ?_
          show Steps p.tables e below (T35.setTop (mkF m 186 #[.val (.int u0), .val (.int u1), .val (.long w2), .second, .val (.int ((u0 &&& (255 : Int32)).toUInt32.toUInt16.toUInt32.toInt32)), .val (.int ((((u0.toUInt32 >>> ((8 : Int32) &&& 31).toUInt32).toInt32) &&& (255 : Int32)).toUInt32.toUInt16.toUInt32.toInt32)), .val (.int (u1 &&& (3 : Int32))), .val (.ref b2), .val (.ref b13), .val (.int (1 : Int32)), .val (.double (FP.l2d w2)), .second] [])) _
          refine XS.aload X35.here hx rfl (hb hby at_186) rfl rfl ?_
          exact k)
        obtain ⟨cq39, kq39, q39a, q39b, q39c⟩ := isOf hZ e35 E_r13
        obtain ⟨_, _, ⟨T39, L39, k39, n39⟩, -, X39, ⟨Lc39, hQ39, l39, y39, z39⟩, st39⟩ := X35.virtualBack hx (y := (⟨"com/example/scorpus/scorpus/engine/Explanation$Figure", "value", "()D"⟩ : MethodName)) (z := (⟨"com/example/scorpus/scorpus/engine/Explanation$Figure", "value", "()D"⟩ : MethodName)) hown (mvT hZ (hw _ (List.mem_of_getElem? (i := 71) rfl))) (mvT hZ (hw _ (List.mem_of_getElem? (i := 72) rfl))) (notFace_of_selects (args := #[]) (mvT hZ (hw _ (List.mem_of_getElem? (i := 74) rfl)))) (mvT hZ (hw _ (List.mem_of_getElem? (i := 74) rfl))) (mvT hZ (hw _ (List.mem_of_getElem? (i := 73) rfl))) (by decide) (backOf (W := 0) (rm14 l Z a0 hw [] b13 (FP.l2d w2) T13.heap n0 (Nat.le_trans Z0 K13.1) F_value13) hZ (hw _ (List.mem_of_getElem? (i := 75) rfl)) (hw _ (List.mem_of_getElem? (i := 32) rfl)) (by decide) (by decide)) q39a q39c (g := (mkF m 188 #[.val (.int u0), .val (.int u1), .val (.long w2), .second, .val (.int ((u0 &&& (255 : Int32)).toUInt32.toUInt16.toUInt32.toInt32)), .val (.int ((((u0.toUInt32 >>> ((8 : Int32) &&& 31).toUInt32).toInt32) &&& (255 : Int32)).toUInt32.toUInt16.toUInt32.toInt32)), .val (.int (u1 &&& (3 : Int32))), .val (.ref b2), .val (.ref b13), .val (.int (1 : Int32)), .val (.double (FP.l2d w2)), .second] [(.ref b13)])) rfl (by rw [hml]; rfl) (Steps.refl _) (argsL := []) (rest := []) (lenOf pd_15 rfl) rfl (by show 2 * 0 + _ ≤ _; exact Nat.le_of_eq rfl) (hb hby at_188) (fun _ _ => ⟨rfl, e35, (by decide : 5 + 0 ≤ _), (by decide : 11 + 0 ≤ _)⟩)
        dsimp only [Pt.U, Pt.locs, Pt.cells, Pt.slots] at X39 l39 y39 z39 st39 hQ39
        subst l39 y39 z39
        obtain ⟨rfl, N39q, e39⟩ := hQ39
        have N39 := Fr.app N35 N39q
        obtain ⟨fs, hr, hrun, hended, hRE⟩ := X39.leaveW (s := s) (vm₁ := T10.vm) S10 (by rw [e39]; exact hle_19) (v := (some (.int (1 : Int32)))) (fun h => by rw [Bd.returns] at h; cases h)
        refine ⟨_, _, pre38 _ ?_, hrun, hended, _, _, rfl, ?_, hRE.1, hRE.2.1, hRE.2.2.1, hRE.2.2.2.mono (by decide) (by decide)⟩
        · show Steps p.tables e below (T35.setTop (mkF m 188 #[.val (.int u0), .val (.int u1), .val (.long w2), .second, .val (.int ((u0 &&& (255 : Int32)).toUInt32.toUInt16.toUInt32.toInt32)), .val (.int ((((u0.toUInt32 >>> ((8 : Int32) &&& 31).toUInt32).toInt32) &&& (255 : Int32)).toUInt32.toUInt16.toUInt32.toInt32)), .val (.int (u1 &&& (3 : Int32))), .val (.ref b2), .val (.ref b13), .val (.int (1 : Int32)), .val (.double (FP.l2d w2)), .second] [(.ref b13)])) _
          refine st39.trans ?_
          show Steps p.tables e below (T39.setTop (mkF m 191 #[.val (.int u0), .val (.int u1), .val (.long w2), .second, .val (.int ((u0 &&& (255 : Int32)).toUInt32.toUInt16.toUInt32.toInt32)), .val (.int ((((u0.toUInt32 >>> ((8 : Int32) &&& 31).toUInt32).toInt32) &&& (255 : Int32)).toUInt32.toUInt16.toUInt32.toInt32)), .val (.int (u1 &&& (3 : Int32))), .val (.ref b2), .val (.ref b13), .val (.int (1 : Int32)), .val (.double (FP.l2d w2)), .second] [(.double (FP.l2d w2))])) _
          refine XS.d2lS X39.here hx rfl (hb hby at_191) rfl rfl ?_
          show Steps p.tables e below (T39.setTop (mkF m 192 #[.val (.int u0), .val (.int u1), .val (.long w2), .second, .val (.int ((u0 &&& (255 : Int32)).toUInt32.toUInt16.toUInt32.toInt32)), .val (.int ((((u0.toUInt32 >>> ((8 : Int32) &&& 31).toUInt32).toInt32) &&& (255 : Int32)).toUInt32.toUInt16.toUInt32.toInt32)), .val (.int (u1 &&& (3 : Int32))), .val (.ref b2), .val (.ref b13), .val (.int (1 : Int32)), .val (.double (FP.l2d w2)), .second] [(.long (FP.d2l (FP.l2d w2)))])) _
          refine XS.lloadN X39.here hx rfl (hb hby at_192) rfl ?_
          show Steps p.tables e below (T39.setTop (mkF m 193 #[.val (.int u0), .val (.int u1), .val (.long w2), .second, .val (.int ((u0 &&& (255 : Int32)).toUInt32.toUInt16.toUInt32.toInt32)), .val (.int ((((u0.toUInt32 >>> ((8 : Int32) &&& 31).toUInt32).toInt32) &&& (255 : Int32)).toUInt32.toUInt16.toUInt32.toInt32)), .val (.int (u1 &&& (3 : Int32))), .val (.ref b2), .val (.ref b13), .val (.int (1 : Int32)), .val (.double (FP.l2d w2)), .second] [(.long w2), (.long (FP.d2l (FP.l2d w2)))])) _
          refine XS.lcmp X39.here hx rfl (hb hby at_193) rfl ?_
          show Steps p.tables e below (T39.setTop (mkF m 194 #[.val (.int u0), .val (.int u1), .val (.long w2), .second, .val (.int ((u0 &&& (255 : Int32)).toUInt32.toUInt16.toUInt32.toInt32)), .val (.int ((((u0.toUInt32 >>> ((8 : Int32) &&& 31).toUInt32).toInt32) &&& (255 : Int32)).toUInt32.toUInt16.toUInt32.toInt32)), .val (.int (u1 &&& (3 : Int32))), .val (.ref b2), .val (.ref b13), .val (.int (1 : Int32)), .val (.double (FP.l2d w2)), .second] [(.int (lcmpW (FP.d2l (FP.l2d w2)) w2))])) _
          refine XS.ifNo X39.here hx rfl (hb hby at_194) rfl ((if0 _ _).trans (teq ((lw_eq _ _).mpr (own_d2l hc170 hc178))).2) ?_
          show Steps p.tables e below (T39.setTop (mkF m 197 #[.val (.int u0), .val (.int u1), .val (.long w2), .second, .val (.int ((u0 &&& (255 : Int32)).toUInt32.toUInt16.toUInt32.toInt32)), .val (.int ((((u0.toUInt32 >>> ((8 : Int32) &&& 31).toUInt32).toInt32) &&& (255 : Int32)).toUInt32.toUInt16.toUInt32.toInt32)), .val (.int (u1 &&& (3 : Int32))), .val (.ref b2), .val (.ref b13), .val (.int (1 : Int32)), .val (.double (FP.l2d w2)), .second] [])) _
          refine XS.iconst X39.here hx rfl (hb hby at_197) ?_
          show Steps p.tables e below (T39.setTop (mkF m 198 #[.val (.int u0), .val (.int u1), .val (.long w2), .second, .val (.int ((u0 &&& (255 : Int32)).toUInt32.toUInt16.toUInt32.toInt32)), .val (.int ((((u0.toUInt32 >>> ((8 : Int32) &&& 31).toUInt32).toInt32) &&& (255 : Int32)).toUInt32.toUInt16.toUInt32.toInt32)), .val (.int (u1 &&& (3 : Int32))), .val (.ref b2), .val (.ref b13), .val (.int (1 : Int32)), .val (.double (FP.l2d w2)), .second] [(.int (1 : Int32))])) _
          refine XS.goto X39.here hx rfl (pc0 := 198) (pc' := 202) rfl (hb hby at_198) (by decide) (by decide) ?_
          show Steps p.tables e below (T39.setTop (mkF m 202 #[.val (.int u0), .val (.int u1), .val (.long w2), .second, .val (.int ((u0 &&& (255 : Int32)).toUInt32.toUInt16.toUInt32.toInt32)), .val (.int ((((u0.toUInt32 >>> ((8 : Int32) &&& 31).toUInt32).toInt32) &&& (255 : Int32)).toUInt32.toUInt16.toUInt32.toInt32)), .val (.int (u1 &&& (3 : Int32))), .val (.ref b2), .val (.ref b13), .val (.int (1 : Int32)), .val (.double (FP.l2d w2)), .second] [(.int (1 : Int32))])) _
          refine XS.istore X39.here hx rfl (hb hby at_202) rfl (l' := #[.val (.int u0), .val (.int u1), .val (.long w2), .second, .val (.int ((u0 &&& (255 : Int32)).toUInt32.toUInt16.toUInt32.toInt32)), .val (.int ((((u0.toUInt32 >>> ((8 : Int32) &&& 31).toUInt32).toInt32) &&& (255 : Int32)).toUInt32.toUInt16.toUInt32.toInt32)), .val (.int (u1 &&& (3 : Int32))), .val (.ref b2), .val (.ref b13), .val (.int (1 : Int32)), .val (.double (FP.l2d w2)), .second]) rfl ?_
          show Steps p.tables e below (T39.setTop (mkF m 204 #[.val (.int u0), .val (.int u1), .val (.long w2), .second, .val (.int ((u0 &&& (255 : Int32)).toUInt32.toUInt16.toUInt32.toInt32)), .val (.int ((((u0.toUInt32 >>> ((8 : Int32) &&& 31).toUInt32).toInt32) &&& (255 : Int32)).toUInt32.toUInt16.toUInt32.toInt32)), .val (.int (u1 &&& (3 : Int32))), .val (.ref b2), .val (.ref b13), .val (.int (1 : Int32)), .val (.double (FP.l2d w2)), .second] [])) _
          refine XS.iload X39.here hx rfl (hb hby at_204) rfl ?_
          show Steps p.tables e below (T39.setTop (mkF m 206 #[.val (.int u0), .val (.int u1), .val (.long w2), .second, .val (.int ((u0 &&& (255 : Int32)).toUInt32.toUInt16.toUInt32.toInt32)), .val (.int ((((u0.toUInt32 >>> ((8 : Int32) &&& 31).toUInt32).toInt32) &&& (255 : Int32)).toUInt32.toUInt16.toUInt32.toInt32)), .val (.int (u1 &&& (3 : Int32))), .val (.ref b2), .val (.ref b13), .val (.int (1 : Int32)), .val (.double (FP.l2d w2)), .second] [(.int (1 : Int32))])) _
          exact retN X39 hx (t := .boolean) Bd.returns (by simp) (hb hby at_206) hr
        · show QL n0 _ T39.heap _
          rw [e39]
          exact ⟨rfl, N39⟩
  · -- pc 26: not (u1 &&& (3 : Int32)) = (0 : Int32)
    have pre40 : ∀ t, Steps p.tables e below (s₁.setTop (mkF m 47 #[.val (.int u0), .val (.int u1), .val (.long w2), .second, .val (.int ((u0 &&& (255 : Int32)).toUInt32.toUInt16.toUInt32.toInt32)), .val (.int ((((u0.toUInt32 >>> ((8 : Int32) &&& 31).toUInt32).toInt32) &&& (255 : Int32)).toUInt32.toUInt16.toUInt32.toInt32)), .val (.int (u1 &&& (3 : Int32))), .unset, .unset, .unset, .unset, .unset] [(.int (1 : Int32)), (.int (u1 &&& (3 : Int32)))])) t → Steps p.tables e below (s₁.setTop (entryFrame m #[(.int u0), (.int u1), (.long w2)] maxLocals)) t := fun t k => pre1 t (by
      show Steps p.tables e below (s₁.setTop (mkF m 26 #[.val (.int u0), .val (.int u1), .val (.long w2), .second, .val (.int ((u0 &&& (255 : Int32)).toUInt32.toUInt16.toUInt32.toInt32)), .val (.int ((((u0.toUInt32 >>> ((8 : Int32) &&& 31).toUInt32).toInt32) &&& (255 : Int32)).toUInt32.toUInt16.toUInt32.toInt32)), .val (.int (u1 &&& (3 : Int32))), .unset, .unset, .unset, .unset, .unset] [(.int (u1 &&& (3 : Int32)))])) _
      refine XS.ifYes X0.here hx rfl (pc0 := 26) (pc' := 44) rfl (hb hby at_26) rfl ((if0 _ _).trans (feq hc26).2) (by decide) (by decide) ?_
      show Steps p.tables e below (s₁.setTop (mkF m 44 #[.val (.int u0), .val (.int u1), .val (.long w2), .second, .val (.int ((u0 &&& (255 : Int32)).toUInt32.toUInt16.toUInt32.toInt32)), .val (.int ((((u0.toUInt32 >>> ((8 : Int32) &&& 31).toUInt32).toInt32) &&& (255 : Int32)).toUInt32.toUInt16.toUInt32.toInt32)), .val (.int (u1 &&& (3 : Int32))), .unset, .unset, .unset, .unset, .unset] [])) _
      refine XS.iload X0.here hx rfl (hb hby at_44) rfl ?_
      show Steps p.tables e below (s₁.setTop (mkF m 46 #[.val (.int u0), .val (.int u1), .val (.long w2), .second, .val (.int ((u0 &&& (255 : Int32)).toUInt32.toUInt16.toUInt32.toInt32)), .val (.int ((((u0.toUInt32 >>> ((8 : Int32) &&& 31).toUInt32).toInt32) &&& (255 : Int32)).toUInt32.toUInt16.toUInt32.toInt32)), .val (.int (u1 &&& (3 : Int32))), .unset, .unset, .unset, .unset, .unset] [(.int (u1 &&& (3 : Int32)))])) _
      refine XS.iconst X0.here hx rfl (hb hby at_46) ?_
      exact k)
    by_cases hc47 : (u1 &&& (3 : Int32)) = (1 : Int32)
    · -- pc 47: (u1 &&& (3 : Int32)) = (1 : Int32)
      have SC41 := SZ_C.ext O0.2
      have pre42 : ∀ t, Steps p.tables e below (s₁.setTop (mkF m 52 #[.val (.int u0), .val (.int u1), .val (.long w2), .second, .val (.int ((u0 &&& (255 : Int32)).toUInt32.toUInt16.toUInt32.toInt32)), .val (.int ((((u0.toUInt32 >>> ((8 : Int32) &&& 31).toUInt32).toInt32) &&& (255 : Int32)).toUInt32.toUInt16.toUInt32.toInt32)), .val (.int (u1 &&& (3 : Int32))), .unset, .unset, .unset, .unset, .unset] [(.int ((u0 &&& (255 : Int32)).toUInt32.toUInt16.toUInt32.toInt32))])) t → Steps p.tables e below (s₁.setTop (entryFrame m #[(.int u0), (.int u1), (.long w2)] maxLocals)) t := fun t k => pre40 t (by
        show Steps p.tables e below (s₁.setTop (mkF m 47 #[.val (.int u0), .val (.int u1), .val (.long w2), .second, .val (.int ((u0 &&& (255 : Int32)).toUInt32.toUInt16.toUInt32.toInt32)), .val (.int ((((u0.toUInt32 >>> ((8 : Int32) &&& 31).toUInt32).toInt32) &&& (255 : Int32)).toUInt32.toUInt16.toUInt32.toInt32)), .val (.int (u1 &&& (3 : Int32))), .unset, .unset, .unset, .unset, .unset] [(.int (1 : Int32)), (.int (u1 &&& (3 : Int32)))])) _
        refine XS.icmpNo X0.here hx rfl (hb hby at_47) rfl (teq hc47).2 ?_
        show Steps p.tables e below (s₁.setTop (mkF m 50 #[.val (.int u0), .val (.int u1), .val (.long w2), .second, .val (.int ((u0 &&& (255 : Int32)).toUInt32.toUInt16.toUInt32.toInt32)), .val (.int ((((u0.toUInt32 >>> ((8 : Int32) &&& 31).toUInt32).toInt32) &&& (255 : Int32)).toUInt32.toUInt16.toUInt32.toInt32)), .val (.int (u1 &&& (3 : Int32))), .unset, .unset, .unset, .unset, .unset] [])) _
        refine XS.iload X0.here hx rfl (hb hby at_50) rfl ?_
        exact k)
      obtain ⟨_, _, ⟨T43, L43, k43, n43⟩, -, X43, ⟨Lc43, hQ43, l43, y43, z43⟩, st43⟩ := Jvm.LawKit.callS X0 hx (y := (⟨"java/lang/String", "valueOf", "(C)Ljava/lang/String;"⟩ : MethodName)) hown (mvT hZ (hw _ (List.mem_of_getElem? (i := 81) rfl))) (mvT hZ (hw _ (List.mem_of_getElem? (i := 82) rfl))) (mvT hZ (hw _ (List.mem_of_getElem? (i := 2) rfl))) (mvT hZ (hw _ (List.mem_of_getElem? (i := 83) rfl))) (by decide) (backOf (W := 0) (rm15 l Z a0 hw [] ((u0 &&& (255 : Int32)).toUInt32.toUInt16.toUInt32.toInt32) cs h0 n0 Z0 SC41 hcs (own_v _)) hZ (hw _ (List.mem_of_getElem? (i := 83) rfl)) (hw _ (List.mem_of_getElem? (i := 2) rfl)) (by decide) (by decide)) (g := (mkF m 52 #[.val (.int u0), .val (.int u1), .val (.long w2), .second, .val (.int ((u0 &&& (255 : Int32)).toUInt32.toUInt16.toUInt32.toInt32)), .val (.int ((((u0.toUInt32 >>> ((8 : Int32) &&& 31).toUInt32).toInt32) &&& (255 : Int32)).toUInt32.toUInt16.toUInt32.toInt32)), .val (.int (u1 &&& (3 : Int32))), .unset, .unset, .unset, .unset, .unset] [(.int ((u0 &&& (255 : Int32)).toUInt32.toUInt16.toUInt32.toInt32))])) rfl (by rw [hml]; rfl) (argsL := [(.int ((u0 &&& (255 : Int32)).toUInt32.toUInt16.toUInt32.toInt32))]) (rest := []) (lenOf pd_16 rfl) rfl (by show 2 * 0 + _ ≤ _; exact Nat.le_of_eq rfl) (hb hby at_52) (fun _ _ => ⟨rfl, e0, (by decide : 0 + 2 ≤ _), (by decide : 0 + 5 ≤ _)⟩)
      dsimp only [Pt.U, Pt.locs, Pt.cells, Pt.slots] at X43 l43 y43 z43 st43 hQ43
      subst l43 y43 z43
      obtain ⟨b43, rb43, kb43, nb43, vs43, cd43, rfl, N43q, K43q, E_r43, F_value43, F_coder43, V_b43⟩ := hQ43
      have N43 := Fr.app N0 N43q
      have K43 : Keep h0 T43.heap [] := K0.trans K43q all0
      have O0_44 := O0.keep K43q (all0)
      have pre45 : ∀ t, Steps p.tables e below (T43.setTop (mkF m 85 #[.val (.int u0), .val (.int u1), .val (.long w2), .second, .val (.int ((u0 &&& (255 : Int32)).toUInt32.toUInt16.toUInt32.toInt32)), .val (.int ((((u0.toUInt32 >>> ((8 : Int32) &&& 31).toUInt32).toInt32) &&& (255 : Int32)).toUInt32.toUInt16.toUInt32.toInt32)), .val (.int (u1 &&& (3 : Int32))), .val (.ref b43), .unset, .unset, .unset, .unset] [(.long w2), (.ref b43)])) t → Steps p.tables e below (s₁.setTop (entryFrame m #[(.int u0), (.int u1), (.long w2)] maxLocals)) t := fun t k => pre42 t (by
        show Steps p.tables e below (s₁.setTop (mkF m 52 #[.val (.int u0), .val (.int u1), .val (.long w2), .second, .val (.int ((u0 &&& (255 : Int32)).toUInt32.toUInt16.toUInt32.toInt32)), .val (.int ((((u0.toUInt32 >>> ((8 : Int32) &&& 31).toUInt32).toInt32) &&& (255 : Int32)).toUInt32.toUInt16.toUInt32.toInt32)), .val (.int (u1 &&& (3 : Int32))), .unset, .unset, .unset, .unset, .unset] [(.int ((u0 &&& (255 : Int32)).toUInt32.toUInt16.toUInt32.toInt32))])) _
        refine st43 _ ?_
        show Steps p.tables e below (T43.setTop (mkF m 55 #[.val (.int u0), .val (.int u1), .val (.long w2), .second, .val (.int ((u0 &&& (255 : Int32)).toUInt32.toUInt16.toUInt32.toInt32)), .val (.int ((((u0.toUInt32 >>> ((8 : Int32) &&& 31).toUInt32).toInt32) &&& (255 : Int32)).toUInt32.toUInt16.toUInt32.toInt32)), .val (.int (u1 &&& (3 : Int32))), .unset, .unset, .unset, .unset, .unset] [(.ref b43)])) _
        refine XS.astore X43.here hx rfl (hb hby at_55) rfl rfl (l' := #[.val (.int u0), .val (.int u1), .val (.long w2), .second, .val (.int ((u0 &&& (255 : Int32)).toUInt32.toUInt16.toUInt32.toInt32)), .val (.int ((((u0.toUInt32 >>> ((8 : Int32) &&& 31).toUInt32).toInt32) &&& (255 : Int32)).toUInt32.toUInt16.toUInt32.toInt32)), .val (.int (u1 &&& (3 : Int32))), .val (.ref b43), .unset, .unset, .unset, .unset]) rfl ?_
        show Steps p.tables e below (T43.setTop (mkF m 57 #[.val (.int u0), .val (.int u1), .val (.long w2), .second, .val (.int ((u0 &&& (255 : Int32)).toUInt32.toUInt16.toUInt32.toInt32)), .val (.int ((((u0.toUInt32 >>> ((8 : Int32) &&& 31).toUInt32).toInt32) &&& (255 : Int32)).toUInt32.toUInt16.toUInt32.toInt32)), .val (.int (u1 &&& (3 : Int32))), .val (.ref b43), .unset, .unset, .unset, .unset] [])) _
        refine XS.goto X43.here hx rfl (pc0 := 57) (pc' := 82) rfl (hb hby at_57) (by decide) (by decide) ?_
        show Steps p.tables e below (T43.setTop (mkF m 82 #[.val (.int u0), .val (.int u1), .val (.long w2), .second, .val (.int ((u0 &&& (255 : Int32)).toUInt32.toUInt16.toUInt32.toInt32)), .val (.int ((((u0.toUInt32 >>> ((8 : Int32) &&& 31).toUInt32).toInt32) &&& (255 : Int32)).toUInt32.toUInt16.toUInt32.toInt32)), .val (.int (u1 &&& (3 : Int32))), .val (.ref b43), .unset, .unset, .unset, .unset] [])) _
        refine XS.aload X43.here hx rfl (hb hby at_82) rfl rfl ?_
        show Steps p.tables e below (T43.setTop (mkF m 84 #[.val (.int u0), .val (.int u1), .val (.long w2), .second, .val (.int ((u0 &&& (255 : Int32)).toUInt32.toUInt16.toUInt32.toInt32)), .val (.int ((((u0.toUInt32 >>> ((8 : Int32) &&& 31).toUInt32).toInt32) &&& (255 : Int32)).toUInt32.toUInt16.toUInt32.toInt32)), .val (.int (u1 &&& (3 : Int32))), .val (.ref b43), .unset, .unset, .unset, .unset] [(.ref b43)])) _
        refine XS.lloadN X43.here hx rfl (hb hby at_84) rfl ?_
        exact k)
      obtain ⟨_, _, ⟨T46, L46, k46, n46⟩, -, X46, ⟨Lc46, hQ46, l46, y46, z46⟩, st46⟩ := Jvm.LawKit.callS X43 hx (y := (⟨"com/example/scorpus/scorpus/engine/Explanation$Figure", "count", "(Ljava/lang/String;J)Lcom/example/scorpus/scorpus/engine/Explanation$Figure;"⟩ : MethodName)) hown (mvT hZ (hw _ (List.mem_of_getElem? (i := 30) rfl))) (mvT hZ (hw _ (List.mem_of_getElem? (i := 31) rfl))) (mvT hZ (hw _ (List.mem_of_getElem? (i := 32) rfl))) (mvT hZ (hw _ (List.mem_of_getElem? (i := 33) rfl))) (by decide) (backOf (W := 0) (rm7 l Z a0 hw [] b43 w2  T43.heap n0 (Nat.le_trans Z0 K43.1) ) hZ (hw _ (List.mem_of_getElem? (i := 33) rfl)) (hw _ (List.mem_of_getElem? (i := 32) rfl)) (by decide) (by decide)) (g := (mkF m 85 #[.val (.int u0), .val (.int u1), .val (.long w2), .second, .val (.int ((u0 &&& (255 : Int32)).toUInt32.toUInt16.toUInt32.toInt32)), .val (.int ((((u0.toUInt32 >>> ((8 : Int32) &&& 31).toUInt32).toInt32) &&& (255 : Int32)).toUInt32.toUInt16.toUInt32.toInt32)), .val (.int (u1 &&& (3 : Int32))), .val (.ref b43), .unset, .unset, .unset, .unset] [(.long w2), (.ref b43)])) rfl (by rw [hml]; rfl) (argsL := [(.ref b43), (.long w2)]) (rest := []) (lenOf pd_10 rfl) rfl (by show 2 * 0 + _ ≤ _; exact Nat.le_of_eq rfl) (hb hby at_85) (fun _ _ => ⟨rfl, rfl, (by decide : 2 + 1 ≤ _), (by decide : 5 + 3 ≤ _)⟩)
      dsimp only [Pt.U, Pt.locs, Pt.cells, Pt.slots] at X46 l46 y46 z46 st46 hQ46
      subst l46 y46 z46
      obtain ⟨b46, rfl, N46q, K46q, E_r46, F_name46, F_value46, F_count46⟩ := hQ46
      have N46 := Fr.app N43 N46q
      have K46 : Keep h0 T46.heap [] := K43.trans K46q all0
      have O0_47 := O0_44.keep K46q (all0)
      have E_r43_48 := E_r43.keep K46q
      have F_value43_49 := F_value43.keep K46q nin0
      have F_coder43_50 := F_coder43.keep K46q nin0
      have V_b43_51 := V_b43.keep K46q nin0
      have pre52 : ∀ t, Steps p.tables e below (T46.setTop (mkF m 92 #[.val (.int u0), .val (.int u1), .val (.long w2), .second, .val (.int ((u0 &&& (255 : Int32)).toUInt32.toUInt16.toUInt32.toInt32)), .val (.int ((((u0.toUInt32 >>> ((8 : Int32) &&& 31).toUInt32).toInt32) &&& (255 : Int32)).toUInt32.toUInt16.toUInt32.toInt32)), .val (.int (u1 &&& (3 : Int32))), .val (.ref b43), .val (.ref b46), .unset, .unset, .unset] [(.ref b46)])) t → Steps p.tables e below (s₁.setTop (entryFrame m #[(.int u0), (.int u1), (.long w2)] maxLocals)) t := fun t k => pre45 t (by
        show Steps p.tables e below (T43.setTop (mkF m 85 #[.val (.int u0), .val (.int u1), .val (.long w2), .second, .val (.int ((u0 &&& (255 : Int32)).toUInt32.toUInt16.toUInt32.toInt32)), .val (.int ((((u0.toUInt32 >>> ((8 : Int32) &&& 31).toUInt32).toInt32) &&& (255 : Int32)).toUInt32.toUInt16.toUInt32.toInt32)), .val (.int (u1 &&& (3 : Int32))), .val (.ref b43), .unset, .unset, .unset, .unset] [(.long w2), (.ref b43)])) _
        refine st46 _ ?_
        show Steps p.tables e below (T46.setTop (mkF m 88 #[.val (.int u0), .val (.int u1), .val (.long w2), .second, .val (.int ((u0 &&& (255 : Int32)).toUInt32.toUInt16.toUInt32.toInt32)), .val (.int ((((u0.toUInt32 >>> ((8 : Int32) &&& 31).toUInt32).toInt32) &&& (255 : Int32)).toUInt32.toUInt16.toUInt32.toInt32)), .val (.int (u1 &&& (3 : Int32))), .val (.ref b43), .unset, .unset, .unset, .unset] [(.ref b46)])) _
        refine XS.astore X46.here hx rfl (hb hby at_88) rfl rfl (l' := #[.val (.int u0), .val (.int u1), .val (.long w2), .second, .val (.int ((u0 &&& (255 : Int32)).toUInt32.toUInt16.toUInt32.toInt32)), .val (.int ((((u0.toUInt32 >>> ((8 : Int32) &&& 31).toUInt32).toInt32) &&& (255 : Int32)).toUInt32.toUInt16.toUInt32.toInt32)), .val (.int (u1 &&& (3 : Int32))), .val (.ref b43), .val (.ref b46), .unset, .unset, .unset]) rfl ?_
        show Steps p.tables e below (T46.setTop (mkF m 90 #[.val (.int u0), .val (.int u1), .val (.long w2), .second, .val (.int ((u0 &&& (255 : Int32)).toUInt32.toUInt16.toUInt32.toInt32)), .val (.int ((((u0.toUInt32 >>> ((8 : Int32) &&& 31).toUInt32).toInt32) &&& (255 : Int32)).toUInt32.toUInt16.toUInt32.toInt32)), .val (.int (u1 &&& (3 : Int32))), .val (.ref b43), .val (.ref b46), .unset, .unset, .unset] [])) _
        refine XS.aload X46.here hx rfl (hb hby at_90) rfl rfl ?_
        exact k)
      obtain ⟨cq53, kq53, q53a, q53b, q53c⟩ := isOf hZ rfl E_r46
      obtain ⟨_, _, ⟨T53, L53, k53, n53⟩, -, X53, ⟨Lc53, hQ53, l53, y53, z53⟩, st53⟩ := X46.virtualBack hx (y := (⟨"com/example/scorpus/scorpus/engine/Explanation$Figure", "isCount", "()Z"⟩ : MethodName)) (z := (⟨"com/example/scorpus/scorpus/engine/Explanation$Figure", "isCount", "()Z"⟩ : MethodName)) hown (mvT hZ (hw _ (List.mem_of_getElem? (i := 46) rfl))) (mvT hZ (hw _ (List.mem_of_getElem? (i := 47) rfl))) (notFace_of_selects (args := #[]) (mvT hZ (hw _ (List.mem_of_getElem? (i := 49) rfl)))) (mvT hZ (hw _ (List.mem_of_getElem? (i := 49) rfl))) (mvT hZ (hw _ (List.mem_of_getElem? (i := 48) rfl))) (by decide) (backOf (W := 0) (rm9 l Z a0 hw [] b46 (nar .boolean (1 : Int32)) T46.heap n0 (Nat.le_trans Z0 K46.1) F_count46) hZ (hw _ (List.mem_of_getElem? (i := 50) rfl)) (hw _ (List.mem_of_getElem? (i := 32) rfl)) (by decide) (by decide)) q53a q53c (g := (mkF m 92 #[.val (.int u0), .val (.int u1), .val (.long w2), .second, .val (.int ((u0 &&& (255 : Int32)).toUInt32.toUInt16.toUInt32.toInt32)), .val (.int ((((u0.toUInt32 >>> ((8 : Int32) &&& 31).toUInt32).toInt32) &&& (255 : Int32)).toUInt32.toUInt16.toUInt32.toInt32)), .val (.int (u1 &&& (3 : Int32))), .val (.ref b43), .val (.ref b46), .unset, .unset, .unset] [(.ref b46)])) rfl (by rw [hml]; rfl) (Steps.refl _) (argsL := []) (rest := []) (lenOf pd_11 rfl) rfl (by show 2 * 0 + _ ≤ _; exact Nat.le_of_eq rfl) (hb hby at_92) (fun _ _ => ⟨rfl, rfl, (by decide : 3 + 0 ≤ _), (by decide : 8 + 0 ≤ _)⟩)
      dsimp only [Pt.U, Pt.locs, Pt.cells, Pt.slots] at X53 l53 y53 z53 st53 hQ53
      subst l53 y53 z53
      obtain ⟨rfl, N53q, e53⟩ := hQ53
      have N53 := Fr.app N46 N53q
      have pre54 : ∀ t, Steps p.tables e below (T53.setTop (mkF m 104 #[.val (.int u0), .val (.int u1), .val (.long w2), .second, .val (.int ((u0 &&& (255 : Int32)).toUInt32.toUInt16.toUInt32.toInt32)), .val (.int ((((u0.toUInt32 >>> ((8 : Int32) &&& 31).toUInt32).toInt32) &&& (255 : Int32)).toUInt32.toUInt16.toUInt32.toInt32)), .val (.int (u1 &&& (3 : Int32))), .val (.ref b43), .val (.ref b46), .val (.int (nar .boolean (nar .boolean (1 : Int32)))), .unset, .unset] [(.ref b46)])) t → Steps p.tables e below (s₁.setTop (entryFrame m #[(.int u0), (.int u1), (.long w2)] maxLocals)) t := fun t k => pre52 t (by
        show Steps p.tables e below (T46.setTop (mkF m 92 #[.val (.int u0), .val (.int u1), .val (.long w2), .second, .val (.int ((u0 &&& (255 : Int32)).toUInt32.toUInt16.toUInt32.toInt32)), .val (.int ((((u0.toUInt32 >>> ((8 : Int32) &&& 31).toUInt32).toInt32) &&& (255 : Int32)).toUInt32.toUInt16.toUInt32.toInt32)), .val (.int (u1 &&& (3 : Int32))), .val (.ref b43), .val (.ref b46), .unset, .unset, .unset] [(.ref b46)])) _
        refine st53.trans ?_
        show Steps p.tables e below (T53.setTop (mkF m 95 #[.val (.int u0), .val (.int u1), .val (.long w2), .second, .val (.int ((u0 &&& (255 : Int32)).toUInt32.toUInt16.toUInt32.toInt32)), .val (.int ((((u0.toUInt32 >>> ((8 : Int32) &&& 31).toUInt32).toInt32) &&& (255 : Int32)).toUInt32.toUInt16.toUInt32.toInt32)), .val (.int (u1 &&& (3 : Int32))), .val (.ref b43), .val (.ref b46), .unset, .unset, .unset] [(.int (nar .boolean (nar .boolean (1 : Int32))))])) _
        refine XS.istore X53.here hx rfl (hb hby at_95) rfl (l' := #[.val (.int u0), .val (.int u1), .val (.long w2), .second, .val (.int ((u0 &&& (255 : Int32)).toUInt32.toUInt16.toUInt32.toInt32)), .val (.int ((((u0.toUInt32 >>> ((8 : Int32) &&& 31).toUInt32).toInt32) &&& (255 : Int32)).toUInt32.toUInt16.toUInt32.toInt32)), .val (.int (u1 &&& (3 : Int32))), .val (.ref b43), .val (.ref b46), .val (.int (nar .boolean (nar .boolean (1 : Int32)))), .unset, .unset]) rfl ?_
        show Steps p.tables e below (T53.setTop (mkF m 97 #[.val (.int u0), .val (.int u1), .val (.long w2), .second, .val (.int ((u0 &&& (255 : Int32)).toUInt32.toUInt16.toUInt32.toInt32)), .val (.int ((((u0.toUInt32 >>> ((8 : Int32) &&& 31).toUInt32).toInt32) &&& (255 : Int32)).toUInt32.toUInt16.toUInt32.toInt32)), .val (.int (u1 &&& (3 : Int32))), .val (.ref b43), .val (.ref b46), .val (.int (nar .boolean (nar .boolean (1 : Int32)))), .unset, .unset] [])) _
        refine XS.iload X53.here hx rfl (hb hby at_97) rfl ?_
        show Steps p.tables e below (T53.setTop (mkF m 99 #[.val (.int u0), .val (.int u1), .val (.long w2), .second, .val (.int ((u0 &&& (255 : Int32)).toUInt32.toUInt16.toUInt32.toInt32)), .val (.int ((((u0.toUInt32 >>> ((8 : Int32) &&& 31).toUInt32).toInt32) &&& (255 : Int32)).toUInt32.toUInt16.toUInt32.toInt32)), .val (.int (u1 &&& (3 : Int32))), .val (.ref b43), .val (.ref b46), .val (.int (nar .boolean (nar .boolean (1 : Int32)))), .unset, .unset] [(.int (nar .boolean (nar .boolean (1 : Int32))))])) _
        refine XS.ifNo X53.here hx rfl (hb hby at_99) rfl ((if0 _ _).trans (feq (by decide)).1) ?_
        show Steps p.tables e below (T53.setTop (mkF m 102 #[.val (.int u0), .val (.int u1), .val (.long w2), .second, .val (.int ((u0 &&& (255 : Int32)).toUInt32.toUInt16.toUInt32.toInt32)), .val (.int ((((u0.toUInt32 >>> ((8 : Int32) &&& 31).toUInt32).toInt32) &&& (255 : Int32)).toUInt32.toUInt16.toUInt32.toInt32)), .val (.int (u1 &&& (3 : Int32))), .val (.ref b43), .val (.ref b46), .val (.int (nar .boolean (nar .boolean (1 : Int32)))), .unset, .unset] [])) _
        refine XS.aload X53.here hx rfl (hb hby at_102) rfl rfl ?_
        exact k)
      obtain ⟨cq55, kq55, q55a, q55b, q55c⟩ := isOf hZ e53 E_r46
      obtain ⟨_, _, ⟨T55, L55, k55, n55⟩, -, X55, ⟨Lc55, hQ55, l55, y55, z55⟩, st55⟩ := X53.virtualBack hx (y := (⟨"com/example/scorpus/scorpus/engine/Explanation$Figure", "name", "()Ljava/lang/String;"⟩ : MethodName)) (z := (⟨"com/example/scorpus/scorpus/engine/Explanation$Figure", "name", "()Ljava/lang/String;"⟩ : MethodName)) hown (mvT hZ (hw _ (List.mem_of_getElem? (i := 51) rfl))) (mvT hZ (hw _ (List.mem_of_getElem? (i := 52) rfl))) (notFace_of_selects (args := #[]) (mvT hZ (hw _ (List.mem_of_getElem? (i := 54) rfl)))) (mvT hZ (hw _ (List.mem_of_getElem? (i := 54) rfl))) (mvT hZ (hw _ (List.mem_of_getElem? (i := 53) rfl))) (by decide) (backOf (W := 0) (rm10 l Z a0 hw [] b46 b43 T46.heap n0 (Nat.le_trans Z0 K46.1) F_name46) hZ (hw _ (List.mem_of_getElem? (i := 55) rfl)) (hw _ (List.mem_of_getElem? (i := 32) rfl)) (by decide) (by decide)) q55a q55c (g := (mkF m 104 #[.val (.int u0), .val (.int u1), .val (.long w2), .second, .val (.int ((u0 &&& (255 : Int32)).toUInt32.toUInt16.toUInt32.toInt32)), .val (.int ((((u0.toUInt32 >>> ((8 : Int32) &&& 31).toUInt32).toInt32) &&& (255 : Int32)).toUInt32.toUInt16.toUInt32.toInt32)), .val (.int (u1 &&& (3 : Int32))), .val (.ref b43), .val (.ref b46), .val (.int (nar .boolean (nar .boolean (1 : Int32)))), .unset, .unset] [(.ref b46)])) rfl (by rw [hml]; rfl) (Steps.refl _) (argsL := []) (rest := []) (lenOf pd_12 rfl) rfl (by show 2 * 0 + _ ≤ _; exact Nat.le_of_eq rfl) (hb hby at_104) (fun _ _ => ⟨rfl, e53, (by decide : 3 + 0 ≤ _), (by decide : 8 + 0 ≤ _)⟩)
      dsimp only [Pt.U, Pt.locs, Pt.cells, Pt.slots] at X55 l55 y55 z55 st55 hQ55
      subst l55 y55 z55
      obtain ⟨rfl, N55q, e55⟩ := hQ55
      have N55 := Fr.app N53 N55q
      have pre56 : ∀ t, Steps p.tables e below (T55.setTop (mkF m 109 #[.val (.int u0), .val (.int u1), .val (.long w2), .second, .val (.int ((u0 &&& (255 : Int32)).toUInt32.toUInt16.toUInt32.toInt32)), .val (.int ((((u0.toUInt32 >>> ((8 : Int32) &&& 31).toUInt32).toInt32) &&& (255 : Int32)).toUInt32.toUInt16.toUInt32.toInt32)), .val (.int (u1 &&& (3 : Int32))), .val (.ref b43), .val (.ref b46), .val (.int (nar .boolean (nar .boolean (1 : Int32)))), .unset, .unset] [(.ref b43), (.ref b43)])) t → Steps p.tables e below (s₁.setTop (entryFrame m #[(.int u0), (.int u1), (.long w2)] maxLocals)) t := fun t k => pre54 t (by
        show Steps p.tables e below (T53.setTop (mkF m 104 #[.val (.int u0), .val (.int u1), .val (.long w2), .second, .val (.int ((u0 &&& (255 : Int32)).toUInt32.toUInt16.toUInt32.toInt32)), .val (.int ((((u0.toUInt32 >>> ((8 : Int32) &&& 31).toUInt32).toInt32) &&& (255 : Int32)).toUInt32.toUInt16.toUInt32.toInt32)), .val (.int (u1 &&& (3 : Int32))), .val (.ref b43), .val (.ref b46), .val (.int (nar .boolean (nar .boolean (1 : Int32)))), .unset, .unset] [(.ref b46)])) _
        refine st55.trans ?_
        show Steps p.tables e below (T55.setTop (mkF m 107 #[.val (.int u0), .val (.int u1), .val (.long w2), .second, .val (.int ((u0 &&& (255 : Int32)).toUInt32.toUInt16.toUInt32.toInt32)), .val (.int ((((u0.toUInt32 >>> ((8 : Int32) &&& 31).toUInt32).toInt32) &&& (255 : Int32)).toUInt32.toUInt16.toUInt32.toInt32)), .val (.int (u1 &&& (3 : Int32))), .val (.ref b43), .val (.ref b46), .val (.int (nar .boolean (nar .boolean (1 : Int32)))), .unset, .unset] [(.ref b43)])) _
        refine XS.aload X55.here hx rfl (hb hby at_107) rfl rfl ?_
        exact k)
      obtain ⟨cq57, kq57, q57a, q57b, q57c⟩ := isOf hZ e55 E_r43_48
      obtain ⟨_, _, ⟨T57, L57, k57, n57⟩, -, X57, ⟨Lc57, hQ57, l57, y57, z57⟩, st57⟩ := X55.virtualBack hx (y := (⟨"java/lang/String", "equals", "(Ljava/lang/Object;)Z"⟩ : MethodName)) (z := (⟨"java/lang/String", "equals", "(Ljava/lang/Object;)Z"⟩ : MethodName)) hown (mvT hZ (hw _ (List.mem_of_getElem? (i := 56) rfl))) (mvT hZ (hw _ (List.mem_of_getElem? (i := 57) rfl))) (notFace_of_selects (args := #[]) (mvT hZ (hw _ (List.mem_of_getElem? (i := 59) rfl)))) (mvT hZ (hw _ (List.mem_of_getElem? (i := 59) rfl))) (mvT hZ (hw _ (List.mem_of_getElem? (i := 58) rfl))) (by decide) (backOf (W := 0) (rm11 l Z a0 hw [] b43  T46.heap n0 (Nat.le_trans Z0 K46.1) ) hZ (hw _ (List.mem_of_getElem? (i := 60) rfl)) (hw _ (List.mem_of_getElem? (i := 2) rfl)) (by decide) (by decide)) q57a q57c (g := (mkF m 109 #[.val (.int u0), .val (.int u1), .val (.long w2), .second, .val (.int ((u0 &&& (255 : Int32)).toUInt32.toUInt16.toUInt32.toInt32)), .val (.int ((((u0.toUInt32 >>> ((8 : Int32) &&& 31).toUInt32).toInt32) &&& (255 : Int32)).toUInt32.toUInt16.toUInt32.toInt32)), .val (.int (u1 &&& (3 : Int32))), .val (.ref b43), .val (.ref b46), .val (.int (nar .boolean (nar .boolean (1 : Int32)))), .unset, .unset] [(.ref b43), (.ref b43)])) rfl (by rw [hml]; rfl) (Steps.refl _) (argsL := [(.ref b43)]) (rest := []) (lenOf pd_13 rfl) rfl (by show 2 * 0 + _ ≤ _; exact Nat.le_of_eq rfl) (hb hby at_109) (fun _ _ => ⟨rfl, e55, (by decide : 3 + 0 ≤ _), (by decide : 8 + 0 ≤ _)⟩)
      dsimp only [Pt.U, Pt.locs, Pt.cells, Pt.slots] at X57 l57 y57 z57 st57 hQ57
      subst l57 y57 z57
      obtain ⟨rfl, N57q, e57⟩ := hQ57
      have N57 := Fr.app N55 N57q
      have pre58 : ∀ t, Steps p.tables e below (T57.setTop (mkF m 117 #[.val (.int u0), .val (.int u1), .val (.long w2), .second, .val (.int ((u0 &&& (255 : Int32)).toUInt32.toUInt16.toUInt32.toInt32)), .val (.int ((((u0.toUInt32 >>> ((8 : Int32) &&& 31).toUInt32).toInt32) &&& (255 : Int32)).toUInt32.toUInt16.toUInt32.toInt32)), .val (.int (u1 &&& (3 : Int32))), .val (.ref b43), .val (.ref b46), .val (.int (nar .boolean (nar .boolean (1 : Int32)))), .unset, .unset] [(.ref b46)])) t → Steps p.tables e below (s₁.setTop (entryFrame m #[(.int u0), (.int u1), (.long w2)] maxLocals)) t := fun t k => pre56 t (by
        show Steps p.tables e below (T55.setTop (mkF m 109 #[.val (.int u0), .val (.int u1), .val (.long w2), .second, .val (.int ((u0 &&& (255 : Int32)).toUInt32.toUInt16.toUInt32.toInt32)), .val (.int ((((u0.toUInt32 >>> ((8 : Int32) &&& 31).toUInt32).toInt32) &&& (255 : Int32)).toUInt32.toUInt16.toUInt32.toInt32)), .val (.int (u1 &&& (3 : Int32))), .val (.ref b43), .val (.ref b46), .val (.int (nar .boolean (nar .boolean (1 : Int32)))), .unset, .unset] [(.ref b43), (.ref b43)])) _
        refine st57.trans ?_
        show Steps p.tables e below (T57.setTop (mkF m 112 #[.val (.int u0), .val (.int u1), .val (.long w2), .second, .val (.int ((u0 &&& (255 : Int32)).toUInt32.toUInt16.toUInt32.toInt32)), .val (.int ((((u0.toUInt32 >>> ((8 : Int32) &&& 31).toUInt32).toInt32) &&& (255 : Int32)).toUInt32.toUInt16.toUInt32.toInt32)), .val (.int (u1 &&& (3 : Int32))), .val (.ref b43), .val (.ref b46), .val (.int (nar .boolean (nar .boolean (1 : Int32)))), .unset, .unset] [(.int (1 : Int32))])) _
        refine XS.ifNo X57.here hx rfl (hb hby at_112) rfl ((if0 _ _).trans (feq (by decide : ¬ ((1 : Int32) = (0 : Int32)))).1) ?_
        show Steps p.tables e below (T57.setTop (mkF m 115 #[.val (.int u0), .val (.int u1), .val (.long w2), .second, .val (.int ((u0 &&& (255 : Int32)).toUInt32.toUInt16.toUInt32.toInt32)), .val (.int ((((u0.toUInt32 >>> ((8 : Int32) &&& 31).toUInt32).toInt32) &&& (255 : Int32)).toUInt32.toUInt16.toUInt32.toInt32)), .val (.int (u1 &&& (3 : Int32))), .val (.ref b43), .val (.ref b46), .val (.int (nar .boolean (nar .boolean (1 : Int32)))), .unset, .unset] [])) _
        refine XS.aload X57.here hx rfl (hb hby at_115) rfl rfl ?_
        exact k)
      obtain ⟨cq59, kq59, q59a, q59b, q59c⟩ := isOf hZ e57 E_r46
      obtain ⟨_, _, ⟨T59, L59, k59, n59⟩, -, X59, ⟨Lc59, hQ59, l59, y59, z59⟩, st59⟩ := X57.virtualBack hx (y := (⟨"com/example/scorpus/scorpus/engine/Explanation$Figure", "name", "()Ljava/lang/String;"⟩ : MethodName)) (z := (⟨"com/example/scorpus/scorpus/engine/Explanation$Figure", "name", "()Ljava/lang/String;"⟩ : MethodName)) hown (mvT hZ (hw _ (List.mem_of_getElem? (i := 51) rfl))) (mvT hZ (hw _ (List.mem_of_getElem? (i := 52) rfl))) (notFace_of_selects (args := #[]) (mvT hZ (hw _ (List.mem_of_getElem? (i := 54) rfl)))) (mvT hZ (hw _ (List.mem_of_getElem? (i := 54) rfl))) (mvT hZ (hw _ (List.mem_of_getElem? (i := 53) rfl))) (by decide) (backOf (W := 0) (rm10 l Z a0 hw [] b46 b43 T46.heap n0 (Nat.le_trans Z0 K46.1) F_name46) hZ (hw _ (List.mem_of_getElem? (i := 55) rfl)) (hw _ (List.mem_of_getElem? (i := 32) rfl)) (by decide) (by decide)) q59a q59c (g := (mkF m 117 #[.val (.int u0), .val (.int u1), .val (.long w2), .second, .val (.int ((u0 &&& (255 : Int32)).toUInt32.toUInt16.toUInt32.toInt32)), .val (.int ((((u0.toUInt32 >>> ((8 : Int32) &&& 31).toUInt32).toInt32) &&& (255 : Int32)).toUInt32.toUInt16.toUInt32.toInt32)), .val (.int (u1 &&& (3 : Int32))), .val (.ref b43), .val (.ref b46), .val (.int (nar .boolean (nar .boolean (1 : Int32)))), .unset, .unset] [(.ref b46)])) rfl (by rw [hml]; rfl) (Steps.refl _) (argsL := []) (rest := []) (lenOf pd_12 rfl) rfl (by show 2 * 0 + _ ≤ _; exact Nat.le_of_eq rfl) (hb hby at_117) (fun _ _ => ⟨rfl, e57, (by decide : 3 + 0 ≤ _), (by decide : 8 + 0 ≤ _)⟩)
      dsimp only [Pt.U, Pt.locs, Pt.cells, Pt.slots] at X59 l59 y59 z59 st59 hQ59
      subst l59 y59 z59
      obtain ⟨rfl, N59q, e59⟩ := hQ59
      have N59 := Fr.app N57 N59q
      have SC60 := SZ_C.ext O0_47.2
      have pre61 : ∀ t, Steps p.tables e below (T59.setTop (mkF m 120 #[.val (.int u0), .val (.int u1), .val (.long w2), .second, .val (.int ((u0 &&& (255 : Int32)).toUInt32.toUInt16.toUInt32.toInt32)), .val (.int ((((u0.toUInt32 >>> ((8 : Int32) &&& 31).toUInt32).toInt32) &&& (255 : Int32)).toUInt32.toUInt16.toUInt32.toInt32)), .val (.int (u1 &&& (3 : Int32))), .val (.ref b43), .val (.ref b46), .val (.int (nar .boolean (nar .boolean (1 : Int32)))), .unset, .unset] [(.ref b43)])) t → Steps p.tables e below (s₁.setTop (entryFrame m #[(.int u0), (.int u1), (.long w2)] maxLocals)) t := fun t k => pre58 t (by
        show Steps p.tables e below (T57.setTop (mkF m 117 #[.val (.int u0), .val (.int u1), .val (.long w2), .second, .val (.int ((u0 &&& (255 : Int32)).toUInt32.toUInt16.toUInt32.toInt32)), .val (.int ((((u0.toUInt32 >>> ((8 : Int32) &&& 31).toUInt32).toInt32) &&& (255 : Int32)).toUInt32.toUInt16.toUInt32.toInt32)), .val (.int (u1 &&& (3 : Int32))), .val (.ref b43), .val (.ref b46), .val (.int (nar .boolean (nar .boolean (1 : Int32)))), .unset, .unset] [(.ref b46)])) _
        refine st59.trans ?_
        exact k)
      obtain ⟨cq62, kq62, q62a, q62b, q62c⟩ := isOf hZ e59 E_r43_48
      obtain ⟨_, _, ⟨T62, L62, k62, n62⟩, -, X62, ⟨Lc62, hQ62, l62, y62, z62⟩, st62⟩ := X59.virtualBack hx (y := (⟨"java/lang/String", "length", "()I"⟩ : MethodName)) (z := (⟨"java/lang/String", "length", "()I"⟩ : MethodName)) hown (mvT hZ (hw _ (List.mem_of_getElem? (i := 61) rfl))) (mvT hZ (hw _ (List.mem_of_getElem? (i := 62) rfl))) (notFace_of_selects (args := #[]) (mvT hZ (hw _ (List.mem_of_getElem? (i := 64) rfl)))) (mvT hZ (hw _ (List.mem_of_getElem? (i := 64) rfl))) (mvT hZ (hw _ (List.mem_of_getElem? (i := 63) rfl))) (by decide) (backOf (W := 0) (rm12 l Z a0 hw [] b43 rb43 kb43 nb43 vs43 cd43 cs T46.heap n0 (Nat.le_trans Z0 K46.1) E_r43_48 F_value43_49 F_coder43_50 V_b43_51 SC60 hcs) hZ (hw _ (List.mem_of_getElem? (i := 65) rfl)) (hw _ (List.mem_of_getElem? (i := 2) rfl)) (by decide) (by decide)) q62a q62c (g := (mkF m 120 #[.val (.int u0), .val (.int u1), .val (.long w2), .second, .val (.int ((u0 &&& (255 : Int32)).toUInt32.toUInt16.toUInt32.toInt32)), .val (.int ((((u0.toUInt32 >>> ((8 : Int32) &&& 31).toUInt32).toInt32) &&& (255 : Int32)).toUInt32.toUInt16.toUInt32.toInt32)), .val (.int (u1 &&& (3 : Int32))), .val (.ref b43), .val (.ref b46), .val (.int (nar .boolean (nar .boolean (1 : Int32)))), .unset, .unset] [(.ref b43)])) rfl (by rw [hml]; rfl) (Steps.refl _) (argsL := []) (rest := []) (lenOf pd_14 rfl) rfl (by show 2 * 0 + _ ≤ _; exact Nat.le_of_eq rfl) (hb hby at_120) (fun _ _ => ⟨rfl, e59, (by decide : 3 + 0 ≤ _), (by decide : 8 + 0 ≤ _)⟩)
      dsimp only [Pt.U, Pt.locs, Pt.cells, Pt.slots] at X62 l62 y62 z62 st62 hQ62
      subst l62 y62 z62
      obtain ⟨rfl, N62q, e62⟩ := hQ62
      have N62 := Fr.app N59 N62q
      have SC63 := SZ_C.ext O0_47.2
      have pre64 : ∀ t, Steps p.tables e below (T62.setTop (mkF m 125 #[.val (.int u0), .val (.int u1), .val (.long w2), .second, .val (.int ((u0 &&& (255 : Int32)).toUInt32.toUInt16.toUInt32.toInt32)), .val (.int ((((u0.toUInt32 >>> ((8 : Int32) &&& 31).toUInt32).toInt32) &&& (255 : Int32)).toUInt32.toUInt16.toUInt32.toInt32)), .val (.int (u1 &&& (3 : Int32))), .val (.ref b43), .val (.ref b46), .val (.int (nar .boolean (nar .boolean (1 : Int32)))), .unset, .unset] [(.ref b43), (.int (nb43 >>> ((nar .byte cd43) &&& 31)))])) t → Steps p.tables e below (s₁.setTop (entryFrame m #[(.int u0), (.int u1), (.long w2)] maxLocals)) t := fun t k => pre61 t (by
        show Steps p.tables e below (T59.setTop (mkF m 120 #[.val (.int u0), .val (.int u1), .val (.long w2), .second, .val (.int ((u0 &&& (255 : Int32)).toUInt32.toUInt16.toUInt32.toInt32)), .val (.int ((((u0.toUInt32 >>> ((8 : Int32) &&& 31).toUInt32).toInt32) &&& (255 : Int32)).toUInt32.toUInt16.toUInt32.toInt32)), .val (.int (u1 &&& (3 : Int32))), .val (.ref b43), .val (.ref b46), .val (.int (nar .boolean (nar .boolean (1 : Int32)))), .unset, .unset] [(.ref b43)])) _
        refine st62.trans ?_
        show Steps p.tables e below (T62.setTop (mkF m 123 #[.val (.int u0), .val (.int u1), .val (.long w2), .second, .val (.int ((u0 &&& (255 : Int32)).toUInt32.toUInt16.toUInt32.toInt32)), .val (.int ((((u0.toUInt32 >>> ((8 : Int32) &&& 31).toUInt32).toInt32) &&& (255 : Int32)).toUInt32.toUInt16.toUInt32.toInt32)), .val (.int (u1 &&& (3 : Int32))), .val (.ref b43), .val (.ref b46), .val (.int (nar .boolean (nar .boolean (1 : Int32)))), .unset, .unset] [(.int (nb43 >>> ((nar .byte cd43) &&& 31)))])) _
        refine XS.aload X62.here hx rfl (hb hby at_123) rfl rfl ?_
        exact k)
      obtain ⟨cq65, kq65, q65a, q65b, q65c⟩ := isOf hZ e62 E_r43_48
      obtain ⟨_, _, ⟨T65, L65, k65, n65⟩, -, X65, ⟨Lc65, hQ65, l65, y65, z65⟩, st65⟩ := X62.virtualBack hx (y := (⟨"java/lang/String", "length", "()I"⟩ : MethodName)) (z := (⟨"java/lang/String", "length", "()I"⟩ : MethodName)) hown (mvT hZ (hw _ (List.mem_of_getElem? (i := 61) rfl))) (mvT hZ (hw _ (List.mem_of_getElem? (i := 62) rfl))) (notFace_of_selects (args := #[]) (mvT hZ (hw _ (List.mem_of_getElem? (i := 64) rfl)))) (mvT hZ (hw _ (List.mem_of_getElem? (i := 64) rfl))) (mvT hZ (hw _ (List.mem_of_getElem? (i := 63) rfl))) (by decide) (backOf (W := 1) (rm12 l Z a0 hw [] b43 rb43 kb43 nb43 vs43 cd43 cs T46.heap n0 (Nat.le_trans Z0 K46.1) E_r43_48 F_value43_49 F_coder43_50 V_b43_51 SC63 hcs) hZ (hw _ (List.mem_of_getElem? (i := 65) rfl)) (hw _ (List.mem_of_getElem? (i := 2) rfl)) (by decide) (by decide)) q65a q65c (g := (mkF m 125 #[.val (.int u0), .val (.int u1), .val (.long w2), .second, .val (.int ((u0 &&& (255 : Int32)).toUInt32.toUInt16.toUInt32.toInt32)), .val (.int ((((u0.toUInt32 >>> ((8 : Int32) &&& 31).toUInt32).toInt32) &&& (255 : Int32)).toUInt32.toUInt16.toUInt32.toInt32)), .val (.int (u1 &&& (3 : Int32))), .val (.ref b43), .val (.ref b46), .val (.int (nar .boolean (nar .boolean (1 : Int32)))), .unset, .unset] [(.ref b43), (.int (nb43 >>> ((nar .byte cd43) &&& 31)))])) rfl (by rw [hml]; rfl) (Steps.refl _) (argsL := []) (rest := [(.int (nb43 >>> ((nar .byte cd43) &&& 31)))]) (lenOf pd_14 rfl) rfl (by show 2 * 0 + _ ≤ _; exact Nat.le_of_eq rfl) (hb hby at_125) (fun _ _ => ⟨rfl, e62, (by decide : 3 + 0 ≤ _), (by decide : 8 + 0 ≤ _)⟩)
      dsimp only [Pt.U, Pt.locs, Pt.cells, Pt.slots] at X65 l65 y65 z65 st65 hQ65
      subst l65 y65 z65
      obtain ⟨rfl, N65q, e65⟩ := hQ65
      have N65 := Fr.app N62 N65q
      have pre66 : ∀ t, Steps p.tables e below (T65.setTop (mkF m 149 #[.val (.int u0), .val (.int u1), .val (.long w2), .second, .val (.int ((u0 &&& (255 : Int32)).toUInt32.toUInt16.toUInt32.toInt32)), .val (.int ((((u0.toUInt32 >>> ((8 : Int32) &&& 31).toUInt32).toInt32) &&& (255 : Int32)).toUInt32.toUInt16.toUInt32.toInt32)), .val (.int (u1 &&& (3 : Int32))), .val (.ref b43), .val (.ref b46), .val (.int (1 : Int32)), .val (.double (FP.l2d w2)), .second] [(.ref b46)])) t → Steps p.tables e below (s₁.setTop (entryFrame m #[(.int u0), (.int u1), (.long w2)] maxLocals)) t := fun t k => pre64 t (by
        show Steps p.tables e below (T62.setTop (mkF m 125 #[.val (.int u0), .val (.int u1), .val (.long w2), .second, .val (.int ((u0 &&& (255 : Int32)).toUInt32.toUInt16.toUInt32.toInt32)), .val (.int ((((u0.toUInt32 >>> ((8 : Int32) &&& 31).toUInt32).toInt32) &&& (255 : Int32)).toUInt32.toUInt16.toUInt32.toInt32)), .val (.int (u1 &&& (3 : Int32))), .val (.ref b43), .val (.ref b46), .val (.int (nar .boolean (nar .boolean (1 : Int32)))), .unset, .unset] [(.ref b43), (.int (nb43 >>> ((nar .byte cd43) &&& 31)))])) _
        refine st65.trans ?_
        show Steps p.tables e below (T65.setTop (mkF m 128 #[.val (.int u0), .val (.int u1), .val (.long w2), .second, .val (.int ((u0 &&& (255 : Int32)).toUInt32.toUInt16.toUInt32.toInt32)), .val (.int ((((u0.toUInt32 >>> ((8 : Int32) &&& 31).toUInt32).toInt32) &&& (255 : Int32)).toUInt32.toUInt16.toUInt32.toInt32)), .val (.int (u1 &&& (3 : Int32))), .val (.ref b43), .val (.ref b46), .val (.int (nar .boolean (nar .boolean (1 : Int32)))), .unset, .unset] [(.int (nb43 >>> ((nar .byte cd43) &&& 31))), (.int (nb43 >>> ((nar .byte cd43) &&& 31)))])) _
        refine XS.icmpNo X65.here hx rfl (hb hby at_128) rfl (teq (rfl : (nb43 >>> ((nar .byte cd43) &&& 31)) = (nb43 >>> ((nar .byte cd43) &&& 31)))).2 ?_
        show Steps p.tables e below (T65.setTop (mkF m 131 #[.val (.int u0), .val (.int u1), .val (.long w2), .second, .val (.int ((u0 &&& (255 : Int32)).toUInt32.toUInt16.toUInt32.toInt32)), .val (.int ((((u0.toUInt32 >>> ((8 : Int32) &&& 31).toUInt32).toInt32) &&& (255 : Int32)).toUInt32.toUInt16.toUInt32.toInt32)), .val (.int (u1 &&& (3 : Int32))), .val (.ref b43), .val (.ref b46), .val (.int (nar .boolean (nar .boolean (1 : Int32)))), .unset, .unset] [])) _
        refine XS.iconst X65.here hx rfl (hb hby at_131) ?_
        show Steps p.tables e below (T65.setTop (mkF m 132 #[.val (.int u0), .val (.int u1), .val (.long w2), .second, .val (.int ((u0 &&& (255 : Int32)).toUInt32.toUInt16.toUInt32.toInt32)), .val (.int ((((u0.toUInt32 >>> ((8 : Int32) &&& 31).toUInt32).toInt32) &&& (255 : Int32)).toUInt32.toUInt16.toUInt32.toInt32)), .val (.int (u1 &&& (3 : Int32))), .val (.ref b43), .val (.ref b46), .val (.int (nar .boolean (nar .boolean (1 : Int32)))), .unset, .unset] [(.int (1 : Int32))])) _
        refine XS.goto X65.here hx rfl (pc0 := 132) (pc' := 136) rfl (hb hby at_132) (by decide) (by decide) ?_
        show Steps p.tables e below (T65.setTop (mkF m 136 #[.val (.int u0), .val (.int u1), .val (.long w2), .second, .val (.int ((u0 &&& (255 : Int32)).toUInt32.toUInt16.toUInt32.toInt32)), .val (.int ((((u0.toUInt32 >>> ((8 : Int32) &&& 31).toUInt32).toInt32) &&& (255 : Int32)).toUInt32.toUInt16.toUInt32.toInt32)), .val (.int (u1 &&& (3 : Int32))), .val (.ref b43), .val (.ref b46), .val (.int (nar .boolean (nar .boolean (1 : Int32)))), .unset, .unset] [(.int (1 : Int32))])) _
        refine XS.istore X65.here hx rfl (hb hby at_136) rfl (l' := #[.val (.int u0), .val (.int u1), .val (.long w2), .second, .val (.int ((u0 &&& (255 : Int32)).toUInt32.toUInt16.toUInt32.toInt32)), .val (.int ((((u0.toUInt32 >>> ((8 : Int32) &&& 31).toUInt32).toInt32) &&& (255 : Int32)).toUInt32.toUInt16.toUInt32.toInt32)), .val (.int (u1 &&& (3 : Int32))), .val (.ref b43), .val (.ref b46), .val (.int (1 : Int32)), .unset, .unset]) rfl ?_
        show Steps p.tables e below (T65.setTop (mkF m 138 #[.val (.int u0), .val (.int u1), .val (.long w2), .second, .val (.int ((u0 &&& (255 : Int32)).toUInt32.toUInt16.toUInt32.toInt32)), .val (.int ((((u0.toUInt32 >>> ((8 : Int32) &&& 31).toUInt32).toInt32) &&& (255 : Int32)).toUInt32.toUInt16.toUInt32.toInt32)), .val (.int (u1 &&& (3 : Int32))), .val (.ref b43), .val (.ref b46), .val (.int (1 : Int32)), .unset, .unset] [])) _
        refine XS.lloadN X65.here hx rfl (hb hby at_138) rfl ?_
        show Steps p.tables e below (T65.setTop (mkF m 139 #[.val (.int u0), .val (.int u1), .val (.long w2), .second, .val (.int ((u0 &&& (255 : Int32)).toUInt32.toUInt16.toUInt32.toInt32)), .val (.int ((((u0.toUInt32 >>> ((8 : Int32) &&& 31).toUInt32).toInt32) &&& (255 : Int32)).toUInt32.toUInt16.toUInt32.toInt32)), .val (.int (u1 &&& (3 : Int32))), .val (.ref b43), .val (.ref b46), .val (.int (1 : Int32)), .unset, .unset] [(.long w2)])) _
        refine XS.l2dS X65.here hx rfl (hb hby at_139) rfl rfl ?_
        show Steps p.tables e below (T65.setTop (mkF m 140 #[.val (.int u0), .val (.int u1), .val (.long w2), .second, .val (.int ((u0 &&& (255 : Int32)).toUInt32.toUInt16.toUInt32.toInt32)), .val (.int ((((u0.toUInt32 >>> ((8 : Int32) &&& 31).toUInt32).toInt32) &&& (255 : Int32)).toUInt32.toUInt16.toUInt32.toInt32)), .val (.int (u1 &&& (3 : Int32))), .val (.ref b43), .val (.ref b46), .val (.int (1 : Int32)), .unset, .unset] [(.double (FP.l2d w2))])) _
        refine XS.dstore X65.here hx rfl (hb hby at_140) rfl (l' := #[.val (.int u0), .val (.int u1), .val (.long w2), .second, .val (.int ((u0 &&& (255 : Int32)).toUInt32.toUInt16.toUInt32.toInt32)), .val (.int ((((u0.toUInt32 >>> ((8 : Int32) &&& 31).toUInt32).toInt32) &&& (255 : Int32)).toUInt32.toUInt16.toUInt32.toInt32)), .val (.int (u1 &&& (3 : Int32))), .val (.ref b43), .val (.ref b46), .val (.int (1 : Int32)), .val (.double (FP.l2d w2)), .second]) rfl ?_
        show Steps p.tables e below (T65.setTop (mkF m 142 #[.val (.int u0), .val (.int u1), .val (.long w2), .second, .val (.int ((u0 &&& (255 : Int32)).toUInt32.toUInt16.toUInt32.toInt32)), .val (.int ((((u0.toUInt32 >>> ((8 : Int32) &&& 31).toUInt32).toInt32) &&& (255 : Int32)).toUInt32.toUInt16.toUInt32.toInt32)), .val (.int (u1 &&& (3 : Int32))), .val (.ref b43), .val (.ref b46), .val (.int (1 : Int32)), .val (.double (FP.l2d w2)), .second] [])) _
        refine XS.iload X65.here hx rfl (hb hby at_142) rfl ?_
        show Steps p.tables e below (T65.setTop (mkF m 144 #[.val (.int u0), .val (.int u1), .val (.long w2), .second, .val (.int ((u0 &&& (255 : Int32)).toUInt32.toUInt16.toUInt32.toInt32)), .val (.int ((((u0.toUInt32 >>> ((8 : Int32) &&& 31).toUInt32).toInt32) &&& (255 : Int32)).toUInt32.toUInt16.toUInt32.toInt32)), .val (.int (u1 &&& (3 : Int32))), .val (.ref b43), .val (.ref b46), .val (.int (1 : Int32)), .val (.double (FP.l2d w2)), .second] [(.int (1 : Int32))])) _
        refine XS.ifNo X65.here hx rfl (hb hby at_144) rfl ((if0 _ _).trans (feq (by decide : ¬ ((1 : Int32) = (0 : Int32)))).1) ?_
        show Steps p.tables e below (T65.setTop (mkF m 147 #[.val (.int u0), .val (.int u1), .val (.long w2), .second, .val (.int ((u0 &&& (255 : Int32)).toUInt32.toUInt16.toUInt32.toInt32)), .val (.int ((((u0.toUInt32 >>> ((8 : Int32) &&& 31).toUInt32).toInt32) &&& (255 : Int32)).toUInt32.toUInt16.toUInt32.toInt32)), .val (.int (u1 &&& (3 : Int32))), .val (.ref b43), .val (.ref b46), .val (.int (1 : Int32)), .val (.double (FP.l2d w2)), .second] [])) _
        refine XS.aload X65.here hx rfl (hb hby at_147) rfl rfl ?_
        exact k)
      obtain ⟨cq67, kq67, q67a, q67b, q67c⟩ := isOf hZ e65 E_r46
      obtain ⟨_, _, ⟨T67, L67, k67, n67⟩, -, X67, ⟨Lc67, hQ67, l67, y67, z67⟩, st67⟩ := X65.virtualBack hx (y := (⟨"com/example/scorpus/scorpus/engine/Explanation$Figure", "value", "()D"⟩ : MethodName)) (z := (⟨"com/example/scorpus/scorpus/engine/Explanation$Figure", "value", "()D"⟩ : MethodName)) hown (mvT hZ (hw _ (List.mem_of_getElem? (i := 71) rfl))) (mvT hZ (hw _ (List.mem_of_getElem? (i := 72) rfl))) (notFace_of_selects (args := #[]) (mvT hZ (hw _ (List.mem_of_getElem? (i := 74) rfl)))) (mvT hZ (hw _ (List.mem_of_getElem? (i := 74) rfl))) (mvT hZ (hw _ (List.mem_of_getElem? (i := 73) rfl))) (by decide) (backOf (W := 0) (rm14 l Z a0 hw [] b46 (FP.l2d w2) T46.heap n0 (Nat.le_trans Z0 K46.1) F_value46) hZ (hw _ (List.mem_of_getElem? (i := 75) rfl)) (hw _ (List.mem_of_getElem? (i := 32) rfl)) (by decide) (by decide)) q67a q67c (g := (mkF m 149 #[.val (.int u0), .val (.int u1), .val (.long w2), .second, .val (.int ((u0 &&& (255 : Int32)).toUInt32.toUInt16.toUInt32.toInt32)), .val (.int ((((u0.toUInt32 >>> ((8 : Int32) &&& 31).toUInt32).toInt32) &&& (255 : Int32)).toUInt32.toUInt16.toUInt32.toInt32)), .val (.int (u1 &&& (3 : Int32))), .val (.ref b43), .val (.ref b46), .val (.int (1 : Int32)), .val (.double (FP.l2d w2)), .second] [(.ref b46)])) rfl (by rw [hml]; rfl) (Steps.refl _) (argsL := []) (rest := []) (lenOf pd_15 rfl) rfl (by show 2 * 0 + _ ≤ _; exact Nat.le_of_eq rfl) (hb hby at_149) (fun _ _ => ⟨rfl, e65, (by decide : 3 + 0 ≤ _), (by decide : 8 + 0 ≤ _)⟩)
      dsimp only [Pt.U, Pt.locs, Pt.cells, Pt.slots] at X67 l67 y67 z67 st67 hQ67
      subst l67 y67 z67
      obtain ⟨rfl, N67q, e67⟩ := hQ67
      have N67 := Fr.app N65 N67q
      have pre68 : ∀ t, Steps p.tables e below (T67.setTop (mkF m 170 #[.val (.int u0), .val (.int u1), .val (.long w2), .second, .val (.int ((u0 &&& (255 : Int32)).toUInt32.toUInt16.toUInt32.toInt32)), .val (.int ((((u0.toUInt32 >>> ((8 : Int32) &&& 31).toUInt32).toInt32) &&& (255 : Int32)).toUInt32.toUInt16.toUInt32.toInt32)), .val (.int (u1 &&& (3 : Int32))), .val (.ref b43), .val (.ref b46), .val (.int (1 : Int32)), .val (.double (FP.l2d w2)), .second] [(.int (lcmpW w2 (-9007199254740992 : Int64)))])) t → Steps p.tables e below (s₁.setTop (entryFrame m #[(.int u0), (.int u1), (.long w2)] maxLocals)) t := fun t k => pre66 t (by
        show Steps p.tables e below (T65.setTop (mkF m 149 #[.val (.int u0), .val (.int u1), .val (.long w2), .second, .val (.int ((u0 &&& (255 : Int32)).toUInt32.toUInt16.toUInt32.toInt32)), .val (.int ((((u0.toUInt32 >>> ((8 : Int32) &&& 31).toUInt32).toInt32) &&& (255 : Int32)).toUInt32.toUInt16.toUInt32.toInt32)), .val (.int (u1 &&& (3 : Int32))), .val (.ref b43), .val (.ref b46), .val (.int (1 : Int32)), .val (.double (FP.l2d w2)), .second] [(.ref b46)])) _
        refine st67.trans ?_
        show Steps p.tables e below (T67.setTop (mkF m 152 #[.val (.int u0), .val (.int u1), .val (.long w2), .second, .val (.int ((u0 &&& (255 : Int32)).toUInt32.toUInt16.toUInt32.toInt32)), .val (.int ((((u0.toUInt32 >>> ((8 : Int32) &&& 31).toUInt32).toInt32) &&& (255 : Int32)).toUInt32.toUInt16.toUInt32.toInt32)), .val (.int (u1 &&& (3 : Int32))), .val (.ref b43), .val (.ref b46), .val (.int (1 : Int32)), .val (.double (FP.l2d w2)), .second] [(.double (FP.l2d w2))])) _
        refine XS.dload X67.here hx rfl (hb hby at_152) rfl ?_
        show Steps p.tables e below (T67.setTop (mkF m 154 #[.val (.int u0), .val (.int u1), .val (.long w2), .second, .val (.int ((u0 &&& (255 : Int32)).toUInt32.toUInt16.toUInt32.toInt32)), .val (.int ((((u0.toUInt32 >>> ((8 : Int32) &&& 31).toUInt32).toInt32) &&& (255 : Int32)).toUInt32.toUInt16.toUInt32.toInt32)), .val (.int (u1 &&& (3 : Int32))), .val (.ref b43), .val (.ref b46), .val (.int (1 : Int32)), .val (.double (FP.l2d w2)), .second] [(.double (FP.l2d w2)), (.double (FP.l2d w2))])) _
        refine XS.dcmpS X67.here hx rfl (hb hby at_154) rfl rfl ?_
        show Steps p.tables e below (T67.setTop (mkF m 155 #[.val (.int u0), .val (.int u1), .val (.long w2), .second, .val (.int ((u0 &&& (255 : Int32)).toUInt32.toUInt16.toUInt32.toInt32)), .val (.int ((((u0.toUInt32 >>> ((8 : Int32) &&& 31).toUInt32).toInt32) &&& (255 : Int32)).toUInt32.toUInt16.toUInt32.toInt32)), .val (.int (u1 &&& (3 : Int32))), .val (.ref b43), .val (.ref b46), .val (.int (1 : Int32)), .val (.double (FP.l2d w2)), .second] [(.int (cmpValue (FP.dcmp (FP.l2d w2) (FP.l2d w2)) .l))])) _
        refine XS.ifNo X67.here hx rfl (hb hby at_155) rfl ((if0 _ _).trans (teq (dcmpV_self (Jvm.Free.Fl.l2d_fin _).noNaN .l)).2) ?_
        show Steps p.tables e below (T67.setTop (mkF m 158 #[.val (.int u0), .val (.int u1), .val (.long w2), .second, .val (.int ((u0 &&& (255 : Int32)).toUInt32.toUInt16.toUInt32.toInt32)), .val (.int ((((u0.toUInt32 >>> ((8 : Int32) &&& 31).toUInt32).toInt32) &&& (255 : Int32)).toUInt32.toUInt16.toUInt32.toInt32)), .val (.int (u1 &&& (3 : Int32))), .val (.ref b43), .val (.ref b46), .val (.int (1 : Int32)), .val (.double (FP.l2d w2)), .second] [])) _
        refine XS.iconst X67.here hx rfl (hb hby at_158) ?_
        show Steps p.tables e below (T67.setTop (mkF m 159 #[.val (.int u0), .val (.int u1), .val (.long w2), .second, .val (.int ((u0 &&& (255 : Int32)).toUInt32.toUInt16.toUInt32.toInt32)), .val (.int ((((u0.toUInt32 >>> ((8 : Int32) &&& 31).toUInt32).toInt32) &&& (255 : Int32)).toUInt32.toUInt16.toUInt32.toInt32)), .val (.int (u1 &&& (3 : Int32))), .val (.ref b43), .val (.ref b46), .val (.int (1 : Int32)), .val (.double (FP.l2d w2)), .second] [(.int (1 : Int32))])) _
        refine XS.goto X67.here hx rfl (pc0 := 159) (pc' := 163) rfl (hb hby at_159) (by decide) (by decide) ?_
        show Steps p.tables e below (T67.setTop (mkF m 163 #[.val (.int u0), .val (.int u1), .val (.long w2), .second, .val (.int ((u0 &&& (255 : Int32)).toUInt32.toUInt16.toUInt32.toInt32)), .val (.int ((((u0.toUInt32 >>> ((8 : Int32) &&& 31).toUInt32).toInt32) &&& (255 : Int32)).toUInt32.toUInt16.toUInt32.toInt32)), .val (.int (u1 &&& (3 : Int32))), .val (.ref b43), .val (.ref b46), .val (.int (1 : Int32)), .val (.double (FP.l2d w2)), .second] [(.int (1 : Int32))])) _
        refine XS.istore X67.here hx rfl (hb hby at_163) rfl (l' := #[.val (.int u0), .val (.int u1), .val (.long w2), .second, .val (.int ((u0 &&& (255 : Int32)).toUInt32.toUInt16.toUInt32.toInt32)), .val (.int ((((u0.toUInt32 >>> ((8 : Int32) &&& 31).toUInt32).toInt32) &&& (255 : Int32)).toUInt32.toUInt16.toUInt32.toInt32)), .val (.int (u1 &&& (3 : Int32))), .val (.ref b43), .val (.ref b46), .val (.int (1 : Int32)), .val (.double (FP.l2d w2)), .second]) rfl ?_
        show Steps p.tables e below (T67.setTop (mkF m 165 #[.val (.int u0), .val (.int u1), .val (.long w2), .second, .val (.int ((u0 &&& (255 : Int32)).toUInt32.toUInt16.toUInt32.toInt32)), .val (.int ((((u0.toUInt32 >>> ((8 : Int32) &&& 31).toUInt32).toInt32) &&& (255 : Int32)).toUInt32.toUInt16.toUInt32.toInt32)), .val (.int (u1 &&& (3 : Int32))), .val (.ref b43), .val (.ref b46), .val (.int (1 : Int32)), .val (.double (FP.l2d w2)), .second] [])) _
        refine XS.lloadN X67.here hx rfl (hb hby at_165) rfl ?_
        show Steps p.tables e below (T67.setTop (mkF m 166 #[.val (.int u0), .val (.int u1), .val (.long w2), .second, .val (.int ((u0 &&& (255 : Int32)).toUInt32.toUInt16.toUInt32.toInt32)), .val (.int ((((u0.toUInt32 >>> ((8 : Int32) &&& 31).toUInt32).toInt32) &&& (255 : Int32)).toUInt32.toUInt16.toUInt32.toInt32)), .val (.int (u1 &&& (3 : Int32))), .val (.ref b43), .val (.ref b46), .val (.int (1 : Int32)), .val (.double (FP.l2d w2)), .second] [(.long w2)])) _
        refine X67.ldc2Long hx hown (mvT hZ (hw _ (List.mem_of_getElem? (i := 76) rfl))) (g := (mkF m 166 #[.val (.int u0), .val (.int u1), .val (.long w2), .second, .val (.int ((u0 &&& (255 : Int32)).toUInt32.toUInt16.toUInt32.toInt32)), .val (.int ((((u0.toUInt32 >>> ((8 : Int32) &&& 31).toUInt32).toInt32) &&& (255 : Int32)).toUInt32.toUInt16.toUInt32.toInt32)), .val (.int (u1 &&& (3 : Int32))), .val (.ref b43), .val (.ref b46), .val (.int (1 : Int32)), .val (.double (FP.l2d w2)), .second] [(.long w2)])) rfl (hb hby at_166) _ ?_
        show Steps p.tables e below (T67.setTop (mkF m 169 #[.val (.int u0), .val (.int u1), .val (.long w2), .second, .val (.int ((u0 &&& (255 : Int32)).toUInt32.toUInt16.toUInt32.toInt32)), .val (.int ((((u0.toUInt32 >>> ((8 : Int32) &&& 31).toUInt32).toInt32) &&& (255 : Int32)).toUInt32.toUInt16.toUInt32.toInt32)), .val (.int (u1 &&& (3 : Int32))), .val (.ref b43), .val (.ref b46), .val (.int (1 : Int32)), .val (.double (FP.l2d w2)), .second] [(.long (-9007199254740992 : Int64)), (.long w2)])) _
        refine XS.lcmp X67.here hx rfl (hb hby at_169) rfl ?_
        exact k)
      by_cases hc170 : (lcmpW w2 (-9007199254740992 : Int64)) < (0 : Int32)
      · -- pc 170: (lcmpW w2 (-9007199254740992 : Int64)) < (0 : Int32)
        obtain ⟨fs, hr, hrun, hended, hRE⟩ := X67.leaveW (s := s) (vm₁ := s.vm) ((State.WarmedH.refl s).since 0) (by rw [e67]; exact (Nat.zero_le _)) (v := (some (.int (1 : Int32)))) (fun h => by rw [Bd.returns] at h; cases h)
        refine ⟨_, _, pre68 _ ?_, hrun, hended, _, _, rfl, ?_, hRE.1, hRE.2.1, hRE.2.2.1, hRE.2.2.2.mono (by decide) (by decide)⟩
        · show Steps p.tables e below (T67.setTop (mkF m 170 #[.val (.int u0), .val (.int u1), .val (.long w2), .second, .val (.int ((u0 &&& (255 : Int32)).toUInt32.toUInt16.toUInt32.toInt32)), .val (.int ((((u0.toUInt32 >>> ((8 : Int32) &&& 31).toUInt32).toInt32) &&& (255 : Int32)).toUInt32.toUInt16.toUInt32.toInt32)), .val (.int (u1 &&& (3 : Int32))), .val (.ref b43), .val (.ref b46), .val (.int (1 : Int32)), .val (.double (FP.l2d w2)), .second] [(.int (lcmpW w2 (-9007199254740992 : Int64)))])) _
          refine XS.ifYes X67.here hx rfl (pc0 := 170) (pc' := 204) rfl (hb hby at_170) rfl ((if0 _ _).trans (tlt hc170).1) (by decide) (by decide) ?_
          show Steps p.tables e below (T67.setTop (mkF m 204 #[.val (.int u0), .val (.int u1), .val (.long w2), .second, .val (.int ((u0 &&& (255 : Int32)).toUInt32.toUInt16.toUInt32.toInt32)), .val (.int ((((u0.toUInt32 >>> ((8 : Int32) &&& 31).toUInt32).toInt32) &&& (255 : Int32)).toUInt32.toUInt16.toUInt32.toInt32)), .val (.int (u1 &&& (3 : Int32))), .val (.ref b43), .val (.ref b46), .val (.int (1 : Int32)), .val (.double (FP.l2d w2)), .second] [])) _
          refine XS.iload X67.here hx rfl (hb hby at_204) rfl ?_
          show Steps p.tables e below (T67.setTop (mkF m 206 #[.val (.int u0), .val (.int u1), .val (.long w2), .second, .val (.int ((u0 &&& (255 : Int32)).toUInt32.toUInt16.toUInt32.toInt32)), .val (.int ((((u0.toUInt32 >>> ((8 : Int32) &&& 31).toUInt32).toInt32) &&& (255 : Int32)).toUInt32.toUInt16.toUInt32.toInt32)), .val (.int (u1 &&& (3 : Int32))), .val (.ref b43), .val (.ref b46), .val (.int (1 : Int32)), .val (.double (FP.l2d w2)), .second] [(.int (1 : Int32))])) _
          exact retN X67 hx (t := .boolean) Bd.returns (by simp) (hb hby at_206) hr
        · show QL n0 _ T67.heap _
          rw [e67]
          exact ⟨rfl, N67⟩
      · -- pc 170: not (lcmpW w2 (-9007199254740992 : Int64)) < (0 : Int32)
        have pre69 : ∀ t, Steps p.tables e below (T67.setTop (mkF m 178 #[.val (.int u0), .val (.int u1), .val (.long w2), .second, .val (.int ((u0 &&& (255 : Int32)).toUInt32.toUInt16.toUInt32.toInt32)), .val (.int ((((u0.toUInt32 >>> ((8 : Int32) &&& 31).toUInt32).toInt32) &&& (255 : Int32)).toUInt32.toUInt16.toUInt32.toInt32)), .val (.int (u1 &&& (3 : Int32))), .val (.ref b43), .val (.ref b46), .val (.int (1 : Int32)), .val (.double (FP.l2d w2)), .second] [(.int (lcmpW w2 (9007199254740992 : Int64)))])) t → Steps p.tables e below (s₁.setTop (entryFrame m #[(.int u0), (.int u1), (.long w2)] maxLocals)) t := fun t k => pre68 t (by
          show Steps p.tables e below (T67.setTop (mkF m 170 #[.val (.int u0), .val (.int u1), .val (.long w2), .second, .val (.int ((u0 &&& (255 : Int32)).toUInt32.toUInt16.toUInt32.toInt32)), .val (.int ((((u0.toUInt32 >>> ((8 : Int32) &&& 31).toUInt32).toInt32) &&& (255 : Int32)).toUInt32.toUInt16.toUInt32.toInt32)), .val (.int (u1 &&& (3 : Int32))), .val (.ref b43), .val (.ref b46), .val (.int (1 : Int32)), .val (.double (FP.l2d w2)), .second] [(.int (lcmpW w2 (-9007199254740992 : Int64)))])) _
          refine XS.ifNo X67.here hx rfl (hb hby at_170) rfl ((if0 _ _).trans (flt hc170).1) ?_
          show Steps p.tables e below (T67.setTop (mkF m 173 #[.val (.int u0), .val (.int u1), .val (.long w2), .second, .val (.int ((u0 &&& (255 : Int32)).toUInt32.toUInt16.toUInt32.toInt32)), .val (.int ((((u0.toUInt32 >>> ((8 : Int32) &&& 31).toUInt32).toInt32) &&& (255 : Int32)).toUInt32.toUInt16.toUInt32.toInt32)), .val (.int (u1 &&& (3 : Int32))), .val (.ref b43), .val (.ref b46), .val (.int (1 : Int32)), .val (.double (FP.l2d w2)), .second] [])) _
          refine XS.lloadN X67.here hx rfl (hb hby at_173) rfl ?_
          show Steps p.tables e below (T67.setTop (mkF m 174 #[.val (.int u0), .val (.int u1), .val (.long w2), .second, .val (.int ((u0 &&& (255 : Int32)).toUInt32.toUInt16.toUInt32.toInt32)), .val (.int ((((u0.toUInt32 >>> ((8 : Int32) &&& 31).toUInt32).toInt32) &&& (255 : Int32)).toUInt32.toUInt16.toUInt32.toInt32)), .val (.int (u1 &&& (3 : Int32))), .val (.ref b43), .val (.ref b46), .val (.int (1 : Int32)), .val (.double (FP.l2d w2)), .second] [(.long w2)])) _
          refine X67.ldc2Long hx hown (mvT hZ (hw _ (List.mem_of_getElem? (i := 77) rfl))) (g := (mkF m 174 #[.val (.int u0), .val (.int u1), .val (.long w2), .second, .val (.int ((u0 &&& (255 : Int32)).toUInt32.toUInt16.toUInt32.toInt32)), .val (.int ((((u0.toUInt32 >>> ((8 : Int32) &&& 31).toUInt32).toInt32) &&& (255 : Int32)).toUInt32.toUInt16.toUInt32.toInt32)), .val (.int (u1 &&& (3 : Int32))), .val (.ref b43), .val (.ref b46), .val (.int (1 : Int32)), .val (.double (FP.l2d w2)), .second] [(.long w2)])) rfl (hb hby at_174) _ ?_
          show Steps p.tables e below (T67.setTop (mkF m 177 #[.val (.int u0), .val (.int u1), .val (.long w2), .second, .val (.int ((u0 &&& (255 : Int32)).toUInt32.toUInt16.toUInt32.toInt32)), .val (.int ((((u0.toUInt32 >>> ((8 : Int32) &&& 31).toUInt32).toInt32) &&& (255 : Int32)).toUInt32.toUInt16.toUInt32.toInt32)), .val (.int (u1 &&& (3 : Int32))), .val (.ref b43), .val (.ref b46), .val (.int (1 : Int32)), .val (.double (FP.l2d w2)), .second] [(.long (9007199254740992 : Int64)), (.long w2)])) _
          refine XS.lcmp X67.here hx rfl (hb hby at_177) rfl ?_
          exact k)
        by_cases hc178 : (0 : Int32) < (lcmpW w2 (9007199254740992 : Int64))
        · -- pc 178: (0 : Int32) < (lcmpW w2 (9007199254740992 : Int64))
          obtain ⟨fs, hr, hrun, hended, hRE⟩ := X67.leaveW (s := s) (vm₁ := s.vm) ((State.WarmedH.refl s).since 0) (by rw [e67]; exact (Nat.zero_le _)) (v := (some (.int (1 : Int32)))) (fun h => by rw [Bd.returns] at h; cases h)
          refine ⟨_, _, pre69 _ ?_, hrun, hended, _, _, rfl, ?_, hRE.1, hRE.2.1, hRE.2.2.1, hRE.2.2.2.mono (by decide) (by decide)⟩
          · show Steps p.tables e below (T67.setTop (mkF m 178 #[.val (.int u0), .val (.int u1), .val (.long w2), .second, .val (.int ((u0 &&& (255 : Int32)).toUInt32.toUInt16.toUInt32.toInt32)), .val (.int ((((u0.toUInt32 >>> ((8 : Int32) &&& 31).toUInt32).toInt32) &&& (255 : Int32)).toUInt32.toUInt16.toUInt32.toInt32)), .val (.int (u1 &&& (3 : Int32))), .val (.ref b43), .val (.ref b46), .val (.int (1 : Int32)), .val (.double (FP.l2d w2)), .second] [(.int (lcmpW w2 (9007199254740992 : Int64)))])) _
            refine XS.ifYes X67.here hx rfl (pc0 := 178) (pc' := 204) rfl (hb hby at_178) rfl ((if0 _ _).trans (tlt hc178).2.2.1) (by decide) (by decide) ?_
            show Steps p.tables e below (T67.setTop (mkF m 204 #[.val (.int u0), .val (.int u1), .val (.long w2), .second, .val (.int ((u0 &&& (255 : Int32)).toUInt32.toUInt16.toUInt32.toInt32)), .val (.int ((((u0.toUInt32 >>> ((8 : Int32) &&& 31).toUInt32).toInt32) &&& (255 : Int32)).toUInt32.toUInt16.toUInt32.toInt32)), .val (.int (u1 &&& (3 : Int32))), .val (.ref b43), .val (.ref b46), .val (.int (1 : Int32)), .val (.double (FP.l2d w2)), .second] [])) _
            refine XS.iload X67.here hx rfl (hb hby at_204) rfl ?_
            show Steps p.tables e below (T67.setTop (mkF m 206 #[.val (.int u0), .val (.int u1), .val (.long w2), .second, .val (.int ((u0 &&& (255 : Int32)).toUInt32.toUInt16.toUInt32.toInt32)), .val (.int ((((u0.toUInt32 >>> ((8 : Int32) &&& 31).toUInt32).toInt32) &&& (255 : Int32)).toUInt32.toUInt16.toUInt32.toInt32)), .val (.int (u1 &&& (3 : Int32))), .val (.ref b43), .val (.ref b46), .val (.int (1 : Int32)), .val (.double (FP.l2d w2)), .second] [(.int (1 : Int32))])) _
            exact retN X67 hx (t := .boolean) Bd.returns (by simp) (hb hby at_206) hr
          · show QL n0 _ T67.heap _
            rw [e67]
            exact ⟨rfl, N67⟩
        · -- pc 178: not (0 : Int32) < (lcmpW w2 (9007199254740992 : Int64))
          have pre70 : ∀ t, Steps p.tables e below (T67.setTop (mkF m 188 #[.val (.int u0), .val (.int u1), .val (.long w2), .second, .val (.int ((u0 &&& (255 : Int32)).toUInt32.toUInt16.toUInt32.toInt32)), .val (.int ((((u0.toUInt32 >>> ((8 : Int32) &&& 31).toUInt32).toInt32) &&& (255 : Int32)).toUInt32.toUInt16.toUInt32.toInt32)), .val (.int (u1 &&& (3 : Int32))), .val (.ref b43), .val (.ref b46), .val (.int (1 : Int32)), .val (.double (FP.l2d w2)), .second] [(.ref b46)])) t → Steps p.tables e below (s₁.setTop (entryFrame m #[(.int u0), (.int u1), (.long w2)] maxLocals)) t := fun t k => pre69 t (by
            show Steps p.tables e below (T67.setTop (mkF m 178 #[.val (.int u0), .val (.int u1), .val (.long w2), .second, .val (.int ((u0 &&& (255 : Int32)).toUInt32.toUInt16.toUInt32.toInt32)), .val (.int ((((u0.toUInt32 >>> ((8 : Int32) &&& 31).toUInt32).toInt32) &&& (255 : Int32)).toUInt32.toUInt16.toUInt32.toInt32)), .val (.int (u1 &&& (3 : Int32))), .val (.ref b43), .val (.ref b46), .val (.int (1 : Int32)), .val (.double (FP.l2d w2)), .second] [(.int (lcmpW w2 (9007199254740992 : Int64)))])) _
            refine XS.ifNo X67.here hx rfl (hb hby at_178) rfl ((if0 _ _).trans (flt hc178).2.2.1) ?_
            show Steps p.tables e below (T67.setTop (mkF m 181 #[.val (.int u0), .val (.int u1), .val (.long w2), .second, .val (.int ((u0 &&& (255 : Int32)).toUInt32.toUInt16.toUInt32.toInt32)), .val (.int ((((u0.toUInt32 >>> ((8 : Int32) &&& 31).toUInt32).toInt32) &&& (255 : Int32)).toUInt32.toUInt16.toUInt32.toInt32)), .val (.int (u1 &&& (3 : Int32))), .val (.ref b43), .val (.ref b46), .val (.int (1 : Int32)), .val (.double (FP.l2d w2)), .second] [])) _
            refine XS.iload X67.here hx rfl (hb hby at_181) rfl ?_
            show Steps p.tables e below (T67.setTop (mkF m 183 #[.val (.int u0), .val (.int u1), .val (.long w2), .second, .val (.int ((u0 &&& (255 : Int32)).toUInt32.toUInt16.toUInt32.toInt32)), .val (.int ((((u0.toUInt32 >>> ((8 : Int32) &&& 31).toUInt32).toInt32) &&& (255 : Int32)).toUInt32.toUInt16.toUInt32.toInt32)), .val (.int (u1 &&& (3 : Int32))), .val (.ref b43), .val (.ref b46), .val (.int (1 : Int32)), .val (.double (FP.l2d w2)), .second] [(.int (1 : Int32))])) _
            refine XS.ifNo X67.here hx rfl (hb hby at_183) rfl ((if0 _ _).trans (feq (by decide : ¬ ((1 : Int32) = (0 : Int32)))).1) ?_
            show Steps p.tables e below (T67.setTop (mkF m 186 #[.val (.int u0), .val (.int u1), .val (.long w2), .second, .val (.int ((u0 &&& (255 : Int32)).toUInt32.toUInt16.toUInt32.toInt32)), .val (.int ((((u0.toUInt32 >>> ((8 : Int32) &&& 31).toUInt32).toInt32) &&& (255 : Int32)).toUInt32.toUInt16.toUInt32.toInt32)), .val (.int (u1 &&& (3 : Int32))), .val (.ref b43), .val (.ref b46), .val (.int (1 : Int32)), .val (.double (FP.l2d w2)), .second] [])) _
            refine XS.aload X67.here hx rfl (hb hby at_186) rfl rfl ?_
            exact k)
          obtain ⟨cq71, kq71, q71a, q71b, q71c⟩ := isOf hZ e67 E_r46
          obtain ⟨_, _, ⟨T71, L71, k71, n71⟩, -, X71, ⟨Lc71, hQ71, l71, y71, z71⟩, st71⟩ := X67.virtualBack hx (y := (⟨"com/example/scorpus/scorpus/engine/Explanation$Figure", "value", "()D"⟩ : MethodName)) (z := (⟨"com/example/scorpus/scorpus/engine/Explanation$Figure", "value", "()D"⟩ : MethodName)) hown (mvT hZ (hw _ (List.mem_of_getElem? (i := 71) rfl))) (mvT hZ (hw _ (List.mem_of_getElem? (i := 72) rfl))) (notFace_of_selects (args := #[]) (mvT hZ (hw _ (List.mem_of_getElem? (i := 74) rfl)))) (mvT hZ (hw _ (List.mem_of_getElem? (i := 74) rfl))) (mvT hZ (hw _ (List.mem_of_getElem? (i := 73) rfl))) (by decide) (backOf (W := 0) (rm14 l Z a0 hw [] b46 (FP.l2d w2) T46.heap n0 (Nat.le_trans Z0 K46.1) F_value46) hZ (hw _ (List.mem_of_getElem? (i := 75) rfl)) (hw _ (List.mem_of_getElem? (i := 32) rfl)) (by decide) (by decide)) q71a q71c (g := (mkF m 188 #[.val (.int u0), .val (.int u1), .val (.long w2), .second, .val (.int ((u0 &&& (255 : Int32)).toUInt32.toUInt16.toUInt32.toInt32)), .val (.int ((((u0.toUInt32 >>> ((8 : Int32) &&& 31).toUInt32).toInt32) &&& (255 : Int32)).toUInt32.toUInt16.toUInt32.toInt32)), .val (.int (u1 &&& (3 : Int32))), .val (.ref b43), .val (.ref b46), .val (.int (1 : Int32)), .val (.double (FP.l2d w2)), .second] [(.ref b46)])) rfl (by rw [hml]; rfl) (Steps.refl _) (argsL := []) (rest := []) (lenOf pd_15 rfl) rfl (by show 2 * 0 + _ ≤ _; exact Nat.le_of_eq rfl) (hb hby at_188) (fun _ _ => ⟨rfl, e67, (by decide : 3 + 0 ≤ _), (by decide : 8 + 0 ≤ _)⟩)
          dsimp only [Pt.U, Pt.locs, Pt.cells, Pt.slots] at X71 l71 y71 z71 st71 hQ71
          subst l71 y71 z71
          obtain ⟨rfl, N71q, e71⟩ := hQ71
          have N71 := Fr.app N67 N71q
          obtain ⟨fs, hr, hrun, hended, hRE⟩ := X71.leaveW (s := s) (vm₁ := s.vm) ((State.WarmedH.refl s).since 0) (by rw [e71]; exact (Nat.zero_le _)) (v := (some (.int (1 : Int32)))) (fun h => by rw [Bd.returns] at h; cases h)
          refine ⟨_, _, pre70 _ ?_, hrun, hended, _, _, rfl, ?_, hRE.1, hRE.2.1, hRE.2.2.1, hRE.2.2.2.mono (by decide) (by decide)⟩
          · show Steps p.tables e below (T67.setTop (mkF m 188 #[.val (.int u0), .val (.int u1), .val (.long w2), .second, .val (.int ((u0 &&& (255 : Int32)).toUInt32.toUInt16.toUInt32.toInt32)), .val (.int ((((u0.toUInt32 >>> ((8 : Int32) &&& 31).toUInt32).toInt32) &&& (255 : Int32)).toUInt32.toUInt16.toUInt32.toInt32)), .val (.int (u1 &&& (3 : Int32))), .val (.ref b43), .val (.ref b46), .val (.int (1 : Int32)), .val (.double (FP.l2d w2)), .second] [(.ref b46)])) _
            refine st71.trans ?_
            show Steps p.tables e below (T71.setTop (mkF m 191 #[.val (.int u0), .val (.int u1), .val (.long w2), .second, .val (.int ((u0 &&& (255 : Int32)).toUInt32.toUInt16.toUInt32.toInt32)), .val (.int ((((u0.toUInt32 >>> ((8 : Int32) &&& 31).toUInt32).toInt32) &&& (255 : Int32)).toUInt32.toUInt16.toUInt32.toInt32)), .val (.int (u1 &&& (3 : Int32))), .val (.ref b43), .val (.ref b46), .val (.int (1 : Int32)), .val (.double (FP.l2d w2)), .second] [(.double (FP.l2d w2))])) _
            refine XS.d2lS X71.here hx rfl (hb hby at_191) rfl rfl ?_
            show Steps p.tables e below (T71.setTop (mkF m 192 #[.val (.int u0), .val (.int u1), .val (.long w2), .second, .val (.int ((u0 &&& (255 : Int32)).toUInt32.toUInt16.toUInt32.toInt32)), .val (.int ((((u0.toUInt32 >>> ((8 : Int32) &&& 31).toUInt32).toInt32) &&& (255 : Int32)).toUInt32.toUInt16.toUInt32.toInt32)), .val (.int (u1 &&& (3 : Int32))), .val (.ref b43), .val (.ref b46), .val (.int (1 : Int32)), .val (.double (FP.l2d w2)), .second] [(.long (FP.d2l (FP.l2d w2)))])) _
            refine XS.lloadN X71.here hx rfl (hb hby at_192) rfl ?_
            show Steps p.tables e below (T71.setTop (mkF m 193 #[.val (.int u0), .val (.int u1), .val (.long w2), .second, .val (.int ((u0 &&& (255 : Int32)).toUInt32.toUInt16.toUInt32.toInt32)), .val (.int ((((u0.toUInt32 >>> ((8 : Int32) &&& 31).toUInt32).toInt32) &&& (255 : Int32)).toUInt32.toUInt16.toUInt32.toInt32)), .val (.int (u1 &&& (3 : Int32))), .val (.ref b43), .val (.ref b46), .val (.int (1 : Int32)), .val (.double (FP.l2d w2)), .second] [(.long w2), (.long (FP.d2l (FP.l2d w2)))])) _
            refine XS.lcmp X71.here hx rfl (hb hby at_193) rfl ?_
            show Steps p.tables e below (T71.setTop (mkF m 194 #[.val (.int u0), .val (.int u1), .val (.long w2), .second, .val (.int ((u0 &&& (255 : Int32)).toUInt32.toUInt16.toUInt32.toInt32)), .val (.int ((((u0.toUInt32 >>> ((8 : Int32) &&& 31).toUInt32).toInt32) &&& (255 : Int32)).toUInt32.toUInt16.toUInt32.toInt32)), .val (.int (u1 &&& (3 : Int32))), .val (.ref b43), .val (.ref b46), .val (.int (1 : Int32)), .val (.double (FP.l2d w2)), .second] [(.int (lcmpW (FP.d2l (FP.l2d w2)) w2))])) _
            refine XS.ifNo X71.here hx rfl (hb hby at_194) rfl ((if0 _ _).trans (teq ((lw_eq _ _).mpr (own_d2l hc170 hc178))).2) ?_
            show Steps p.tables e below (T71.setTop (mkF m 197 #[.val (.int u0), .val (.int u1), .val (.long w2), .second, .val (.int ((u0 &&& (255 : Int32)).toUInt32.toUInt16.toUInt32.toInt32)), .val (.int ((((u0.toUInt32 >>> ((8 : Int32) &&& 31).toUInt32).toInt32) &&& (255 : Int32)).toUInt32.toUInt16.toUInt32.toInt32)), .val (.int (u1 &&& (3 : Int32))), .val (.ref b43), .val (.ref b46), .val (.int (1 : Int32)), .val (.double (FP.l2d w2)), .second] [])) _
            refine XS.iconst X71.here hx rfl (hb hby at_197) ?_
            show Steps p.tables e below (T71.setTop (mkF m 198 #[.val (.int u0), .val (.int u1), .val (.long w2), .second, .val (.int ((u0 &&& (255 : Int32)).toUInt32.toUInt16.toUInt32.toInt32)), .val (.int ((((u0.toUInt32 >>> ((8 : Int32) &&& 31).toUInt32).toInt32) &&& (255 : Int32)).toUInt32.toUInt16.toUInt32.toInt32)), .val (.int (u1 &&& (3 : Int32))), .val (.ref b43), .val (.ref b46), .val (.int (1 : Int32)), .val (.double (FP.l2d w2)), .second] [(.int (1 : Int32))])) _
            refine XS.goto X71.here hx rfl (pc0 := 198) (pc' := 202) rfl (hb hby at_198) (by decide) (by decide) ?_
            show Steps p.tables e below (T71.setTop (mkF m 202 #[.val (.int u0), .val (.int u1), .val (.long w2), .second, .val (.int ((u0 &&& (255 : Int32)).toUInt32.toUInt16.toUInt32.toInt32)), .val (.int ((((u0.toUInt32 >>> ((8 : Int32) &&& 31).toUInt32).toInt32) &&& (255 : Int32)).toUInt32.toUInt16.toUInt32.toInt32)), .val (.int (u1 &&& (3 : Int32))), .val (.ref b43), .val (.ref b46), .val (.int (1 : Int32)), .val (.double (FP.l2d w2)), .second] [(.int (1 : Int32))])) _
            refine XS.istore X71.here hx rfl (hb hby at_202) rfl (l' := #[.val (.int u0), .val (.int u1), .val (.long w2), .second, .val (.int ((u0 &&& (255 : Int32)).toUInt32.toUInt16.toUInt32.toInt32)), .val (.int ((((u0.toUInt32 >>> ((8 : Int32) &&& 31).toUInt32).toInt32) &&& (255 : Int32)).toUInt32.toUInt16.toUInt32.toInt32)), .val (.int (u1 &&& (3 : Int32))), .val (.ref b43), .val (.ref b46), .val (.int (1 : Int32)), .val (.double (FP.l2d w2)), .second]) rfl ?_
            show Steps p.tables e below (T71.setTop (mkF m 204 #[.val (.int u0), .val (.int u1), .val (.long w2), .second, .val (.int ((u0 &&& (255 : Int32)).toUInt32.toUInt16.toUInt32.toInt32)), .val (.int ((((u0.toUInt32 >>> ((8 : Int32) &&& 31).toUInt32).toInt32) &&& (255 : Int32)).toUInt32.toUInt16.toUInt32.toInt32)), .val (.int (u1 &&& (3 : Int32))), .val (.ref b43), .val (.ref b46), .val (.int (1 : Int32)), .val (.double (FP.l2d w2)), .second] [])) _
            refine XS.iload X71.here hx rfl (hb hby at_204) rfl ?_
            show Steps p.tables e below (T71.setTop (mkF m 206 #[.val (.int u0), .val (.int u1), .val (.long w2), .second, .val (.int ((u0 &&& (255 : Int32)).toUInt32.toUInt16.toUInt32.toInt32)), .val (.int ((((u0.toUInt32 >>> ((8 : Int32) &&& 31).toUInt32).toInt32) &&& (255 : Int32)).toUInt32.toUInt16.toUInt32.toInt32)), .val (.int (u1 &&& (3 : Int32))), .val (.ref b43), .val (.ref b46), .val (.int (1 : Int32)), .val (.double (FP.l2d w2)), .second] [(.int (1 : Int32))])) _
            exact retN X71 hx (t := .boolean) Bd.returns (by simp) (hb hby at_206) hr
          · show QL n0 _ T71.heap _
            rw [e71]
            exact ⟨rfl, N71⟩
    · -- pc 47: not (u1 &&& (3 : Int32)) = (1 : Int32)
      obtain ⟨T72, h72, X72, e72, E72, A72, D72, -, st72⟩ := newO X0 hx hZ hown (hw _ (List.mem_of_getElem? (i := 0) rfl)) (hw _ (List.mem_of_getElem? (i := 1) rfl)) (hw _ (List.mem_of_getElem? (i := 2) rfl)) e0 (g := (mkF m 60 #[.val (.int u0), .val (.int u1), .val (.long w2), .second, .val (.int ((u0 &&& (255 : Int32)).toUInt32.toUInt16.toUInt32.toInt32)), .val (.int ((((u0.toUInt32 >>> ((8 : Int32) &&& 31).toUInt32).toInt32) &&& (255 : Int32)).toUInt32.toUInt16.toUInt32.toInt32)), .val (.int (u1 &&& (3 : Int32))), .unset, .unset, .unset, .unset, .unset] [])) rfl (hb hby at_60) (by decide) (by decide)
      obtain ⟨b72, g72⟩ : ∃ z, z = h0.size := ⟨_, rfl⟩
      rw [← g72] at A72 D72 st72
      have g_b72 : n0 ≤ b72 := Nat.le_trans Z0 (Nat.le_of_eq g72.symm)
      have sz_b72 : h0.size ≤ b72 := Nat.le_trans K0.1 (Nat.le_of_eq g72.symm)
      have CH72 := CHv.ext E72 (hvm ▸ HZ : CHv Z own_EL s.vm h0)
      have O0_73 := O0.ext E72
      have K72 : Keep h0 h72 [] := K0.ext E72
      have F_coder_b72 : Fld Z h72 b72 "java/lang/String" "coder" "B" (.int (0 : Int32)) := D72 (Or.inr (hw _ (List.mem_of_getElem? (i := 27) rfl))) (ty := .byte) (by decide)
      have F_value_b72 : Fld Z h72 b72 "java/lang/String" "value" "[B" .null := D72 (Or.inr (hw _ (List.mem_of_getElem? (i := 29) rfl))) (ty := (.array .byte)) (by decide)
      obtain ⟨T74, h74, k74, X74, e74, E74, A74, st74⟩ := newP X72 hx hZ (hw _ (List.mem_of_getElem? (i := 3) rfl)) e72 (g := (mkF m 65 #[.val (.int u0), .val (.int u1), .val (.long w2), .second, .val (.int ((u0 &&& (255 : Int32)).toUInt32.toUInt16.toUInt32.toInt32)), .val (.int ((((u0.toUInt32 >>> ((8 : Int32) &&& 31).toUInt32).toInt32) &&& (255 : Int32)).toUInt32.toUInt16.toUInt32.toInt32)), .val (.int (u1 &&& (3 : Int32))), .unset, .unset, .unset, .unset, .unset] [(.int (2 : Int32)), (.ref b72), (.ref b72)])) rfl (hb hby at_65) rfl (by decide) (cap := 2) (by decide) (by decide) (by decide) (by decide)
      obtain ⟨b74, g74⟩ : ∃ z, z = h72.size := ⟨_, rfl⟩
      rw [← g74] at A74 st74
      have g_b74 : n0 ≤ b74 := Nat.le_trans (Nat.le_trans Z0 K72.1) (Nat.le_of_eq g74.symm)
      have sz_b74 : h0.size ≤ b74 := Nat.le_trans K72.1 (Nat.le_of_eq g74.symm)
      have ne_b72_b74 : b72 ≠ b74 := Nat.ne_of_lt (Nat.lt_of_lt_of_le A72.lt (Nat.le_of_eq g74.symm))
      have CH74 := CHv.ext E74 CH72
      have O0_75 := O0_73.ext E74
      have A72_76 := A72.ext E74
      have F_coder_b72_77 := F_coder_b72.ext E74
      have F_value_b72_78 := F_value_b72.ext E74
      have K74 : Keep h0 h74 [] := K72.ext E74
      have V_b74 : Arv Z h74 b74 k74 .char (2 : Int32) [(.int (0 : Int32)), (.int (0 : Int32))] (.int (0 : Int32)) := (Arv.new A74 (by decide)).pad (pad_rep [] (.int (0 : Int32)) 2)
      obtain ⟨c79, Ar79, q79, S79, N79n, H79, G79⟩ := V_b74
      have hin79 : ¬ ((0 : Int32) < 0 ∨ c79.slots.size ≤ ((0 : Int32)).toNatClampNeg) := inb_of S79 ⟨by decide, by decide⟩
      obtain ⟨T80, h80, X80, e80, W80, st80⟩ := stC X74 hx hZ e74 Ar79 (j := (0 : Int32)) hin79 (g := (mkF m 71 #[.val (.int u0), .val (.int u1), .val (.long w2), .second, .val (.int ((u0 &&& (255 : Int32)).toUInt32.toUInt16.toUInt32.toInt32)), .val (.int ((((u0.toUInt32 >>> ((8 : Int32) &&& 31).toUInt32).toInt32) &&& (255 : Int32)).toUInt32.toUInt16.toUInt32.toInt32)), .val (.int (u1 &&& (3 : Int32))), .unset, .unset, .unset, .unset, .unset] [(.int ((u0 &&& (255 : Int32)).toUInt32.toUInt16.toUInt32.toInt32)), (.int (0 : Int32)), (.ref b74), (.ref b74), (.ref b72), (.ref b72)])) rfl rfl (hb hby at_71)
      have V_b74_80 : Arv Z h80 b74 k74 .char (2 : Int32) [(.int (nar .char ((u0 &&& (255 : Int32)).toUInt32.toUInt16.toUInt32.toInt32))), (.int (0 : Int32))] (.int (0 : Int32)) := Arv.set Ar79 q79 S79 N79n H79 G79 (fits_nar_char _) W80 0 rfl (Nat.le_of_ble_eq_true rfl)
      have O0_81 := O0_75.wr W80 g_b74
      have A72_82 := A72_76.wr W80
      have F_coder_b72_83 := F_coder_b72_77.other W80 (Or.inl ne_b72_b74)
      have F_value_b72_84 := F_value_b72_78.other W80 (Or.inl ne_b72_b74)
      have K80 : Keep h0 h80 [] := K74.wr W80 (Or.inr sz_b74)
      have N80 := Fr.snoc X80 N0 g_b74
      obtain ⟨c85, Ar85, q85, S85, N85n, H85, G85⟩ := V_b74_80
      have hin85 : ¬ ((1 : Int32) < 0 ∨ c85.slots.size ≤ ((1 : Int32)).toNatClampNeg) := inb_of S85 ⟨by decide, by decide⟩
      obtain ⟨T86, h86, X86, e86, W86, st86⟩ := stC X80 hx hZ e80 Ar85 (j := (1 : Int32)) hin85 (g := (mkF m 76 #[.val (.int u0), .val (.int u1), .val (.long w2), .second, .val (.int ((u0 &&& (255 : Int32)).toUInt32.toUInt16.toUInt32.toInt32)), .val (.int ((((u0.toUInt32 >>> ((8 : Int32) &&& 31).toUInt32).toInt32) &&& (255 : Int32)).toUInt32.toUInt16.toUInt32.toInt32)), .val (.int (u1 &&& (3 : Int32))), .unset, .unset, .unset, .unset, .unset] [(.int ((((u0.toUInt32 >>> ((8 : Int32) &&& 31).toUInt32).toInt32) &&& (255 : Int32)).toUInt32.toUInt16.toUInt32.toInt32)), (.int (1 : Int32)), (.ref b74), (.ref b74), (.ref b72), (.ref b72)])) rfl rfl (hb hby at_76)
      have V_b74_86 : Arv Z h86 b74 k74 .char (2 : Int32) [(.int (nar .char ((u0 &&& (255 : Int32)).toUInt32.toUInt16.toUInt32.toInt32))), (.int (nar .char ((((u0.toUInt32 >>> ((8 : Int32) &&& 31).toUInt32).toInt32) &&& (255 : Int32)).toUInt32.toUInt16.toUInt32.toInt32)))] (.int (0 : Int32)) := Arv.set Ar85 q85 S85 N85n H85 G85 (fits_nar_char _) W86 1 rfl (Nat.le_of_ble_eq_true rfl)
      have O0_87 := O0_81.wr W86 g_b74
      have A72_88 := A72_82.wr W86
      have F_coder_b72_89 := F_coder_b72_83.other W86 (Or.inl ne_b72_b74)
      have F_value_b72_90 := F_value_b72_84.other W86 (Or.inl ne_b72_b74)
      have K86 : Keep h0 h86 [] := K80.wr W86 (Or.inr sz_b74)
      have N86 := Fr.snoc X86 N80 g_b74
      have SC91 := SZ_C.ext O0_87.2
      have pre92 : ∀ t, Steps p.tables e below (T86.setTop (mkF m 77 #[.val (.int u0), .val (.int u1), .val (.long w2), .second, .val (.int ((u0 &&& (255 : Int32)).toUInt32.toUInt16.toUInt32.toInt32)), .val (.int ((((u0.toUInt32 >>> ((8 : Int32) &&& 31).toUInt32).toInt32) &&& (255 : Int32)).toUInt32.toUInt16.toUInt32.toInt32)), .val (.int (u1 &&& (3 : Int32))), .unset, .unset, .unset, .unset, .unset] [(.ref b74), (.ref b72), (.ref b72)])) t → Steps p.tables e below (s₁.setTop (entryFrame m #[(.int u0), (.int u1), (.long w2)] maxLocals)) t := fun t k => pre40 t (by
        show Steps p.tables e below (s₁.setTop (mkF m 47 #[.val (.int u0), .val (.int u1), .val (.long w2), .second, .val (.int ((u0 &&& (255 : Int32)).toUInt32.toUInt16.toUInt32.toInt32)), .val (.int ((((u0.toUInt32 >>> ((8 : Int32) &&& 31).toUInt32).toInt32) &&& (255 : Int32)).toUInt32.toUInt16.toUInt32.toInt32)), .val (.int (u1 &&& (3 : Int32))), .unset, .unset, .unset, .unset, .unset] [(.int (1 : Int32)), (.int (u1 &&& (3 : Int32)))])) _
        refine XS.icmpYes X0.here hx rfl (pc0 := 47) (pc' := 60) rfl (hb hby at_47) rfl (feq hc47).2 (by decide) (by decide) ?_
        show Steps p.tables e below (s₁.setTop (mkF m 60 #[.val (.int u0), .val (.int u1), .val (.long w2), .second, .val (.int ((u0 &&& (255 : Int32)).toUInt32.toUInt16.toUInt32.toInt32)), .val (.int ((((u0.toUInt32 >>> ((8 : Int32) &&& 31).toUInt32).toInt32) &&& (255 : Int32)).toUInt32.toUInt16.toUInt32.toInt32)), .val (.int (u1 &&& (3 : Int32))), .unset, .unset, .unset, .unset, .unset] [])) _
        refine st72 _ ?_
        show Steps p.tables e below (T72.setTop (mkF m 63 #[.val (.int u0), .val (.int u1), .val (.long w2), .second, .val (.int ((u0 &&& (255 : Int32)).toUInt32.toUInt16.toUInt32.toInt32)), .val (.int ((((u0.toUInt32 >>> ((8 : Int32) &&& 31).toUInt32).toInt32) &&& (255 : Int32)).toUInt32.toUInt16.toUInt32.toInt32)), .val (.int (u1 &&& (3 : Int32))), .unset, .unset, .unset, .unset, .unset] [(.ref b72)])) _
        refine XS.dup X72.here hx rfl (hb hby at_63) rfl rfl ?_
        show Steps p.tables e below (T72.setTop (mkF m 64 #[.val (.int u0), .val (.int u1), .val (.long w2), .second, .val (.int ((u0 &&& (255 : Int32)).toUInt32.toUInt16.toUInt32.toInt32)), .val (.int ((((u0.toUInt32 >>> ((8 : Int32) &&& 31).toUInt32).toInt32) &&& (255 : Int32)).toUInt32.toUInt16.toUInt32.toInt32)), .val (.int (u1 &&& (3 : Int32))), .unset, .unset, .unset, .unset, .unset] [(.ref b72), (.ref b72)])) _
        refine XS.iconst X72.here hx rfl (hb hby at_64) ?_
        show Steps p.tables e below (T72.setTop (mkF m 65 #[.val (.int u0), .val (.int u1), .val (.long w2), .second, .val (.int ((u0 &&& (255 : Int32)).toUInt32.toUInt16.toUInt32.toInt32)), .val (.int ((((u0.toUInt32 >>> ((8 : Int32) &&& 31).toUInt32).toInt32) &&& (255 : Int32)).toUInt32.toUInt16.toUInt32.toInt32)), .val (.int (u1 &&& (3 : Int32))), .unset, .unset, .unset, .unset, .unset] [(.int (2 : Int32)), (.ref b72), (.ref b72)])) _
        refine st74 _ ?_
        show Steps p.tables e below (T74.setTop (mkF m 67 #[.val (.int u0), .val (.int u1), .val (.long w2), .second, .val (.int ((u0 &&& (255 : Int32)).toUInt32.toUInt16.toUInt32.toInt32)), .val (.int ((((u0.toUInt32 >>> ((8 : Int32) &&& 31).toUInt32).toInt32) &&& (255 : Int32)).toUInt32.toUInt16.toUInt32.toInt32)), .val (.int (u1 &&& (3 : Int32))), .unset, .unset, .unset, .unset, .unset] [(.ref b74), (.ref b72), (.ref b72)])) _
        refine XS.dup X74.here hx rfl (hb hby at_67) rfl rfl ?_
        show Steps p.tables e below (T74.setTop (mkF m 68 #[.val (.int u0), .val (.int u1), .val (.long w2), .second, .val (.int ((u0 &&& (255 : Int32)).toUInt32.toUInt16.toUInt32.toInt32)), .val (.int ((((u0.toUInt32 >>> ((8 : Int32) &&& 31).toUInt32).toInt32) &&& (255 : Int32)).toUInt32.toUInt16.toUInt32.toInt32)), .val (.int (u1 &&& (3 : Int32))), .unset, .unset, .unset, .unset, .unset] [(.ref b74), (.ref b74), (.ref b72), (.ref b72)])) _
        refine XS.iconst X74.here hx rfl (hb hby at_68) ?_
        show Steps p.tables e below (T74.setTop (mkF m 69 #[.val (.int u0), .val (.int u1), .val (.long w2), .second, .val (.int ((u0 &&& (255 : Int32)).toUInt32.toUInt16.toUInt32.toInt32)), .val (.int ((((u0.toUInt32 >>> ((8 : Int32) &&& 31).toUInt32).toInt32) &&& (255 : Int32)).toUInt32.toUInt16.toUInt32.toInt32)), .val (.int (u1 &&& (3 : Int32))), .unset, .unset, .unset, .unset, .unset] [(.int (0 : Int32)), (.ref b74), (.ref b74), (.ref b72), (.ref b72)])) _
        refine XS.iload X74.here hx rfl (hb hby at_69) rfl ?_
        show Steps p.tables e below (T74.setTop (mkF m 71 #[.val (.int u0), .val (.int u1), .val (.long w2), .second, .val (.int ((u0 &&& (255 : Int32)).toUInt32.toUInt16.toUInt32.toInt32)), .val (.int ((((u0.toUInt32 >>> ((8 : Int32) &&& 31).toUInt32).toInt32) &&& (255 : Int32)).toUInt32.toUInt16.toUInt32.toInt32)), .val (.int (u1 &&& (3 : Int32))), .unset, .unset, .unset, .unset, .unset] [(.int ((u0 &&& (255 : Int32)).toUInt32.toUInt16.toUInt32.toInt32)), (.int (0 : Int32)), (.ref b74), (.ref b74), (.ref b72), (.ref b72)])) _
        refine st80 _ ?_
        show Steps p.tables e below (T80.setTop (mkF m 72 #[.val (.int u0), .val (.int u1), .val (.long w2), .second, .val (.int ((u0 &&& (255 : Int32)).toUInt32.toUInt16.toUInt32.toInt32)), .val (.int ((((u0.toUInt32 >>> ((8 : Int32) &&& 31).toUInt32).toInt32) &&& (255 : Int32)).toUInt32.toUInt16.toUInt32.toInt32)), .val (.int (u1 &&& (3 : Int32))), .unset, .unset, .unset, .unset, .unset] [(.ref b74), (.ref b72), (.ref b72)])) _
        refine XS.dup X80.here hx rfl (hb hby at_72) rfl rfl ?_
        show Steps p.tables e below (T80.setTop (mkF m 73 #[.val (.int u0), .val (.int u1), .val (.long w2), .second, .val (.int ((u0 &&& (255 : Int32)).toUInt32.toUInt16.toUInt32.toInt32)), .val (.int ((((u0.toUInt32 >>> ((8 : Int32) &&& 31).toUInt32).toInt32) &&& (255 : Int32)).toUInt32.toUInt16.toUInt32.toInt32)), .val (.int (u1 &&& (3 : Int32))), .unset, .unset, .unset, .unset, .unset] [(.ref b74), (.ref b74), (.ref b72), (.ref b72)])) _
        refine XS.iconst X80.here hx rfl (hb hby at_73) ?_
        show Steps p.tables e below (T80.setTop (mkF m 74 #[.val (.int u0), .val (.int u1), .val (.long w2), .second, .val (.int ((u0 &&& (255 : Int32)).toUInt32.toUInt16.toUInt32.toInt32)), .val (.int ((((u0.toUInt32 >>> ((8 : Int32) &&& 31).toUInt32).toInt32) &&& (255 : Int32)).toUInt32.toUInt16.toUInt32.toInt32)), .val (.int (u1 &&& (3 : Int32))), .unset, .unset, .unset, .unset, .unset] [(.int (1 : Int32)), (.ref b74), (.ref b74), (.ref b72), (.ref b72)])) _
        refine XS.iload X80.here hx rfl (hb hby at_74) rfl ?_
        show Steps p.tables e below (T80.setTop (mkF m 76 #[.val (.int u0), .val (.int u1), .val (.long w2), .second, .val (.int ((u0 &&& (255 : Int32)).toUInt32.toUInt16.toUInt32.toInt32)), .val (.int ((((u0.toUInt32 >>> ((8 : Int32) &&& 31).toUInt32).toInt32) &&& (255 : Int32)).toUInt32.toUInt16.toUInt32.toInt32)), .val (.int (u1 &&& (3 : Int32))), .unset, .unset, .unset, .unset, .unset] [(.int ((((u0.toUInt32 >>> ((8 : Int32) &&& 31).toUInt32).toInt32) &&& (255 : Int32)).toUInt32.toUInt16.toUInt32.toInt32)), (.int (1 : Int32)), (.ref b74), (.ref b74), (.ref b72), (.ref b72)])) _
        refine st86 _ ?_
        exact k)
      obtain ⟨_, _, ⟨T93, L93, k93, n93⟩, -, X93, ⟨Lc93, hQ93, l93, y93, z93⟩, st93⟩ := X86.specialBack hx (y := (⟨"java/lang/String", "<init>", "([C)V"⟩ : MethodName)) rfl hown (mvT hZ (hw _ (List.mem_of_getElem? (i := 4) rfl))) (mvT hZ (hw _ (List.mem_of_getElem? (i := 5) rfl))) (mvT hZ (hw _ (List.mem_of_getElem? (i := 6) rfl))) (by decide) (backOf (W := 1) (rm1 l Z a0 hw [] b72 b74 k74 (nar .char ((u0 &&& (255 : Int32)).toUInt32.toUInt16.toUInt32.toInt32)) (nar .char ((((u0.toUInt32 >>> ((8 : Int32) &&& 31).toUInt32).toInt32) &&& (255 : Int32)).toUInt32.toUInt16.toUInt32.toInt32)) cs h86 n0 (Nat.le_trans Z0 K86.1) A72_88 F_value_b72_90 F_coder_b72_89 g_b72 V_b74_86 (Ne.symm ne_b72_b74) SC91 hcs (own_c _) (own_c _)) hZ (hw _ (List.mem_of_getElem? (i := 6) rfl)) (hw _ (List.mem_of_getElem? (i := 2) rfl)) (by decide) (by decide)) (g := (mkF m 77 #[.val (.int u0), .val (.int u1), .val (.long w2), .second, .val (.int ((u0 &&& (255 : Int32)).toUInt32.toUInt16.toUInt32.toInt32)), .val (.int ((((u0.toUInt32 >>> ((8 : Int32) &&& 31).toUInt32).toInt32) &&& (255 : Int32)).toUInt32.toUInt16.toUInt32.toInt32)), .val (.int (u1 &&& (3 : Int32))), .unset, .unset, .unset, .unset, .unset] [(.ref b74), (.ref b72), (.ref b72)])) rfl (by rw [hml]; rfl) (Steps.refl _) (a := b72) (argsL := [(.ref b74)]) (rest := [(.ref b72)]) (lenOf pd_9 rfl) rfl (by show 2 * 0 + _ ≤ _; exact Nat.le_of_eq rfl) (hb hby at_77) (fun _ _ => ⟨rfl, e86, (by decide : 2 + 1 ≤ _), (by decide : 6 + 2 ≤ _)⟩)
      dsimp only [Pt.U, Pt.locs, Pt.cells, Pt.slots] at X93 l93 y93 z93 st93 hQ93
      subst l93 y93 z93
      obtain ⟨rb93, kb93, nb93, vs93, cd93, rfl, N93q, K93q, E_r93, F_value93, F_coder93, V_b93⟩ := hQ93
      have N93 := Fr.app N86 N93q
      have K93 : Keep h0 T93.heap [] := K86.trans K93q (allS (Or.inr sz_b72) all0)
      have O0_94 := O0_87.keep K93q ((allS g_b72 all0))
      have V_b74_95 := V_b74_86.keep K93q (ninS (Ne.symm ne_b72_b74) nin0)
      have pre96 : ∀ t, Steps p.tables e below (T93.setTop (mkF m 85 #[.val (.int u0), .val (.int u1), .val (.long w2), .second, .val (.int ((u0 &&& (255 : Int32)).toUInt32.toUInt16.toUInt32.toInt32)), .val (.int ((((u0.toUInt32 >>> ((8 : Int32) &&& 31).toUInt32).toInt32) &&& (255 : Int32)).toUInt32.toUInt16.toUInt32.toInt32)), .val (.int (u1 &&& (3 : Int32))), .val (.ref b72), .unset, .unset, .unset, .unset] [(.long w2), (.ref b72)])) t → Steps p.tables e below (s₁.setTop (entryFrame m #[(.int u0), (.int u1), (.long w2)] maxLocals)) t := fun t k => pre92 t (by
        show Steps p.tables e below (T86.setTop (mkF m 77 #[.val (.int u0), .val (.int u1), .val (.long w2), .second, .val (.int ((u0 &&& (255 : Int32)).toUInt32.toUInt16.toUInt32.toInt32)), .val (.int ((((u0.toUInt32 >>> ((8 : Int32) &&& 31).toUInt32).toInt32) &&& (255 : Int32)).toUInt32.toUInt16.toUInt32.toInt32)), .val (.int (u1 &&& (3 : Int32))), .unset, .unset, .unset, .unset, .unset] [(.ref b74), (.ref b72), (.ref b72)])) _
        refine st93.trans ?_
        show Steps p.tables e below (T93.setTop (mkF m 80 #[.val (.int u0), .val (.int u1), .val (.long w2), .second, .val (.int ((u0 &&& (255 : Int32)).toUInt32.toUInt16.toUInt32.toInt32)), .val (.int ((((u0.toUInt32 >>> ((8 : Int32) &&& 31).toUInt32).toInt32) &&& (255 : Int32)).toUInt32.toUInt16.toUInt32.toInt32)), .val (.int (u1 &&& (3 : Int32))), .unset, .unset, .unset, .unset, .unset] [(.ref b72)])) _
        refine XS.astore X93.here hx rfl (hb hby at_80) rfl rfl (l' := #[.val (.int u0), .val (.int u1), .val (.long w2), .second, .val (.int ((u0 &&& (255 : Int32)).toUInt32.toUInt16.toUInt32.toInt32)), .val (.int ((((u0.toUInt32 >>> ((8 : Int32) &&& 31).toUInt32).toInt32) &&& (255 : Int32)).toUInt32.toUInt16.toUInt32.toInt32)), .val (.int (u1 &&& (3 : Int32))), .val (.ref b72), .unset, .unset, .unset, .unset]) rfl ?_
        show Steps p.tables e below (T93.setTop (mkF m 82 #[.val (.int u0), .val (.int u1), .val (.long w2), .second, .val (.int ((u0 &&& (255 : Int32)).toUInt32.toUInt16.toUInt32.toInt32)), .val (.int ((((u0.toUInt32 >>> ((8 : Int32) &&& 31).toUInt32).toInt32) &&& (255 : Int32)).toUInt32.toUInt16.toUInt32.toInt32)), .val (.int (u1 &&& (3 : Int32))), .val (.ref b72), .unset, .unset, .unset, .unset] [])) _
        refine XS.aload X93.here hx rfl (hb hby at_82) rfl rfl ?_
        show Steps p.tables e below (T93.setTop (mkF m 84 #[.val (.int u0), .val (.int u1), .val (.long w2), .second, .val (.int ((u0 &&& (255 : Int32)).toUInt32.toUInt16.toUInt32.toInt32)), .val (.int ((((u0.toUInt32 >>> ((8 : Int32) &&& 31).toUInt32).toInt32) &&& (255 : Int32)).toUInt32.toUInt16.toUInt32.toInt32)), .val (.int (u1 &&& (3 : Int32))), .val (.ref b72), .unset, .unset, .unset, .unset] [(.ref b72)])) _
        refine XS.lloadN X93.here hx rfl (hb hby at_84) rfl ?_
        exact k)
      obtain ⟨_, _, ⟨T97, L97, k97, n97⟩, -, X97, ⟨Lc97, hQ97, l97, y97, z97⟩, st97⟩ := Jvm.LawKit.callS X93 hx (y := (⟨"com/example/scorpus/scorpus/engine/Explanation$Figure", "count", "(Ljava/lang/String;J)Lcom/example/scorpus/scorpus/engine/Explanation$Figure;"⟩ : MethodName)) hown (mvT hZ (hw _ (List.mem_of_getElem? (i := 30) rfl))) (mvT hZ (hw _ (List.mem_of_getElem? (i := 31) rfl))) (mvT hZ (hw _ (List.mem_of_getElem? (i := 32) rfl))) (mvT hZ (hw _ (List.mem_of_getElem? (i := 33) rfl))) (by decide) (backOf (W := 0) (rm7 l Z a0 hw [] b72 w2  T93.heap n0 (Nat.le_trans Z0 K93.1) ) hZ (hw _ (List.mem_of_getElem? (i := 33) rfl)) (hw _ (List.mem_of_getElem? (i := 32) rfl)) (by decide) (by decide)) (g := (mkF m 85 #[.val (.int u0), .val (.int u1), .val (.long w2), .second, .val (.int ((u0 &&& (255 : Int32)).toUInt32.toUInt16.toUInt32.toInt32)), .val (.int ((((u0.toUInt32 >>> ((8 : Int32) &&& 31).toUInt32).toInt32) &&& (255 : Int32)).toUInt32.toUInt16.toUInt32.toInt32)), .val (.int (u1 &&& (3 : Int32))), .val (.ref b72), .unset, .unset, .unset, .unset] [(.long w2), (.ref b72)])) rfl (by rw [hml]; rfl) (argsL := [(.ref b72), (.long w2)]) (rest := []) (lenOf pd_10 rfl) rfl (by show 2 * 0 + _ ≤ _; exact Nat.le_of_eq rfl) (hb hby at_85) (fun _ _ => ⟨rfl, rfl, (by decide : 3 + 1 ≤ _), (by decide : 8 + 3 ≤ _)⟩)
      dsimp only [Pt.U, Pt.locs, Pt.cells, Pt.slots] at X97 l97 y97 z97 st97 hQ97
      subst l97 y97 z97
      obtain ⟨b97, rfl, N97q, K97q, E_r97, F_name97, F_value97, F_count97⟩ := hQ97
      have N97 := Fr.app N93 N97q
      have K97 : Keep h0 T97.heap [] := K93.trans K97q all0
      have O0_98 := O0_94.keep K97q (all0)
      have V_b74_99 := V_b74_95.keep K97q nin0
      have E_r93_100 := E_r93.keep K97q
      have F_value93_101 := F_value93.keep K97q nin0
      have F_coder93_102 := F_coder93.keep K97q nin0
      have V_b93_103 := V_b93.keep K97q nin0
      have pre104 : ∀ t, Steps p.tables e below (T97.setTop (mkF m 92 #[.val (.int u0), .val (.int u1), .val (.long w2), .second, .val (.int ((u0 &&& (255 : Int32)).toUInt32.toUInt16.toUInt32.toInt32)), .val (.int ((((u0.toUInt32 >>> ((8 : Int32) &&& 31).toUInt32).toInt32) &&& (255 : Int32)).toUInt32.toUInt16.toUInt32.toInt32)), .val (.int (u1 &&& (3 : Int32))), .val (.ref b72), .val (.ref b97), .unset, .unset, .unset] [(.ref b97)])) t → Steps p.tables e below (s₁.setTop (entryFrame m #[(.int u0), (.int u1), (.long w2)] maxLocals)) t := fun t k => pre96 t (by
        show Steps p.tables e below (T93.setTop (mkF m 85 #[.val (.int u0), .val (.int u1), .val (.long w2), .second, .val (.int ((u0 &&& (255 : Int32)).toUInt32.toUInt16.toUInt32.toInt32)), .val (.int ((((u0.toUInt32 >>> ((8 : Int32) &&& 31).toUInt32).toInt32) &&& (255 : Int32)).toUInt32.toUInt16.toUInt32.toInt32)), .val (.int (u1 &&& (3 : Int32))), .val (.ref b72), .unset, .unset, .unset, .unset] [(.long w2), (.ref b72)])) _
        refine st97 _ ?_
        show Steps p.tables e below (T97.setTop (mkF m 88 #[.val (.int u0), .val (.int u1), .val (.long w2), .second, .val (.int ((u0 &&& (255 : Int32)).toUInt32.toUInt16.toUInt32.toInt32)), .val (.int ((((u0.toUInt32 >>> ((8 : Int32) &&& 31).toUInt32).toInt32) &&& (255 : Int32)).toUInt32.toUInt16.toUInt32.toInt32)), .val (.int (u1 &&& (3 : Int32))), .val (.ref b72), .unset, .unset, .unset, .unset] [(.ref b97)])) _
        refine XS.astore X97.here hx rfl (hb hby at_88) rfl rfl (l' := #[.val (.int u0), .val (.int u1), .val (.long w2), .second, .val (.int ((u0 &&& (255 : Int32)).toUInt32.toUInt16.toUInt32.toInt32)), .val (.int ((((u0.toUInt32 >>> ((8 : Int32) &&& 31).toUInt32).toInt32) &&& (255 : Int32)).toUInt32.toUInt16.toUInt32.toInt32)), .val (.int (u1 &&& (3 : Int32))), .val (.ref b72), .val (.ref b97), .unset, .unset, .unset]) rfl ?_
        show Steps p.tables e below (T97.setTop (mkF m 90 #[.val (.int u0), .val (.int u1), .val (.long w2), .second, .val (.int ((u0 &&& (255 : Int32)).toUInt32.toUInt16.toUInt32.toInt32)), .val (.int ((((u0.toUInt32 >>> ((8 : Int32) &&& 31).toUInt32).toInt32) &&& (255 : Int32)).toUInt32.toUInt16.toUInt32.toInt32)), .val (.int (u1 &&& (3 : Int32))), .val (.ref b72), .val (.ref b97), .unset, .unset, .unset] [])) _
        refine XS.aload X97.here hx rfl (hb hby at_90) rfl rfl ?_
        exact k)
      obtain ⟨cq105, kq105, q105a, q105b, q105c⟩ := isOf hZ rfl E_r97
      obtain ⟨_, _, ⟨T105, L105, k105, n105⟩, -, X105, ⟨Lc105, hQ105, l105, y105, z105⟩, st105⟩ := X97.virtualBack hx (y := (⟨"com/example/scorpus/scorpus/engine/Explanation$Figure", "isCount", "()Z"⟩ : MethodName)) (z := (⟨"com/example/scorpus/scorpus/engine/Explanation$Figure", "isCount", "()Z"⟩ : MethodName)) hown (mvT hZ (hw _ (List.mem_of_getElem? (i := 46) rfl))) (mvT hZ (hw _ (List.mem_of_getElem? (i := 47) rfl))) (notFace_of_selects (args := #[]) (mvT hZ (hw _ (List.mem_of_getElem? (i := 49) rfl)))) (mvT hZ (hw _ (List.mem_of_getElem? (i := 49) rfl))) (mvT hZ (hw _ (List.mem_of_getElem? (i := 48) rfl))) (by decide) (backOf (W := 0) (rm9 l Z a0 hw [] b97 (nar .boolean (1 : Int32)) T97.heap n0 (Nat.le_trans Z0 K97.1) F_count97) hZ (hw _ (List.mem_of_getElem? (i := 50) rfl)) (hw _ (List.mem_of_getElem? (i := 32) rfl)) (by decide) (by decide)) q105a q105c (g := (mkF m 92 #[.val (.int u0), .val (.int u1), .val (.long w2), .second, .val (.int ((u0 &&& (255 : Int32)).toUInt32.toUInt16.toUInt32.toInt32)), .val (.int ((((u0.toUInt32 >>> ((8 : Int32) &&& 31).toUInt32).toInt32) &&& (255 : Int32)).toUInt32.toUInt16.toUInt32.toInt32)), .val (.int (u1 &&& (3 : Int32))), .val (.ref b72), .val (.ref b97), .unset, .unset, .unset] [(.ref b97)])) rfl (by rw [hml]; rfl) (Steps.refl _) (argsL := []) (rest := []) (lenOf pd_11 rfl) rfl (by show 2 * 0 + _ ≤ _; exact Nat.le_of_eq rfl) (hb hby at_92) (fun _ _ => ⟨rfl, rfl, (by decide : 4 + 0 ≤ _), (by decide : 11 + 0 ≤ _)⟩)
      dsimp only [Pt.U, Pt.locs, Pt.cells, Pt.slots] at X105 l105 y105 z105 st105 hQ105
      subst l105 y105 z105
      obtain ⟨rfl, N105q, e105⟩ := hQ105
      have N105 := Fr.app N97 N105q
      have pre106 : ∀ t, Steps p.tables e below (T105.setTop (mkF m 104 #[.val (.int u0), .val (.int u1), .val (.long w2), .second, .val (.int ((u0 &&& (255 : Int32)).toUInt32.toUInt16.toUInt32.toInt32)), .val (.int ((((u0.toUInt32 >>> ((8 : Int32) &&& 31).toUInt32).toInt32) &&& (255 : Int32)).toUInt32.toUInt16.toUInt32.toInt32)), .val (.int (u1 &&& (3 : Int32))), .val (.ref b72), .val (.ref b97), .val (.int (nar .boolean (nar .boolean (1 : Int32)))), .unset, .unset] [(.ref b97)])) t → Steps p.tables e below (s₁.setTop (entryFrame m #[(.int u0), (.int u1), (.long w2)] maxLocals)) t := fun t k => pre104 t (by
        show Steps p.tables e below (T97.setTop (mkF m 92 #[.val (.int u0), .val (.int u1), .val (.long w2), .second, .val (.int ((u0 &&& (255 : Int32)).toUInt32.toUInt16.toUInt32.toInt32)), .val (.int ((((u0.toUInt32 >>> ((8 : Int32) &&& 31).toUInt32).toInt32) &&& (255 : Int32)).toUInt32.toUInt16.toUInt32.toInt32)), .val (.int (u1 &&& (3 : Int32))), .val (.ref b72), .val (.ref b97), .unset, .unset, .unset] [(.ref b97)])) _
        refine st105.trans ?_
        show Steps p.tables e below (T105.setTop (mkF m 95 #[.val (.int u0), .val (.int u1), .val (.long w2), .second, .val (.int ((u0 &&& (255 : Int32)).toUInt32.toUInt16.toUInt32.toInt32)), .val (.int ((((u0.toUInt32 >>> ((8 : Int32) &&& 31).toUInt32).toInt32) &&& (255 : Int32)).toUInt32.toUInt16.toUInt32.toInt32)), .val (.int (u1 &&& (3 : Int32))), .val (.ref b72), .val (.ref b97), .unset, .unset, .unset] [(.int (nar .boolean (nar .boolean (1 : Int32))))])) _
        refine XS.istore X105.here hx rfl (hb hby at_95) rfl (l' := #[.val (.int u0), .val (.int u1), .val (.long w2), .second, .val (.int ((u0 &&& (255 : Int32)).toUInt32.toUInt16.toUInt32.toInt32)), .val (.int ((((u0.toUInt32 >>> ((8 : Int32) &&& 31).toUInt32).toInt32) &&& (255 : Int32)).toUInt32.toUInt16.toUInt32.toInt32)), .val (.int (u1 &&& (3 : Int32))), .val (.ref b72), .val (.ref b97), .val (.int (nar .boolean (nar .boolean (1 : Int32)))), .unset, .unset]) rfl ?_
        show Steps p.tables e below (T105.setTop (mkF m 97 #[.val (.int u0), .val (.int u1), .val (.long w2), .second, .val (.int ((u0 &&& (255 : Int32)).toUInt32.toUInt16.toUInt32.toInt32)), .val (.int ((((u0.toUInt32 >>> ((8 : Int32) &&& 31).toUInt32).toInt32) &&& (255 : Int32)).toUInt32.toUInt16.toUInt32.toInt32)), .val (.int (u1 &&& (3 : Int32))), .val (.ref b72), .val (.ref b97), .val (.int (nar .boolean (nar .boolean (1 : Int32)))), .unset, .unset] [])) _
        refine XS.iload X105.here hx rfl (hb hby at_97) rfl ?_
        show Steps p.tables e below (T105.setTop (mkF m 99 #[.val (.int u0), .val (.int u1), .val (.long w2), .second, .val (.int ((u0 &&& (255 : Int32)).toUInt32.toUInt16.toUInt32.toInt32)), .val (.int ((((u0.toUInt32 >>> ((8 : Int32) &&& 31).toUInt32).toInt32) &&& (255 : Int32)).toUInt32.toUInt16.toUInt32.toInt32)), .val (.int (u1 &&& (3 : Int32))), .val (.ref b72), .val (.ref b97), .val (.int (nar .boolean (nar .boolean (1 : Int32)))), .unset, .unset] [(.int (nar .boolean (nar .boolean (1 : Int32))))])) _
        refine XS.ifNo X105.here hx rfl (hb hby at_99) rfl ((if0 _ _).trans (feq (by decide)).1) ?_
        show Steps p.tables e below (T105.setTop (mkF m 102 #[.val (.int u0), .val (.int u1), .val (.long w2), .second, .val (.int ((u0 &&& (255 : Int32)).toUInt32.toUInt16.toUInt32.toInt32)), .val (.int ((((u0.toUInt32 >>> ((8 : Int32) &&& 31).toUInt32).toInt32) &&& (255 : Int32)).toUInt32.toUInt16.toUInt32.toInt32)), .val (.int (u1 &&& (3 : Int32))), .val (.ref b72), .val (.ref b97), .val (.int (nar .boolean (nar .boolean (1 : Int32)))), .unset, .unset] [])) _
        refine XS.aload X105.here hx rfl (hb hby at_102) rfl rfl ?_
        exact k)
      obtain ⟨cq107, kq107, q107a, q107b, q107c⟩ := isOf hZ e105 E_r97
      obtain ⟨_, _, ⟨T107, L107, k107, n107⟩, -, X107, ⟨Lc107, hQ107, l107, y107, z107⟩, st107⟩ := X105.virtualBack hx (y := (⟨"com/example/scorpus/scorpus/engine/Explanation$Figure", "name", "()Ljava/lang/String;"⟩ : MethodName)) (z := (⟨"com/example/scorpus/scorpus/engine/Explanation$Figure", "name", "()Ljava/lang/String;"⟩ : MethodName)) hown (mvT hZ (hw _ (List.mem_of_getElem? (i := 51) rfl))) (mvT hZ (hw _ (List.mem_of_getElem? (i := 52) rfl))) (notFace_of_selects (args := #[]) (mvT hZ (hw _ (List.mem_of_getElem? (i := 54) rfl)))) (mvT hZ (hw _ (List.mem_of_getElem? (i := 54) rfl))) (mvT hZ (hw _ (List.mem_of_getElem? (i := 53) rfl))) (by decide) (backOf (W := 0) (rm10 l Z a0 hw [] b97 b72 T97.heap n0 (Nat.le_trans Z0 K97.1) F_name97) hZ (hw _ (List.mem_of_getElem? (i := 55) rfl)) (hw _ (List.mem_of_getElem? (i := 32) rfl)) (by decide) (by decide)) q107a q107c (g := (mkF m 104 #[.val (.int u0), .val (.int u1), .val (.long w2), .second, .val (.int ((u0 &&& (255 : Int32)).toUInt32.toUInt16.toUInt32.toInt32)), .val (.int ((((u0.toUInt32 >>> ((8 : Int32) &&& 31).toUInt32).toInt32) &&& (255 : Int32)).toUInt32.toUInt16.toUInt32.toInt32)), .val (.int (u1 &&& (3 : Int32))), .val (.ref b72), .val (.ref b97), .val (.int (nar .boolean (nar .boolean (1 : Int32)))), .unset, .unset] [(.ref b97)])) rfl (by rw [hml]; rfl) (Steps.refl _) (argsL := []) (rest := []) (lenOf pd_12 rfl) rfl (by show 2 * 0 + _ ≤ _; exact Nat.le_of_eq rfl) (hb hby at_104) (fun _ _ => ⟨rfl, e105, (by decide : 4 + 0 ≤ _), (by decide : 11 + 0 ≤ _)⟩)
      dsimp only [Pt.U, Pt.locs, Pt.cells, Pt.slots] at X107 l107 y107 z107 st107 hQ107
      subst l107 y107 z107
      obtain ⟨rfl, N107q, e107⟩ := hQ107
      have N107 := Fr.app N105 N107q
      have pre108 : ∀ t, Steps p.tables e below (T107.setTop (mkF m 109 #[.val (.int u0), .val (.int u1), .val (.long w2), .second, .val (.int ((u0 &&& (255 : Int32)).toUInt32.toUInt16.toUInt32.toInt32)), .val (.int ((((u0.toUInt32 >>> ((8 : Int32) &&& 31).toUInt32).toInt32) &&& (255 : Int32)).toUInt32.toUInt16.toUInt32.toInt32)), .val (.int (u1 &&& (3 : Int32))), .val (.ref b72), .val (.ref b97), .val (.int (nar .boolean (nar .boolean (1 : Int32)))), .unset, .unset] [(.ref b72), (.ref b72)])) t → Steps p.tables e below (s₁.setTop (entryFrame m #[(.int u0), (.int u1), (.long w2)] maxLocals)) t := fun t k => pre106 t (by
        show Steps p.tables e below (T105.setTop (mkF m 104 #[.val (.int u0), .val (.int u1), .val (.long w2), .second, .val (.int ((u0 &&& (255 : Int32)).toUInt32.toUInt16.toUInt32.toInt32)), .val (.int ((((u0.toUInt32 >>> ((8 : Int32) &&& 31).toUInt32).toInt32) &&& (255 : Int32)).toUInt32.toUInt16.toUInt32.toInt32)), .val (.int (u1 &&& (3 : Int32))), .val (.ref b72), .val (.ref b97), .val (.int (nar .boolean (nar .boolean (1 : Int32)))), .unset, .unset] [(.ref b97)])) _
        refine st107.trans ?_
        show Steps p.tables e below (T107.setTop (mkF m 107 #[.val (.int u0), .val (.int u1), .val (.long w2), .second, .val (.int ((u0 &&& (255 : Int32)).toUInt32.toUInt16.toUInt32.toInt32)), .val (.int ((((u0.toUInt32 >>> ((8 : Int32) &&& 31).toUInt32).toInt32) &&& (255 : Int32)).toUInt32.toUInt16.toUInt32.toInt32)), .val (.int (u1 &&& (3 : Int32))), .val (.ref b72), .val (.ref b97), .val (.int (nar .boolean (nar .boolean (1 : Int32)))), .unset, .unset] [(.ref b72)])) _
        refine XS.aload X107.here hx rfl (hb hby at_107) rfl rfl ?_
        exact k)
      obtain ⟨cq109, kq109, q109a, q109b, q109c⟩ := isOf hZ e107 E_r93_100
      obtain ⟨_, _, ⟨T109, L109, k109, n109⟩, -, X109, ⟨Lc109, hQ109, l109, y109, z109⟩, st109⟩ := X107.virtualBack hx (y := (⟨"java/lang/String", "equals", "(Ljava/lang/Object;)Z"⟩ : MethodName)) (z := (⟨"java/lang/String", "equals", "(Ljava/lang/Object;)Z"⟩ : MethodName)) hown (mvT hZ (hw _ (List.mem_of_getElem? (i := 56) rfl))) (mvT hZ (hw _ (List.mem_of_getElem? (i := 57) rfl))) (notFace_of_selects (args := #[]) (mvT hZ (hw _ (List.mem_of_getElem? (i := 59) rfl)))) (mvT hZ (hw _ (List.mem_of_getElem? (i := 59) rfl))) (mvT hZ (hw _ (List.mem_of_getElem? (i := 58) rfl))) (by decide) (backOf (W := 0) (rm11 l Z a0 hw [] b72  T97.heap n0 (Nat.le_trans Z0 K97.1) ) hZ (hw _ (List.mem_of_getElem? (i := 60) rfl)) (hw _ (List.mem_of_getElem? (i := 2) rfl)) (by decide) (by decide)) q109a q109c (g := (mkF m 109 #[.val (.int u0), .val (.int u1), .val (.long w2), .second, .val (.int ((u0 &&& (255 : Int32)).toUInt32.toUInt16.toUInt32.toInt32)), .val (.int ((((u0.toUInt32 >>> ((8 : Int32) &&& 31).toUInt32).toInt32) &&& (255 : Int32)).toUInt32.toUInt16.toUInt32.toInt32)), .val (.int (u1 &&& (3 : Int32))), .val (.ref b72), .val (.ref b97), .val (.int (nar .boolean (nar .boolean (1 : Int32)))), .unset, .unset] [(.ref b72), (.ref b72)])) rfl (by rw [hml]; rfl) (Steps.refl _) (argsL := [(.ref b72)]) (rest := []) (lenOf pd_13 rfl) rfl (by show 2 * 0 + _ ≤ _; exact Nat.le_of_eq rfl) (hb hby at_109) (fun _ _ => ⟨rfl, e107, (by decide : 4 + 0 ≤ _), (by decide : 11 + 0 ≤ _)⟩)
      dsimp only [Pt.U, Pt.locs, Pt.cells, Pt.slots] at X109 l109 y109 z109 st109 hQ109
      subst l109 y109 z109
      obtain ⟨rfl, N109q, e109⟩ := hQ109
      have N109 := Fr.app N107 N109q
      have pre110 : ∀ t, Steps p.tables e below (T109.setTop (mkF m 117 #[.val (.int u0), .val (.int u1), .val (.long w2), .second, .val (.int ((u0 &&& (255 : Int32)).toUInt32.toUInt16.toUInt32.toInt32)), .val (.int ((((u0.toUInt32 >>> ((8 : Int32) &&& 31).toUInt32).toInt32) &&& (255 : Int32)).toUInt32.toUInt16.toUInt32.toInt32)), .val (.int (u1 &&& (3 : Int32))), .val (.ref b72), .val (.ref b97), .val (.int (nar .boolean (nar .boolean (1 : Int32)))), .unset, .unset] [(.ref b97)])) t → Steps p.tables e below (s₁.setTop (entryFrame m #[(.int u0), (.int u1), (.long w2)] maxLocals)) t := fun t k => pre108 t (by
        show Steps p.tables e below (T107.setTop (mkF m 109 #[.val (.int u0), .val (.int u1), .val (.long w2), .second, .val (.int ((u0 &&& (255 : Int32)).toUInt32.toUInt16.toUInt32.toInt32)), .val (.int ((((u0.toUInt32 >>> ((8 : Int32) &&& 31).toUInt32).toInt32) &&& (255 : Int32)).toUInt32.toUInt16.toUInt32.toInt32)), .val (.int (u1 &&& (3 : Int32))), .val (.ref b72), .val (.ref b97), .val (.int (nar .boolean (nar .boolean (1 : Int32)))), .unset, .unset] [(.ref b72), (.ref b72)])) _
        refine st109.trans ?_
        show Steps p.tables e below (T109.setTop (mkF m 112 #[.val (.int u0), .val (.int u1), .val (.long w2), .second, .val (.int ((u0 &&& (255 : Int32)).toUInt32.toUInt16.toUInt32.toInt32)), .val (.int ((((u0.toUInt32 >>> ((8 : Int32) &&& 31).toUInt32).toInt32) &&& (255 : Int32)).toUInt32.toUInt16.toUInt32.toInt32)), .val (.int (u1 &&& (3 : Int32))), .val (.ref b72), .val (.ref b97), .val (.int (nar .boolean (nar .boolean (1 : Int32)))), .unset, .unset] [(.int (1 : Int32))])) _
        refine XS.ifNo X109.here hx rfl (hb hby at_112) rfl ((if0 _ _).trans (feq (by decide : ¬ ((1 : Int32) = (0 : Int32)))).1) ?_
        show Steps p.tables e below (T109.setTop (mkF m 115 #[.val (.int u0), .val (.int u1), .val (.long w2), .second, .val (.int ((u0 &&& (255 : Int32)).toUInt32.toUInt16.toUInt32.toInt32)), .val (.int ((((u0.toUInt32 >>> ((8 : Int32) &&& 31).toUInt32).toInt32) &&& (255 : Int32)).toUInt32.toUInt16.toUInt32.toInt32)), .val (.int (u1 &&& (3 : Int32))), .val (.ref b72), .val (.ref b97), .val (.int (nar .boolean (nar .boolean (1 : Int32)))), .unset, .unset] [])) _
        refine XS.aload X109.here hx rfl (hb hby at_115) rfl rfl ?_
        exact k)
      obtain ⟨cq111, kq111, q111a, q111b, q111c⟩ := isOf hZ e109 E_r97
      obtain ⟨_, _, ⟨T111, L111, k111, n111⟩, -, X111, ⟨Lc111, hQ111, l111, y111, z111⟩, st111⟩ := X109.virtualBack hx (y := (⟨"com/example/scorpus/scorpus/engine/Explanation$Figure", "name", "()Ljava/lang/String;"⟩ : MethodName)) (z := (⟨"com/example/scorpus/scorpus/engine/Explanation$Figure", "name", "()Ljava/lang/String;"⟩ : MethodName)) hown (mvT hZ (hw _ (List.mem_of_getElem? (i := 51) rfl))) (mvT hZ (hw _ (List.mem_of_getElem? (i := 52) rfl))) (notFace_of_selects (args := #[]) (mvT hZ (hw _ (List.mem_of_getElem? (i := 54) rfl)))) (mvT hZ (hw _ (List.mem_of_getElem? (i := 54) rfl))) (mvT hZ (hw _ (List.mem_of_getElem? (i := 53) rfl))) (by decide) (backOf (W := 0) (rm10 l Z a0 hw [] b97 b72 T97.heap n0 (Nat.le_trans Z0 K97.1) F_name97) hZ (hw _ (List.mem_of_getElem? (i := 55) rfl)) (hw _ (List.mem_of_getElem? (i := 32) rfl)) (by decide) (by decide)) q111a q111c (g := (mkF m 117 #[.val (.int u0), .val (.int u1), .val (.long w2), .second, .val (.int ((u0 &&& (255 : Int32)).toUInt32.toUInt16.toUInt32.toInt32)), .val (.int ((((u0.toUInt32 >>> ((8 : Int32) &&& 31).toUInt32).toInt32) &&& (255 : Int32)).toUInt32.toUInt16.toUInt32.toInt32)), .val (.int (u1 &&& (3 : Int32))), .val (.ref b72), .val (.ref b97), .val (.int (nar .boolean (nar .boolean (1 : Int32)))), .unset, .unset] [(.ref b97)])) rfl (by rw [hml]; rfl) (Steps.refl _) (argsL := []) (rest := []) (lenOf pd_12 rfl) rfl (by show 2 * 0 + _ ≤ _; exact Nat.le_of_eq rfl) (hb hby at_117) (fun _ _ => ⟨rfl, e109, (by decide : 4 + 0 ≤ _), (by decide : 11 + 0 ≤ _)⟩)
      dsimp only [Pt.U, Pt.locs, Pt.cells, Pt.slots] at X111 l111 y111 z111 st111 hQ111
      subst l111 y111 z111
      obtain ⟨rfl, N111q, e111⟩ := hQ111
      have N111 := Fr.app N109 N111q
      have SC112 := SZ_C.ext O0_98.2
      have pre113 : ∀ t, Steps p.tables e below (T111.setTop (mkF m 120 #[.val (.int u0), .val (.int u1), .val (.long w2), .second, .val (.int ((u0 &&& (255 : Int32)).toUInt32.toUInt16.toUInt32.toInt32)), .val (.int ((((u0.toUInt32 >>> ((8 : Int32) &&& 31).toUInt32).toInt32) &&& (255 : Int32)).toUInt32.toUInt16.toUInt32.toInt32)), .val (.int (u1 &&& (3 : Int32))), .val (.ref b72), .val (.ref b97), .val (.int (nar .boolean (nar .boolean (1 : Int32)))), .unset, .unset] [(.ref b72)])) t → Steps p.tables e below (s₁.setTop (entryFrame m #[(.int u0), (.int u1), (.long w2)] maxLocals)) t := fun t k => pre110 t (by
        show Steps p.tables e below (T109.setTop (mkF m 117 #[.val (.int u0), .val (.int u1), .val (.long w2), .second, .val (.int ((u0 &&& (255 : Int32)).toUInt32.toUInt16.toUInt32.toInt32)), .val (.int ((((u0.toUInt32 >>> ((8 : Int32) &&& 31).toUInt32).toInt32) &&& (255 : Int32)).toUInt32.toUInt16.toUInt32.toInt32)), .val (.int (u1 &&& (3 : Int32))), .val (.ref b72), .val (.ref b97), .val (.int (nar .boolean (nar .boolean (1 : Int32)))), .unset, .unset] [(.ref b97)])) _
        refine st111.trans ?_
        exact k)
      obtain ⟨cq114, kq114, q114a, q114b, q114c⟩ := isOf hZ e111 E_r93_100
      obtain ⟨_, _, ⟨T114, L114, k114, n114⟩, -, X114, ⟨Lc114, hQ114, l114, y114, z114⟩, st114⟩ := X111.virtualBack hx (y := (⟨"java/lang/String", "length", "()I"⟩ : MethodName)) (z := (⟨"java/lang/String", "length", "()I"⟩ : MethodName)) hown (mvT hZ (hw _ (List.mem_of_getElem? (i := 61) rfl))) (mvT hZ (hw _ (List.mem_of_getElem? (i := 62) rfl))) (notFace_of_selects (args := #[]) (mvT hZ (hw _ (List.mem_of_getElem? (i := 64) rfl)))) (mvT hZ (hw _ (List.mem_of_getElem? (i := 64) rfl))) (mvT hZ (hw _ (List.mem_of_getElem? (i := 63) rfl))) (by decide) (backOf (W := 0) (rm12 l Z a0 hw [] b72 rb93 kb93 nb93 vs93 cd93 cs T97.heap n0 (Nat.le_trans Z0 K97.1) E_r93_100 F_value93_101 F_coder93_102 V_b93_103 SC112 hcs) hZ (hw _ (List.mem_of_getElem? (i := 65) rfl)) (hw _ (List.mem_of_getElem? (i := 2) rfl)) (by decide) (by decide)) q114a q114c (g := (mkF m 120 #[.val (.int u0), .val (.int u1), .val (.long w2), .second, .val (.int ((u0 &&& (255 : Int32)).toUInt32.toUInt16.toUInt32.toInt32)), .val (.int ((((u0.toUInt32 >>> ((8 : Int32) &&& 31).toUInt32).toInt32) &&& (255 : Int32)).toUInt32.toUInt16.toUInt32.toInt32)), .val (.int (u1 &&& (3 : Int32))), .val (.ref b72), .val (.ref b97), .val (.int (nar .boolean (nar .boolean (1 : Int32)))), .unset, .unset] [(.ref b72)])) rfl (by rw [hml]; rfl) (Steps.refl _) (argsL := []) (rest := []) (lenOf pd_14 rfl) rfl (by show 2 * 0 + _ ≤ _; exact Nat.le_of_eq rfl) (hb hby at_120) (fun _ _ => ⟨rfl, e111, (by decide : 4 + 0 ≤ _), (by decide : 11 + 0 ≤ _)⟩)
      dsimp only [Pt.U, Pt.locs, Pt.cells, Pt.slots] at X114 l114 y114 z114 st114 hQ114
      subst l114 y114 z114
      obtain ⟨rfl, N114q, e114⟩ := hQ114
      have N114 := Fr.app N111 N114q
      have SC115 := SZ_C.ext O0_98.2
      have pre116 : ∀ t, Steps p.tables e below (T114.setTop (mkF m 125 #[.val (.int u0), .val (.int u1), .val (.long w2), .second, .val (.int ((u0 &&& (255 : Int32)).toUInt32.toUInt16.toUInt32.toInt32)), .val (.int ((((u0.toUInt32 >>> ((8 : Int32) &&& 31).toUInt32).toInt32) &&& (255 : Int32)).toUInt32.toUInt16.toUInt32.toInt32)), .val (.int (u1 &&& (3 : Int32))), .val (.ref b72), .val (.ref b97), .val (.int (nar .boolean (nar .boolean (1 : Int32)))), .unset, .unset] [(.ref b72), (.int (nb93 >>> ((nar .byte cd93) &&& 31)))])) t → Steps p.tables e below (s₁.setTop (entryFrame m #[(.int u0), (.int u1), (.long w2)] maxLocals)) t := fun t k => pre113 t (by
        show Steps p.tables e below (T111.setTop (mkF m 120 #[.val (.int u0), .val (.int u1), .val (.long w2), .second, .val (.int ((u0 &&& (255 : Int32)).toUInt32.toUInt16.toUInt32.toInt32)), .val (.int ((((u0.toUInt32 >>> ((8 : Int32) &&& 31).toUInt32).toInt32) &&& (255 : Int32)).toUInt32.toUInt16.toUInt32.toInt32)), .val (.int (u1 &&& (3 : Int32))), .val (.ref b72), .val (.ref b97), .val (.int (nar .boolean (nar .boolean (1 : Int32)))), .unset, .unset] [(.ref b72)])) _
        refine st114.trans ?_
        show Steps p.tables e below (T114.setTop (mkF m 123 #[.val (.int u0), .val (.int u1), .val (.long w2), .second, .val (.int ((u0 &&& (255 : Int32)).toUInt32.toUInt16.toUInt32.toInt32)), .val (.int ((((u0.toUInt32 >>> ((8 : Int32) &&& 31).toUInt32).toInt32) &&& (255 : Int32)).toUInt32.toUInt16.toUInt32.toInt32)), .val (.int (u1 &&& (3 : Int32))), .val (.ref b72), .val (.ref b97), .val (.int (nar .boolean (nar .boolean (1 : Int32)))), .unset, .unset] [(.int (nb93 >>> ((nar .byte cd93) &&& 31)))])) _
        refine XS.aload X114.here hx rfl (hb hby at_123) rfl rfl ?_
        exact k)
      obtain ⟨cq117, kq117, q117a, q117b, q117c⟩ := isOf hZ e114 E_r93_100
      obtain ⟨_, _, ⟨T117, L117, k117, n117⟩, -, X117, ⟨Lc117, hQ117, l117, y117, z117⟩, st117⟩ := X114.virtualBack hx (y := (⟨"java/lang/String", "length", "()I"⟩ : MethodName)) (z := (⟨"java/lang/String", "length", "()I"⟩ : MethodName)) hown (mvT hZ (hw _ (List.mem_of_getElem? (i := 61) rfl))) (mvT hZ (hw _ (List.mem_of_getElem? (i := 62) rfl))) (notFace_of_selects (args := #[]) (mvT hZ (hw _ (List.mem_of_getElem? (i := 64) rfl)))) (mvT hZ (hw _ (List.mem_of_getElem? (i := 64) rfl))) (mvT hZ (hw _ (List.mem_of_getElem? (i := 63) rfl))) (by decide) (backOf (W := 1) (rm12 l Z a0 hw [] b72 rb93 kb93 nb93 vs93 cd93 cs T97.heap n0 (Nat.le_trans Z0 K97.1) E_r93_100 F_value93_101 F_coder93_102 V_b93_103 SC115 hcs) hZ (hw _ (List.mem_of_getElem? (i := 65) rfl)) (hw _ (List.mem_of_getElem? (i := 2) rfl)) (by decide) (by decide)) q117a q117c (g := (mkF m 125 #[.val (.int u0), .val (.int u1), .val (.long w2), .second, .val (.int ((u0 &&& (255 : Int32)).toUInt32.toUInt16.toUInt32.toInt32)), .val (.int ((((u0.toUInt32 >>> ((8 : Int32) &&& 31).toUInt32).toInt32) &&& (255 : Int32)).toUInt32.toUInt16.toUInt32.toInt32)), .val (.int (u1 &&& (3 : Int32))), .val (.ref b72), .val (.ref b97), .val (.int (nar .boolean (nar .boolean (1 : Int32)))), .unset, .unset] [(.ref b72), (.int (nb93 >>> ((nar .byte cd93) &&& 31)))])) rfl (by rw [hml]; rfl) (Steps.refl _) (argsL := []) (rest := [(.int (nb93 >>> ((nar .byte cd93) &&& 31)))]) (lenOf pd_14 rfl) rfl (by show 2 * 0 + _ ≤ _; exact Nat.le_of_eq rfl) (hb hby at_125) (fun _ _ => ⟨rfl, e114, (by decide : 4 + 0 ≤ _), (by decide : 11 + 0 ≤ _)⟩)
      dsimp only [Pt.U, Pt.locs, Pt.cells, Pt.slots] at X117 l117 y117 z117 st117 hQ117
      subst l117 y117 z117
      obtain ⟨rfl, N117q, e117⟩ := hQ117
      have N117 := Fr.app N114 N117q
      have pre118 : ∀ t, Steps p.tables e below (T117.setTop (mkF m 149 #[.val (.int u0), .val (.int u1), .val (.long w2), .second, .val (.int ((u0 &&& (255 : Int32)).toUInt32.toUInt16.toUInt32.toInt32)), .val (.int ((((u0.toUInt32 >>> ((8 : Int32) &&& 31).toUInt32).toInt32) &&& (255 : Int32)).toUInt32.toUInt16.toUInt32.toInt32)), .val (.int (u1 &&& (3 : Int32))), .val (.ref b72), .val (.ref b97), .val (.int (1 : Int32)), .val (.double (FP.l2d w2)), .second] [(.ref b97)])) t → Steps p.tables e below (s₁.setTop (entryFrame m #[(.int u0), (.int u1), (.long w2)] maxLocals)) t := fun t k => pre116 t (by
        show Steps p.tables e below (T114.setTop (mkF m 125 #[.val (.int u0), .val (.int u1), .val (.long w2), .second, .val (.int ((u0 &&& (255 : Int32)).toUInt32.toUInt16.toUInt32.toInt32)), .val (.int ((((u0.toUInt32 >>> ((8 : Int32) &&& 31).toUInt32).toInt32) &&& (255 : Int32)).toUInt32.toUInt16.toUInt32.toInt32)), .val (.int (u1 &&& (3 : Int32))), .val (.ref b72), .val (.ref b97), .val (.int (nar .boolean (nar .boolean (1 : Int32)))), .unset, .unset] [(.ref b72), (.int (nb93 >>> ((nar .byte cd93) &&& 31)))])) _
        refine st117.trans ?_
        show Steps p.tables e below (T117.setTop (mkF m 128 #[.val (.int u0), .val (.int u1), .val (.long w2), .second, .val (.int ((u0 &&& (255 : Int32)).toUInt32.toUInt16.toUInt32.toInt32)), .val (.int ((((u0.toUInt32 >>> ((8 : Int32) &&& 31).toUInt32).toInt32) &&& (255 : Int32)).toUInt32.toUInt16.toUInt32.toInt32)), .val (.int (u1 &&& (3 : Int32))), .val (.ref b72), .val (.ref b97), .val (.int (nar .boolean (nar .boolean (1 : Int32)))), .unset, .unset] [(.int (nb93 >>> ((nar .byte cd93) &&& 31))), (.int (nb93 >>> ((nar .byte cd93) &&& 31)))])) _
        refine XS.icmpNo X117.here hx rfl (hb hby at_128) rfl (teq (rfl : (nb93 >>> ((nar .byte cd93) &&& 31)) = (nb93 >>> ((nar .byte cd93) &&& 31)))).2 ?_
        show Steps p.tables e below (T117.setTop (mkF m 131 #[.val (.int u0), .val (.int u1), .val (.long w2), .second, .val (.int ((u0 &&& (255 : Int32)).toUInt32.toUInt16.toUInt32.toInt32)), .val (.int ((((u0.toUInt32 >>> ((8 : Int32) &&& 31).toUInt32).toInt32) &&& (255 : Int32)).toUInt32.toUInt16.toUInt32.toInt32)), .val (.int (u1 &&& (3 : Int32))), .val (.ref b72), .val (.ref b97), .val (.int (nar .boolean (nar .boolean (1 : Int32)))), .unset, .unset] [])) _
        refine XS.iconst X117.here hx rfl (hb hby at_131) ?_
        show Steps p.tables e below (T117.setTop (mkF m 132 #[.val (.int u0), .val (.int u1), .val (.long w2), .second, .val (.int ((u0 &&& (255 : Int32)).toUInt32.toUInt16.toUInt32.toInt32)), .val (.int ((((u0.toUInt32 >>> ((8 : Int32) &&& 31).toUInt32).toInt32) &&& (255 : Int32)).toUInt32.toUInt16.toUInt32.toInt32)), .val (.int (u1 &&& (3 : Int32))), .val (.ref b72), .val (.ref b97), .val (.int (nar .boolean (nar .boolean (1 : Int32)))), .unset, .unset] [(.int (1 : Int32))])) _
        refine XS.goto X117.here hx rfl (pc0 := 132) (pc' := 136) rfl (hb hby at_132) (by decide) (by decide) ?_
        show Steps p.tables e below (T117.setTop (mkF m 136 #[.val (.int u0), .val (.int u1), .val (.long w2), .second, .val (.int ((u0 &&& (255 : Int32)).toUInt32.toUInt16.toUInt32.toInt32)), .val (.int ((((u0.toUInt32 >>> ((8 : Int32) &&& 31).toUInt32).toInt32) &&& (255 : Int32)).toUInt32.toUInt16.toUInt32.toInt32)), .val (.int (u1 &&& (3 : Int32))), .val (.ref b72), .val (.ref b97), .val (.int (nar .boolean (nar .boolean (1 : Int32)))), .unset, .unset] [(.int (1 : Int32))])) _
        refine XS.istore X117.here hx rfl (hb hby at_136) rfl (l' := #[.val (.int u0), .val (.int u1), .val (.long w2), .second, .val (.int ((u0 &&& (255 : Int32)).toUInt32.toUInt16.toUInt32.toInt32)), .val (.int ((((u0.toUInt32 >>> ((8 : Int32) &&& 31).toUInt32).toInt32) &&& (255 : Int32)).toUInt32.toUInt16.toUInt32.toInt32)), .val (.int (u1 &&& (3 : Int32))), .val (.ref b72), .val (.ref b97), .val (.int (1 : Int32)), .unset, .unset]) rfl ?_
        show Steps p.tables e below (T117.setTop (mkF m 138 #[.val (.int u0), .val (.int u1), .val (.long w2), .second, .val (.int ((u0 &&& (255 : Int32)).toUInt32.toUInt16.toUInt32.toInt32)), .val (.int ((((u0.toUInt32 >>> ((8 : Int32) &&& 31).toUInt32).toInt32) &&& (255 : Int32)).toUInt32.toUInt16.toUInt32.toInt32)), .val (.int (u1 &&& (3 : Int32))), .val (.ref b72), .val (.ref b97), .val (.int (1 : Int32)), .unset, .unset] [])) _
        refine XS.lloadN X117.here hx rfl (hb hby at_138) rfl ?_
        show Steps p.tables e below (T117.setTop (mkF m 139 #[.val (.int u0), .val (.int u1), .val (.long w2), .second, .val (.int ((u0 &&& (255 : Int32)).toUInt32.toUInt16.toUInt32.toInt32)), .val (.int ((((u0.toUInt32 >>> ((8 : Int32) &&& 31).toUInt32).toInt32) &&& (255 : Int32)).toUInt32.toUInt16.toUInt32.toInt32)), .val (.int (u1 &&& (3 : Int32))), .val (.ref b72), .val (.ref b97), .val (.int (1 : Int32)), .unset, .unset] [(.long w2)])) _
        refine XS.l2dS X117.here hx rfl (hb hby at_139) rfl rfl ?_
        show Steps p.tables e below (T117.setTop (mkF m 140 #[.val (.int u0), .val (.int u1), .val (.long w2), .second, .val (.int ((u0 &&& (255 : Int32)).toUInt32.toUInt16.toUInt32.toInt32)), .val (.int ((((u0.toUInt32 >>> ((8 : Int32) &&& 31).toUInt32).toInt32) &&& (255 : Int32)).toUInt32.toUInt16.toUInt32.toInt32)), .val (.int (u1 &&& (3 : Int32))), .val (.ref b72), .val (.ref b97), .val (.int (1 : Int32)), .unset, .unset] [(.double (FP.l2d w2))])) _
        refine XS.dstore X117.here hx rfl (hb hby at_140) rfl (l' := #[.val (.int u0), .val (.int u1), .val (.long w2), .second, .val (.int ((u0 &&& (255 : Int32)).toUInt32.toUInt16.toUInt32.toInt32)), .val (.int ((((u0.toUInt32 >>> ((8 : Int32) &&& 31).toUInt32).toInt32) &&& (255 : Int32)).toUInt32.toUInt16.toUInt32.toInt32)), .val (.int (u1 &&& (3 : Int32))), .val (.ref b72), .val (.ref b97), .val (.int (1 : Int32)), .val (.double (FP.l2d w2)), .second]) rfl ?_
        show Steps p.tables e below (T117.setTop (mkF m 142 #[.val (.int u0), .val (.int u1), .val (.long w2), .second, .val (.int ((u0 &&& (255 : Int32)).toUInt32.toUInt16.toUInt32.toInt32)), .val (.int ((((u0.toUInt32 >>> ((8 : Int32) &&& 31).toUInt32).toInt32) &&& (255 : Int32)).toUInt32.toUInt16.toUInt32.toInt32)), .val (.int (u1 &&& (3 : Int32))), .val (.ref b72), .val (.ref b97), .val (.int (1 : Int32)), .val (.double (FP.l2d w2)), .second] [])) _
        refine XS.iload X117.here hx rfl (hb hby at_142) rfl ?_
        show Steps p.tables e below (T117.setTop (mkF m 144 #[.val (.int u0), .val (.int u1), .val (.long w2), .second, .val (.int ((u0 &&& (255 : Int32)).toUInt32.toUInt16.toUInt32.toInt32)), .val (.int ((((u0.toUInt32 >>> ((8 : Int32) &&& 31).toUInt32).toInt32) &&& (255 : Int32)).toUInt32.toUInt16.toUInt32.toInt32)), .val (.int (u1 &&& (3 : Int32))), .val (.ref b72), .val (.ref b97), .val (.int (1 : Int32)), .val (.double (FP.l2d w2)), .second] [(.int (1 : Int32))])) _
        refine XS.ifNo X117.here hx rfl (hb hby at_144) rfl ((if0 _ _).trans (feq (by decide : ¬ ((1 : Int32) = (0 : Int32)))).1) ?_
        show Steps p.tables e below (T117.setTop (mkF m 147 #[.val (.int u0), .val (.int u1), .val (.long w2), .second, .val (.int ((u0 &&& (255 : Int32)).toUInt32.toUInt16.toUInt32.toInt32)), .val (.int ((((u0.toUInt32 >>> ((8 : Int32) &&& 31).toUInt32).toInt32) &&& (255 : Int32)).toUInt32.toUInt16.toUInt32.toInt32)), .val (.int (u1 &&& (3 : Int32))), .val (.ref b72), .val (.ref b97), .val (.int (1 : Int32)), .val (.double (FP.l2d w2)), .second] [])) _
        refine XS.aload X117.here hx rfl (hb hby at_147) rfl rfl ?_
        exact k)
      obtain ⟨cq119, kq119, q119a, q119b, q119c⟩ := isOf hZ e117 E_r97
      obtain ⟨_, _, ⟨T119, L119, k119, n119⟩, -, X119, ⟨Lc119, hQ119, l119, y119, z119⟩, st119⟩ := X117.virtualBack hx (y := (⟨"com/example/scorpus/scorpus/engine/Explanation$Figure", "value", "()D"⟩ : MethodName)) (z := (⟨"com/example/scorpus/scorpus/engine/Explanation$Figure", "value", "()D"⟩ : MethodName)) hown (mvT hZ (hw _ (List.mem_of_getElem? (i := 71) rfl))) (mvT hZ (hw _ (List.mem_of_getElem? (i := 72) rfl))) (notFace_of_selects (args := #[]) (mvT hZ (hw _ (List.mem_of_getElem? (i := 74) rfl)))) (mvT hZ (hw _ (List.mem_of_getElem? (i := 74) rfl))) (mvT hZ (hw _ (List.mem_of_getElem? (i := 73) rfl))) (by decide) (backOf (W := 0) (rm14 l Z a0 hw [] b97 (FP.l2d w2) T97.heap n0 (Nat.le_trans Z0 K97.1) F_value97) hZ (hw _ (List.mem_of_getElem? (i := 75) rfl)) (hw _ (List.mem_of_getElem? (i := 32) rfl)) (by decide) (by decide)) q119a q119c (g := (mkF m 149 #[.val (.int u0), .val (.int u1), .val (.long w2), .second, .val (.int ((u0 &&& (255 : Int32)).toUInt32.toUInt16.toUInt32.toInt32)), .val (.int ((((u0.toUInt32 >>> ((8 : Int32) &&& 31).toUInt32).toInt32) &&& (255 : Int32)).toUInt32.toUInt16.toUInt32.toInt32)), .val (.int (u1 &&& (3 : Int32))), .val (.ref b72), .val (.ref b97), .val (.int (1 : Int32)), .val (.double (FP.l2d w2)), .second] [(.ref b97)])) rfl (by rw [hml]; rfl) (Steps.refl _) (argsL := []) (rest := []) (lenOf pd_15 rfl) rfl (by show 2 * 0 + _ ≤ _; exact Nat.le_of_eq rfl) (hb hby at_149) (fun _ _ => ⟨rfl, e117, (by decide : 4 + 0 ≤ _), (by decide : 11 + 0 ≤ _)⟩)
      dsimp only [Pt.U, Pt.locs, Pt.cells, Pt.slots] at X119 l119 y119 z119 st119 hQ119
      subst l119 y119 z119
      obtain ⟨rfl, N119q, e119⟩ := hQ119
      have N119 := Fr.app N117 N119q
      have pre120 : ∀ t, Steps p.tables e below (T119.setTop (mkF m 170 #[.val (.int u0), .val (.int u1), .val (.long w2), .second, .val (.int ((u0 &&& (255 : Int32)).toUInt32.toUInt16.toUInt32.toInt32)), .val (.int ((((u0.toUInt32 >>> ((8 : Int32) &&& 31).toUInt32).toInt32) &&& (255 : Int32)).toUInt32.toUInt16.toUInt32.toInt32)), .val (.int (u1 &&& (3 : Int32))), .val (.ref b72), .val (.ref b97), .val (.int (1 : Int32)), .val (.double (FP.l2d w2)), .second] [(.int (lcmpW w2 (-9007199254740992 : Int64)))])) t → Steps p.tables e below (s₁.setTop (entryFrame m #[(.int u0), (.int u1), (.long w2)] maxLocals)) t := fun t k => pre118 t (by
        show Steps p.tables e below (T117.setTop (mkF m 149 #[.val (.int u0), .val (.int u1), .val (.long w2), .second, .val (.int ((u0 &&& (255 : Int32)).toUInt32.toUInt16.toUInt32.toInt32)), .val (.int ((((u0.toUInt32 >>> ((8 : Int32) &&& 31).toUInt32).toInt32) &&& (255 : Int32)).toUInt32.toUInt16.toUInt32.toInt32)), .val (.int (u1 &&& (3 : Int32))), .val (.ref b72), .val (.ref b97), .val (.int (1 : Int32)), .val (.double (FP.l2d w2)), .second] [(.ref b97)])) _
        refine st119.trans ?_
        show Steps p.tables e below (T119.setTop (mkF m 152 #[.val (.int u0), .val (.int u1), .val (.long w2), .second, .val (.int ((u0 &&& (255 : Int32)).toUInt32.toUInt16.toUInt32.toInt32)), .val (.int ((((u0.toUInt32 >>> ((8 : Int32) &&& 31).toUInt32).toInt32) &&& (255 : Int32)).toUInt32.toUInt16.toUInt32.toInt32)), .val (.int (u1 &&& (3 : Int32))), .val (.ref b72), .val (.ref b97), .val (.int (1 : Int32)), .val (.double (FP.l2d w2)), .second] [(.double (FP.l2d w2))])) _
        refine XS.dload X119.here hx rfl (hb hby at_152) rfl ?_
        show Steps p.tables e below (T119.setTop (mkF m 154 #[.val (.int u0), .val (.int u1), .val (.long w2), .second, .val (.int ((u0 &&& (255 : Int32)).toUInt32.toUInt16.toUInt32.toInt32)), .val (.int ((((u0.toUInt32 >>> ((8 : Int32) &&& 31).toUInt32).toInt32) &&& (255 : Int32)).toUInt32.toUInt16.toUInt32.toInt32)), .val (.int (u1 &&& (3 : Int32))), .val (.ref b72), .val (.ref b97), .val (.int (1 : Int32)), .val (.double (FP.l2d w2)), .second] [(.double (FP.l2d w2)), (.double (FP.l2d w2))])) _
        refine XS.dcmpS X119.here hx rfl (hb hby at_154) rfl rfl ?_
        show Steps p.tables e below (T119.setTop (mkF m 155 #[.val (.int u0), .val (.int u1), .val (.long w2), .second, .val (.int ((u0 &&& (255 : Int32)).toUInt32.toUInt16.toUInt32.toInt32)), .val (.int ((((u0.toUInt32 >>> ((8 : Int32) &&& 31).toUInt32).toInt32) &&& (255 : Int32)).toUInt32.toUInt16.toUInt32.toInt32)), .val (.int (u1 &&& (3 : Int32))), .val (.ref b72), .val (.ref b97), .val (.int (1 : Int32)), .val (.double (FP.l2d w2)), .second] [(.int (cmpValue (FP.dcmp (FP.l2d w2) (FP.l2d w2)) .l))])) _
        refine XS.ifNo X119.here hx rfl (hb hby at_155) rfl ((if0 _ _).trans (teq (dcmpV_self (Jvm.Free.Fl.l2d_fin _).noNaN .l)).2) ?_
        show Steps p.tables e below (T119.setTop (mkF m 158 #[.val (.int u0), .val (.int u1), .val (.long w2), .second, .val (.int ((u0 &&& (255 : Int32)).toUInt32.toUInt16.toUInt32.toInt32)), .val (.int ((((u0.toUInt32 >>> ((8 : Int32) &&& 31).toUInt32).toInt32) &&& (255 : Int32)).toUInt32.toUInt16.toUInt32.toInt32)), .val (.int (u1 &&& (3 : Int32))), .val (.ref b72), .val (.ref b97), .val (.int (1 : Int32)), .val (.double (FP.l2d w2)), .second] [])) _
        refine XS.iconst X119.here hx rfl (hb hby at_158) ?_
        show Steps p.tables e below (T119.setTop (mkF m 159 #[.val (.int u0), .val (.int u1), .val (.long w2), .second, .val (.int ((u0 &&& (255 : Int32)).toUInt32.toUInt16.toUInt32.toInt32)), .val (.int ((((u0.toUInt32 >>> ((8 : Int32) &&& 31).toUInt32).toInt32) &&& (255 : Int32)).toUInt32.toUInt16.toUInt32.toInt32)), .val (.int (u1 &&& (3 : Int32))), .val (.ref b72), .val (.ref b97), .val (.int (1 : Int32)), .val (.double (FP.l2d w2)), .second] [(.int (1 : Int32))])) _
        refine XS.goto X119.here hx rfl (pc0 := 159) (pc' := 163) rfl (hb hby at_159) (by decide) (by decide) ?_
        show Steps p.tables e below (T119.setTop (mkF m 163 #[.val (.int u0), .val (.int u1), .val (.long w2), .second, .val (.int ((u0 &&& (255 : Int32)).toUInt32.toUInt16.toUInt32.toInt32)), .val (.int ((((u0.toUInt32 >>> ((8 : Int32) &&& 31).toUInt32).toInt32) &&& (255 : Int32)).toUInt32.toUInt16.toUInt32.toInt32)), .val (.int (u1 &&& (3 : Int32))), .val (.ref b72), .val (.ref b97), .val (.int (1 : Int32)), .val (.double (FP.l2d w2)), .second] [(.int (1 : Int32))])) _
        refine XS.istore X119.here hx rfl (hb hby at_163) rfl (l' := #[.val (.int u0), .val (.int u1), .val (.long w2), .second, .val (.int ((u0 &&& (255 : Int32)).toUInt32.toUInt16.toUInt32.toInt32)), .val (.int ((((u0.toUInt32 >>> ((8 : Int32) &&& 31).toUInt32).toInt32) &&& (255 : Int32)).toUInt32.toUInt16.toUInt32.toInt32)), .val (.int (u1 &&& (3 : Int32))), .val (.ref b72), .val (.ref b97), .val (.int (1 : Int32)), .val (.double (FP.l2d w2)), .second]) rfl ?_
        show Steps p.tables e below (T119.setTop (mkF m 165 #[.val (.int u0), .val (.int u1), .val (.long w2), .second, .val (.int ((u0 &&& (255 : Int32)).toUInt32.toUInt16.toUInt32.toInt32)), .val (.int ((((u0.toUInt32 >>> ((8 : Int32) &&& 31).toUInt32).toInt32) &&& (255 : Int32)).toUInt32.toUInt16.toUInt32.toInt32)), .val (.int (u1 &&& (3 : Int32))), .val (.ref b72), .val (.ref b97), .val (.int (1 : Int32)), .val (.double (FP.l2d w2)), .second] [])) _
        refine XS.lloadN X119.here hx rfl (hb hby at_165) rfl ?_
        show Steps p.tables e below (T119.setTop (mkF m 166 #[.val (.int u0), .val (.int u1), .val (.long w2), .second, .val (.int ((u0 &&& (255 : Int32)).toUInt32.toUInt16.toUInt32.toInt32)), .val (.int ((((u0.toUInt32 >>> ((8 : Int32) &&& 31).toUInt32).toInt32) &&& (255 : Int32)).toUInt32.toUInt16.toUInt32.toInt32)), .val (.int (u1 &&& (3 : Int32))), .val (.ref b72), .val (.ref b97), .val (.int (1 : Int32)), .val (.double (FP.l2d w2)), .second] [(.long w2)])) _
        refine X119.ldc2Long hx hown (mvT hZ (hw _ (List.mem_of_getElem? (i := 76) rfl))) (g := (mkF m 166 #[.val (.int u0), .val (.int u1), .val (.long w2), .second, .val (.int ((u0 &&& (255 : Int32)).toUInt32.toUInt16.toUInt32.toInt32)), .val (.int ((((u0.toUInt32 >>> ((8 : Int32) &&& 31).toUInt32).toInt32) &&& (255 : Int32)).toUInt32.toUInt16.toUInt32.toInt32)), .val (.int (u1 &&& (3 : Int32))), .val (.ref b72), .val (.ref b97), .val (.int (1 : Int32)), .val (.double (FP.l2d w2)), .second] [(.long w2)])) rfl (hb hby at_166) _ ?_
        show Steps p.tables e below (T119.setTop (mkF m 169 #[.val (.int u0), .val (.int u1), .val (.long w2), .second, .val (.int ((u0 &&& (255 : Int32)).toUInt32.toUInt16.toUInt32.toInt32)), .val (.int ((((u0.toUInt32 >>> ((8 : Int32) &&& 31).toUInt32).toInt32) &&& (255 : Int32)).toUInt32.toUInt16.toUInt32.toInt32)), .val (.int (u1 &&& (3 : Int32))), .val (.ref b72), .val (.ref b97), .val (.int (1 : Int32)), .val (.double (FP.l2d w2)), .second] [(.long (-9007199254740992 : Int64)), (.long w2)])) _
        refine XS.lcmp X119.here hx rfl (hb hby at_169) rfl ?_
        exact k)
      by_cases hc170 : (lcmpW w2 (-9007199254740992 : Int64)) < (0 : Int32)
      · -- pc 170: (lcmpW w2 (-9007199254740992 : Int64)) < (0 : Int32)
        obtain ⟨fs, hr, hrun, hended, hRE⟩ := X119.leaveW (s := s) (vm₁ := s.vm) ((State.WarmedH.refl s).since 0) (by rw [e119]; exact (Nat.zero_le _)) (v := (some (.int (1 : Int32)))) (fun h => by rw [Bd.returns] at h; cases h)
        refine ⟨_, _, pre120 _ ?_, hrun, hended, _, _, rfl, ?_, hRE.1, hRE.2.1, hRE.2.2.1, hRE.2.2.2.mono (by decide) (by decide)⟩
        · show Steps p.tables e below (T119.setTop (mkF m 170 #[.val (.int u0), .val (.int u1), .val (.long w2), .second, .val (.int ((u0 &&& (255 : Int32)).toUInt32.toUInt16.toUInt32.toInt32)), .val (.int ((((u0.toUInt32 >>> ((8 : Int32) &&& 31).toUInt32).toInt32) &&& (255 : Int32)).toUInt32.toUInt16.toUInt32.toInt32)), .val (.int (u1 &&& (3 : Int32))), .val (.ref b72), .val (.ref b97), .val (.int (1 : Int32)), .val (.double (FP.l2d w2)), .second] [(.int (lcmpW w2 (-9007199254740992 : Int64)))])) _
          refine XS.ifYes X119.here hx rfl (pc0 := 170) (pc' := 204) rfl (hb hby at_170) rfl ((if0 _ _).trans (tlt hc170).1) (by decide) (by decide) ?_
          show Steps p.tables e below (T119.setTop (mkF m 204 #[.val (.int u0), .val (.int u1), .val (.long w2), .second, .val (.int ((u0 &&& (255 : Int32)).toUInt32.toUInt16.toUInt32.toInt32)), .val (.int ((((u0.toUInt32 >>> ((8 : Int32) &&& 31).toUInt32).toInt32) &&& (255 : Int32)).toUInt32.toUInt16.toUInt32.toInt32)), .val (.int (u1 &&& (3 : Int32))), .val (.ref b72), .val (.ref b97), .val (.int (1 : Int32)), .val (.double (FP.l2d w2)), .second] [])) _
          refine XS.iload X119.here hx rfl (hb hby at_204) rfl ?_
          show Steps p.tables e below (T119.setTop (mkF m 206 #[.val (.int u0), .val (.int u1), .val (.long w2), .second, .val (.int ((u0 &&& (255 : Int32)).toUInt32.toUInt16.toUInt32.toInt32)), .val (.int ((((u0.toUInt32 >>> ((8 : Int32) &&& 31).toUInt32).toInt32) &&& (255 : Int32)).toUInt32.toUInt16.toUInt32.toInt32)), .val (.int (u1 &&& (3 : Int32))), .val (.ref b72), .val (.ref b97), .val (.int (1 : Int32)), .val (.double (FP.l2d w2)), .second] [(.int (1 : Int32))])) _
          exact retN X119 hx (t := .boolean) Bd.returns (by simp) (hb hby at_206) hr
        · show QL n0 _ T119.heap _
          rw [e119]
          exact ⟨rfl, N119⟩
      · -- pc 170: not (lcmpW w2 (-9007199254740992 : Int64)) < (0 : Int32)
        have pre121 : ∀ t, Steps p.tables e below (T119.setTop (mkF m 178 #[.val (.int u0), .val (.int u1), .val (.long w2), .second, .val (.int ((u0 &&& (255 : Int32)).toUInt32.toUInt16.toUInt32.toInt32)), .val (.int ((((u0.toUInt32 >>> ((8 : Int32) &&& 31).toUInt32).toInt32) &&& (255 : Int32)).toUInt32.toUInt16.toUInt32.toInt32)), .val (.int (u1 &&& (3 : Int32))), .val (.ref b72), .val (.ref b97), .val (.int (1 : Int32)), .val (.double (FP.l2d w2)), .second] [(.int (lcmpW w2 (9007199254740992 : Int64)))])) t → Steps p.tables e below (s₁.setTop (entryFrame m #[(.int u0), (.int u1), (.long w2)] maxLocals)) t := fun t k => pre120 t (by
          show Steps p.tables e below (T119.setTop (mkF m 170 #[.val (.int u0), .val (.int u1), .val (.long w2), .second, .val (.int ((u0 &&& (255 : Int32)).toUInt32.toUInt16.toUInt32.toInt32)), .val (.int ((((u0.toUInt32 >>> ((8 : Int32) &&& 31).toUInt32).toInt32) &&& (255 : Int32)).toUInt32.toUInt16.toUInt32.toInt32)), .val (.int (u1 &&& (3 : Int32))), .val (.ref b72), .val (.ref b97), .val (.int (1 : Int32)), .val (.double (FP.l2d w2)), .second] [(.int (lcmpW w2 (-9007199254740992 : Int64)))])) _
          refine XS.ifNo X119.here hx rfl (hb hby at_170) rfl ((if0 _ _).trans (flt hc170).1) ?_
          show Steps p.tables e below (T119.setTop (mkF m 173 #[.val (.int u0), .val (.int u1), .val (.long w2), .second, .val (.int ((u0 &&& (255 : Int32)).toUInt32.toUInt16.toUInt32.toInt32)), .val (.int ((((u0.toUInt32 >>> ((8 : Int32) &&& 31).toUInt32).toInt32) &&& (255 : Int32)).toUInt32.toUInt16.toUInt32.toInt32)), .val (.int (u1 &&& (3 : Int32))), .val (.ref b72), .val (.ref b97), .val (.int (1 : Int32)), .val (.double (FP.l2d w2)), .second] [])) _
          refine XS.lloadN X119.here hx rfl (hb hby at_173) rfl ?_
          show Steps p.tables e below (T119.setTop (mkF m 174 #[.val (.int u0), .val (.int u1), .val (.long w2), .second, .val (.int ((u0 &&& (255 : Int32)).toUInt32.toUInt16.toUInt32.toInt32)), .val (.int ((((u0.toUInt32 >>> ((8 : Int32) &&& 31).toUInt32).toInt32) &&& (255 : Int32)).toUInt32.toUInt16.toUInt32.toInt32)), .val (.int (u1 &&& (3 : Int32))), .val (.ref b72), .val (.ref b97), .val (.int (1 : Int32)), .val (.double (FP.l2d w2)), .second] [(.long w2)])) _
          refine X119.ldc2Long hx hown (mvT hZ (hw _ (List.mem_of_getElem? (i := 77) rfl))) (g := (mkF m 174 #[.val (.int u0), .val (.int u1), .val (.long w2), .second, .val (.int ((u0 &&& (255 : Int32)).toUInt32.toUInt16.toUInt32.toInt32)), .val (.int ((((u0.toUInt32 >>> ((8 : Int32) &&& 31).toUInt32).toInt32) &&& (255 : Int32)).toUInt32.toUInt16.toUInt32.toInt32)), .val (.int (u1 &&& (3 : Int32))), .val (.ref b72), .val (.ref b97), .val (.int (1 : Int32)), .val (.double (FP.l2d w2)), .second] [(.long w2)])) rfl (hb hby at_174) _ ?_
          show Steps p.tables e below (T119.setTop (mkF m 177 #[.val (.int u0), .val (.int u1), .val (.long w2), .second, .val (.int ((u0 &&& (255 : Int32)).toUInt32.toUInt16.toUInt32.toInt32)), .val (.int ((((u0.toUInt32 >>> ((8 : Int32) &&& 31).toUInt32).toInt32) &&& (255 : Int32)).toUInt32.toUInt16.toUInt32.toInt32)), .val (.int (u1 &&& (3 : Int32))), .val (.ref b72), .val (.ref b97), .val (.int (1 : Int32)), .val (.double (FP.l2d w2)), .second] [(.long (9007199254740992 : Int64)), (.long w2)])) _
          refine XS.lcmp X119.here hx rfl (hb hby at_177) rfl ?_
          exact k)
        by_cases hc178 : (0 : Int32) < (lcmpW w2 (9007199254740992 : Int64))
        · -- pc 178: (0 : Int32) < (lcmpW w2 (9007199254740992 : Int64))
          obtain ⟨fs, hr, hrun, hended, hRE⟩ := X119.leaveW (s := s) (vm₁ := s.vm) ((State.WarmedH.refl s).since 0) (by rw [e119]; exact (Nat.zero_le _)) (v := (some (.int (1 : Int32)))) (fun h => by rw [Bd.returns] at h; cases h)
          refine ⟨_, _, pre121 _ ?_, hrun, hended, _, _, rfl, ?_, hRE.1, hRE.2.1, hRE.2.2.1, hRE.2.2.2.mono (by decide) (by decide)⟩
          · show Steps p.tables e below (T119.setTop (mkF m 178 #[.val (.int u0), .val (.int u1), .val (.long w2), .second, .val (.int ((u0 &&& (255 : Int32)).toUInt32.toUInt16.toUInt32.toInt32)), .val (.int ((((u0.toUInt32 >>> ((8 : Int32) &&& 31).toUInt32).toInt32) &&& (255 : Int32)).toUInt32.toUInt16.toUInt32.toInt32)), .val (.int (u1 &&& (3 : Int32))), .val (.ref b72), .val (.ref b97), .val (.int (1 : Int32)), .val (.double (FP.l2d w2)), .second] [(.int (lcmpW w2 (9007199254740992 : Int64)))])) _
            refine XS.ifYes X119.here hx rfl (pc0 := 178) (pc' := 204) rfl (hb hby at_178) rfl ((if0 _ _).trans (tlt hc178).2.2.1) (by decide) (by decide) ?_
            show Steps p.tables e below (T119.setTop (mkF m 204 #[.val (.int u0), .val (.int u1), .val (.long w2), .second, .val (.int ((u0 &&& (255 : Int32)).toUInt32.toUInt16.toUInt32.toInt32)), .val (.int ((((u0.toUInt32 >>> ((8 : Int32) &&& 31).toUInt32).toInt32) &&& (255 : Int32)).toUInt32.toUInt16.toUInt32.toInt32)), .val (.int (u1 &&& (3 : Int32))), .val (.ref b72), .val (.ref b97), .val (.int (1 : Int32)), .val (.double (FP.l2d w2)), .second] [])) _
            refine XS.iload X119.here hx rfl (hb hby at_204) rfl ?_
            show Steps p.tables e below (T119.setTop (mkF m 206 #[.val (.int u0), .val (.int u1), .val (.long w2), .second, .val (.int ((u0 &&& (255 : Int32)).toUInt32.toUInt16.toUInt32.toInt32)), .val (.int ((((u0.toUInt32 >>> ((8 : Int32) &&& 31).toUInt32).toInt32) &&& (255 : Int32)).toUInt32.toUInt16.toUInt32.toInt32)), .val (.int (u1 &&& (3 : Int32))), .val (.ref b72), .val (.ref b97), .val (.int (1 : Int32)), .val (.double (FP.l2d w2)), .second] [(.int (1 : Int32))])) _
            exact retN X119 hx (t := .boolean) Bd.returns (by simp) (hb hby at_206) hr
          · show QL n0 _ T119.heap _
            rw [e119]
            exact ⟨rfl, N119⟩
        · -- pc 178: not (0 : Int32) < (lcmpW w2 (9007199254740992 : Int64))
          have pre122 : ∀ t, Steps p.tables e below (T119.setTop (mkF m 188 #[.val (.int u0), .val (.int u1), .val (.long w2), .second, .val (.int ((u0 &&& (255 : Int32)).toUInt32.toUInt16.toUInt32.toInt32)), .val (.int ((((u0.toUInt32 >>> ((8 : Int32) &&& 31).toUInt32).toInt32) &&& (255 : Int32)).toUInt32.toUInt16.toUInt32.toInt32)), .val (.int (u1 &&& (3 : Int32))), .val (.ref b72), .val (.ref b97), .val (.int (1 : Int32)), .val (.double (FP.l2d w2)), .second] [(.ref b97)])) t → Steps p.tables e below (s₁.setTop (entryFrame m #[(.int u0), (.int u1), (.long w2)] maxLocals)) t := fun t k => pre121 t (by
            show Steps p.tables e below (T119.setTop (mkF m 178 #[.val (.int u0), .val (.int u1), .val (.long w2), .second, .val (.int ((u0 &&& (255 : Int32)).toUInt32.toUInt16.toUInt32.toInt32)), .val (.int ((((u0.toUInt32 >>> ((8 : Int32) &&& 31).toUInt32).toInt32) &&& (255 : Int32)).toUInt32.toUInt16.toUInt32.toInt32)), .val (.int (u1 &&& (3 : Int32))), .val (.ref b72), .val (.ref b97), .val (.int (1 : Int32)), .val (.double (FP.l2d w2)), .second] [(.int (lcmpW w2 (9007199254740992 : Int64)))])) _
            refine XS.ifNo X119.here hx rfl (hb hby at_178) rfl ((if0 _ _).trans (flt hc178).2.2.1) ?_
            show Steps p.tables e below (T119.setTop (mkF m 181 #[.val (.int u0), .val (.int u1), .val (.long w2), .second, .val (.int ((u0 &&& (255 : Int32)).toUInt32.toUInt16.toUInt32.toInt32)), .val (.int ((((u0.toUInt32 >>> ((8 : Int32) &&& 31).toUInt32).toInt32) &&& (255 : Int32)).toUInt32.toUInt16.toUInt32.toInt32)), .val (.int (u1 &&& (3 : Int32))), .val (.ref b72), .val (.ref b97), .val (.int (1 : Int32)), .val (.double (FP.l2d w2)), .second] [])) _
            refine XS.iload X119.here hx rfl (hb hby at_181) rfl ?_
            show Steps p.tables e below (T119.setTop (mkF m 183 #[.val (.int u0), .val (.int u1), .val (.long w2), .second, .val (.int ((u0 &&& (255 : Int32)).toUInt32.toUInt16.toUInt32.toInt32)), .val (.int ((((u0.toUInt32 >>> ((8 : Int32) &&& 31).toUInt32).toInt32) &&& (255 : Int32)).toUInt32.toUInt16.toUInt32.toInt32)), .val (.int (u1 &&& (3 : Int32))), .val (.ref b72), .val (.ref b97), .val (.int (1 : Int32)), .val (.double (FP.l2d w2)), .second] [(.int (1 : Int32))])) _
            refine XS.ifNo X119.here hx rfl (hb hby at_183) rfl ((if0 _ _).trans (feq (by decide : ¬ ((1 : Int32) = (0 : Int32)))).1) ?_
            show Steps p.tables e below (T119.setTop (mkF m 186 #[.val (.int u0), .val (.int u1), .val (.long w2), .second, .val (.int ((u0 &&& (255 : Int32)).toUInt32.toUInt16.toUInt32.toInt32)), .val (.int ((((u0.toUInt32 >>> ((8 : Int32) &&& 31).toUInt32).toInt32) &&& (255 : Int32)).toUInt32.toUInt16.toUInt32.toInt32)), .val (.int (u1 &&& (3 : Int32))), .val (.ref b72), .val (.ref b97), .val (.int (1 : Int32)), .val (.double (FP.l2d w2)), .second] [])) _
            refine XS.aload X119.here hx rfl (hb hby at_186) rfl rfl ?_
            exact k)
          obtain ⟨cq123, kq123, q123a, q123b, q123c⟩ := isOf hZ e119 E_r97
          obtain ⟨_, _, ⟨T123, L123, k123, n123⟩, -, X123, ⟨Lc123, hQ123, l123, y123, z123⟩, st123⟩ := X119.virtualBack hx (y := (⟨"com/example/scorpus/scorpus/engine/Explanation$Figure", "value", "()D"⟩ : MethodName)) (z := (⟨"com/example/scorpus/scorpus/engine/Explanation$Figure", "value", "()D"⟩ : MethodName)) hown (mvT hZ (hw _ (List.mem_of_getElem? (i := 71) rfl))) (mvT hZ (hw _ (List.mem_of_getElem? (i := 72) rfl))) (notFace_of_selects (args := #[]) (mvT hZ (hw _ (List.mem_of_getElem? (i := 74) rfl)))) (mvT hZ (hw _ (List.mem_of_getElem? (i := 74) rfl))) (mvT hZ (hw _ (List.mem_of_getElem? (i := 73) rfl))) (by decide) (backOf (W := 0) (rm14 l Z a0 hw [] b97 (FP.l2d w2) T97.heap n0 (Nat.le_trans Z0 K97.1) F_value97) hZ (hw _ (List.mem_of_getElem? (i := 75) rfl)) (hw _ (List.mem_of_getElem? (i := 32) rfl)) (by decide) (by decide)) q123a q123c (g := (mkF m 188 #[.val (.int u0), .val (.int u1), .val (.long w2), .second, .val (.int ((u0 &&& (255 : Int32)).toUInt32.toUInt16.toUInt32.toInt32)), .val (.int ((((u0.toUInt32 >>> ((8 : Int32) &&& 31).toUInt32).toInt32) &&& (255 : Int32)).toUInt32.toUInt16.toUInt32.toInt32)), .val (.int (u1 &&& (3 : Int32))), .val (.ref b72), .val (.ref b97), .val (.int (1 : Int32)), .val (.double (FP.l2d w2)), .second] [(.ref b97)])) rfl (by rw [hml]; rfl) (Steps.refl _) (argsL := []) (rest := []) (lenOf pd_15 rfl) rfl (by show 2 * 0 + _ ≤ _; exact Nat.le_of_eq rfl) (hb hby at_188) (fun _ _ => ⟨rfl, e119, (by decide : 4 + 0 ≤ _), (by decide : 11 + 0 ≤ _)⟩)
          dsimp only [Pt.U, Pt.locs, Pt.cells, Pt.slots] at X123 l123 y123 z123 st123 hQ123
          subst l123 y123 z123
          obtain ⟨rfl, N123q, e123⟩ := hQ123
          have N123 := Fr.app N119 N123q
          obtain ⟨fs, hr, hrun, hended, hRE⟩ := X123.leaveW (s := s) (vm₁ := s.vm) ((State.WarmedH.refl s).since 0) (by rw [e123]; exact (Nat.zero_le _)) (v := (some (.int (1 : Int32)))) (fun h => by rw [Bd.returns] at h; cases h)
          refine ⟨_, _, pre122 _ ?_, hrun, hended, _, _, rfl, ?_, hRE.1, hRE.2.1, hRE.2.2.1, hRE.2.2.2.mono (by decide) (by decide)⟩
          · show Steps p.tables e below (T119.setTop (mkF m 188 #[.val (.int u0), .val (.int u1), .val (.long w2), .second, .val (.int ((u0 &&& (255 : Int32)).toUInt32.toUInt16.toUInt32.toInt32)), .val (.int ((((u0.toUInt32 >>> ((8 : Int32) &&& 31).toUInt32).toInt32) &&& (255 : Int32)).toUInt32.toUInt16.toUInt32.toInt32)), .val (.int (u1 &&& (3 : Int32))), .val (.ref b72), .val (.ref b97), .val (.int (1 : Int32)), .val (.double (FP.l2d w2)), .second] [(.ref b97)])) _
            refine st123.trans ?_
            show Steps p.tables e below (T123.setTop (mkF m 191 #[.val (.int u0), .val (.int u1), .val (.long w2), .second, .val (.int ((u0 &&& (255 : Int32)).toUInt32.toUInt16.toUInt32.toInt32)), .val (.int ((((u0.toUInt32 >>> ((8 : Int32) &&& 31).toUInt32).toInt32) &&& (255 : Int32)).toUInt32.toUInt16.toUInt32.toInt32)), .val (.int (u1 &&& (3 : Int32))), .val (.ref b72), .val (.ref b97), .val (.int (1 : Int32)), .val (.double (FP.l2d w2)), .second] [(.double (FP.l2d w2))])) _
            refine XS.d2lS X123.here hx rfl (hb hby at_191) rfl rfl ?_
            show Steps p.tables e below (T123.setTop (mkF m 192 #[.val (.int u0), .val (.int u1), .val (.long w2), .second, .val (.int ((u0 &&& (255 : Int32)).toUInt32.toUInt16.toUInt32.toInt32)), .val (.int ((((u0.toUInt32 >>> ((8 : Int32) &&& 31).toUInt32).toInt32) &&& (255 : Int32)).toUInt32.toUInt16.toUInt32.toInt32)), .val (.int (u1 &&& (3 : Int32))), .val (.ref b72), .val (.ref b97), .val (.int (1 : Int32)), .val (.double (FP.l2d w2)), .second] [(.long (FP.d2l (FP.l2d w2)))])) _
            refine XS.lloadN X123.here hx rfl (hb hby at_192) rfl ?_
            show Steps p.tables e below (T123.setTop (mkF m 193 #[.val (.int u0), .val (.int u1), .val (.long w2), .second, .val (.int ((u0 &&& (255 : Int32)).toUInt32.toUInt16.toUInt32.toInt32)), .val (.int ((((u0.toUInt32 >>> ((8 : Int32) &&& 31).toUInt32).toInt32) &&& (255 : Int32)).toUInt32.toUInt16.toUInt32.toInt32)), .val (.int (u1 &&& (3 : Int32))), .val (.ref b72), .val (.ref b97), .val (.int (1 : Int32)), .val (.double (FP.l2d w2)), .second] [(.long w2), (.long (FP.d2l (FP.l2d w2)))])) _
            refine XS.lcmp X123.here hx rfl (hb hby at_193) rfl ?_
            show Steps p.tables e below (T123.setTop (mkF m 194 #[.val (.int u0), .val (.int u1), .val (.long w2), .second, .val (.int ((u0 &&& (255 : Int32)).toUInt32.toUInt16.toUInt32.toInt32)), .val (.int ((((u0.toUInt32 >>> ((8 : Int32) &&& 31).toUInt32).toInt32) &&& (255 : Int32)).toUInt32.toUInt16.toUInt32.toInt32)), .val (.int (u1 &&& (3 : Int32))), .val (.ref b72), .val (.ref b97), .val (.int (1 : Int32)), .val (.double (FP.l2d w2)), .second] [(.int (lcmpW (FP.d2l (FP.l2d w2)) w2))])) _
            refine XS.ifNo X123.here hx rfl (hb hby at_194) rfl ((if0 _ _).trans (teq ((lw_eq _ _).mpr (own_d2l hc170 hc178))).2) ?_
            show Steps p.tables e below (T123.setTop (mkF m 197 #[.val (.int u0), .val (.int u1), .val (.long w2), .second, .val (.int ((u0 &&& (255 : Int32)).toUInt32.toUInt16.toUInt32.toInt32)), .val (.int ((((u0.toUInt32 >>> ((8 : Int32) &&& 31).toUInt32).toInt32) &&& (255 : Int32)).toUInt32.toUInt16.toUInt32.toInt32)), .val (.int (u1 &&& (3 : Int32))), .val (.ref b72), .val (.ref b97), .val (.int (1 : Int32)), .val (.double (FP.l2d w2)), .second] [])) _
            refine XS.iconst X123.here hx rfl (hb hby at_197) ?_
            show Steps p.tables e below (T123.setTop (mkF m 198 #[.val (.int u0), .val (.int u1), .val (.long w2), .second, .val (.int ((u0 &&& (255 : Int32)).toUInt32.toUInt16.toUInt32.toInt32)), .val (.int ((((u0.toUInt32 >>> ((8 : Int32) &&& 31).toUInt32).toInt32) &&& (255 : Int32)).toUInt32.toUInt16.toUInt32.toInt32)), .val (.int (u1 &&& (3 : Int32))), .val (.ref b72), .val (.ref b97), .val (.int (1 : Int32)), .val (.double (FP.l2d w2)), .second] [(.int (1 : Int32))])) _
            refine XS.goto X123.here hx rfl (pc0 := 198) (pc' := 202) rfl (hb hby at_198) (by decide) (by decide) ?_
            show Steps p.tables e below (T123.setTop (mkF m 202 #[.val (.int u0), .val (.int u1), .val (.long w2), .second, .val (.int ((u0 &&& (255 : Int32)).toUInt32.toUInt16.toUInt32.toInt32)), .val (.int ((((u0.toUInt32 >>> ((8 : Int32) &&& 31).toUInt32).toInt32) &&& (255 : Int32)).toUInt32.toUInt16.toUInt32.toInt32)), .val (.int (u1 &&& (3 : Int32))), .val (.ref b72), .val (.ref b97), .val (.int (1 : Int32)), .val (.double (FP.l2d w2)), .second] [(.int (1 : Int32))])) _
            refine XS.istore X123.here hx rfl (hb hby at_202) rfl (l' := #[.val (.int u0), .val (.int u1), .val (.long w2), .second, .val (.int ((u0 &&& (255 : Int32)).toUInt32.toUInt16.toUInt32.toInt32)), .val (.int ((((u0.toUInt32 >>> ((8 : Int32) &&& 31).toUInt32).toInt32) &&& (255 : Int32)).toUInt32.toUInt16.toUInt32.toInt32)), .val (.int (u1 &&& (3 : Int32))), .val (.ref b72), .val (.ref b97), .val (.int (1 : Int32)), .val (.double (FP.l2d w2)), .second]) rfl ?_
            show Steps p.tables e below (T123.setTop (mkF m 204 #[.val (.int u0), .val (.int u1), .val (.long w2), .second, .val (.int ((u0 &&& (255 : Int32)).toUInt32.toUInt16.toUInt32.toInt32)), .val (.int ((((u0.toUInt32 >>> ((8 : Int32) &&& 31).toUInt32).toInt32) &&& (255 : Int32)).toUInt32.toUInt16.toUInt32.toInt32)), .val (.int (u1 &&& (3 : Int32))), .val (.ref b72), .val (.ref b97), .val (.int (1 : Int32)), .val (.double (FP.l2d w2)), .second] [])) _
            refine XS.iload X123.here hx rfl (hb hby at_204) rfl ?_
            show Steps p.tables e below (T123.setTop (mkF m 206 #[.val (.int u0), .val (.int u1), .val (.long w2), .second, .val (.int ((u0 &&& (255 : Int32)).toUInt32.toUInt16.toUInt32.toInt32)), .val (.int ((((u0.toUInt32 >>> ((8 : Int32) &&& 31).toUInt32).toInt32) &&& (255 : Int32)).toUInt32.toUInt16.toUInt32.toInt32)), .val (.int (u1 &&& (3 : Int32))), .val (.ref b72), .val (.ref b97), .val (.int (1 : Int32)), .val (.double (FP.l2d w2)), .second] [(.int (1 : Int32))])) _
            exact retN X123 hx (t := .boolean) Bd.returns (by simp) (hb hby at_206) hr
          · show QL n0 _ T123.heap _
            rw [e123]
            exact ⟨rfl, N123⟩
set_option maxRecDepth 65536 in
set_option maxHeartbeats 40000000 in
theorem comes_1 {Post : Tables → Env → Array Value → State → Outcome → State → Prop} (hpost : ∀ tb e args s v u, (limb_1_1.after args s (.returned v) u = true ∧ limb_1_2.after args s (.returned v) u = true ∧ True) → ReturnedEndW s (.returned v) u (Jvm.fieldLocs frame_1_writes args s ++ Jvm.arrayLocs frame_1_arrays args s ++ Jvm.staticLocs frame_1_statics s) 24 1152 → Post tb e args s (.returned v) u) :
    ArmFor flags0 classFile x code maxLocals ret World_1 tables_1 room_1 Calls_1 rest_1 Pre_1 Post := by
  intro l hfl _ _ p e ha hc hk s m args below hf hA hF happ hP
  obtain ⟨hcalls, hrest, hpre⟩ := hP
  obtain ⟨-, -, -, hnamed, -, -, -, hat⟩ := (Spec.applies_iff hf).mp happ
  obtain ⟨hg, hn⟩ := and_e (Cond.before_iff.mp (show (Jvm.Cond.and given_1 narrow_1).before args s = true from hpre))
  obtain ⟨g0, G0⟩ := and_e hg
  obtain ⟨v0, G1⟩ := and_e G0
  obtain ⟨v1, G2⟩ := and_e G1
  have v2 := G2
  obtain ⟨w0, w1, w2, rfl⟩ : ∃ w0 w1 w2 : Value, args = #[w0, w1, w2] := by
    have hs : args.size = 3 := by simpa [Cond.value, given_1] using g0
    obtain ⟨L⟩ := args
    match L, hs with
    | [w0, w1, w2], _ => exact ⟨w0, w1, w2, rfl⟩
  have hw := fun d (hd : d ∈ tables_1) => atoms_spec (ws := Jvm.Cond.code x code maxLocals ret :: tables_1) hat d (List.mem_cons_of_mem _ hd)
  have hfit : Fit s := fun {y c} hc i hi => by
    obtain ⟨ha, rfl⟩ := Array.getElem?_eq_some_iff.mp hc
    have q := List.all_eq_true.mp ((Array.all_eq_true_iff_forall_mem.mp hF) _ (Array.getElem_mem ha)) i (List.mem_range.mpr hi)
    simpa [Array.getElem?_eq_getElem hi] using q
  obtain ⟨hsets, hown0⟩ := atoms_of _ (rest_1_c_eq ▸ (show rest_1_c.before _ s = true from hrest))
  obtain ⟨i0, ei0⟩ := is_v v0
  obtain rfl : w0 = (.int i0) := Option.some.inj ei0
  obtain ⟨i1, ei1⟩ := is_v v1
  obtain rfl : w1 = (.int i1) := Option.some.inj ei1
  obtain ⟨i2, ei2⟩ := isL_v v2
  obtain rfl : w2 = (.long i2) := Option.some.inj ei2
  obtain ⟨cs, ecs⟩ := is_v (Cond.before_iff.mp (hsets _ (List.mem_of_getElem? (i := 1) rfl)))
  have SZ_C := Sta.start ecs (Or.inl (hsets _ (List.mem_of_getElem? (i := 0) rfl)))
  have hcs : ¬ cs = 0 := fun q => by
    have h0 := not_v (Cond.before_iff.mp (hsets _ (List.mem_of_getElem? (i := 2) rfl)))
    rw [q] at ecs
    exact absurd ((eq_i ecs (Term.int_eval 0) rfl).symm.trans h0) (by decide)
  have HZ : CHv s own_EL s.vm s.heap := CHv.start (own_EW hw) (show ∀ p ∈ own_EL, Jvm.Lit.constHeld s p.1 p.2 from (show call_1_1 p.tables e _ s ∧ True from hcalls).1) (hsets _ (List.mem_of_getElem? (i := 2) rfl)) (hw _ (List.mem_of_getElem? (i := 19) rfl)) (hw _ (List.mem_of_getElem? (i := 1) rfl))
  obtain ⟨n, o, h1, h2, h3, _, L, rfl, ⟨rfl, N⟩, hq⟩ := rm0 l s _ hw tables_1 i0 i1 i2 cs s.heap s.heap.size (Nat.le_refl _) SZ_C hcs (Old.start s) HZ p e ha hc hk s m _ below hf ((Spec.applies_iff_loose hf).mp happ).1 ⟨rfl, State.Warmed39.refl s, rfl, rfl⟩ trivial
  refine ⟨n, _, h1, h2, h3, hpost _ _ _ _ _ _ ⟨Cond.after_iff.mpr rfl, Cond.after_iff.mpr (eq_i res_at (Term.int_eval (1)) rfl), trivial⟩ ⟨hq.1, hq.2.1, hq.2.2.1, (hq.2.2.2.sift fun y hy => Or.inr (N y hy)).mono (by decide) (by decide)⟩⟩
theorem main_1_1 : Claimed_1_1 := comes_1 fun _ _ _ _ _ _ h hF => ⟨h.1, hF⟩
theorem main_1_2 : Claimed_1_2 := comes_1 fun _ _ _ _ _ _ h hF => ⟨h.2.1, hF⟩
end Jvm.Pilot.@@N@@
namespace Jvm.Pilot.@@N@@
open Jvm Jvm.ClassFile Sem Op Lib Jvm.Free Jvm.Stand Jvm.Pilot.@@N@@.Jvm.D
/-! MADE BY PROGRAM (witnessworld.py) out of the Statement's table words and the real class files: 20 classes; the members and pool entries that the words name. The judged class is class 1, her method 1. -/
namespace start1
open Jvm.ClassFile
def u (s : String) : CpInfo := .utf8 (stringToUtf16 s)
/-- a pool by its gaps: so many unusable entries, then the entry; so many at the end -/
def gap : Nat → List CpInfo → List CpInfo
  | 0, r => r
  | n + 1, r => .unusable :: gap n r
def poolList (es : List (Nat × CpInfo)) (last : Nat) : List CpInfo := es.foldr (fun e r => gap e.1 (e.2 :: r)) (gap last [])
def pool (es : List (Nat × CpInfo)) (last : Nat) : Array CpInfo := ⟨poolList es last⟩
def fileOf (pool : Array CpInfo) (this : Nat) (attrs : Array Attribute := #[]) (ms : Array MethodInfo := #[]) (fl : Nat := 33) (sup : Nat := 0) (ifs : Array Nat := #[]) (fds : Array FieldInfo := #[]) : ClassFile where
  minorVersion := 0
  majorVersion := 65
  constantPool := pool
  accessFlags := fl
  thisClass := this
  superClass := sup
  interfaces := ifs
  fields := fds
  methods := ms
  attributes := attrs
def plain (name : String) (sup : Option ClassId) : Class where
  name := name
  kind := .ordinary
  loader := none
  accessFlags := 33
  super := sup
  interfaces := #[]
  cf := none
  fields := #[]
  methods := #[]
  instanceTypes := #[]
  staticTypes := #[]
  resolved := #[]
  callSites := []
  init := .initialized
  statics := none
  mirror := none

def pool0 : Array CpInfo := pool [(5, u "<init>"), (0, u "()V"), (1, .class_ 10), (1, u "java/lang/Object")] 113

def k0c0 : Code := { maxStack := 0, maxLocals := 1, code := object_method_1_code, exceptionTable := #[], attributes := #[] }
def k0m0 : Method := { name := "<init>", desc := "()V", sig := { parameters := [], returnType := none }, accessFlags := 1, code := some k0c0 }
/-- java/lang/Object -/
def k0 : Class := { plain "java/lang/Object" none with
  accessFlags := 33
  interfaces := #[]
  cf := some (fileOf pool0 8 #[] #[{ accessFlags := 1, nameIndex := 5, descriptorIndex := 6, attributes := #[] }] 33 0 #[] #[])
  fields := #[]
  methods := #[k0m0]
  instanceTypes := #[]
  staticTypes := #[]
  resolved := Array.replicate 124 none
  statics := none }

def pool1 : Array CpInfo := pool [(2, .class_ 4), (1, u "java/lang/Object"), (0, u "<init>"), (0, u "()V"), (0, .class_ 8), (0, u "java/lang/String"), (0, .methodref 7 10), (0, .nameAndType 5 11), (0, u "([C)V"), (0, .methodref 7 13), (0, .nameAndType 14 15), (0, u "valueOf"), (0, u "(C)Ljava/lang/String;"), (0, .methodref 17 18), (0, .class_ 19), (0, .nameAndType 20 21), (0, u "com/example/scorpus/scorpus/engine/Explanation$Figure"), (0, u "count"), (0, u "(Ljava/lang/String;J)Lcom/example/scorpus/scorpus/engine/Explanation$Figure;"), (0, .methodref 17 23), (0, .nameAndType 24 25), (0, u "isCount"), (0, u "()Z"), (0, .methodref 17 27), (0, .nameAndType 28 29), (0, u "name"), (0, u "()Ljava/lang/String;"), (0, .methodref 7 31), (0, .nameAndType 32 33), (0, u "equals"), (0, u "(Ljava/lang/Object;)Z"), (0, .methodref 7 35), (0, .nameAndType 36 37), (0, u "length"), (0, u "()I"), (0, .methodref 17 39), (0, .nameAndType 40 41), (0, u "value"), (0, u "()D"), (0, .long 18437736874454810624), (1, .long 9007199254740992), (1, .class_ 47), (0, u "com/example/scorpus/scorpus/engine/FigureCountPinLaw"), (2, u "law"), (0, u "(IIJ)Z")] 7

def k1m0 : Method := { name := "<init>", desc := "()V", sig := { parameters := [], returnType := none }, accessFlags := 2, code := none }
def k1c1 : Code := { maxStack := 6, maxLocals := 12, code := code, exceptionTable := #[], attributes := #[] }
def k1m1 : Method := { name := "law", desc := "(IIJ)Z", sig := { parameters := [.int, .int, .long], returnType := some .boolean }, accessFlags := 9, code := some k1c1 }
/-- com/example/scorpus/scorpus/engine/FigureCountPinLaw -/
def k1 : Class := { plain "com/example/scorpus/scorpus/engine/FigureCountPinLaw" (some 0) with
  accessFlags := 49
  interfaces := #[]
  cf := some (fileOf pool1 46 #[] #[{ accessFlags := 2, nameIndex := 5, descriptorIndex := 6, attributes := #[] }, { accessFlags := 9, nameIndex := 50, descriptorIndex := 51, attributes := #[] }] 49 2 #[] #[])
  fields := #[]
  methods := #[k1m0, k1m1]
  instanceTypes := #[]
  staticTypes := #[]
  resolved := Array.replicate 59 none
  statics := none }

def pool2 : Array CpInfo := pool [(1, .class_ 2), (0, u "java/io/Serializable"), (0, .class_ 4), (0, u "java/lang/Object")] 2

/-- java/io/Serializable -/
def k2 : Class := { plain "java/io/Serializable" (some 0) with
  accessFlags := 1537
  interfaces := #[]
  cf := some (fileOf pool2 1 #[] #[] 1537 3 #[] #[])
  fields := #[]
  methods := #[]
  instanceTypes := #[]
  staticTypes := #[]
  resolved := Array.replicate 7 none
  statics := none }

def pool3 : Array CpInfo := pool [(1, .class_ 2), (0, u "java/lang/Comparable"), (0, .class_ 4), (0, u "java/lang/Object")] 7

/-- java/lang/Comparable -/
def k3 : Class := { plain "java/lang/Comparable" (some 0) with
  accessFlags := 1537
  interfaces := #[]
  cf := some (fileOf pool3 1 #[] #[] 1537 3 #[] #[])
  fields := #[]
  methods := #[]
  instanceTypes := #[]
  staticTypes := #[]
  resolved := Array.replicate 12 none
  statics := none }

def pool4 : Array CpInfo := pool [(2, .class_ 4), (1, u "java/lang/CharSequence"), (42, .class_ 48), (0, u "java/lang/CharSequence$1CodePointIterator"), (10, .class_ 60), (0, u "java/lang/CharSequence$1CharIterator"), (5, .class_ 67), (0, u "java/lang/Object")] 63

/-- java/lang/CharSequence -/
def k4 : Class := { plain "java/lang/CharSequence" (some 0) with
  accessFlags := 1537
  interfaces := #[]
  cf := some (fileOf pool4 2 #[.nestMembers #[47, 59]] #[] 1537 66 #[] #[])
  fields := #[]
  methods := #[]
  instanceTypes := #[]
  staticTypes := #[]
  resolved := Array.replicate 131 none
  statics := none }

def pool5 : Array CpInfo := pool [(1, .class_ 2), (0, u "java/lang/constant/Constable"), (0, .class_ 4), (0, u "java/lang/Object")] 6

/-- java/lang/constant/Constable -/
def k5 : Class := { plain "java/lang/constant/Constable" (some 0) with
  accessFlags := 1537
  interfaces := #[]
  cf := some (fileOf pool5 1 #[] #[] 1537 3 #[] #[])
  fields := #[]
  methods := #[]
  instanceTypes := #[]
  staticTypes := #[]
  resolved := Array.replicate 11 none
  statics := none }

def pool6 : Array CpInfo := pool [(1, .class_ 2), (0, u "java/lang/constant/ConstantDesc"), (0, .class_ 4), (0, u "java/lang/Object")] 32

/-- java/lang/constant/ConstantDesc -/
def k6 : Class := { plain "java/lang/constant/ConstantDesc" (some 0) with
  accessFlags := 1537
  interfaces := #[]
  cf := some (fileOf pool6 1 #[] #[] 1537 3 #[] #[])
  fields := #[]
  methods := #[]
  instanceTypes := #[]
  staticTypes := #[]
  resolved := Array.replicate 37 none
  statics := none }

def pool7 : Array CpInfo := pool [(1, .methodref 2 3), (0, .class_ 4), (0, .nameAndType 5 6), (0, u "java/lang/Object"), (0, u "<init>"), (0, u "()V"), (0, .string 8), (0, u ""), (0, .fieldref 10 11), (0, .class_ 12), (0, .nameAndType 13 14), (0, u "java/lang/String"), (0, u "value"), (0, u "[B"), (0, .fieldref 10 16), (0, .nameAndType 17 18), (0, u "coder"), (0, u "B"), (2, u "hash"), (0, u "I"), (2, u "hashIsZero"), (0, u "Z"), (0, .methodref 10 28), (0, .nameAndType 5 29), (0, u "([CIILjava/lang/Void;)V"), (8, .fieldref 10 39), (0, .nameAndType 40 26), (0, u "COMPACT_STRINGS"), (1, .class_ 44), (1, u "java/lang/StringUTF16"), (0, u "compress"), (1, .methodref 42 48), (0, .nameAndType 49 50), (0, u "coderFromArrayLen"), (0, u "([BI)B"), (2, u "toBytes"), (53, .class_ 109), (1, u "java/lang/StringLatin1"), (67, .methodref 42 178), (0, .nameAndType 45 179), (0, u "([CII)[B"), (29, .methodref 10 210), (0, .nameAndType 5 211), (0, u "([BB)V"), (122, u "()I"), (0, .methodref 10 336), (0, .nameAndType 17 337), (0, u "()B"), (31, u "(C)Z"), (137, u "length"), (35, u "equals"), (29, u "(Ljava/lang/Object;)Z"), (1, .class_ 576), (0, u "java/lang/CharSequence"), (22, u "CASE_INSENSITIVE_ORDER"), (0, u "Ljava/util/Comparator;"), (181, u "valueOf"), (0, u "(C)Ljava/lang/String;"), (226, u "([C)V"), (4, .methodref 107 1016), (0, .nameAndType 1017 369), (0, u "canEncode"), (0, .methodref 107 1019), (0, .nameAndType 53 1020), (0, u "(C)[B"), (80, u "serialPersistentFields"), (0, u "[Ljava/io/ObjectStreamField;"), (0, .class_ 1104), (0, u "java/lang/String$CaseInsensitiveComparator"), (1, .class_ 1107), (0, u "java/io/Serializable"), (0, .class_ 1109), (0, u "java/lang/Comparable"), (0, .class_ 1111), (0, u "java/lang/constant/Constable"), (0, .class_ 1113), (0, u "java/lang/constant/ConstantDesc"), (2, u "serialVersionUID"), (0, u "J"), (3, u "REPL"), (0, u "C"), (2, u "LATIN1"), (1, u "UTF16")] 323

def k7m0 : Method := { name := "<init>", desc := "()V", sig := { parameters := [], returnType := none }, accessFlags := 1, code := none }
def k7c1 : Code := { maxStack := 5, maxLocals := 2, code := jdk_42_method_3_code, exceptionTable := #[], attributes := #[] }
def k7m1 : Method := { name := "<init>", desc := "([C)V", sig := { parameters := [(.array .char)], returnType := none }, accessFlags := 1, code := some k7c1 }
def k7c2 : Code := { maxStack := 2, maxLocals := 1, code := jdk_42_method_54_code, exceptionTable := #[], attributes := #[] }
def k7m2 : Method := { name := "length", desc := "()I", sig := { parameters := [], returnType := some .int }, accessFlags := 1, code := some k7c2 }
def k7c3 : Code := { maxStack := 2, maxLocals := 3, code := jdk_42_method_66_code, exceptionTable := #[], attributes := #[] }
def k7m3 : Method := { name := "equals", desc := "(Ljava/lang/Object;)Z", sig := { parameters := [(.object "java/lang/Object")], returnType := some .boolean }, accessFlags := 1, code := some k7c3 }
def k7c4 : Code := { maxStack := 4, maxLocals := 1, code := jdk_42_method_139_code, exceptionTable := #[], attributes := #[] }
def k7m4 : Method := { name := "valueOf", desc := "(C)Ljava/lang/String;", sig := { parameters := [.char], returnType := some (.object "java/lang/String") }, accessFlags := 9, code := some k7c4 }
def k7c5 : Code := { maxStack := 4, maxLocals := 6, code := jdk_42_method_149_code, exceptionTable := #[], attributes := #[] }
def k7m5 : Method := { name := "<init>", desc := "([CIILjava/lang/Void;)V", sig := { parameters := [(.array .char), .int, .int, (.object "java/lang/Void")], returnType := none }, accessFlags := 2, code := some k7c5 }
def k7c6 : Code := { maxStack := 2, maxLocals := 3, code := jdk_42_method_151_code, exceptionTable := #[], attributes := #[] }
def k7m6 : Method := { name := "<init>", desc := "([BB)V", sig := { parameters := [(.array .byte), .byte], returnType := none }, accessFlags := 0, code := some k7c6 }
def k7c7 : Code := { maxStack := 1, maxLocals := 1, code := jdk_42_method_152_code, exceptionTable := #[], attributes := #[] }
def k7m7 : Method := { name := "coder", desc := "()B", sig := { parameters := [], returnType := some .byte }, accessFlags := 0, code := some k7c7 }
/-- java/lang/String -/
def k7 : Class := { plain "java/lang/String" (some 0) with
  accessFlags := 49
  interfaces := #[2, 3, 4, 5, 6]
  cf := some (fileOf pool7 10 #[.nestMembers #[1103]] #[{ accessFlags := 1, nameIndex := 5, descriptorIndex := 6, attributes := #[] }, { accessFlags := 1, nameIndex := 5, descriptorIndex := 1010, attributes := #[] }, { accessFlags := 1, nameIndex := 507, descriptorIndex := 334, attributes := #[] }, { accessFlags := 1, nameIndex := 543, descriptorIndex := 573, attributes := #[] }, { accessFlags := 9, nameIndex := 782, descriptorIndex := 783, attributes := #[] }, { accessFlags := 2, nameIndex := 5, descriptorIndex := 29, attributes := #[] }, { accessFlags := 0, nameIndex := 5, descriptorIndex := 211, attributes := #[] }, { accessFlags := 0, nameIndex := 17, descriptorIndex := 337, attributes := #[] }] 49 2 #[1106, 1108, 575, 1110, 1112] #[{ accessFlags := 18, nameIndex := 13, descriptorIndex := 14, attributes := #[] }, { accessFlags := 18, nameIndex := 17, descriptorIndex := 18, attributes := #[] }, { accessFlags := 2, nameIndex := 21, descriptorIndex := 22, attributes := #[] }, { accessFlags := 2, nameIndex := 25, descriptorIndex := 26, attributes := #[] }, { accessFlags := 26, nameIndex := 1116, descriptorIndex := 1117, attributes := #[] }, { accessFlags := 24, nameIndex := 40, descriptorIndex := 26, attributes := #[] }, { accessFlags := 26, nameIndex := 1101, descriptorIndex := 1102, attributes := #[] }, { accessFlags := 26, nameIndex := 1121, descriptorIndex := 1122, attributes := #[] }, { accessFlags := 25, nameIndex := 599, descriptorIndex := 600, attributes := #[] }, { accessFlags := 24, nameIndex := 1125, descriptorIndex := 18, attributes := #[] }, { accessFlags := 24, nameIndex := 1127, descriptorIndex := 18, attributes := #[] }])
  fields := #[{ name := "value", type := (.array .byte), accessFlags := 18, slot := 0, constantValue := 0 }, { name := "coder", type := .byte, accessFlags := 18, slot := 1, constantValue := 0 }, { name := "hash", type := .int, accessFlags := 2, slot := 2, constantValue := 0 }, { name := "hashIsZero", type := .boolean, accessFlags := 2, slot := 3, constantValue := 0 }, { name := "serialVersionUID", type := .long, accessFlags := 26, slot := 0, constantValue := 0 }, { name := "COMPACT_STRINGS", type := .boolean, accessFlags := 24, slot := 1, constantValue := 0 }, { name := "serialPersistentFields", type := (.array (.object "java/io/ObjectStreamField")), accessFlags := 26, slot := 2, constantValue := 0 }, { name := "REPL", type := .char, accessFlags := 26, slot := 3, constantValue := 0 }, { name := "CASE_INSENSITIVE_ORDER", type := (.object "java/util/Comparator"), accessFlags := 25, slot := 4, constantValue := 0 }, { name := "LATIN1", type := .byte, accessFlags := 24, slot := 5, constantValue := 0 }, { name := "UTF16", type := .byte, accessFlags := 24, slot := 6, constantValue := 0 }]
  methods := #[k7m0, k7m1, k7m2, k7m3, k7m4, k7m5, k7m6, k7m7]
  instanceTypes := #[(.array .byte), .byte, .int, .boolean]
  staticTypes := #[.long, .boolean, (.array (.object "java/io/ObjectStreamField")), .char, (.object "java/util/Comparator"), .byte, .byte]
  resolved := Array.replicate 1451 none
  statics := some 0 }

def pool8 : Array CpInfo := pool [(6, .class_ 8), (1, u "java/lang/Object"), (0, u "<init>"), (0, u "()V"), (1, .class_ 14), (1, u "java/lang/StringUTF16"), (31, u "$assertionsDisabled"), (0, u "Z"), (13, u "HI_BYTE_SHIFT"), (0, u "I"), (2, u "LO_BYTE_SHIFT"), (49, .methodref 12 116), (0, .nameAndType 117 118), (0, u "compress"), (0, u "([CI[BII)I"), (3, u "([CII)[B"), (138, u "coderFromArrayLen"), (0, u "([BI)B"), (106, .class_ 371), (1, u "java/lang/StringUTF16$LinesSpliterator"), (58, u "MAX_LENGTH"), (196, .class_ 628), (0, u "java/lang/StringUTF16$CodePointsSpliterator"), (0, .class_ 630), (0, u "java/lang/StringUTF16$CharsSpliterator")] 4

def k8m0 : Method := { name := "<init>", desc := "()V", sig := { parameters := [], returnType := none }, accessFlags := 0, code := none }
def k8c1 : Code := { maxStack := 2, maxLocals := 2, code := jdk_52_method_15_code, exceptionTable := #[], attributes := #[] }
def k8m1 : Method := { name := "coderFromArrayLen", desc := "([BI)B", sig := { parameters := [(.array .byte), .int], returnType := some .byte }, accessFlags := 8, code := some k8c1 }
def k8c2 : Code := { maxStack := 5, maxLocals := 6, code := jdk_52_method_16_code, exceptionTable := #[], attributes := #[] }
def k8m2 : Method := { name := "compress", desc := "([CII)[B", sig := { parameters := [(.array .char), .int, .int], returnType := some (.array .byte) }, accessFlags := 9, code := some k8c2 }
def k8c3 : Code := { maxStack := 3, maxLocals := 7, code := jdk_52_method_21_code, exceptionTable := #[], attributes := #[] }
def k8m3 : Method := { name := "compress", desc := "([CI[BII)I", sig := { parameters := [(.array .char), .int, (.array .byte), .int, .int], returnType := some .int }, accessFlags := 9, code := some k8c3 }
/-- java/lang/StringUTF16 -/
def k8 : Class := { plain "java/lang/StringUTF16" (some 0) with
  accessFlags := 48
  interfaces := #[]
  cf := some (fileOf pool8 12 #[.nestMembers #[627, 629, 369]] #[{ accessFlags := 0, nameIndex := 9, descriptorIndex := 10, attributes := #[] }, { accessFlags := 8, nameIndex := 261, descriptorIndex := 262, attributes := #[] }, { accessFlags := 9, nameIndex := 117, descriptorIndex := 122, attributes := #[] }, { accessFlags := 9, nameIndex := 117, descriptorIndex := 118, attributes := #[] }] 48 6 #[] #[{ accessFlags := 26, nameIndex := 61, descriptorIndex := 62, attributes := #[] }, { accessFlags := 26, nameIndex := 65, descriptorIndex := 62, attributes := #[] }, { accessFlags := 24, nameIndex := 430, descriptorIndex := 62, attributes := #[] }, { accessFlags := 4120, nameIndex := 46, descriptorIndex := 47, attributes := #[] }])
  fields := #[{ name := "HI_BYTE_SHIFT", type := .int, accessFlags := 26, slot := 0, constantValue := 0 }, { name := "LO_BYTE_SHIFT", type := .int, accessFlags := 26, slot := 1, constantValue := 0 }, { name := "MAX_LENGTH", type := .int, accessFlags := 24, slot := 2, constantValue := 0 }, { name := "$assertionsDisabled", type := .boolean, accessFlags := 4120, slot := 3, constantValue := 0 }]
  methods := #[k8m0, k8m1, k8m2, k8m3]
  instanceTypes := #[]
  staticTypes := #[.int, .int, .int, .boolean]
  resolved := Array.replicate 635 none
  statics := none }

def pool9 : Array CpInfo := pool [(1, .methodref 2 3), (0, .class_ 4), (0, .nameAndType 5 6), (0, u "java/lang/Object"), (0, u "<init>"), (0, u "()V"), (0, .fieldref 8 9), (0, .class_ 10), (0, .nameAndType 11 12), (0, u "com/example/scorpus/scorpus/engine/Explanation$Figure"), (0, u "name"), (0, u "Ljava/lang/String;"), (0, .fieldref 8 14), (0, .nameAndType 15 16), (0, u "value"), (0, u "D"), (0, .fieldref 8 18), (0, .nameAndType 19 20), (0, u "count"), (0, u "Z"), (0, .methodref 8 22), (0, .nameAndType 5 23), (0, u "(Ljava/lang/String;DZ)V"), (2, u "(Ljava/lang/String;J)Lcom/example/scorpus/scorpus/engine/Explanation$Figure;"), (1, u "()Ljava/lang/String;"), (0, u "()D"), (0, u "isCount"), (0, u "()Z"), (3, .class_ 36), (0, u "com/example/scorpus/scorpus/engine/Explanation")] 2

def k9c0 : Code := { maxStack := 3, maxLocals := 5, code := prog_30_method_1_code, exceptionTable := #[], attributes := #[] }
def k9m0 : Method := { name := "<init>", desc := "(Ljava/lang/String;DZ)V", sig := { parameters := [(.object "java/lang/String"), .double, .boolean], returnType := none }, accessFlags := 2, code := some k9c0 }
def k9c1 : Code := { maxStack := 6, maxLocals := 3, code := prog_30_method_2_code, exceptionTable := #[], attributes := #[] }
def k9m1 : Method := { name := "count", desc := "(Ljava/lang/String;J)Lcom/example/scorpus/scorpus/engine/Explanation$Figure;", sig := { parameters := [(.object "java/lang/String"), .long], returnType := some (.object "com/example/scorpus/scorpus/engine/Explanation$Figure") }, accessFlags := 8, code := some k9c1 }
def k9c2 : Code := { maxStack := 1, maxLocals := 1, code := prog_30_method_4_code, exceptionTable := #[], attributes := #[] }
def k9m2 : Method := { name := "name", desc := "()Ljava/lang/String;", sig := { parameters := [], returnType := some (.object "java/lang/String") }, accessFlags := 1, code := some k9c2 }
def k9c3 : Code := { maxStack := 2, maxLocals := 1, code := prog_30_method_5_code, exceptionTable := #[], attributes := #[] }
def k9m3 : Method := { name := "value", desc := "()D", sig := { parameters := [], returnType := some .double }, accessFlags := 1, code := some k9c3 }
def k9c4 : Code := { maxStack := 1, maxLocals := 1, code := prog_30_method_6_code, exceptionTable := #[], attributes := #[] }
def k9m4 : Method := { name := "isCount", desc := "()Z", sig := { parameters := [], returnType := some .boolean }, accessFlags := 1, code := some k9c4 }
/-- com/example/scorpus/scorpus/engine/Explanation$Figure -/
def k9 : Class := { plain "com/example/scorpus/scorpus/engine/Explanation$Figure" (some 0) with
  accessFlags := 49
  interfaces := #[]
  cf := some (fileOf pool9 8 #[.nestHost 35] #[{ accessFlags := 2, nameIndex := 5, descriptorIndex := 23, attributes := #[] }, { accessFlags := 8, nameIndex := 19, descriptorIndex := 26, attributes := #[] }, { accessFlags := 1, nameIndex := 11, descriptorIndex := 28, attributes := #[] }, { accessFlags := 1, nameIndex := 15, descriptorIndex := 29, attributes := #[] }, { accessFlags := 1, nameIndex := 30, descriptorIndex := 31, attributes := #[] }] 49 2 #[] #[{ accessFlags := 18, nameIndex := 11, descriptorIndex := 12, attributes := #[] }, { accessFlags := 18, nameIndex := 15, descriptorIndex := 16, attributes := #[] }, { accessFlags := 18, nameIndex := 19, descriptorIndex := 20, attributes := #[] }])
  fields := #[{ name := "name", type := (.object "java/lang/String"), accessFlags := 18, slot := 0, constantValue := 0 }, { name := "value", type := .double, accessFlags := 18, slot := 1, constantValue := 0 }, { name := "count", type := .boolean, accessFlags := 18, slot := 2, constantValue := 0 }]
  methods := #[k9m0, k9m1, k9m2, k9m3, k9m4]
  instanceTypes := #[(.object "java/lang/String"), .double, .boolean]
  staticTypes := #[]
  resolved := Array.replicate 39 none
  statics := none }

def pool10 : Array CpInfo := pool [(4, .class_ 6), (1, u "java/lang/Object"), (0, u "<init>"), (0, u "()V"), (5, .class_ 16), (1, u "java/lang/StringLatin1"), (73, u "canEncode"), (14, u "(C)Z"), (15, u "$assertionsDisabled"), (0, u "Z"), (98, .class_ 223), (1, u "java/lang/StringLatin1$LinesSpliterator"), (156, u "toBytes"), (1, u "(C)[B"), (7, .class_ 391), (0, u "java/lang/StringLatin1$CharsSpliterator")] 3

def k10m0 : Method := { name := "<init>", desc := "()V", sig := { parameters := [], returnType := none }, accessFlags := 0, code := none }
def k10c1 : Code := { maxStack := 2, maxLocals := 1, code := jdk_43_method_3_code, exceptionTable := #[], attributes := #[] }
def k10m1 : Method := { name := "canEncode", desc := "(C)Z", sig := { parameters := [.char], returnType := some .boolean }, accessFlags := 9, code := some k10c1 }
def k10c2 : Code := { maxStack := 4, maxLocals := 1, code := jdk_43_method_46_code, exceptionTable := #[], attributes := #[] }
def k10m2 : Method := { name := "toBytes", desc := "(C)[B", sig := { parameters := [.char], returnType := some (.array .byte) }, accessFlags := 9, code := some k10c2 }
/-- java/lang/StringLatin1 -/
def k10 : Class := { plain "java/lang/StringLatin1" (some 0) with
  accessFlags := 48
  interfaces := #[]
  cf := some (fileOf pool10 14 #[.nestMembers #[390, 221]] #[{ accessFlags := 0, nameIndex := 7, descriptorIndex := 8, attributes := #[] }, { accessFlags := 9, nameIndex := 90, descriptorIndex := 105, attributes := #[] }, { accessFlags := 9, nameIndex := 380, descriptorIndex := 382, attributes := #[] }] 48 4 #[] #[{ accessFlags := 4120, nameIndex := 121, descriptorIndex := 122, attributes := #[] }])
  fields := #[{ name := "$assertionsDisabled", type := .boolean, accessFlags := 4120, slot := 0, constantValue := 0 }]
  methods := #[k10m0, k10m1, k10m2]
  instanceTypes := #[]
  staticTypes := #[.boolean]
  resolved := Array.replicate 395 none
  statics := none }

def pool11 : Array CpInfo := pool [(2, .class_ 4), (1, u "java/lang/Object"), (0, u "<init>"), (0, u "()V"), (17, .class_ 26), (1, u "jdk/internal/util/Preconditions"), (28, .class_ 56), (0, u "jdk/internal/util/Preconditions$4"), (57, .class_ 115), (0, u "jdk/internal/util/Preconditions$1"), (7, u "SIOOBE_FORMATTER"), (0, u "Ljava/util/function/BiFunction;"), (0, .class_ 126), (0, u "jdk/internal/util/Preconditions$2"), (3, u "AIOOBE_FORMATTER"), (0, .class_ 132), (0, u "jdk/internal/util/Preconditions$3"), (3, u "IOOBE_FORMATTER")] 57

def k11m0 : Method := { name := "<init>", desc := "()V", sig := { parameters := [], returnType := none }, accessFlags := 1, code := none }
/-- jdk/internal/util/Preconditions -/
def k11 : Class := { plain "jdk/internal/util/Preconditions" (some 0) with
  accessFlags := 33
  interfaces := #[]
  cf := some (fileOf pool11 24 #[.nestMembers #[55, 131, 125, 114]] #[{ accessFlags := 1, nameIndex := 5, descriptorIndex := 6, attributes := #[] }] 33 2 #[] #[{ accessFlags := 25, nameIndex := 123, descriptorIndex := 124, attributes := #[] }, { accessFlags := 25, nameIndex := 130, descriptorIndex := 124, attributes := #[] }, { accessFlags := 25, nameIndex := 136, descriptorIndex := 124, attributes := #[] }])
  fields := #[{ name := "SIOOBE_FORMATTER", type := (.object "java/util/function/BiFunction"), accessFlags := 25, slot := 0, constantValue := 0 }, { name := "AIOOBE_FORMATTER", type := (.object "java/util/function/BiFunction"), accessFlags := 25, slot := 1, constantValue := 0 }, { name := "IOOBE_FORMATTER", type := (.object "java/util/function/BiFunction"), accessFlags := 25, slot := 2, constantValue := 0 }]
  methods := #[k11m0]
  instanceTypes := #[]
  staticTypes := #[(.object "java/util/function/BiFunction"), (.object "java/util/function/BiFunction"), (.object "java/util/function/BiFunction")]
  resolved := Array.replicate 194 none
  statics := some 1 }

def pool12 : Array CpInfo := pool [(9, u "<init>"), (6, .class_ 18), (1, u "java/lang/Object"), (0, u "()V"), (1, .class_ 23), (1, u "jdk/internal/util/ArraysSupport"), (0, u "LOG2_ARRAY_LONG_INDEX_SCALE"), (0, u "I"), (2, u "U"), (0, u "Ljdk/internal/misc/Unsafe;"), (8, u "BIG_ENDIAN"), (0, u "Z"), (8, u "LOG2_BYTE_BIT_SIZE"), (4, u "LOG2_ARRAY_INT_INDEX_SCALE"), (54, u "JLA"), (0, u "Ljdk/internal/access/JavaLangAccess;"), (11, u "LOG2_ARRAY_BOOLEAN_INDEX_SCALE"), (9, u "LOG2_ARRAY_BYTE_INDEX_SCALE"), (5, u "LOG2_ARRAY_CHAR_INDEX_SCALE"), (5, u "LOG2_ARRAY_SHORT_INDEX_SCALE"), (18, u "LOG2_ARRAY_FLOAT_INDEX_SCALE"), (24, u "LOG2_ARRAY_DOUBLE_INDEX_SCALE"), (89, u "T_BOOLEAN"), (2, u "T_CHAR"), (1, u "T_FLOAT"), (1, u "T_DOUBLE"), (1, u "T_BYTE"), (1, u "T_SHORT"), (1, u "T_INT"), (1, u "T_LONG"), (1, u "SOFT_MAX_ARRAY_LENGTH")] 83

def k12m0 : Method := { name := "<init>", desc := "()V", sig := { parameters := [], returnType := none }, accessFlags := 2, code := none }
/-- jdk/internal/util/ArraysSupport -/
def k12 : Class := { plain "jdk/internal/util/ArraysSupport" (some 0) with
  accessFlags := 33
  interfaces := #[]
  cf := some (fileOf pool12 21 #[] #[{ accessFlags := 2, nameIndex := 9, descriptorIndex := 19, attributes := #[] }] 33 16 #[] #[{ accessFlags := 24, nameIndex := 28, descriptorIndex := 29, attributes := #[] }, { accessFlags := 26, nameIndex := 38, descriptorIndex := 39, attributes := #[] }, { accessFlags := 25, nameIndex := 121, descriptorIndex := 25, attributes := #[] }, { accessFlags := 25, nameIndex := 131, descriptorIndex := 25, attributes := #[] }, { accessFlags := 25, nameIndex := 137, descriptorIndex := 25, attributes := #[] }, { accessFlags := 25, nameIndex := 143, descriptorIndex := 25, attributes := #[] }, { accessFlags := 25, nameIndex := 53, descriptorIndex := 25, attributes := #[] }, { accessFlags := 25, nameIndex := 24, descriptorIndex := 25, attributes := #[] }, { accessFlags := 25, nameIndex := 162, descriptorIndex := 25, attributes := #[] }, { accessFlags := 25, nameIndex := 187, descriptorIndex := 25, attributes := #[] }, { accessFlags := 26, nameIndex := 48, descriptorIndex := 25, attributes := #[] }, { accessFlags := 25, nameIndex := 277, descriptorIndex := 25, attributes := #[] }, { accessFlags := 25, nameIndex := 280, descriptorIndex := 25, attributes := #[] }, { accessFlags := 25, nameIndex := 282, descriptorIndex := 25, attributes := #[] }, { accessFlags := 25, nameIndex := 284, descriptorIndex := 25, attributes := #[] }, { accessFlags := 25, nameIndex := 286, descriptorIndex := 25, attributes := #[] }, { accessFlags := 25, nameIndex := 288, descriptorIndex := 25, attributes := #[] }, { accessFlags := 25, nameIndex := 290, descriptorIndex := 25, attributes := #[] }, { accessFlags := 25, nameIndex := 292, descriptorIndex := 25, attributes := #[] }, { accessFlags := 26, nameIndex := 108, descriptorIndex := 109, attributes := #[] }, { accessFlags := 25, nameIndex := 294, descriptorIndex := 25, attributes := #[] }])
  fields := #[{ name := "U", type := (.object "jdk/internal/misc/Unsafe"), accessFlags := 24, slot := 0, constantValue := 0 }, { name := "BIG_ENDIAN", type := .boolean, accessFlags := 26, slot := 1, constantValue := 0 }, { name := "LOG2_ARRAY_BOOLEAN_INDEX_SCALE", type := .int, accessFlags := 25, slot := 2, constantValue := 0 }, { name := "LOG2_ARRAY_BYTE_INDEX_SCALE", type := .int, accessFlags := 25, slot := 3, constantValue := 0 }, { name := "LOG2_ARRAY_CHAR_INDEX_SCALE", type := .int, accessFlags := 25, slot := 4, constantValue := 0 }, { name := "LOG2_ARRAY_SHORT_INDEX_SCALE", type := .int, accessFlags := 25, slot := 5, constantValue := 0 }, { name := "LOG2_ARRAY_INT_INDEX_SCALE", type := .int, accessFlags := 25, slot := 6, constantValue := 0 }, { name := "LOG2_ARRAY_LONG_INDEX_SCALE", type := .int, accessFlags := 25, slot := 7, constantValue := 0 }, { name := "LOG2_ARRAY_FLOAT_INDEX_SCALE", type := .int, accessFlags := 25, slot := 8, constantValue := 0 }, { name := "LOG2_ARRAY_DOUBLE_INDEX_SCALE", type := .int, accessFlags := 25, slot := 9, constantValue := 0 }, { name := "LOG2_BYTE_BIT_SIZE", type := .int, accessFlags := 26, slot := 10, constantValue := 0 }, { name := "T_BOOLEAN", type := .int, accessFlags := 25, slot := 11, constantValue := 0 }, { name := "T_CHAR", type := .int, accessFlags := 25, slot := 12, constantValue := 0 }, { name := "T_FLOAT", type := .int, accessFlags := 25, slot := 13, constantValue := 0 }, { name := "T_DOUBLE", type := .int, accessFlags := 25, slot := 14, constantValue := 0 }, { name := "T_BYTE", type := .int, accessFlags := 25, slot := 15, constantValue := 0 }, { name := "T_SHORT", type := .int, accessFlags := 25, slot := 16, constantValue := 0 }, { name := "T_INT", type := .int, accessFlags := 25, slot := 17, constantValue := 0 }, { name := "T_LONG", type := .int, accessFlags := 25, slot := 18, constantValue := 0 }, { name := "JLA", type := (.object "jdk/internal/access/JavaLangAccess"), accessFlags := 26, slot := 19, constantValue := 0 }, { name := "SOFT_MAX_ARRAY_LENGTH", type := .int, accessFlags := 25, slot := 20, constantValue := 0 }]
  methods := #[k12m0]
  instanceTypes := #[]
  staticTypes := #[(.object "jdk/internal/misc/Unsafe"), .boolean, .int, .int, .int, .int, .int, .int, .int, .int, .int, .int, .int, .int, .int, .int, .int, .int, .int, (.object "jdk/internal/access/JavaLangAccess"), .int]
  resolved := Array.replicate 378 none
  statics := none }

def pool13 : Array CpInfo := pool [(1, u "java/lang/Cloneable"), (0, .class_ 1), (0, u "java/lang/Object"), (0, .class_ 3)] 3

/-- java/lang/Cloneable -/
def k13 : Class := { plain "java/lang/Cloneable" (some 0) with
  accessFlags := 1537
  interfaces := #[]
  cf := some (fileOf pool13 2 #[] #[] 1537 4 #[] #[])
  fields := #[]
  methods := #[]
  instanceTypes := #[]
  staticTypes := #[]
  resolved := Array.replicate 8 none
  statics := none }

/-- the primitive byte -/
def k14 : Class := { plain "byte" none with kind := .primitive 'B', accessFlags := 0x411 }
/-- [B -/
def k15 : Class := { plain "[B" (some 0) with kind := .array 14 .byte, interfaces := #[13, 2], accessFlags := 1041 }

/-- the primitive char -/
def k16 : Class := { plain "char" none with kind := .primitive 'C', accessFlags := 0x411 }
/-- [C -/
def k17 : Class := { plain "[C" (some 0) with kind := .array 16 .char, interfaces := #[13, 2], accessFlags := 1041 }

/-- the primitive int -/
def k18 : Class := { plain "int" none with kind := .primitive 'I', accessFlags := 0x411 }
/-- [I -/
def k19 : Class := { plain "[I" (some 0) with kind := .array 18 .int, interfaces := #[13, 2], accessFlags := 1041 }

def heap : Heap := #[{ cls := 7, slots := #[.long 0, .int 1, .null, .int 0, .null, .int 0, .int 0], vm := .statics 7 },
  { cls := 11, slots := #[.null, .null, .null], vm := .statics 11 }]
def classes : Array Class := #[k0, k1, k2, k3, k4, k5, k6, k7, k8, k9, k10, k11, k12, k13, k14, k15, k16, k17, k18, k19]
def interned : List (Array UInt16 × Addr) := []
def slotsUsed : Nat := 10
def theMethod : MethodId := ⟨1, 1⟩
def args0 : Array Value := #[.int 5, .int 1, .long 7]
def aboutOver (below : List Frame) : State where
  vm := { classes := classes, interned := interned.toArray }
  heap := heap
  slotsUsed := slotsUsed
  threads := #[{ frames := .invoking theMethod args0 :: below }]
def below0 : List Frame := [.native { method := ⟨0, 0⟩, args := #[] }]
def about1 : State := aboutOver below0
def p0 : Program := .bare "" "" ""
def e0 : Env := launch0.env 0 0 0
theorem w_frames : about1.frames = Frame.invoking theMethod args0 :: below0 := rfl
set_option maxRecDepth 65536 in
theorem w_args : argsFit about1.vm theMethod args0 = true := by decide +kernel
set_option maxRecDepth 65536 in
theorem w_heap : heapFits about1 = true := by decide +kernel
set_option maxRecDepth 65536 in
theorem w_runnable : about1.curStatus? = some .runnable := by decide +kernel
set_option maxRecDepth 65536 in
theorem w_alone : about1.alone = true := by decide +kernel
set_option maxRecDepth 65536 in
theorem w_named : about1.methodNamed? x = some theMethod := by decide +kernel
set_option maxRecDepth 65536 in
theorem w_hears : about1.hears theMethod below0 = true := by decide +kernel
set_option maxRecDepth 65536 in
theorem w_ripe : about1.ripe theMethod args0 below0 = true := by decide +kernel
theorem w_running : about1.status = .running := rfl
set_option maxRecDepth 65536 in
theorem w_room : about1.hasRoom e0.platform room_1 = true :=
  launch0.hasRoom_least _ room_1 (by decide +kernel) (by decide +kernel) (by decide +kernel) (by decide +kernel) (by decide +kernel) (by decide +kernel)
theorem allAtoms_all (ts : List Jvm.Cond) (a : Array Jvm.Value) (st : Jvm.State) : (allAtoms ts).before a st = ts.all (fun c => c.before a st) := by
  induction ts with
  | nil => rfl
  | cons c t ih =>
    show (Jvm.Cond.and c (allAtoms t)).before a st = _
    rw [Jvm.Cond.before_and, ih, List.all_cons]
def words1 : List Jvm.Cond := Jvm.Cond.code x code maxLocals ret :: tables_1
/-- a 'code' word, met by the world's own term for the bytes: nothing is compared byte by byte -/
theorem code_word {y : MethodName} {bytes : ByteArray} {mx : Nat} {rt : Option FieldType} {a : Array Value} {s : State} {m : MethodId} {meth : Method} {c : Code} (h1 : s.methodNamed? y = some m) (h2 : s.vm.method? m = some meth) (h3 : meth.code = some c) (h4 : c.code = bytes)
    (h5 : (c.maxLocals == mx && c.exceptionTable.isEmpty && decide (c.maxStack ≤ mostOperands) && decide (meth.sig.returnType = rt) && !meth.locks && decide (parseMethodDescriptor y.desc = some meth.sig)) = true) : (Jvm.Cond.code y bytes mx rt).before a s = true := by
  simp only [Bool.and_eq_true, beq_iff_eq, Bool.not_eq_true', decide_eq_true_eq] at h5
  obtain ⟨⟨⟨⟨⟨g1, g2⟩, g3⟩, g4⟩, g5⟩, g6⟩ := h5
  simp [Cond.before, Cond.holds, Cond.value, h1, h2, h3, h4, g1, g2, g3, g4, g5, g6]
def isCode : Jvm.Cond → Bool
  | .code _ _ _ _ => true
  | _ => false
theorem all_split {L : List Jvm.Cond} {P : Jvm.Cond → Bool} (h1 : L.all (fun c => isCode c || P c) = true) (h2 : ∀ c ∈ L.filter isCode, P c = true) : L.all P = true := by
  refine List.all_eq_true.mpr fun c hc => ?_
  have h := List.all_eq_true.mp h1 c hc
  rcases Bool.eq_false_or_eq_true (isCode c) with hi | hi
  · exact h2 c (List.mem_filter.mpr ⟨hc, hi⟩)
  · simpa [hi] using h
set_option maxRecDepth 65536 in
theorem w_c0 : (Jvm.Cond.code x code maxLocals ret).before args0 about1 = true := code_word (m := ⟨1, 1⟩) (meth := k1m1) (c := k1c1) (by decide +kernel) rfl rfl rfl (by decide +kernel)
set_option maxRecDepth 65536 in
theorem w_c1 : (Jvm.Cond.code ({ cls := "java/lang/String", name := "<init>", desc := "([C)V" } : Jvm.MethodName) jdk_42_method_3_code (2 : Nat) (Option.none : Option Jvm.ClassFile.FieldType)).before args0 about1 = true := code_word (m := ⟨7, 1⟩) (meth := k7m1) (c := k7c1) (by decide +kernel) rfl rfl rfl (by decide +kernel)
set_option maxRecDepth 65536 in
theorem w_c2 : (Jvm.Cond.code ({ cls := "java/lang/String", name := "<init>", desc := "([CIILjava/lang/Void;)V" } : Jvm.MethodName) jdk_42_method_149_code (6 : Nat) (Option.none : Option Jvm.ClassFile.FieldType)).before args0 about1 = true := code_word (m := ⟨7, 5⟩) (meth := k7m5) (c := k7c5) (by decide +kernel) rfl rfl rfl (by decide +kernel)
set_option maxRecDepth 65536 in
theorem w_c3 : (Jvm.Cond.code ({ cls := "java/lang/Object", name := "<init>", desc := "()V" } : Jvm.MethodName) object_method_1_code (1 : Nat) (Option.none : Option Jvm.ClassFile.FieldType)).before args0 about1 = true := code_word (m := ⟨0, 0⟩) (meth := k0m0) (c := k0c0) (by decide +kernel) rfl rfl rfl (by decide +kernel)
set_option maxRecDepth 65536 in
theorem w_c4 : (Jvm.Cond.code ({ cls := "java/lang/StringUTF16", name := "compress", desc := "([CII)[B" } : Jvm.MethodName) jdk_52_method_16_code (6 : Nat) (Option.some (Jvm.ClassFile.FieldType.array Jvm.ClassFile.FieldType.byte))).before args0 about1 = true := code_word (m := ⟨8, 2⟩) (meth := k8m2) (c := k8c2) (by decide +kernel) rfl rfl rfl (by decide +kernel)
set_option maxRecDepth 65536 in
theorem w_c5 : (Jvm.Cond.code ({ cls := "java/lang/StringUTF16", name := "compress", desc := "([CI[BII)I" } : Jvm.MethodName) jdk_52_method_21_code (7 : Nat) (Option.some Jvm.ClassFile.FieldType.int)).before args0 about1 = true := code_word (m := ⟨8, 3⟩) (meth := k8m3) (c := k8c3) (by decide +kernel) rfl rfl rfl (by decide +kernel)
set_option maxRecDepth 65536 in
theorem w_c6 : (Jvm.Cond.code ({ cls := "java/lang/StringUTF16", name := "coderFromArrayLen", desc := "([BI)B" } : Jvm.MethodName) jdk_52_method_15_code (2 : Nat) (Option.some Jvm.ClassFile.FieldType.byte)).before args0 about1 = true := code_word (m := ⟨8, 1⟩) (meth := k8m1) (c := k8c1) (by decide +kernel) rfl rfl rfl (by decide +kernel)
set_option maxRecDepth 65536 in
theorem w_c7 : (Jvm.Cond.code ({ cls := "com/example/scorpus/scorpus/engine/Explanation$Figure", name := "count", desc := "(Ljava/lang/String;J)Lcom/example/scorpus/scorpus/engine/Explanation$Figure;" } : Jvm.MethodName) prog_30_method_2_code (3 : Nat) (Option.some (Jvm.ClassFile.FieldType.object "com/example/scorpus/scorpus/engine/Explanation$Figure"))).before args0 about1 = true := code_word (m := ⟨9, 1⟩) (meth := k9m1) (c := k9c1) (by decide +kernel) rfl rfl rfl (by decide +kernel)
set_option maxRecDepth 65536 in
theorem w_c8 : (Jvm.Cond.code ({ cls := "com/example/scorpus/scorpus/engine/Explanation$Figure", name := "<init>", desc := "(Ljava/lang/String;DZ)V" } : Jvm.MethodName) prog_30_method_1_code (5 : Nat) (Option.none : Option Jvm.ClassFile.FieldType)).before args0 about1 = true := code_word (m := ⟨9, 0⟩) (meth := k9m0) (c := k9c0) (by decide +kernel) rfl rfl rfl (by decide +kernel)
set_option maxRecDepth 65536 in
theorem w_c9 : (Jvm.Cond.code ({ cls := "com/example/scorpus/scorpus/engine/Explanation$Figure", name := "isCount", desc := "()Z" } : Jvm.MethodName) prog_30_method_6_code (1 : Nat) (Option.some Jvm.ClassFile.FieldType.boolean)).before args0 about1 = true := code_word (m := ⟨9, 4⟩) (meth := k9m4) (c := k9c4) (by decide +kernel) rfl rfl rfl (by decide +kernel)
set_option maxRecDepth 65536 in
theorem w_c10 : (Jvm.Cond.code ({ cls := "com/example/scorpus/scorpus/engine/Explanation$Figure", name := "name", desc := "()Ljava/lang/String;" } : Jvm.MethodName) prog_30_method_4_code (1 : Nat) (Option.some (Jvm.ClassFile.FieldType.object "java/lang/String"))).before args0 about1 = true := code_word (m := ⟨9, 2⟩) (meth := k9m2) (c := k9c2) (by decide +kernel) rfl rfl rfl (by decide +kernel)
set_option maxRecDepth 65536 in
theorem w_c11 : (Jvm.Cond.code ({ cls := "java/lang/String", name := "equals", desc := "(Ljava/lang/Object;)Z" } : Jvm.MethodName) jdk_42_method_66_code (3 : Nat) (Option.some Jvm.ClassFile.FieldType.boolean)).before args0 about1 = true := code_word (m := ⟨7, 3⟩) (meth := k7m3) (c := k7c3) (by decide +kernel) rfl rfl rfl (by decide +kernel)
set_option maxRecDepth 65536 in
theorem w_c12 : (Jvm.Cond.code ({ cls := "java/lang/String", name := "length", desc := "()I" } : Jvm.MethodName) jdk_42_method_54_code (1 : Nat) (Option.some Jvm.ClassFile.FieldType.int)).before args0 about1 = true := code_word (m := ⟨7, 2⟩) (meth := k7m2) (c := k7c2) (by decide +kernel) rfl rfl rfl (by decide +kernel)
set_option maxRecDepth 65536 in
theorem w_c13 : (Jvm.Cond.code ({ cls := "java/lang/String", name := "coder", desc := "()B" } : Jvm.MethodName) jdk_42_method_152_code (1 : Nat) (Option.some Jvm.ClassFile.FieldType.byte)).before args0 about1 = true := code_word (m := ⟨7, 7⟩) (meth := k7m7) (c := k7c7) (by decide +kernel) rfl rfl rfl (by decide +kernel)
set_option maxRecDepth 65536 in
theorem w_c14 : (Jvm.Cond.code ({ cls := "com/example/scorpus/scorpus/engine/Explanation$Figure", name := "value", desc := "()D" } : Jvm.MethodName) prog_30_method_5_code (1 : Nat) (Option.some Jvm.ClassFile.FieldType.double)).before args0 about1 = true := code_word (m := ⟨9, 3⟩) (meth := k9m3) (c := k9c3) (by decide +kernel) rfl rfl rfl (by decide +kernel)
set_option maxRecDepth 65536 in
theorem w_c15 : (Jvm.Cond.code ({ cls := "java/lang/String", name := "valueOf", desc := "(C)Ljava/lang/String;" } : Jvm.MethodName) jdk_42_method_139_code (1 : Nat) (Option.some (Jvm.ClassFile.FieldType.object "java/lang/String"))).before args0 about1 = true := code_word (m := ⟨7, 4⟩) (meth := k7m4) (c := k7c4) (by decide +kernel) rfl rfl rfl (by decide +kernel)
set_option maxRecDepth 65536 in
theorem w_c16 : (Jvm.Cond.code ({ cls := "java/lang/StringLatin1", name := "canEncode", desc := "(C)Z" } : Jvm.MethodName) jdk_43_method_3_code (1 : Nat) (Option.some Jvm.ClassFile.FieldType.boolean)).before args0 about1 = true := code_word (m := ⟨10, 1⟩) (meth := k10m1) (c := k10c1) (by decide +kernel) rfl rfl rfl (by decide +kernel)
set_option maxRecDepth 65536 in
theorem w_c17 : (Jvm.Cond.code ({ cls := "java/lang/StringLatin1", name := "toBytes", desc := "(C)[B" } : Jvm.MethodName) jdk_43_method_46_code (1 : Nat) (Option.some (Jvm.ClassFile.FieldType.array Jvm.ClassFile.FieldType.byte))).before args0 about1 = true := code_word (m := ⟨10, 2⟩) (meth := k10m2) (c := k10c2) (by decide +kernel) rfl rfl rfl (by decide +kernel)
set_option maxRecDepth 65536 in
theorem w_c18 : (Jvm.Cond.code ({ cls := "java/lang/String", name := "<init>", desc := "([BB)V" } : Jvm.MethodName) jdk_42_method_151_code (3 : Nat) (Option.none : Option Jvm.ClassFile.FieldType)).before args0 about1 = true := code_word (m := ⟨7, 6⟩) (meth := k7m6) (c := k7c6) (by decide +kernel) rfl rfl rfl (by decide +kernel)
def codes1 : List Jvm.Cond := [Jvm.Cond.code x code maxLocals ret, Jvm.Cond.code ({ cls := "java/lang/String", name := "<init>", desc := "([C)V" } : Jvm.MethodName) jdk_42_method_3_code (2 : Nat) (Option.none : Option Jvm.ClassFile.FieldType), Jvm.Cond.code ({ cls := "java/lang/String", name := "<init>", desc := "([CIILjava/lang/Void;)V" } : Jvm.MethodName) jdk_42_method_149_code (6 : Nat) (Option.none : Option Jvm.ClassFile.FieldType), Jvm.Cond.code ({ cls := "java/lang/Object", name := "<init>", desc := "()V" } : Jvm.MethodName) object_method_1_code (1 : Nat) (Option.none : Option Jvm.ClassFile.FieldType), Jvm.Cond.code ({ cls := "java/lang/StringUTF16", name := "compress", desc := "([CII)[B" } : Jvm.MethodName) jdk_52_method_16_code (6 : Nat) (Option.some (Jvm.ClassFile.FieldType.array Jvm.ClassFile.FieldType.byte)), Jvm.Cond.code ({ cls := "java/lang/StringUTF16", name := "compress", desc := "([CI[BII)I" } : Jvm.MethodName) jdk_52_method_21_code (7 : Nat) (Option.some Jvm.ClassFile.FieldType.int), Jvm.Cond.code ({ cls := "java/lang/StringUTF16", name := "coderFromArrayLen", desc := "([BI)B" } : Jvm.MethodName) jdk_52_method_15_code (2 : Nat) (Option.some Jvm.ClassFile.FieldType.byte), Jvm.Cond.code ({ cls := "com/example/scorpus/scorpus/engine/Explanation$Figure", name := "count", desc := "(Ljava/lang/String;J)Lcom/example/scorpus/scorpus/engine/Explanation$Figure;" } : Jvm.MethodName) prog_30_method_2_code (3 : Nat) (Option.some (Jvm.ClassFile.FieldType.object "com/example/scorpus/scorpus/engine/Explanation$Figure")), Jvm.Cond.code ({ cls := "com/example/scorpus/scorpus/engine/Explanation$Figure", name := "<init>", desc := "(Ljava/lang/String;DZ)V" } : Jvm.MethodName) prog_30_method_1_code (5 : Nat) (Option.none : Option Jvm.ClassFile.FieldType), Jvm.Cond.code ({ cls := "com/example/scorpus/scorpus/engine/Explanation$Figure", name := "isCount", desc := "()Z" } : Jvm.MethodName) prog_30_method_6_code (1 : Nat) (Option.some Jvm.ClassFile.FieldType.boolean), Jvm.Cond.code ({ cls := "com/example/scorpus/scorpus/engine/Explanation$Figure", name := "name", desc := "()Ljava/lang/String;" } : Jvm.MethodName) prog_30_method_4_code (1 : Nat) (Option.some (Jvm.ClassFile.FieldType.object "java/lang/String")), Jvm.Cond.code ({ cls := "java/lang/String", name := "equals", desc := "(Ljava/lang/Object;)Z" } : Jvm.MethodName) jdk_42_method_66_code (3 : Nat) (Option.some Jvm.ClassFile.FieldType.boolean), Jvm.Cond.code ({ cls := "java/lang/String", name := "length", desc := "()I" } : Jvm.MethodName) jdk_42_method_54_code (1 : Nat) (Option.some Jvm.ClassFile.FieldType.int), Jvm.Cond.code ({ cls := "java/lang/String", name := "coder", desc := "()B" } : Jvm.MethodName) jdk_42_method_152_code (1 : Nat) (Option.some Jvm.ClassFile.FieldType.byte), Jvm.Cond.code ({ cls := "com/example/scorpus/scorpus/engine/Explanation$Figure", name := "value", desc := "()D" } : Jvm.MethodName) prog_30_method_5_code (1 : Nat) (Option.some Jvm.ClassFile.FieldType.double), Jvm.Cond.code ({ cls := "java/lang/String", name := "valueOf", desc := "(C)Ljava/lang/String;" } : Jvm.MethodName) jdk_42_method_139_code (1 : Nat) (Option.some (Jvm.ClassFile.FieldType.object "java/lang/String")), Jvm.Cond.code ({ cls := "java/lang/StringLatin1", name := "canEncode", desc := "(C)Z" } : Jvm.MethodName) jdk_43_method_3_code (1 : Nat) (Option.some Jvm.ClassFile.FieldType.boolean), Jvm.Cond.code ({ cls := "java/lang/StringLatin1", name := "toBytes", desc := "(C)[B" } : Jvm.MethodName) jdk_43_method_46_code (1 : Nat) (Option.some (Jvm.ClassFile.FieldType.array Jvm.ClassFile.FieldType.byte)), Jvm.Cond.code ({ cls := "java/lang/String", name := "<init>", desc := "([BB)V" } : Jvm.MethodName) jdk_42_method_151_code (3 : Nat) (Option.none : Option Jvm.ClassFile.FieldType)]
set_option maxRecDepth 65536 in
theorem codes_eq : words1.filter isCode = codes1 := rfl
theorem w_codes : ∀ c ∈ words1.filter isCode, c.before args0 about1 = true := by
  rw [codes_eq]
  intro c hc
  simp only [codes1, List.mem_cons, List.not_mem_nil, or_false] at hc
  rcases hc with rfl | rfl | rfl | rfl | rfl | rfl | rfl | rfl | rfl | rfl | rfl | rfl | rfl | rfl | rfl | rfl | rfl | rfl | rfl
  · exact w_c0
  · exact w_c1
  · exact w_c2
  · exact w_c3
  · exact w_c4
  · exact w_c5
  · exact w_c6
  · exact w_c7
  · exact w_c8
  · exact w_c9
  · exact w_c10
  · exact w_c11
  · exact w_c12
  · exact w_c13
  · exact w_c14
  · exact w_c15
  · exact w_c16
  · exact w_c17
  · exact w_c18
set_option maxRecDepth 65536 in
theorem w_t1 : (words1.take 24).all (fun c => isCode c || c.before args0 about1) = true := by decide +kernel
set_option maxRecDepth 65536 in
theorem w_t2 : ((words1.drop 24).take 24).all (fun c => isCode c || c.before args0 about1) = true := by decide +kernel
set_option maxRecDepth 65536 in
theorem w_t3 : (((words1.drop 24).drop 24).take 24).all (fun c => isCode c || c.before args0 about1) = true := by decide +kernel
set_option maxRecDepth 65536 in
theorem w_t4 : (((words1.drop 24).drop 24).drop 24).all (fun c => isCode c || c.before args0 about1) = true := by decide +kernel
theorem w_tables : (allAtoms (Jvm.Cond.code x code maxLocals ret :: tables_1)).before args0 about1 = true := by
  rw [allAtoms_all]
  show words1.all (fun c => c.before args0 about1) = true
  refine all_split ?_ w_codes
  rw [← List.take_append_drop 24 words1, List.all_append, w_t1, ← List.take_append_drop 24 (words1.drop 24), List.all_append, w_t2, ← List.take_append_drop 24 ((words1.drop 24).drop 24), List.all_append, w_t3, w_t4]
  rfl
set_option maxRecDepth 65536 in
theorem w_rest : rest_1_c.before args0 about1 = true := by decide +kernel
set_option maxRecDepth 65536 in
theorem w_case : (Jvm.Cond.and given_1 narrow_1).before args0 about1 = true := by decide +kernel
set_option maxRecDepth 65536 in
theorem w_consts : constsHeld consts_1 about1 := Jvm.Lit.constsHeldB_iff.mp (by decide +kernel)
theorem w_applies : (headSpec (Jvm.Cond.code x code maxLocals ret :: tables_1) room_1).applies x e0.platform about1 = true :=
  (Spec.applies_iff w_frames).mpr ⟨w_running, w_runnable, w_alone, w_named, w_hears, w_ripe, w_room, w_tables⟩
theorem atStart : AtStart classFile x code maxLocals ret World_1 tables_1 room_1 Calls_1 rest_1 Pre_1 launch0 p0 e0 about1 theMethod args0 below0 :=
  ⟨lists_1, trivial, launch0.admits_env _ _ _, launch0.least_env, fairChoices_fair.cas, fairChoices_fair.clock, w_frames, w_args, w_heap, w_applies, ⟨w_consts, trivial⟩, w_rest, w_case⟩
end start1
theorem witness_1 : WitnessClaimed_1 := ⟨start1.p0, start1.e0, start1.about1, start1.theMethod, start1.args0, start1.below0, start1.atStart⟩
end Jvm.Pilot.@@N@@
