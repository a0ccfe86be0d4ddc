import JvmDerived
import JvmDerived.Pilot.@@N@@Statement
import JvmDerived.Pilot.@@N@@Code
set_option linter.unusedVariables false
set_option linter.unusedSimpArgs false
namespace Jvm.RoadKit
open Sem ClassFile Op Lib Jvm.Stand Jvm.Free Jvm.LawKit
section New
variable {p : Program} {l : Launch} {e : Env} {R : Room} {s : State} {m : MethodId} {args : Array Value} {below : List Frame} {meth : Method} {c : Code} {T : State} {locs : List Loc} {cells slots : Nat}
theorem retI (X : Stand p l e R s m args below meth c T locs cells slots) (hx : p.tables.exec = Jvm.exec) {pc : Nat} {Ls : Array Slot} {z : Int32} {rest : List Value} (hret : meth.sig.returnType = some .int) (hd : decode c.code pc = .ok (.ireturn, 1)) {fs : List Frame}
    (hl : ∀ (f : JFrame) (acts : List Action), f.method = m → f.locked = none → f.entered = [] → (doReturn e (T.setTop f) acts (some (.int z))).1 = T.setFrames fs) : Steps p.tables e below (T.setTop (mkF m pc Ls (.int z :: rest))) (T.setFrames fs) :=
  retOut X hx hret rfl (Or.inl ⟨rfl, Or.inl rfl, z, rfl⟩) hd hl
end New
end Jvm.RoadKit
namespace Jvm.Pilot.@@N@@
open Jvm Jvm.ClassFile Sem Op Lib Jvm.Free Jvm.Stand Jvm.LawKit Jvm.RoadKit Bundle Jvm.Pilot.@@N@@.Jvm.D
def QL (n0 : Nat) (v : Option Value) (h : Heap) (L : List Loc) : Prop := v = some (.int 1) ∧ Fr n0 L
def QP (r : Option Value) (h0 : Heap) (n0 : Nat) (v : Option Value) (h : Heap) (L : List Loc) : Prop := v = r ∧ Fr n0 L ∧ h = h0
theorem own_elem {Z : State} {h : Heap} {a : Addr} {k : ClassId} {ty : FieldType} {n : Int32} {vs : List Value} {d : Value} (F : Arv Z h a k ty n vs d) (ht : ty = .int ∨ ty = .boolean ∨ ty = .byte ∨ ty = .char ∨ ty = .short) {j : Int32} (q : ¬ j < 0 ∧ j < n) :
    ∃ (c : Cell) (z : Int32), Arr Z h a c ty ∧ ¬ (j < 0 ∨ c.slots.size ≤ j.toNatClampNeg) ∧ c.slots[j.toNatClampNeg]? = some (.int z) ∧ fits ty (.int z) = true ∧ vs.getD j.toNatClampNeg d = .int z := by
  obtain ⟨c, A, -, S, N, H, G⟩ := F
  have hin := inb_of S q
  have hlt := Nat.lt_of_not_le fun y => hin (Or.inr y)
  obtain ⟨z, hz⟩ := fit_I (G _ hlt) ht
  exact ⟨c, z, A, hin, by rw [H _ hlt, hz], by rw [← hz]; exact G _ hlt, hz⟩
theorem own_elemV {Z : State} {h : Heap} {a : Addr} {k : ClassId} {ty : FieldType} {n : Int32} {vs : List Value} {d : Value} (F : Arv Z h a k ty n vs d) {j : Int32} (q : ¬ j < 0 ∧ j < n) {v : Value} (u : vs.getD j.toNatClampNeg d = v) :
    ∃ c : Cell, Arr Z h a c ty ∧ ¬ (j < 0 ∨ c.slots.size ≤ j.toNatClampNeg) ∧ c.slots[j.toNatClampNeg]? = some v ∧ fits ty v = true := by
  obtain ⟨c, A, -, S, N, H, G⟩ := F
  have hin := inb_of S q
  have hlt := Nat.lt_of_not_le fun y => hin (Or.inr y)
  exact ⟨c, A, hin, by rw [H _ hlt, u], by rw [← u]; exact G _ hlt⟩
theorem own_selp {y : MethodName} {s : State} {args : Array Value} {n : Nat} (hy : y.cls ≠ "java/lang/invoke/MethodHandle" ∧ y.cls ≠ "java/lang/invoke/VarHandle") (hins : (Cond.instantiable y.cls n).before args s = true) (hpriv : (Cond.privateMethod y).before args s = true) (hinst : (Cond.instanceMethod y).before args s = true) :
    (Cond.selects y.cls y y).before args s = true := by
  obtain ⟨c, k, hc, hk, -, hniab, -, -⟩ := Cond.instantiable_spec hins
  have hni : k.isInterface = false := (Bool.or_eq_false_iff.mp hniab).1
  obtain ⟨mk, methM, hnamed, hmethM, -, -⟩ := Cond.instanceMethod_spec hinst
  have hfound : s.methodFound? y.cls y.name y.desc = some mk := State.methodFound?_of_named hnamed hy
  have hcls : mk.cls = c := Option.some.inj ((findClass_of_methodNamed hnamed).symm.trans hc)
  have hsel : selectMethod {} s.vm c mk = .method mk := selectMethod_private hmethM (Cond.privateMethod_at hpriv mk methM hnamed hmethM)
  simp only [Cond.before, Cond.holds, Cond.value, hc, hfound, hnamed, hsel, hcls, hk]
  simp; exact hni
def QI (Z : State) (r0 r1 : Addr) (u2 u3 : Int32) (h0 : Heap) (n0 : Nat) (v : Option Value) (h : Heap) (L : List Loc) : Prop := v = none ∧ Fr n0 L ∧ Keep h0 h [r0] ∧ Exa Z h r0 "com/example/scorpus/scorpus/engine/ByteReader" ∧ Fld Z h r0 "com/example/scorpus/scorpus/engine/ByteReader" "bytes" "[B" (.ref r1) ∧ Fld Z h r0 "com/example/scorpus/scorpus/engine/ByteReader" "position" "I" (.int u2) ∧ Fld Z h r0 "com/example/scorpus/scorpus/engine/ByteReader" "end" "I" (.int u3)
theorem d1_0 : decode prog_19_method_2_code 0 = .ok (.aload_n 0, 1) := by decide +kernel
theorem d1_1 : decode prog_19_method_2_code 1 = .ok (.invokespecial 7, 3) := by decide +kernel
theorem d1_4 : decode prog_19_method_2_code 4 = .ok (.aload_n 0, 1) := by decide +kernel
theorem d1_5 : decode prog_19_method_2_code 5 = .ok (.aload_n 1, 1) := by decide +kernel
theorem d1_6 : decode prog_19_method_2_code 6 = .ok (.putfield 12, 3) := by decide +kernel
theorem d1_9 : decode prog_19_method_2_code 9 = .ok (.aload_n 0, 1) := by decide +kernel
theorem d1_10 : decode prog_19_method_2_code 10 = .ok (.iload_n 2, 1) := by decide +kernel
theorem d1_11 : decode prog_19_method_2_code 11 = .ok (.putfield 16, 3) := by decide +kernel
theorem d1_14 : decode prog_19_method_2_code 14 = .ok (.aload_n 0, 1) := by decide +kernel
theorem d1_15 : decode prog_19_method_2_code 15 = .ok (.iload_n 3, 1) := by decide +kernel
theorem d1_16 : decode prog_19_method_2_code 16 = .ok (.putfield 20, 3) := by decide +kernel
theorem d1_19 : decode prog_19_method_2_code 19 = .ok (.return_, 1) := by decide +kernel
theorem pn_1 : plainName "com/example/scorpus/scorpus/engine/ByteReader" = true := by first | (simp [plainName, overriddenIn]; done) | decide +kernel
theorem ef_1 (m : MethodId) (x0 : Addr) (x1 : Addr) (x2 : Int32) (x3 : Int32) : entryFrame m #[(.ref x0), (.ref x1), (.int x2), (.int x3)] 4 = mkF m 0 #[.val (.ref x0), .val (.ref x1), .val (.int x2), .val (.int x3)] [] := by first | (simp [entryFrame, mkF, argsToLocals, Value.category]; done) | rfl
set_option maxRecDepth 65536 in
set_option maxHeartbeats 40000000 in
theorem rm1 (l : Launch) (Z : State) (a0 : Array Value) (hw : ∀ d ∈ tables_1, d.before a0 Z = true) (ws : List Jvm.Cond) (r0 : Addr) (r1 : Addr) (u2 : Int32) (u3 : Int32) (h0 : Heap) (n0 : Nat) (Z0 : n0 ≤ h0.size) (E_r : Exa Z h0 r0 "com/example/scorpus/scorpus/engine/ByteReader") (F_bytes : Fld Z h0 r0 "com/example/scorpus/scorpus/engine/ByteReader" "bytes" "[B" .null) (F_position : Fld Z h0 r0 "com/example/scorpus/scorpus/engine/ByteReader" "position" "I" (.int (0 : Int32))) (F_end : Fld Z h0 r0 "com/example/scorpus/scorpus/engine/ByteReader" "end" "I" (.int (0 : Int32))) (g_r0 : n0 ≤ r0) :
    MetFree l (⟨"com/example/scorpus/scorpus/engine/ByteReader", "<init>", "([BII)V"⟩ : MethodName) (head1 (Jvm.Cond.code (⟨"com/example/scorpus/scorpus/engine/ByteReader", "<init>", "([BII)V"⟩ : MethodName) prog_19_method_2_code 4 none :: ws) ({ frames := 1, cells := 0, slots := 0, locals := 12 } : Room)) (fun a U => a = #[(.ref r0), (.ref r1), (.int u2), (.int u3)] ∧ Z.Warmed39 U.vm ∧ U.heap = h0) (fun _ _ _ _ _ => True) (fun _ U o U' => ∃ v L, o = .returned v ∧ QI Z r0 r1 u2 u3 h0 n0 v U'.heap L ∧ FrameEnd U o U' L 0 0) := by
  refine MetFree.of_bodySF (plainFor_of_name pn_1) hisR ?_
  intro p e s m args below meth c s₁ Bd hml0 hP hK
  obtain ⟨rfl, hZ, hh⟩ := hP
  have hx := Bd.exec
  have hby := Bd.bytes
  have hml : c.maxLocals = 4 := hml0
  have hown : s.vm.findClass "com/example/scorpus/scorpus/engine/ByteReader" = some m.cls := findClass_of_methodNamed Bd.named
  have hnm := (name_of_methodNamed Bd.named Bd.method).1
  have X0 : Stand p l e ({ frames := 1, cells := 0, slots := 0, locals := 12 } : Room) s m #[(.ref r0), (.ref r1), (.int u2), (.int u3)] below meth c s₁ [] 0 0 := Stand.of_body Bd
  have e0 : s₁.heap = h0 := by rw [← hh, Bd.state]; rfl
  have N0 := Fr.nil n0
  have pre0 : ∀ t, Steps p.tables e below (s₁.setTop (mkF m 0 #[.val (.ref r0), .val (.ref r1), .val (.int u2), .val (.int u3)] [])) t → Steps p.tables e below (s₁.setTop (entryFrame m #[(.ref r0), (.ref r1), (.int u2), (.int u3)] 4)) t := fun t k => castTop (ef_1 m r0 r1 u2 u3) k
  have K0 : Keep h0 h0 [r0] := Keep.refl h0 [r0]
  obtain ⟨T1, X1, e1, st1⟩ := initO X0 hx hZ hown (hw _ (List.mem_of_getElem? (i := 7) rfl)) (hw _ (List.mem_of_getElem? (i := 8) rfl)) (hw _ (List.mem_of_getElem? (i := 9) rfl)) e0 (g := (mkF m 1 #[.val (.ref r0), .val (.ref r1), .val (.int u2), .val (.int u3)] [(.ref r0)])) rfl (by rw [hml]; rfl) rfl (hb hby d1_1) (by decide) (W := 0) (by show 2 * 0 + _ ≤ _; exact Nat.le_of_eq rfl) (by decide)
  obtain ⟨T2, h2, X2, e2, W2, st2⟩ := putF X1 hx hZ hown (host := "") (Or.inl (hw _ (List.mem_of_getElem? (i := 10) rfl))) Via.refl e1 F_bytes E_r (Or.inr ⟨(hw _ (List.mem_of_getElem? (i := 11) rfl)), rfl, hnm⟩) (hw _ (List.mem_of_getElem? (i := 2) rfl)) (ty := (.array .byte)) (by decide) rfl rfl (g := (mkF m 6 #[.val (.ref r0), .val (.ref r1), .val (.int u2), .val (.int u3)] [(.ref r1), (.ref r0)])) rfl rfl (hb hby d1_6)
  have F_bytes_r0_2 := F_bytes.same W2
  have E_r_3 := E_r.wr W2
  have F_position_4 := F_position.other W2 (Or.inr (slot_ne (Or.inl (hw _ (List.mem_of_getElem? (i := 13) rfl))) (Or.inr (hw _ (List.mem_of_getElem? (i := 11) rfl))) (by decide) (t := .int) (t' := (.array .byte)) (by decide) (by decide)))
  have F_end_5 := F_end.other W2 (Or.inr (slot_ne (Or.inr (hw _ (List.mem_of_getElem? (i := 15) rfl))) (Or.inr (hw _ (List.mem_of_getElem? (i := 11) rfl))) (by decide) (t := .int) (t' := (.array .byte)) (by decide) (by decide)))
  have K2 : Keep h0 h2 [r0] := K0.wr W2 (Or.inl (List.mem_of_getElem? (i := 0) rfl))
  have N2 := Fr.snoc X2 N0 g_r0
  obtain ⟨T6, h6, X6, e6, W6, st6⟩ := putF X2 hx hZ hown (host := "") (Or.inl (hw _ (List.mem_of_getElem? (i := 12) rfl))) Via.refl e2 F_position_4 E_r_3 (Or.inl (hw _ (List.mem_of_getElem? (i := 13) rfl))) (hw _ (List.mem_of_getElem? (i := 2) rfl)) (ty := .int) (by decide) rfl rfl (g := (mkF m 11 #[.val (.ref r0), .val (.ref r1), .val (.int u2), .val (.int u3)] [(.int u2), (.ref r0)])) rfl rfl (hb hby d1_11)
  have F_position_r0_6 := F_position_4.same W6
  have E_r_7 := E_r_3.wr W6
  have F_bytes_r0_8 := F_bytes_r0_2.other W6 (Or.inr (slot_ne (Or.inr (hw _ (List.mem_of_getElem? (i := 11) rfl))) (Or.inl (hw _ (List.mem_of_getElem? (i := 13) rfl))) (by decide) (t := (.array .byte)) (t' := .int) (by decide) (by decide)))
  have F_end_9 := F_end_5.other W6 (Or.inr (slot_ne (Or.inr (hw _ (List.mem_of_getElem? (i := 15) rfl))) (Or.inl (hw _ (List.mem_of_getElem? (i := 13) rfl))) (by decide) (t := .int) (t' := .int) (by decide) (by decide)))
  have K6 : Keep h0 h6 [r0] := K2.wr W6 (Or.inl (List.mem_of_getElem? (i := 0) rfl))
  have N6 := Fr.snoc X6 N2 g_r0
  obtain ⟨T10, h10, X10, e10, W10, st10⟩ := putF X6 hx hZ hown (host := "") (Or.inl (hw _ (List.mem_of_getElem? (i := 14) rfl))) Via.refl e6 F_end_9 E_r_7 (Or.inr ⟨(hw _ (List.mem_of_getElem? (i := 15) rfl)), rfl, hnm⟩) (hw _ (List.mem_of_getElem? (i := 2) rfl)) (ty := .int) (by decide) rfl rfl (g := (mkF m 16 #[.val (.ref r0), .val (.ref r1), .val (.int u2), .val (.int u3)] [(.int u3), (.ref r0)])) rfl rfl (hb hby d1_16)
  have F_end_r0_10 := F_end_9.same W10
  have E_r_11 := E_r_7.wr W10
  have F_bytes_r0_12 := F_bytes_r0_8.other W10 (Or.inr (slot_ne (Or.inr (hw _ (List.mem_of_getElem? (i := 11) rfl))) (Or.inr (hw _ (List.mem_of_getElem? (i := 15) rfl))) (by decide) (t := (.array .byte)) (t' := .int) (by decide) (by decide)))
  have F_position_r0_13 := F_position_r0_6.other W10 (Or.inr (slot_ne (Or.inl (hw _ (List.mem_of_getElem? (i := 13) rfl))) (Or.inr (hw _ (List.mem_of_getElem? (i := 15) rfl))) (by decide) (t := .int) (t' := .int) (by decide) (by decide)))
  have K10 : Keep h0 h10 [r0] := K6.wr W10 (Or.inl (List.mem_of_getElem? (i := 0) rfl))
  have N10 := Fr.snoc X10 N6 g_r0
  obtain ⟨fs, hr, hrun, hended, hW, hsame⟩ := X10.leave (v := none) (fun _ => rfl)
  refine ⟨_, _, pre0 _ ?_, hrun, hended, _, _, rfl, ?_, ⟨_, rfl⟩, hW, hsame.mono (by decide) (by decide)⟩
  · show Steps p.tables e below (s₁.setTop (mkF m 0 #[.val (.ref r0), .val (.ref r1), .val (.int u2), .val (.int u3)] [])) _
    refine XS.aloadN X0.here hx rfl (hb hby d1_0) rfl rfl ?_
    show Steps p.tables e below (s₁.setTop (mkF m 1 #[.val (.ref r0), .val (.ref r1), .val (.int u2), .val (.int u3)] [(.ref r0)])) _
    refine st1 _ ?_
    show Steps p.tables e below (T1.setTop (mkF m 4 #[.val (.ref r0), .val (.ref r1), .val (.int u2), .val (.int u3)] [])) _
    refine XS.aloadN X1.here hx rfl (hb hby d1_4) rfl rfl ?_
    show Steps p.tables e below (T1.setTop (mkF m 5 #[.val (.ref r0), .val (.ref r1), .val (.int u2), .val (.int u3)] [(.ref r0)])) _
    refine XS.aloadN X1.here hx rfl (hb hby d1_5) rfl rfl ?_
    show Steps p.tables e below (T1.setTop (mkF m 6 #[.val (.ref r0), .val (.ref r1), .val (.int u2), .val (.int u3)] [(.ref r1), (.ref r0)])) _
    refine st2 _ ?_
    show Steps p.tables e below (T2.setTop (mkF m 9 #[.val (.ref r0), .val (.ref r1), .val (.int u2), .val (.int u3)] [])) _
    refine XS.aloadN X2.here hx rfl (hb hby d1_9) rfl rfl ?_
    show Steps p.tables e below (T2.setTop (mkF m 10 #[.val (.ref r0), .val (.ref r1), .val (.int u2), .val (.int u3)] [(.ref r0)])) _
    refine XS.iloadN X2.here hx rfl (hb hby d1_10) rfl ?_
    show Steps p.tables e below (T2.setTop (mkF m 11 #[.val (.ref r0), .val (.ref r1), .val (.int u2), .val (.int u3)] [(.int u2), (.ref r0)])) _
    refine st6 _ ?_
    show Steps p.tables e below (T6.setTop (mkF m 14 #[.val (.ref r0), .val (.ref r1), .val (.int u2), .val (.int u3)] [])) _
    refine XS.aloadN X6.here hx rfl (hb hby d1_14) rfl rfl ?_
    show Steps p.tables e below (T6.setTop (mkF m 15 #[.val (.ref r0), .val (.ref r1), .val (.int u2), .val (.int u3)] [(.ref r0)])) _
    refine XS.iloadN X6.here hx rfl (hb hby d1_15) rfl ?_
    show Steps p.tables e below (T6.setTop (mkF m 16 #[.val (.ref r0), .val (.ref r1), .val (.int u2), .val (.int u3)] [(.int u3), (.ref r0)])) _
    refine st10 _ ?_
    show Steps p.tables e below (T10.setTop (mkF m 19 #[.val (.ref r0), .val (.ref r1), .val (.int u2), .val (.int u3)] [])) _
    exact X10.returnOut hx Bd.returns (hb hby d1_19) hr
  · show QI Z r0 r1 u2 u3 h0 n0 _ T10.heap _
    rw [e10]
    exact ⟨rfl, N10, K10, E_r_11, F_bytes_r0_12, F_position_r0_13, F_end_r0_10⟩
theorem d3_0 : decode prog_19_method_6_code 0 = .ok (.aload_n 0, 1) := by decide +kernel
theorem d3_1 : decode prog_19_method_6_code 1 = .ok (.getfield 16, 3) := by decide +kernel
theorem d3_4 : decode prog_19_method_6_code 4 = .ok (.aload_n 0, 1) := by decide +kernel
theorem d3_5 : decode prog_19_method_6_code 5 = .ok (.getfield 20, 3) := by decide +kernel
theorem d3_8 : decode prog_19_method_6_code 8 = .ok (.if_icmp .ne 7, 3) := by decide +kernel
theorem d3_11 : decode prog_19_method_6_code 11 = .ok (.iconst 1, 1) := by decide +kernel
theorem d3_12 : decode prog_19_method_6_code 12 = .ok (.goto 4, 3) := by decide +kernel
theorem d3_15 : decode prog_19_method_6_code 15 = .ok (.iconst 0, 1) := by decide +kernel
theorem d3_16 : decode prog_19_method_6_code 16 = .ok (.ireturn, 1) := by decide +kernel
theorem pn_3 : plainName "com/example/scorpus/scorpus/engine/ByteReader" = true := by first | (simp [plainName, overriddenIn]; done) | decide +kernel
theorem ef_3 (m : MethodId) (x0 : Addr) : entryFrame m #[(.ref x0)] 1 = mkF m 0 #[.val (.ref x0)] [] := by first | (simp [entryFrame, mkF, argsToLocals, Value.category]; done) | rfl
def f3 (w1 : Int32) (w2 : Int32) : Int32 := (if w1 = w2 then (1 : Int32) else (0 : Int32))
set_option maxRecDepth 65536 in
set_option maxHeartbeats 40000000 in
theorem rm3 (l : Launch) (Z : State) (a0 : Array Value) (hw : ∀ d ∈ tables_1, d.before a0 Z = true) (ws : List Jvm.Cond) (r0 : Addr) (w1 : Int32) (w2 : Int32) (h0 : Heap) (n0 : Nat) (Z0 : n0 ≤ h0.size) (F_position : Fld Z h0 r0 "com/example/scorpus/scorpus/engine/ByteReader" "position" "I" (.int w1)) (F_end : Fld Z h0 r0 "com/example/scorpus/scorpus/engine/ByteReader" "end" "I" (.int w2)) :
    MetFree l (⟨"com/example/scorpus/scorpus/engine/ByteReader", "atEnd", "()Z"⟩ : MethodName) (head1 (Jvm.Cond.code (⟨"com/example/scorpus/scorpus/engine/ByteReader", "atEnd", "()Z"⟩ : MethodName) prog_19_method_6_code 1 (some .boolean) :: ws) ({ frames := 0, cells := 0, slots := 0, locals := 0 } : Room)) (fun a U => a = #[(.ref r0)] ∧ Z.Warmed39 U.vm ∧ U.heap = h0) (fun _ _ _ _ _ => True) (fun _ U o U' => ∃ v L, o = .returned v ∧ QP (some (.int (f3 w1 w2))) h0 n0 v U'.heap L ∧ FrameEnd U o U' L 0 0) := by
  refine MetFree.of_bodySF (plainFor_of_name pn_3) hisR ?_
  intro p e s m args below meth c s₁ Bd hml0 hP hK
  obtain ⟨rfl, hZ, hh⟩ := hP
  have hx := Bd.exec
  have hby := Bd.bytes
  have hml : c.maxLocals = 1 := hml0
  have hown : s.vm.findClass "com/example/scorpus/scorpus/engine/ByteReader" = some m.cls := findClass_of_methodNamed Bd.named
  have hnm := (name_of_methodNamed Bd.named Bd.method).1
  have X0 : Stand p l e ({ frames := 0, cells := 0, slots := 0, locals := 0 } : Room) s m #[(.ref r0)] below meth c s₁ [] 0 0 := Stand.of_body Bd
  have e0 : s₁.heap = h0 := by rw [← hh, Bd.state]; rfl
  have N0 := Fr.nil n0
  have pre0 : ∀ t, Steps p.tables e below (s₁.setTop (mkF m 0 #[.val (.ref r0)] [])) t → Steps p.tables e below (s₁.setTop (entryFrame m #[(.ref r0)] 1)) t := fun t k => castTop (ef_3 m r0) k
  obtain ⟨T1, X1, e1, st1⟩ := getF X0 hx hZ hown (host := "") (Or.inl (hw _ (List.mem_of_getElem? (i := 12) rfl))) Via.refl e0 F_position (g := (mkF m 1 #[.val (.ref r0)] [(.ref r0)])) rfl rfl (hb hby d3_1)
  obtain ⟨T2, X2, e2, st2⟩ := getF X1 hx hZ hown (host := "") (Or.inl (hw _ (List.mem_of_getElem? (i := 14) rfl))) Via.refl e1 F_end (g := (mkF m 5 #[.val (.ref r0)] [(.ref r0), (.int w1)])) rfl rfl (hb hby d3_5)
  have pre3 : ∀ t, Steps p.tables e below (T2.setTop (mkF m 8 #[.val (.ref r0)] [(.int w2), (.int w1)])) t → Steps p.tables e below (s₁.setTop (entryFrame m #[(.ref r0)] 1)) t := fun t k => pre0 t (by
    show Steps p.tables e below (s₁.setTop (mkF m 0 #[.val (.ref r0)] [])) _
    refine XS.aloadN X0.here hx rfl (hb hby d3_0) rfl rfl ?_
    show Steps p.tables e below (s₁.setTop (mkF m 1 #[.val (.ref r0)] [(.ref r0)])) _
    refine st1 _ ?_
    show Steps p.tables e below (T1.setTop (mkF m 4 #[.val (.ref r0)] [(.int w1)])) _
    refine XS.aloadN X1.here hx rfl (hb hby d3_4) rfl rfl ?_
    show Steps p.tables e below (T1.setTop (mkF m 5 #[.val (.ref r0)] [(.ref r0), (.int w1)])) _
    refine st2 _ ?_
    exact k)
  by_cases hc8 : w1 = w2
  · -- pc 8: w1 = w2
    obtain ⟨fs, hr, hrun, hended, hW, hsame⟩ := X2.leave (v := (some (.int (1 : Int32)))) (fun h => by rw [Bd.returns] at h; cases h)
    refine ⟨_, _, pre3 _ ?_, hrun, hended, _, _, rfl, ?_, ⟨_, rfl⟩, hW, hsame.mono (by decide) (by decide)⟩
    · show Steps p.tables e below (T2.setTop (mkF m 8 #[.val (.ref r0)] [(.int w2), (.int w1)])) _
      refine XS.icmpNo X2.here hx rfl (hb hby d3_8) rfl (teq hc8).2 ?_
      show Steps p.tables e below (T2.setTop (mkF m 11 #[.val (.ref r0)] [])) _
      refine XS.iconst X2.here hx rfl (hb hby d3_11) ?_
      show Steps p.tables e below (T2.setTop (mkF m 12 #[.val (.ref r0)] [(.int (1 : Int32))])) _
      refine XS.goto X2.here hx rfl (pc0 := 12) (pc' := 16) rfl (hb hby d3_12) (by decide) (by decide) ?_
      show Steps p.tables e below (T2.setTop (mkF m 16 #[.val (.ref r0)] [(.int (1 : Int32))])) _
      exact retN X2 hx (t := .boolean) Bd.returns (by simp) (hb hby d3_16) hr
    · show QP (some (.int (f3 w1 w2))) h0 n0 _ T2.heap _
      rw [e2]
      exact ⟨congrArg (fun z => some (Value.int z)) (Eq.symm (show (f3 w1 w2) = (1 : Int32) from (if_pos hc8).trans (rfl))), N0, rfl⟩
  · -- pc 8: not w1 = w2
    obtain ⟨fs, hr, hrun, hended, hW, hsame⟩ := X2.leave (v := (some (.int (0 : Int32)))) (fun h => by rw [Bd.returns] at h; cases h)
    refine ⟨_, _, pre3 _ ?_, hrun, hended, _, _, rfl, ?_, ⟨_, rfl⟩, hW, hsame.mono (by decide) (by decide)⟩
    · show Steps p.tables e below (T2.setTop (mkF m 8 #[.val (.ref r0)] [(.int w2), (.int w1)])) _
      refine XS.icmpYes X2.here hx rfl (pc0 := 8) (pc' := 15) rfl (hb hby d3_8) rfl (feq hc8).2 (by decide) (by decide) ?_
      show Steps p.tables e below (T2.setTop (mkF m 15 #[.val (.ref r0)] [])) _
      refine XS.iconst X2.here hx rfl (hb hby d3_15) ?_
      show Steps p.tables e below (T2.setTop (mkF m 16 #[.val (.ref r0)] [(.int (0 : Int32))])) _
      exact retN X2 hx (t := .boolean) Bd.returns (by simp) (hb hby d3_16) hr
    · show QP (some (.int (f3 w1 w2))) h0 n0 _ T2.heap _
      rw [e2]
      exact ⟨congrArg (fun z => some (Value.int z)) (Eq.symm (show (f3 w1 w2) = (0 : Int32) from (if_neg hc8).trans (rfl))), N0, rfl⟩
def QR (Z : State) (r0 rb : Addr) (w1 w2 : Int32) (r : Value) (h0 : Heap) (n0 : Nat) (v : Option Value) (h : Heap) (L : List Loc) : Prop := v = some r ∧ Fr n0 L ∧ Keep h0 h [r0] ∧ Exa Z h r0 "com/example/scorpus/scorpus/engine/ByteReader" ∧ Fld Z h r0 "com/example/scorpus/scorpus/engine/ByteReader" "bytes" "[B" (.ref rb) ∧ Fld Z h r0 "com/example/scorpus/scorpus/engine/ByteReader" "position" "I" (.int (w1 + (1 : Int32))) ∧ Fld Z h r0 "com/example/scorpus/scorpus/engine/ByteReader" "end" "I" (.int w2)
theorem d5_0 : decode prog_19_method_7_code 0 = .ok (.aload_n 0, 1) := by decide +kernel
theorem d5_1 : decode prog_19_method_7_code 1 = .ok (.getfield 16, 3) := by decide +kernel
theorem d5_4 : decode prog_19_method_7_code 4 = .ok (.aload_n 0, 1) := by decide +kernel
theorem d5_5 : decode prog_19_method_7_code 5 = .ok (.getfield 20, 3) := by decide +kernel
theorem d5_8 : decode prog_19_method_7_code 8 = .ok (.if_icmp .ne 13, 3) := by decide +kernel
theorem d5_21 : decode prog_19_method_7_code 21 = .ok (.aload_n 0, 1) := by decide +kernel
theorem d5_22 : decode prog_19_method_7_code 22 = .ok (.getfield 12, 3) := by decide +kernel
theorem d5_25 : decode prog_19_method_7_code 25 = .ok (.aload_n 0, 1) := by decide +kernel
theorem d5_26 : decode prog_19_method_7_code 26 = .ok (.dup, 1) := by decide +kernel
theorem d5_27 : decode prog_19_method_7_code 27 = .ok (.getfield 16, 3) := by decide +kernel
theorem d5_30 : decode prog_19_method_7_code 30 = .ok (.dup_x1, 1) := by decide +kernel
theorem d5_31 : decode prog_19_method_7_code 31 = .ok (.iconst 1, 1) := by decide +kernel
theorem d5_32 : decode prog_19_method_7_code 32 = .ok (.iadd, 1) := by decide +kernel
theorem d5_33 : decode prog_19_method_7_code 33 = .ok (.putfield 16, 3) := by decide +kernel
theorem d5_36 : decode prog_19_method_7_code 36 = .ok (.baload, 1) := by decide +kernel
theorem d5_37 : decode prog_19_method_7_code 37 = .ok (.sipush 255, 3) := by decide +kernel
theorem d5_40 : decode prog_19_method_7_code 40 = .ok (.iand, 1) := by decide +kernel
theorem d5_41 : decode prog_19_method_7_code 41 = .ok (.ireturn, 1) := by decide +kernel
theorem pn_5 : plainName "com/example/scorpus/scorpus/engine/ByteReader" = true := by first | (simp [plainName, overriddenIn]; done) | decide +kernel
theorem ef_5 (m : MethodId) (x0 : Addr) : entryFrame m #[(.ref x0)] 1 = mkF m 0 #[.val (.ref x0)] [] := by first | (simp [entryFrame, mkF, argsToLocals, Value.category]; done) | rfl
set_option maxRecDepth 65536 in
set_option maxHeartbeats 40000000 in
theorem rm5 (l : Launch) (Z : State) (a0 : Array Value) (hw : ∀ d ∈ tables_1, d.before a0 Z = true) (ws : List Jvm.Cond) (r0 : Addr) (rb : Addr) (kb : ClassId) (nb : Int32) (vs : List Value) (w1 : Int32) (w2 : Int32) (z : Int32) (h0 : Heap) (n0 : Nat) (Z0 : n0 ≤ h0.size) (E_r : Exa Z h0 r0 "com/example/scorpus/scorpus/engine/ByteReader") (F_bytes : Fld Z h0 r0 "com/example/scorpus/scorpus/engine/ByteReader" "bytes" "[B" (.ref rb)) (F_position : Fld Z h0 r0 "com/example/scorpus/scorpus/engine/ByteReader" "position" "I" (.int w1)) (F_end : Fld Z h0 r0 "com/example/scorpus/scorpus/engine/ByteReader" "end" "I" (.int w2)) (g_r0 : n0 ≤ r0) (V_b : Arv Z h0 rb kb .byte nb vs (.int (0 : Int32))) (n_rb : rb ≠ r0) (hne : ¬ (w1 = w2)) (hin : ¬ w1 < 0 ∧ w1 < nb) (hz : vs.getD w1.toNatClampNeg (.int (0 : Int32)) = .int z) :
    MetFree l (⟨"com/example/scorpus/scorpus/engine/ByteReader", "readByte", "()I"⟩ : MethodName) (head1 (Jvm.Cond.code (⟨"com/example/scorpus/scorpus/engine/ByteReader", "readByte", "()I"⟩ : MethodName) prog_19_method_7_code 1 (some .int) :: ws) ({ frames := 0, cells := 0, slots := 0, locals := 0 } : Room)) (fun a U => a = #[(.ref r0)] ∧ Z.Warmed39 U.vm ∧ U.heap = h0) (fun _ _ _ _ _ => True) (fun _ U o U' => ∃ v L, o = .returned v ∧ QR Z r0 rb w1 w2 (.int (z &&& (255 : Int32))) h0 n0 v U'.heap L ∧ FrameEnd U o U' L 0 0) := by
  refine MetFree.of_bodySF (plainFor_of_name pn_5) hisR ?_
  intro p e s m args below meth c s₁ Bd hml0 hP hK
  obtain ⟨rfl, hZ, hh⟩ := hP
  have hx := Bd.exec
  have hby := Bd.bytes
  have hml : c.maxLocals = 1 := hml0
  have hown : s.vm.findClass "com/example/scorpus/scorpus/engine/ByteReader" = some m.cls := findClass_of_methodNamed Bd.named
  have hnm := (name_of_methodNamed Bd.named Bd.method).1
  have X0 : Stand p l e ({ frames := 0, cells := 0, slots := 0, locals := 0 } : Room) s m #[(.ref r0)] below meth c s₁ [] 0 0 := Stand.of_body Bd
  have e0 : s₁.heap = h0 := by rw [← hh, Bd.state]; rfl
  have N0 := Fr.nil n0
  have pre0 : ∀ t, Steps p.tables e below (s₁.setTop (mkF m 0 #[.val (.ref r0)] [])) t → Steps p.tables e below (s₁.setTop (entryFrame m #[(.ref r0)] 1)) t := fun t k => castTop (ef_5 m r0) k
  have K0 : Keep h0 h0 [r0] := Keep.refl h0 [r0]
  obtain ⟨T1, X1, e1, st1⟩ := getF X0 hx hZ hown (host := "") (Or.inl (hw _ (List.mem_of_getElem? (i := 12) rfl))) Via.refl e0 F_position (g := (mkF m 1 #[.val (.ref r0)] [(.ref r0)])) rfl rfl (hb hby d5_1)
  obtain ⟨T2, X2, e2, st2⟩ := getF X1 hx hZ hown (host := "") (Or.inl (hw _ (List.mem_of_getElem? (i := 14) rfl))) Via.refl e1 F_end (g := (mkF m 5 #[.val (.ref r0)] [(.ref r0), (.int w1)])) rfl rfl (hb hby d5_5)
  obtain ⟨T3, X3, e3, st3⟩ := getF X2 hx hZ hown (host := "") (Or.inl (hw _ (List.mem_of_getElem? (i := 10) rfl))) Via.refl e2 F_bytes (g := (mkF m 22 #[.val (.ref r0)] [(.ref r0)])) rfl rfl (hb hby d5_22)
  obtain ⟨T4, X4, e4, st4⟩ := getF X3 hx hZ hown (host := "") (Or.inl (hw _ (List.mem_of_getElem? (i := 12) rfl))) Via.refl e3 F_position (g := (mkF m 27 #[.val (.ref r0)] [(.ref r0), (.ref r0), (.ref rb)])) rfl rfl (hb hby d5_27)
  obtain ⟨T5, h5, X5, e5, W5, st5⟩ := putF X4 hx hZ hown (host := "") (Or.inl (hw _ (List.mem_of_getElem? (i := 12) rfl))) Via.refl e4 F_position E_r (Or.inl (hw _ (List.mem_of_getElem? (i := 13) rfl))) (hw _ (List.mem_of_getElem? (i := 2) rfl)) (ty := .int) (by decide) rfl rfl (g := (mkF m 33 #[.val (.ref r0)] [(.int (w1 + (1 : Int32))), (.ref r0), (.int w1), (.ref rb)])) rfl rfl (hb hby d5_33)
  have F_position_r0_5 := F_position.same W5
  have E_r_6 := E_r.wr W5
  have F_bytes_7 := F_bytes.other W5 (Or.inr (slot_ne (Or.inr (hw _ (List.mem_of_getElem? (i := 11) rfl))) (Or.inl (hw _ (List.mem_of_getElem? (i := 13) rfl))) (by decide) (t := (.array .byte)) (t' := .int) (by decide) (by decide)))
  have F_end_8 := F_end.other W5 (Or.inr (slot_ne (Or.inr (hw _ (List.mem_of_getElem? (i := 15) rfl))) (Or.inl (hw _ (List.mem_of_getElem? (i := 13) rfl))) (by decide) (t := .int) (t' := .int) (by decide) (by decide)))
  have V_b_9 := V_b.other W5 n_rb
  have K5 : Keep h0 h5 [r0] := K0.wr W5 (Or.inl (List.mem_of_getElem? (i := 0) rfl))
  have N5 := Fr.snoc X5 N0 g_r0
  obtain ⟨c10, Ar10, hin10, hat10, hfit10⟩ := own_elemV V_b_9 (j := w1) hin hz
  obtain ⟨fs, hr, hrun, hended, hW, hsame⟩ := X5.leave (v := (some (.int (z &&& (255 : Int32))))) (fun h => by rw [Bd.returns] at h; cases h)
  refine ⟨_, _, pre0 _ ?_, hrun, hended, _, _, rfl, ?_, ⟨_, rfl⟩, hW, hsame.mono (by decide) (by decide)⟩
  · show Steps p.tables e below (s₁.setTop (mkF m 0 #[.val (.ref r0)] [])) _
    refine XS.aloadN X0.here hx rfl (hb hby d5_0) rfl rfl ?_
    show Steps p.tables e below (s₁.setTop (mkF m 1 #[.val (.ref r0)] [(.ref r0)])) _
    refine st1 _ ?_
    show Steps p.tables e below (T1.setTop (mkF m 4 #[.val (.ref r0)] [(.int w1)])) _
    refine XS.aloadN X1.here hx rfl (hb hby d5_4) rfl rfl ?_
    show Steps p.tables e below (T1.setTop (mkF m 5 #[.val (.ref r0)] [(.ref r0), (.int w1)])) _
    refine st2 _ ?_
    show Steps p.tables e below (T2.setTop (mkF m 8 #[.val (.ref r0)] [(.int w2), (.int w1)])) _
    refine XS.icmpYes X2.here hx rfl (pc0 := 8) (pc' := 21) rfl (hb hby d5_8) rfl (feq hne).2 (by decide) (by decide) ?_
    show Steps p.tables e below (T2.setTop (mkF m 21 #[.val (.ref r0)] [])) _
    refine XS.aloadN X2.here hx rfl (hb hby d5_21) rfl rfl ?_
    show Steps p.tables e below (T2.setTop (mkF m 22 #[.val (.ref r0)] [(.ref r0)])) _
    refine st3 _ ?_
    show Steps p.tables e below (T3.setTop (mkF m 25 #[.val (.ref r0)] [(.ref rb)])) _
    refine XS.aloadN X3.here hx rfl (hb hby d5_25) rfl rfl ?_
    show Steps p.tables e below (T3.setTop (mkF m 26 #[.val (.ref r0)] [(.ref r0), (.ref rb)])) _
    refine XS.dup X3.here hx rfl (hb hby d5_26) rfl rfl ?_
    show Steps p.tables e below (T3.setTop (mkF m 27 #[.val (.ref r0)] [(.ref r0), (.ref r0), (.ref rb)])) _
    refine st4 _ ?_
    show Steps p.tables e below (T4.setTop (mkF m 30 #[.val (.ref r0)] [(.int w1), (.ref r0), (.ref rb)])) _
    refine XS.dupX1 X4.here hx rfl (hb hby d5_30) rfl rfl rfl ?_
    show Steps p.tables e below (T4.setTop (mkF m 31 #[.val (.ref r0)] [(.int w1), (.ref r0), (.int w1), (.ref rb)])) _
    refine XS.iconst X4.here hx rfl (hb hby d5_31) ?_
    show Steps p.tables e below (T4.setTop (mkF m 32 #[.val (.ref r0)] [(.int (1 : Int32)), (.int w1), (.ref r0), (.int w1), (.ref rb)])) _
    refine XS.iadd X4.here hx rfl (hb hby d5_32) rfl ?_
    show Steps p.tables e below (T4.setTop (mkF m 33 #[.val (.ref r0)] [(.int (w1 + (1 : Int32))), (.ref r0), (.int w1), (.ref rb)])) _
    refine st5 _ ?_
    show Steps p.tables e below (T5.setTop (mkF m 36 #[.val (.ref r0)] [(.int w1), (.ref rb)])) _
    refine X5.baloadBytes hx (j := w1) (v := (.int z)) (by rw [e5]; exact Ar10.1) (State.isArrayOf_alike hZ.alike Ar10.2.1) Ar10.2.2 hin10 hat10 (g := (mkF m 36 #[.val (.ref r0)] [(.int w1), (.ref rb)])) rfl rfl (hb hby d5_36) _ ?_
    show Steps p.tables e below (T5.setTop (mkF m 37 #[.val (.ref r0)] [(.int z)])) _
    refine XS.sipush X5.here hx rfl (hb hby d5_37) ?_
    show Steps p.tables e below (T5.setTop (mkF m 40 #[.val (.ref r0)] [(.int (255 : Int32)), (.int z)])) _
    refine XS.iand X5.here hx rfl (hb hby d5_40) rfl ?_
    show Steps p.tables e below (T5.setTop (mkF m 41 #[.val (.ref r0)] [(.int (z &&& (255 : Int32)))])) _
    exact retI X5 hx Bd.returns (hb hby d5_41) hr
  · show QR Z r0 rb w1 w2 (.int (z &&& (255 : Int32))) h0 n0 _ T5.heap _
    rw [e5]
    exact ⟨rfl, N5, K5, E_r_6, F_bytes_7, F_position_r0_5, F_end_8⟩
theorem own_small (x : Int32) (n : Nat) (h0 : 0 ≤ x.toInt) (h1 : x.toInt < (n : Int)) (hn : n ≤ 2147483648) : ∃ k : Fin n, x = k.val.toInt32 := by
  refine ⟨⟨x.toInt.toNat, by omega⟩, Int32.toInt_inj.mp ?_⟩
  rw [len_toInt (show x.toInt.toNat < 2 ^ 31 by omega)]
  omega
theorem own_num128 : ∀ k : Fin 128, ((0 : Int64) ||| (((k.val.toInt32 &&& (255 : Int32)) &&& (127 : Int32)).toInt64 <<< ((0 : Int32) &&& 0x3f).toInt64)) = k.val.toInt32.toInt64 ∧ (k.val.toInt32 &&& (255 : Int32)) < (128 : Int32) := by decide +kernel
theorem own_num (z : Int32) (h0 : 0 ≤ z.toInt) (h1 : z.toInt < 128) : ((0 : Int64) ||| (((z &&& (255 : Int32)) &&& (127 : Int32)).toInt64 <<< ((0 : Int32) &&& 0x3f).toInt64)) = z.toInt64 := by
  obtain ⟨k, rfl⟩ := own_small z 128 h0 h1 (by decide)
  exact (own_num128 k).1
theorem own_128 (z : Int32) (h0 : 0 ≤ z.toInt) (h1 : z.toInt < 128) : (z &&& (255 : Int32)) < (128 : Int32) := by
  obtain ⟨k, rfl⟩ := own_small z 128 h0 h1 (by decide)
  exact (own_num128 k).2
theorem d4_0 : decode prog_19_method_3_code 0 = .ok (.lconst 0, 1) := by decide +kernel
theorem d4_1 : decode prog_19_method_3_code 1 = .ok (.lstore_n 1, 1) := by decide +kernel
theorem d4_2 : decode prog_19_method_3_code 2 = .ok (.iconst 0, 1) := by decide +kernel
theorem d4_3 : decode prog_19_method_3_code 3 = .ok (.istore_n 3, 1) := by decide +kernel
theorem d4_4 : decode prog_19_method_3_code 4 = .ok (.iload_n 3, 1) := by decide +kernel
theorem d4_5 : decode prog_19_method_3_code 5 = .ok (.bipush 63, 2) := by decide +kernel
theorem d4_7 : decode prog_19_method_3_code 7 = .ok (.if_icmp .ge 36, 3) := by decide +kernel
theorem d4_10 : decode prog_19_method_3_code 10 = .ok (.aload_n 0, 1) := by decide +kernel
theorem d4_11 : decode prog_19_method_3_code 11 = .ok (.invokevirtual 25, 3) := by decide +kernel
theorem d4_14 : decode prog_19_method_3_code 14 = .ok (.istore 4, 2) := by decide +kernel
theorem d4_16 : decode prog_19_method_3_code 16 = .ok (.lload_n 1, 1) := by decide +kernel
theorem d4_17 : decode prog_19_method_3_code 17 = .ok (.iload 4, 2) := by decide +kernel
theorem d4_19 : decode prog_19_method_3_code 19 = .ok (.bipush 127, 2) := by decide +kernel
theorem d4_21 : decode prog_19_method_3_code 21 = .ok (.iand, 1) := by decide +kernel
theorem d4_22 : decode prog_19_method_3_code 22 = .ok (.i2l, 1) := by decide +kernel
theorem d4_23 : decode prog_19_method_3_code 23 = .ok (.iload_n 3, 1) := by decide +kernel
theorem d4_24 : decode prog_19_method_3_code 24 = .ok (.lshl, 1) := by decide +kernel
theorem d4_25 : decode prog_19_method_3_code 25 = .ok (.lor, 1) := by decide +kernel
theorem d4_26 : decode prog_19_method_3_code 26 = .ok (.lstore_n 1, 1) := by decide +kernel
theorem d4_27 : decode prog_19_method_3_code 27 = .ok (.iload 4, 2) := by decide +kernel
theorem d4_29 : decode prog_19_method_3_code 29 = .ok (.sipush 128, 3) := by decide +kernel
theorem d4_32 : decode prog_19_method_3_code 32 = .ok (.if_icmp .ge 5, 3) := by decide +kernel
theorem d4_35 : decode prog_19_method_3_code 35 = .ok (.lload_n 1, 1) := by decide +kernel
theorem d4_36 : decode prog_19_method_3_code 36 = .ok (.lreturn, 1) := by decide +kernel
theorem pn_4 : plainName "com/example/scorpus/scorpus/engine/ByteReader" = true := by first | (simp [plainName, overriddenIn]; done) | decide +kernel
theorem ef_4 (m : MethodId) (x0 : Addr) : entryFrame m #[(.ref x0)] 5 = mkF m 0 #[.val (.ref x0), .unset, .unset, .unset, .unset] [] := by first | (simp [entryFrame, mkF, argsToLocals, Value.category]; done) | rfl
theorem pd_0 : parseMethodDescriptor "()I" = some ⟨[], some .int⟩ := by decide +kernel
set_option maxRecDepth 65536 in
set_option maxHeartbeats 40000000 in
theorem rm4 (l : Launch) (Z : State) (a0 : Array Value) (hw : ∀ d ∈ tables_1, d.before a0 Z = true) (ws : List Jvm.Cond) (r0 : Addr) (rb : Addr) (kb : ClassId) (nb : Int32) (vs : List Value) (w1 : Int32) (w2 : Int32) (z : Int32) (h0 : Heap) (n0 : Nat) (Z0 : n0 ≤ h0.size) (E_r : Exa Z h0 r0 "com/example/scorpus/scorpus/engine/ByteReader") (F_bytes : Fld Z h0 r0 "com/example/scorpus/scorpus/engine/ByteReader" "bytes" "[B" (.ref rb)) (F_position : Fld Z h0 r0 "com/example/scorpus/scorpus/engine/ByteReader" "position" "I" (.int w1)) (F_end : Fld Z h0 r0 "com/example/scorpus/scorpus/engine/ByteReader" "end" "I" (.int w2)) (g_r0 : n0 ≤ r0) (V_b : Arv Z h0 rb kb .byte nb vs (.int (0 : Int32))) (n_rb : rb ≠ r0) (hne : ¬ (w1 = w2)) (hin : ¬ w1 < 0 ∧ w1 < nb) (hz : vs.getD w1.toNatClampNeg (.int (0 : Int32)) = .int z) (hz0 : 0 ≤ z.toInt) (hz1 : z.toInt < 128) :
    MetFree l (⟨"com/example/scorpus/scorpus/engine/ByteReader", "readNumber", "()J"⟩ : MethodName) (head1 (Jvm.Cond.code (⟨"com/example/scorpus/scorpus/engine/ByteReader", "readNumber", "()J"⟩ : MethodName) prog_19_method_3_code 5 (some .long) :: ws) ({ frames := 1, cells := 0, slots := 0, locals := 12 } : Room)) (fun a U => a = #[(.ref r0)] ∧ Z.Warmed39 U.vm ∧ U.heap = h0) (fun _ _ _ _ _ => True) (fun _ U o U' => ∃ v L, o = .returned v ∧ QR Z r0 rb w1 w2 (.long z.toInt64) h0 n0 v U'.heap L ∧ FrameEnd U o U' L 0 0) := by
  refine MetFree.of_bodySF (plainFor_of_name pn_4) hisR ?_
  intro p e s m args below meth c s₁ Bd hml0 hP hK
  obtain ⟨rfl, hZ, hh⟩ := hP
  have hx := Bd.exec
  have hby := Bd.bytes
  have hml : c.maxLocals = 5 := hml0
  have hown : s.vm.findClass "com/example/scorpus/scorpus/engine/ByteReader" = some m.cls := findClass_of_methodNamed Bd.named
  have hnm := (name_of_methodNamed Bd.named Bd.method).1
  have X0 : Stand p l e ({ frames := 1, cells := 0, slots := 0, locals := 12 } : Room) s m #[(.ref r0)] below meth c s₁ [] 0 0 := Stand.of_body Bd
  have e0 : s₁.heap = h0 := by rw [← hh, Bd.state]; rfl
  have N0 := Fr.nil n0
  have pre0 : ∀ t, Steps p.tables e below (s₁.setTop (mkF m 0 #[.val (.ref r0), .unset, .unset, .unset, .unset] [])) t → Steps p.tables e below (s₁.setTop (entryFrame m #[(.ref r0)] 5)) t := fun t k => castTop (ef_4 m r0) k
  have K0 : Keep h0 h0 [r0] := Keep.refl h0 [r0]
  obtain ⟨cq1, q1, q1'⟩ := E_r.cell
  obtain ⟨_, _, ⟨T1, L1, k1, n1⟩, -, X1, ⟨Lc1, hQ1, l1, y1, z1⟩, st1⟩ := X0.privateBack hx (y := (⟨"com/example/scorpus/scorpus/engine/ByteReader", "readByte", "()I"⟩ : MethodName)) hown (mvT hZ (hw _ (List.mem_of_getElem? (i := 27) rfl))) (mvT hZ (hw _ (List.mem_of_getElem? (i := 28) rfl))) (own_selp (by decide) (mvT hZ (hw _ (List.mem_of_getElem? (i := 2) rfl))) (mvP hZ (hw _ (List.mem_of_getElem? (i := 29) rfl))) (mvT hZ (hw _ (List.mem_of_getElem? (i := 28) rfl)))) (Cond.privateMethod_at (mvP hZ (hw _ (List.mem_of_getElem? (i := 29) rfl)) (args := #[]))) (mvT hZ (hw _ (List.mem_of_getElem? (i := 30) rfl))) (by decide) (backOf (W := 0) (rm5 l Z a0 hw [] r0 rb kb nb vs w1 w2 z h0 n0 Z0 E_r F_bytes F_position F_end g_r0 V_b n_rb hne hin hz) hZ (hw _ (List.mem_of_getElem? (i := 30) rfl)) (hw _ (List.mem_of_getElem? (i := 3) rfl)) (by decide) (by decide)) (g := (mkF m 11 #[.val (.ref r0), .val (.long (0 : Int64)), .second, .val (.int (0 : Int32)), .unset] [(.ref r0)])) rfl (by rw [hml]; rfl) (Steps.refl _) (a := r0) (by rw [e0]; exact q1) q1' (argsL := []) (rest := []) (lenOf pd_0 rfl) rfl (by show 2 * 0 + _ ≤ _; exact Nat.le_of_eq rfl) (hb hby d4_11) (fun _ _ => ⟨rfl, e0, (by decide : 0 + 0 ≤ _), (by decide : 0 + 0 ≤ _)⟩)
  dsimp only [Pt.U, Pt.locs, Pt.cells, Pt.slots] at X1 l1 y1 z1 st1 hQ1
  subst l1 y1 z1
  obtain ⟨rfl, N1q, K1q, E_r1, F_bytes1, F_position1, F_end1⟩ := hQ1
  have N1 := Fr.app N0 N1q
  have K1 : Keep h0 T1.heap [r0] := K0.trans K1q (allS (Or.inl (List.mem_of_getElem? (i := 0) rfl)) all0)
  have V_b_2 := V_b.keep K1q (ninS n_rb nin0)
  obtain ⟨fs, hr, hrun, hended, hW, hsame⟩ := X1.leave (v := (some (.long ((0 : Int64) ||| ((((z &&& (255 : Int32)) &&& (127 : Int32)).toInt64) <<< ((0 : Int32) &&& 0x3f).toInt64))))) (fun h => by rw [Bd.returns] at h; cases h)
  refine ⟨_, _, pre0 _ ?_, hrun, hended, _, _, rfl, ?_, ⟨_, rfl⟩, hW, hsame.mono (by decide) (by decide)⟩
  · show Steps p.tables e below (s₁.setTop (mkF m 0 #[.val (.ref r0), .unset, .unset, .unset, .unset] [])) _
    refine XS.lconst X0.here hx rfl (hb hby d4_0) ?_
    show Steps p.tables e below (s₁.setTop (mkF m 1 #[.val (.ref r0), .unset, .unset, .unset, .unset] [(.long (0 : Int64))])) _
    refine XS.lstoreN X0.here hx rfl (hb hby d4_1) rfl (l' := #[.val (.ref r0), .val (.long (0 : Int64)), .second, .unset, .unset]) rfl ?_
    show Steps p.tables e below (s₁.setTop (mkF m 2 #[.val (.ref r0), .val (.long (0 : Int64)), .second, .unset, .unset] [])) _
    refine XS.iconst X0.here hx rfl (hb hby d4_2) ?_
    show Steps p.tables e below (s₁.setTop (mkF m 3 #[.val (.ref r0), .val (.long (0 : Int64)), .second, .unset, .unset] [(.int (0 : Int32))])) _
    refine XS.istoreN X0.here hx rfl (hb hby d4_3) rfl (l' := #[.val (.ref r0), .val (.long (0 : Int64)), .second, .val (.int (0 : Int32)), .unset]) rfl ?_
    show Steps p.tables e below (s₁.setTop (mkF m 4 #[.val (.ref r0), .val (.long (0 : Int64)), .second, .val (.int (0 : Int32)), .unset] [])) _
    refine XS.iloadN X0.here hx rfl (hb hby d4_4) rfl ?_
    show Steps p.tables e below (s₁.setTop (mkF m 5 #[.val (.ref r0), .val (.long (0 : Int64)), .second, .val (.int (0 : Int32)), .unset] [(.int (0 : Int32))])) _
    refine XS.bipush X0.here hx rfl (hb hby d4_5) ?_
    show Steps p.tables e below (s₁.setTop (mkF m 7 #[.val (.ref r0), .val (.long (0 : Int64)), .second, .val (.int (0 : Int32)), .unset] [(.int (63 : Int32)), (.int (0 : Int32))])) _
    refine XS.icmpNo X0.here hx rfl (hb hby d4_7) rfl (tlt (by decide : (0 : Int32) < (63 : Int32))).2.1 ?_
    show Steps p.tables e below (s₁.setTop (mkF m 10 #[.val (.ref r0), .val (.long (0 : Int64)), .second, .val (.int (0 : Int32)), .unset] [])) _
    refine XS.aloadN X0.here hx rfl (hb hby d4_10) rfl rfl ?_
    show Steps p.tables e below (s₁.setTop (mkF m 11 #[.val (.ref r0), .val (.long (0 : Int64)), .second, .val (.int (0 : Int32)), .unset] [(.ref r0)])) _
    refine st1.trans ?_
    show Steps p.tables e below (T1.setTop (mkF m 14 #[.val (.ref r0), .val (.long (0 : Int64)), .second, .val (.int (0 : Int32)), .unset] [(.int (z &&& (255 : Int32)))])) _
    refine XS.istore X1.here hx rfl (hb hby d4_14) rfl (l' := #[.val (.ref r0), .val (.long (0 : Int64)), .second, .val (.int (0 : Int32)), .val (.int (z &&& (255 : Int32)))]) rfl ?_
    show Steps p.tables e below (T1.setTop (mkF m 16 #[.val (.ref r0), .val (.long (0 : Int64)), .second, .val (.int (0 : Int32)), .val (.int (z &&& (255 : Int32)))] [])) _
    refine XS.lloadN X1.here hx rfl (hb hby d4_16) rfl ?_
    show Steps p.tables e below (T1.setTop (mkF m 17 #[.val (.ref r0), .val (.long (0 : Int64)), .second, .val (.int (0 : Int32)), .val (.int (z &&& (255 : Int32)))] [(.long (0 : Int64))])) _
    refine XS.iload X1.here hx rfl (hb hby d4_17) rfl ?_
    show Steps p.tables e below (T1.setTop (mkF m 19 #[.val (.ref r0), .val (.long (0 : Int64)), .second, .val (.int (0 : Int32)), .val (.int (z &&& (255 : Int32)))] [(.int (z &&& (255 : Int32))), (.long (0 : Int64))])) _
    refine XS.bipush X1.here hx rfl (hb hby d4_19) ?_
    show Steps p.tables e below (T1.setTop (mkF m 21 #[.val (.ref r0), .val (.long (0 : Int64)), .second, .val (.int (0 : Int32)), .val (.int (z &&& (255 : Int32)))] [(.int (127 : Int32)), (.int (z &&& (255 : Int32))), (.long (0 : Int64))])) _
    refine XS.iand X1.here hx rfl (hb hby d4_21) rfl ?_
    show Steps p.tables e below (T1.setTop (mkF m 22 #[.val (.ref r0), .val (.long (0 : Int64)), .second, .val (.int (0 : Int32)), .val (.int (z &&& (255 : Int32)))] [(.int ((z &&& (255 : Int32)) &&& (127 : Int32))), (.long (0 : Int64))])) _
    refine XS.i2l X1.here hx rfl (hb hby d4_22) rfl ?_
    show Steps p.tables e below (T1.setTop (mkF m 23 #[.val (.ref r0), .val (.long (0 : Int64)), .second, .val (.int (0 : Int32)), .val (.int (z &&& (255 : Int32)))] [(.long (((z &&& (255 : Int32)) &&& (127 : Int32)).toInt64)), (.long (0 : Int64))])) _
    refine XS.iloadN X1.here hx rfl (hb hby d4_23) rfl ?_
    show Steps p.tables e below (T1.setTop (mkF m 24 #[.val (.ref r0), .val (.long (0 : Int64)), .second, .val (.int (0 : Int32)), .val (.int (z &&& (255 : Int32)))] [(.int (0 : Int32)), (.long (((z &&& (255 : Int32)) &&& (127 : Int32)).toInt64)), (.long (0 : Int64))])) _
    refine XS.lshl X1.here hx rfl (hb hby d4_24) rfl ?_
    show Steps p.tables e below (T1.setTop (mkF m 25 #[.val (.ref r0), .val (.long (0 : Int64)), .second, .val (.int (0 : Int32)), .val (.int (z &&& (255 : Int32)))] [(.long ((((z &&& (255 : Int32)) &&& (127 : Int32)).toInt64) <<< ((0 : Int32) &&& 0x3f).toInt64)), (.long (0 : Int64))])) _
    refine XS.lor X1.here hx rfl (hb hby d4_25) rfl ?_
    show Steps p.tables e below (T1.setTop (mkF m 26 #[.val (.ref r0), .val (.long (0 : Int64)), .second, .val (.int (0 : Int32)), .val (.int (z &&& (255 : Int32)))] [(.long ((0 : Int64) ||| ((((z &&& (255 : Int32)) &&& (127 : Int32)).toInt64) <<< ((0 : Int32) &&& 0x3f).toInt64)))])) _
    refine XS.lstoreN X1.here hx rfl (hb hby d4_26) rfl (l' := #[.val (.ref r0), .val (.long ((0 : Int64) ||| ((((z &&& (255 : Int32)) &&& (127 : Int32)).toInt64) <<< ((0 : Int32) &&& 0x3f).toInt64))), .second, .val (.int (0 : Int32)), .val (.int (z &&& (255 : Int32)))]) rfl ?_
    show Steps p.tables e below (T1.setTop (mkF m 27 #[.val (.ref r0), .val (.long ((0 : Int64) ||| ((((z &&& (255 : Int32)) &&& (127 : Int32)).toInt64) <<< ((0 : Int32) &&& 0x3f).toInt64))), .second, .val (.int (0 : Int32)), .val (.int (z &&& (255 : Int32)))] [])) _
    refine XS.iload X1.here hx rfl (hb hby d4_27) rfl ?_
    show Steps p.tables e below (T1.setTop (mkF m 29 #[.val (.ref r0), .val (.long ((0 : Int64) ||| ((((z &&& (255 : Int32)) &&& (127 : Int32)).toInt64) <<< ((0 : Int32) &&& 0x3f).toInt64))), .second, .val (.int (0 : Int32)), .val (.int (z &&& (255 : Int32)))] [(.int (z &&& (255 : Int32)))])) _
    refine XS.sipush X1.here hx rfl (hb hby d4_29) ?_
    show Steps p.tables e below (T1.setTop (mkF m 32 #[.val (.ref r0), .val (.long ((0 : Int64) ||| ((((z &&& (255 : Int32)) &&& (127 : Int32)).toInt64) <<< ((0 : Int32) &&& 0x3f).toInt64))), .second, .val (.int (0 : Int32)), .val (.int (z &&& (255 : Int32)))] [(.int (128 : Int32)), (.int (z &&& (255 : Int32)))])) _
    refine XS.icmpNo X1.here hx rfl (hb hby d4_32) rfl (tlt (own_128 z hz0 hz1)).2.1 ?_
    show Steps p.tables e below (T1.setTop (mkF m 35 #[.val (.ref r0), .val (.long ((0 : Int64) ||| ((((z &&& (255 : Int32)) &&& (127 : Int32)).toInt64) <<< ((0 : Int32) &&& 0x3f).toInt64))), .second, .val (.int (0 : Int32)), .val (.int (z &&& (255 : Int32)))] [])) _
    refine XS.lloadN X1.here hx rfl (hb hby d4_35) rfl ?_
    show Steps p.tables e below (T1.setTop (mkF m 36 #[.val (.ref r0), .val (.long ((0 : Int64) ||| ((((z &&& (255 : Int32)) &&& (127 : Int32)).toInt64) <<< ((0 : Int32) &&& 0x3f).toInt64))), .second, .val (.int (0 : Int32)), .val (.int (z &&& (255 : Int32)))] [(.long ((0 : Int64) ||| ((((z &&& (255 : Int32)) &&& (127 : Int32)).toInt64) <<< ((0 : Int32) &&& 0x3f).toInt64)))])) _
    exact retOut X1 hx Bd.returns rfl (Or.inr (Or.inl ⟨rfl, rfl, _, rfl⟩)) (hb hby d4_36) hr
  · show QR Z r0 rb w1 w2 (.long z.toInt64) h0 n0 _ T1.heap _
    exact ⟨congrArg (fun z => some (Value.long z)) (own_num z hz0 hz1), N1, K1, E_r1, F_bytes1, F_position1, F_end1⟩
theorem pn_0 : plainName "com/example/scorpus/scorpus/engine/ByteReaderAtEndPinLaw" = true := by first | (simp [plainName, overriddenIn]; done) | decide +kernel
theorem ef_0 (m : MethodId) (x0 : Int32) (x1 : Int32) (x2 : Int32) (x3 : Int32) (x4 : Int32) (x5 : Int32) : entryFrame m #[(.int x0), (.int x1), (.int x2), (.int x3), (.int x4), (.int x5)] maxLocals = mkF m 0 #[.val (.int x0), .val (.int x1), .val (.int x2), .val (.int x3), .val (.int x4), .val (.int x5), .unset, .unset, .unset, .unset, .unset, .unset, .unset, .unset, .unset, .unset, .unset, .unset] [] := by first | (simp [entryFrame, mkF, argsToLocals, Value.category, maxLocals]; done) | rfl
def j0_46 (u0 : Int32) (u1 : Int32) (u2 : Int32) : Int32 := (if (((u2.toUInt32 >>> ((8 : Int32) &&& 31).toUInt32).toInt32) &&& (1 : Int32)) = (0 : Int32) then u1 else u0)
theorem pd_1 : parseMethodDescriptor "([BII)V" = some ⟨[(.array .byte), .int, .int], none⟩ := by decide +kernel
theorem pd_2 : parseMethodDescriptor "()Z" = some ⟨[], some .boolean⟩ := by decide +kernel
def j0_81 (u0 : Int32) (u1 : Int32) (u2 : Int32) : Int32 := (if u0 = (j0_46 u0 u1 u2) then (1 : Int32) else (0 : Int32))
def j0_161 (ll : Int32) : Int32 := (if ll = (0 : Int32) then (1 : Int32) else (0 : Int32))
theorem pd_3 : parseMethodDescriptor "()J" = some ⟨[], some .long⟩ := by decide +kernel
def j0_238 (ff : Int32) (tt : Int32) : Int32 := (if (ff + (1 : Int32)) = tt then (1 : Int32) else (0 : Int32))
def j0_313 (ff : Int32) (tt : Int32) : Int32 := (if ((ff + (1 : Int32)) + (1 : Int32)) = tt then (1 : Int32) else (0 : Int32))
def j0_388 (ff : Int32) (tt : Int32) : Int32 := (if (((ff + (1 : Int32)) + (1 : Int32)) + (1 : Int32)) = tt then (1 : Int32) else (0 : Int32))
def j0_463 (ff : Int32) (tt : Int32) : Int32 := (if ((((ff + (1 : Int32)) + (1 : Int32)) + (1 : Int32)) + (1 : Int32)) = tt then (1 : Int32) else (0 : Int32))
theorem own_b7 (x : Int32) : 0 ≤ (nar .byte ((x &&& (127 : Int32)).toInt8.toInt32)).toInt ∧ (nar .byte ((x &&& (127 : Int32)).toInt8.toInt32)).toInt < 128 := by
  have h1 := c_mask x 127 7 (by decide) (by decide)
  have h2 := c_i2b (x &&& 127)
  have h3 := c_i2b ((x &&& 127).toInt8.toInt32)
  show 0 ≤ ((x &&& (127 : Int32)).toInt8.toInt32.toInt8.toInt32).toInt ∧ ((x &&& (127 : Int32)).toInt8.toInt32.toInt8.toInt32).toInt < 128
  omega
theorem own_vs {a b c d : Int32} (ha : 0 ≤ a.toInt ∧ a.toInt < 128) (hb : 0 ≤ b.toInt ∧ b.toInt < 128) (hc : 0 ≤ c.toInt ∧ c.toInt < 128) (hd : 0 ≤ d.toInt ∧ d.toInt < 128) (i : Nat) {z : Int32} (h : [Value.int a, .int b, .int c, .int d].getD i (.int (0 : Int32)) = .int z) : 0 ≤ z.toInt ∧ z.toInt < 128 := by
  match i, h with
  | 0, h => cases h; exact ha
  | 1, h => cases h; exact hb
  | 2, h => cases h; exact hc
  | 3, h => cases h; exact hd
  | n + 4, h => cases (show Value.int (0 : Int32) = .int z from h); exact ⟨by decide, by decide⟩
theorem own_f (x : Int32) : 0 ≤ (x &&& (3 : Int32)).toInt ∧ (x &&& (3 : Int32)).toInt ≤ 3 := by
  have h1 := c_mask x 3 2 (by decide) (by decide)
  omega
theorem own_s5 {ff : Int32} (h : 0 ≤ ff.toInt ∧ ff.toInt ≤ 3) : ((5 : Int32) - ff).toInt = 5 - ff.toInt := by
  have h1 := c_isub 5 ff
  have h2 := rng32 ((5 : Int32) - ff)
  rw [show (5 : Int32).toInt = 5 from rfl] at h1
  omega
theorem own_nz5 {ff : Int32} (h : 0 ≤ ff.toInt ∧ ff.toInt ≤ 3) : (5 : Int32) - ff ≠ 0 := fun e => by
  have h1 := own_s5 h
  rw [e, show (0 : Int32).toInt = 0 from rfl] at h1
  omega
theorem own_l (x : Int32) {ff : Int32} (h : 0 ≤ ff.toInt ∧ ff.toInt ≤ 3) : 0 ≤ ((x &&& (2147483647 : Int32)) % ((5 : Int32) - ff)).toInt ∧ ((x &&& (2147483647 : Int32)) % ((5 : Int32) - ff)).toInt ≤ 4 - ff.toInt := by
  have h1 := own_s5 h
  have h2 := c_mask x 2147483647 31 (by decide) (by decide)
  have h3 := (c_iremV (x &&& 2147483647) ((5 : Int32) - ff)).1 (by omega) (by omega)
  omega
theorem own_t {ff ll : Int32} (h : 0 ≤ ff.toInt ∧ ff.toInt ≤ 3) (h' : 0 ≤ ll.toInt ∧ ll.toInt ≤ 4 - ff.toInt) : (ff + ll).toInt = ff.toInt + ll.toInt := by
  have h1 := c_iadd ff ll
  have h2 := rng32 (ff + ll)
  omega
theorem own_1 {x : Int32} (h : 0 ≤ x.toInt ∧ x.toInt ≤ 100) : (x + (1 : Int32)).toInt = x.toInt + 1 := by
  have h1 := c_iadd x 1
  have h2 := rng32 (x + 1)
  rw [show (1 : Int32).toInt = 1 from rfl] at h1
  omega
theorem own_nz1 {ff ll : Int32} (h : 0 ≤ ff.toInt ∧ ff.toInt ≤ 3) (h' : 0 ≤ ll.toInt ∧ ll.toInt ≤ 4 - ff.toInt) : ll + (1 : Int32) ≠ 0 := fun e => by
  have h1 := own_1 (x := ll) (by omega)
  rw [e, show (0 : Int32).toInt = 0 from rfl] at h1
  omega
theorem own_r (x : Int32) {ff ll : Int32} (h : 0 ≤ ff.toInt ∧ ff.toInt ≤ 3) (h' : 0 ≤ ll.toInt ∧ ll.toInt ≤ 4 - ff.toInt) : 0 ≤ ((x &&& (2147483647 : Int32)) % (ll + (1 : Int32))).toInt ∧ ((x &&& (2147483647 : Int32)) % (ll + (1 : Int32))).toInt ≤ ll.toInt := by
  have h1 := own_1 (x := ll) (by omega)
  have h2 := c_mask x 2147483647 31 (by decide) (by decide)
  have h3 := (c_iremV (x &&& 2147483647) (ll + 1)).1 (by omega) (by omega)
  omega
theorem own_end0 {ff ll tt : Int32} (h : 0 ≤ ff.toInt ∧ ff.toInt ≤ 3) (h' : 0 ≤ ll.toInt ∧ ll.toInt ≤ 4 - ff.toInt) (ht : tt.toInt = ff.toInt + ll.toInt) : f3 ff tt = j0_161 ll := by
  unfold f3 j0_161
  simp only [← Int32.toInt_inj, show (0 : Int32).toInt = 0 from rfl]
  split <;> split <;> first | rfl | (exfalso; omega)
theorem own_lt12 {rr : Int32} (h : rr < (1 : Int32)) : rr < (2 : Int32) := by
  rw [Int32.lt_iff_toInt_lt] at h ⊢
  exact Int.lt_trans h (by decide)
theorem own_lt13 {rr : Int32} (h : rr < (1 : Int32)) : rr < (3 : Int32) := by
  rw [Int32.lt_iff_toInt_lt] at h ⊢
  exact Int.lt_trans h (by decide)
theorem own_lt14 {rr : Int32} (h : rr < (1 : Int32)) : rr < (4 : Int32) := by
  rw [Int32.lt_iff_toInt_lt] at h ⊢
  exact Int.lt_trans h (by decide)
theorem own_lt23 {rr : Int32} (h : rr < (2 : Int32)) : rr < (3 : Int32) := by
  rw [Int32.lt_iff_toInt_lt] at h ⊢
  exact Int.lt_trans h (by decide)
theorem own_lt24 {rr : Int32} (h : rr < (2 : Int32)) : rr < (4 : Int32) := by
  rw [Int32.lt_iff_toInt_lt] at h ⊢
  exact Int.lt_trans h (by decide)
theorem own_lt34 {rr : Int32} (h : rr < (3 : Int32)) : rr < (4 : Int32) := by
  rw [Int32.lt_iff_toInt_lt] at h ⊢
  exact Int.lt_trans h (by decide)
theorem own_in0 {ff ll tt rr : Int32} (h : 0 ≤ ff.toInt ∧ ff.toInt ≤ 3) (h' : 0 ≤ ll.toInt ∧ ll.toInt ≤ 4 - ff.toInt) (ht : tt.toInt = ff.toInt + ll.toInt) (hr : 0 ≤ rr.toInt ∧ rr.toInt ≤ ll.toInt) (hc : ¬ rr < (1 : Int32)) : ¬ ff < 0 ∧ ff < (4 : Int32) := by
  rw [Int32.lt_iff_toInt_lt, show (1 : Int32).toInt = 1 from rfl] at hc
  rw [Int32.lt_iff_toInt_lt, Int32.lt_iff_toInt_lt, show (0 : Int32).toInt = 0 from rfl, show (4 : Int32).toInt = 4 from rfl]
  omega
theorem own_ne0 {ff ll tt rr : Int32} (h : 0 ≤ ff.toInt ∧ ff.toInt ≤ 3) (h' : 0 ≤ ll.toInt ∧ ll.toInt ≤ 4 - ff.toInt) (ht : tt.toInt = ff.toInt + ll.toInt) (hr : 0 ≤ rr.toInt ∧ rr.toInt ≤ ll.toInt) (hc : ¬ rr < (1 : Int32)) : ¬ (ff = tt) := fun e => by
  rw [Int32.lt_iff_toInt_lt, show (1 : Int32).toInt = 1 from rfl] at hc
  rw [← Int32.toInt_inj] at e
  omega
theorem own_in1 {ff ll tt rr : Int32} (h : 0 ≤ ff.toInt ∧ ff.toInt ≤ 3) (h' : 0 ≤ ll.toInt ∧ ll.toInt ≤ 4 - ff.toInt) (ht : tt.toInt = ff.toInt + ll.toInt) (hr : 0 ≤ rr.toInt ∧ rr.toInt ≤ ll.toInt) (hc : ¬ rr < (2 : Int32)) : ¬ (ff + (1 : Int32)) < 0 ∧ (ff + (1 : Int32)) < (4 : Int32) := by
  rw [Int32.lt_iff_toInt_lt, show (2 : Int32).toInt = 2 from rfl] at hc
  have e0 := own_1 (x := ff) (by omega)
  rw [Int32.lt_iff_toInt_lt, Int32.lt_iff_toInt_lt, show (0 : Int32).toInt = 0 from rfl, show (4 : Int32).toInt = 4 from rfl]
  omega
theorem own_ne1 {ff ll tt rr : Int32} (h : 0 ≤ ff.toInt ∧ ff.toInt ≤ 3) (h' : 0 ≤ ll.toInt ∧ ll.toInt ≤ 4 - ff.toInt) (ht : tt.toInt = ff.toInt + ll.toInt) (hr : 0 ≤ rr.toInt ∧ rr.toInt ≤ ll.toInt) (hc : ¬ rr < (2 : Int32)) : ¬ ((ff + (1 : Int32)) = tt) := fun e => by
  rw [Int32.lt_iff_toInt_lt, show (2 : Int32).toInt = 2 from rfl] at hc
  have e0 := own_1 (x := ff) (by omega)
  rw [← Int32.toInt_inj] at e
  omega
theorem own_in2 {ff ll tt rr : Int32} (h : 0 ≤ ff.toInt ∧ ff.toInt ≤ 3) (h' : 0 ≤ ll.toInt ∧ ll.toInt ≤ 4 - ff.toInt) (ht : tt.toInt = ff.toInt + ll.toInt) (hr : 0 ≤ rr.toInt ∧ rr.toInt ≤ ll.toInt) (hc : ¬ rr < (3 : Int32)) : ¬ ((ff + (1 : Int32)) + (1 : Int32)) < 0 ∧ ((ff + (1 : Int32)) + (1 : Int32)) < (4 : Int32) := by
  rw [Int32.lt_iff_toInt_lt, show (3 : Int32).toInt = 3 from rfl] at hc
  have e0 := own_1 (x := ff) (by omega)
  have e1 := own_1 (x := (ff + (1 : Int32))) (by omega)
  rw [Int32.lt_iff_toInt_lt, Int32.lt_iff_toInt_lt, show (0 : Int32).toInt = 0 from rfl, show (4 : Int32).toInt = 4 from rfl]
  omega
theorem own_ne2 {ff ll tt rr : Int32} (h : 0 ≤ ff.toInt ∧ ff.toInt ≤ 3) (h' : 0 ≤ ll.toInt ∧ ll.toInt ≤ 4 - ff.toInt) (ht : tt.toInt = ff.toInt + ll.toInt) (hr : 0 ≤ rr.toInt ∧ rr.toInt ≤ ll.toInt) (hc : ¬ rr < (3 : Int32)) : ¬ (((ff + (1 : Int32)) + (1 : Int32)) = tt) := fun e => by
  rw [Int32.lt_iff_toInt_lt, show (3 : Int32).toInt = 3 from rfl] at hc
  have e0 := own_1 (x := ff) (by omega)
  have e1 := own_1 (x := (ff + (1 : Int32))) (by omega)
  rw [← Int32.toInt_inj] at e
  omega
theorem own_in3 {ff ll tt rr : Int32} (h : 0 ≤ ff.toInt ∧ ff.toInt ≤ 3) (h' : 0 ≤ ll.toInt ∧ ll.toInt ≤ 4 - ff.toInt) (ht : tt.toInt = ff.toInt + ll.toInt) (hr : 0 ≤ rr.toInt ∧ rr.toInt ≤ ll.toInt) (hc : ¬ rr < (4 : Int32)) : ¬ (((ff + (1 : Int32)) + (1 : Int32)) + (1 : Int32)) < 0 ∧ (((ff + (1 : Int32)) + (1 : Int32)) + (1 : Int32)) < (4 : Int32) := by
  rw [Int32.lt_iff_toInt_lt, show (4 : Int32).toInt = 4 from rfl] at hc
  have e0 := own_1 (x := ff) (by omega)
  have e1 := own_1 (x := (ff + (1 : Int32))) (by omega)
  have e2 := own_1 (x := ((ff + (1 : Int32)) + (1 : Int32))) (by omega)
  rw [Int32.lt_iff_toInt_lt, Int32.lt_iff_toInt_lt, show (0 : Int32).toInt = 0 from rfl, show (4 : Int32).toInt = 4 from rfl]
  omega
theorem own_ne3 {ff ll tt rr : Int32} (h : 0 ≤ ff.toInt ∧ ff.toInt ≤ 3) (h' : 0 ≤ ll.toInt ∧ ll.toInt ≤ 4 - ff.toInt) (ht : tt.toInt = ff.toInt + ll.toInt) (hr : 0 ≤ rr.toInt ∧ rr.toInt ≤ ll.toInt) (hc : ¬ rr < (4 : Int32)) : ¬ ((((ff + (1 : Int32)) + (1 : Int32)) + (1 : Int32)) = tt) := fun e => by
  rw [Int32.lt_iff_toInt_lt, show (4 : Int32).toInt = 4 from rfl] at hc
  have e0 := own_1 (x := ff) (by omega)
  have e1 := own_1 (x := (ff + (1 : Int32))) (by omega)
  have e2 := own_1 (x := ((ff + (1 : Int32)) + (1 : Int32))) (by omega)
  rw [← Int32.toInt_inj] at e
  omega
set_option maxRecDepth 65536 in
set_option maxHeartbeats 40000000 in
theorem rm0 (l : Launch) (Z : State) (a0 : Array Value) (hw : ∀ d ∈ tables_1, d.before a0 Z = true) (ws : List Jvm.Cond) (u0 : Int32) (u1 : Int32) (u2 : Int32) (u3 : Int32) (u4 : Int32) (u5 : Int32) (h0 : Heap) (n0 : Nat) (Z0 : n0 ≤ h0.size) :
    MetFree l x (head1 (Jvm.Cond.code x code maxLocals ret :: ws) room_1) (fun a U => a = #[(.int u0), (.int u1), (.int u2), (.int u3), (.int u4), (.int u5)] ∧ Z.Warmed39 U.vm ∧ U.heap = h0) (fun _ _ _ _ _ => True) (fun _ U o U' => ∃ v L, o = .returned v ∧ QL n0 v U'.heap L ∧ FrameEnd U o U' L 3 10) := by
  refine MetFree.of_bodySF (plainFor_of_name pn_0) hisR ?_
  intro p e s m args below meth c s₁ Bd hml0 hP hK
  obtain ⟨rfl, hZ, hh⟩ := hP
  have hx := Bd.exec
  have hby := Bd.bytes
  have hml : c.maxLocals = 18 := hml0
  have hown : s.vm.findClass "com/example/scorpus/scorpus/engine/ByteReaderAtEndPinLaw" = some m.cls := findClass_of_methodNamed Bd.named
  have hnm := (name_of_methodNamed Bd.named Bd.method).1
  have X0 : Stand p l e room_1 s m #[(.int u0), (.int u1), (.int u2), (.int u3), (.int u4), (.int u5)] below meth c s₁ [] 0 0 := Stand.of_body Bd
  have e0 : s₁.heap = h0 := by rw [← hh, Bd.state]; rfl
  have N0 := Fr.nil n0
  have pre0 : ∀ t, Steps p.tables e below (s₁.setTop (mkF m 0 #[.val (.int u0), .val (.int u1), .val (.int u2), .val (.int u3), .val (.int u4), .val (.int u5), .unset, .unset, .unset, .unset, .unset, .unset, .unset, .unset, .unset, .unset, .unset, .unset] [])) t → Steps p.tables e below (s₁.setTop (entryFrame m #[(.int u0), (.int u1), (.int u2), (.int u3), (.int u4), (.int u5)] maxLocals)) t := fun t k => castTop (ef_0 m u0 u1 u2 u3 u4 u5) k
  have K0 : Keep h0 h0 [] := Keep.refl h0 []
  obtain ⟨T1, h1, k1, X1, e1, E1, A1, st1⟩ := newP X0 hx hZ (hw _ (List.mem_of_getElem? (i := 0) rfl)) e0 (g := (mkF m 1 #[.val (.int u0), .val (.int u1), .val (.int u2), .val (.int u3), .val (.int u4), .val (.int u5), .unset, .unset, .unset, .unset, .unset, .unset, .unset, .unset, .unset, .unset, .unset, .unset] [(.int (4 : Int32))])) rfl (hb hby at_1) rfl (by decide) (cap := 4) (by decide) (by decide) (by decide) (by decide)
  obtain ⟨b1, g1⟩ : ∃ z, z = h0.size := ⟨_, rfl⟩
  rw [← g1] at A1 st1
  have g_b1 : n0 ≤ b1 := Nat.le_trans Z0 (Nat.le_of_eq g1.symm)
  have sz_b1 : h0.size ≤ b1 := Nat.le_trans K0.1 (Nat.le_of_eq g1.symm)
  have K1 : Keep h0 h1 [] := K0.ext E1
  have V_b1 : Arv Z h1 b1 k1 .byte (4 : Int32) [(.int (0 : Int32)), (.int (0 : Int32)), (.int (0 : Int32)), (.int (0 : Int32))] (.int (0 : Int32)) := (Arv.new A1 (by decide)).pad (pad_rep [] (.int (0 : Int32)) 4)
  obtain ⟨c2, Ar2, q2, S2, N2n, H2, G2⟩ := V_b1
  have hin2 : ¬ ((0 : Int32) < 0 ∨ c2.slots.size ≤ ((0 : Int32)).toNatClampNeg) := inb_of S2 ⟨by decide, by decide⟩
  obtain ⟨T3, h3, X3, e3, W3, st3⟩ := stB X1 hx hZ e1 Ar2 (j := (0 : Int32)) hin2 (g := (mkF m 13 #[.val (.int u0), .val (.int u1), .val (.int u2), .val (.int u3), .val (.int u4), .val (.int u5), .val (.ref b1), .unset, .unset, .unset, .unset, .unset, .unset, .unset, .unset, .unset, .unset, .unset] [(.int ((u3 &&& (127 : Int32)).toInt8.toInt32)), (.int (0 : Int32)), (.ref b1)])) rfl rfl (hb hby at_13)
  have V_b1_3 : Arv Z h3 b1 k1 .byte (4 : Int32) [(.int (nar .byte ((u3 &&& (127 : Int32)).toInt8.toInt32))), (.int (0 : Int32)), (.int (0 : Int32)), (.int (0 : Int32))] (.int (0 : Int32)) := Arv.set Ar2 q2 S2 N2n H2 G2 (fits_nar_byte _) W3 0 rfl (Nat.le_of_ble_eq_true rfl)
  have K3 : Keep h0 h3 [] := K1.wr W3 (Or.inr sz_b1)
  have N3 := Fr.snoc X3 N0 g_b1
  obtain ⟨c4, Ar4, q4, S4, N4n, H4, G4⟩ := V_b1_3
  have hin4 : ¬ ((1 : Int32) < 0 ∨ c4.slots.size ≤ ((1 : Int32)).toNatClampNeg) := inb_of S4 ⟨by decide, by decide⟩
  obtain ⟨T5, h5, X5, e5, W5, st5⟩ := stB X3 hx hZ e3 Ar4 (j := (1 : Int32)) hin4 (g := (mkF m 23 #[.val (.int u0), .val (.int u1), .val (.int u2), .val (.int u3), .val (.int u4), .val (.int u5), .val (.ref b1), .unset, .unset, .unset, .unset, .unset, .unset, .unset, .unset, .unset, .unset, .unset] [(.int ((u4 &&& (127 : Int32)).toInt8.toInt32)), (.int (1 : Int32)), (.ref b1)])) rfl rfl (hb hby at_23)
  have V_b1_5 : Arv Z h5 b1 k1 .byte (4 : Int32) [(.int (nar .byte ((u3 &&& (127 : Int32)).toInt8.toInt32))), (.int (nar .byte ((u4 &&& (127 : Int32)).toInt8.toInt32))), (.int (0 : Int32)), (.int (0 : Int32))] (.int (0 : Int32)) := Arv.set Ar4 q4 S4 N4n H4 G4 (fits_nar_byte _) W5 1 rfl (Nat.le_of_ble_eq_true rfl)
  have K5 : Keep h0 h5 [] := K3.wr W5 (Or.inr sz_b1)
  have N5 := Fr.snoc X5 N3 g_b1
  obtain ⟨c6, Ar6, q6, S6, N6n, H6, G6⟩ := V_b1_5
  have hin6 : ¬ ((2 : Int32) < 0 ∨ c6.slots.size ≤ ((2 : Int32)).toNatClampNeg) := inb_of S6 ⟨by decide, by decide⟩
  obtain ⟨T7, h7, X7, e7, W7, st7⟩ := stB X5 hx hZ e5 Ar6 (j := (2 : Int32)) hin6 (g := (mkF m 33 #[.val (.int u0), .val (.int u1), .val (.int u2), .val (.int u3), .val (.int u4), .val (.int u5), .val (.ref b1), .unset, .unset, .unset, .unset, .unset, .unset, .unset, .unset, .unset, .unset, .unset] [(.int ((u5 &&& (127 : Int32)).toInt8.toInt32)), (.int (2 : Int32)), (.ref b1)])) rfl rfl (hb hby at_33)
  have V_b1_7 : Arv Z h7 b1 k1 .byte (4 : Int32) [(.int (nar .byte ((u3 &&& (127 : Int32)).toInt8.toInt32))), (.int (nar .byte ((u4 &&& (127 : Int32)).toInt8.toInt32))), (.int (nar .byte ((u5 &&& (127 : Int32)).toInt8.toInt32))), (.int (0 : Int32))] (.int (0 : Int32)) := Arv.set Ar6 q6 S6 N6n H6 G6 (fits_nar_byte _) W7 2 rfl (Nat.le_of_ble_eq_true rfl)
  have K7 : Keep h0 h7 [] := K5.wr W7 (Or.inr sz_b1)
  have N7 := Fr.snoc X7 N5 g_b1
  obtain ⟨c8, Ar8, q8, S8, N8n, H8, G8⟩ := V_b1_7
  have hin8 : ¬ ((3 : Int32) < 0 ∨ c8.slots.size ≤ ((3 : Int32)).toNatClampNeg) := inb_of S8 ⟨by decide, by decide⟩
  obtain ⟨T9, h9, X9, e9, W9, st9⟩ := stB X7 hx hZ e7 Ar8 (j := (3 : Int32)) hin8 (g := (mkF m 45 #[.val (.int u0), .val (.int u1), .val (.int u2), .val (.int u3), .val (.int u4), .val (.int u5), .val (.ref b1), .unset, .unset, .unset, .unset, .unset, .unset, .unset, .unset, .unset, .unset, .unset] [(.int ((((u3.toUInt32 >>> ((8 : Int32) &&& 31).toUInt32).toInt32) &&& (127 : Int32)).toInt8.toInt32)), (.int (3 : Int32)), (.ref b1)])) rfl rfl (hb hby at_45)
  have V_b1_9 : Arv Z h9 b1 k1 .byte (4 : Int32) [(.int (nar .byte ((u3 &&& (127 : Int32)).toInt8.toInt32))), (.int (nar .byte ((u4 &&& (127 : Int32)).toInt8.toInt32))), (.int (nar .byte ((u5 &&& (127 : Int32)).toInt8.toInt32))), (.int (nar .byte ((((u3.toUInt32 >>> ((8 : Int32) &&& 31).toUInt32).toInt32) &&& (127 : Int32)).toInt8.toInt32)))] (.int (0 : Int32)) := Arv.set Ar8 q8 S8 N8n H8 G8 (fits_nar_byte _) W9 3 rfl (Nat.le_of_ble_eq_true rfl)
  have K9 : Keep h0 h9 [] := K7.wr W9 (Or.inr sz_b1)
  have N9 := Fr.snoc X9 N7 g_b1
  have pre10 : ∀ t, Steps p.tables e below (T9.setTop (mkF m 46 #[.val (.int u0), .val (.int u1), .val (.int u2), .val (.int u3), .val (.int u4), .val (.int u5), .val (.ref b1), .unset, .unset, .unset, .unset, .unset, .unset, .unset, .unset, .unset, .unset, .unset] [])) t → Steps p.tables e below (s₁.setTop (entryFrame m #[(.int u0), (.int u1), (.int u2), (.int u3), (.int u4), (.int u5)] maxLocals)) t := fun t k => pre0 t (by
    show Steps p.tables e below (s₁.setTop (mkF m 0 #[.val (.int u0), .val (.int u1), .val (.int u2), .val (.int u3), .val (.int u4), .val (.int u5), .unset, .unset, .unset, .unset, .unset, .unset, .unset, .unset, .unset, .unset, .unset, .unset] [])) _
    refine XS.iconst X0.here hx rfl (hb hby at_0) ?_
    show Steps p.tables e below (s₁.setTop (mkF m 1 #[.val (.int u0), .val (.int u1), .val (.int u2), .val (.int u3), .val (.int u4), .val (.int u5), .unset, .unset, .unset, .unset, .unset, .unset, .unset, .unset, .unset, .unset, .unset, .unset] [(.int (4 : Int32))])) _
    refine st1 _ ?_
    show Steps p.tables e below (T1.setTop (mkF m 3 #[.val (.int u0), .val (.int u1), .val (.int u2), .val (.int u3), .val (.int u4), .val (.int u5), .unset, .unset, .unset, .unset, .unset, .unset, .unset, .unset, .unset, .unset, .unset, .unset] [(.ref b1)])) _
    refine XS.astore X1.here hx rfl (hb hby at_3) rfl rfl (l' := #[.val (.int u0), .val (.int u1), .val (.int u2), .val (.int u3), .val (.int u4), .val (.int u5), .val (.ref b1), .unset, .unset, .unset, .unset, .unset, .unset, .unset, .unset, .unset, .unset, .unset]) rfl ?_
    show Steps p.tables e below (T1.setTop (mkF m 5 #[.val (.int u0), .val (.int u1), .val (.int u2), .val (.int u3), .val (.int u4), .val (.int u5), .val (.ref b1), .unset, .unset, .unset, .unset, .unset, .unset, .unset, .unset, .unset, .unset, .unset] [])) _
    refine XS.aload X1.here hx rfl (hb hby at_5) rfl rfl ?_
    show Steps p.tables e below (T1.setTop (mkF m 7 #[.val (.int u0), .val (.int u1), .val (.int u2), .val (.int u3), .val (.int u4), .val (.int u5), .val (.ref b1), .unset, .unset, .unset, .unset, .unset, .unset, .unset, .unset, .unset, .unset, .unset] [(.ref b1)])) _
    refine XS.iconst X1.here hx rfl (hb hby at_7) ?_
    show Steps p.tables e below (T1.setTop (mkF m 8 #[.val (.int u0), .val (.int u1), .val (.int u2), .val (.int u3), .val (.int u4), .val (.int u5), .val (.ref b1), .unset, .unset, .unset, .unset, .unset, .unset, .unset, .unset, .unset, .unset, .unset] [(.int (0 : Int32)), (.ref b1)])) _
    refine XS.iloadN X1.here hx rfl (hb hby at_8) rfl ?_
    show Steps p.tables e below (T1.setTop (mkF m 9 #[.val (.int u0), .val (.int u1), .val (.int u2), .val (.int u3), .val (.int u4), .val (.int u5), .val (.ref b1), .unset, .unset, .unset, .unset, .unset, .unset, .unset, .unset, .unset, .unset, .unset] [(.int u3), (.int (0 : Int32)), (.ref b1)])) _
    refine XS.bipush X1.here hx rfl (hb hby at_9) ?_
    show Steps p.tables e below (T1.setTop (mkF m 11 #[.val (.int u0), .val (.int u1), .val (.int u2), .val (.int u3), .val (.int u4), .val (.int u5), .val (.ref b1), .unset, .unset, .unset, .unset, .unset, .unset, .unset, .unset, .unset, .unset, .unset] [(.int (127 : Int32)), (.int u3), (.int (0 : Int32)), (.ref b1)])) _
    refine XS.iand X1.here hx rfl (hb hby at_11) rfl ?_
    show Steps p.tables e below (T1.setTop (mkF m 12 #[.val (.int u0), .val (.int u1), .val (.int u2), .val (.int u3), .val (.int u4), .val (.int u5), .val (.ref b1), .unset, .unset, .unset, .unset, .unset, .unset, .unset, .unset, .unset, .unset, .unset] [(.int (u3 &&& (127 : Int32))), (.int (0 : Int32)), (.ref b1)])) _
    refine XS.i2b X1.here hx rfl (hb hby at_12) rfl ?_
    show Steps p.tables e below (T1.setTop (mkF m 13 #[.val (.int u0), .val (.int u1), .val (.int u2), .val (.int u3), .val (.int u4), .val (.int u5), .val (.ref b1), .unset, .unset, .unset, .unset, .unset, .unset, .unset, .unset, .unset, .unset, .unset] [(.int ((u3 &&& (127 : Int32)).toInt8.toInt32)), (.int (0 : Int32)), (.ref b1)])) _
    refine st3 _ ?_
    show Steps p.tables e below (T3.setTop (mkF m 14 #[.val (.int u0), .val (.int u1), .val (.int u2), .val (.int u3), .val (.int u4), .val (.int u5), .val (.ref b1), .unset, .unset, .unset, .unset, .unset, .unset, .unset, .unset, .unset, .unset, .unset] [])) _
    refine XS.aload X3.here hx rfl (hb hby at_14) rfl rfl ?_
    show Steps p.tables e below (T3.setTop (mkF m 16 #[.val (.int u0), .val (.int u1), .val (.int u2), .val (.int u3), .val (.int u4), .val (.int u5), .val (.ref b1), .unset, .unset, .unset, .unset, .unset, .unset, .unset, .unset, .unset, .unset, .unset] [(.ref b1)])) _
    refine XS.iconst X3.here hx rfl (hb hby at_16) ?_
    show Steps p.tables e below (T3.setTop (mkF m 17 #[.val (.int u0), .val (.int u1), .val (.int u2), .val (.int u3), .val (.int u4), .val (.int u5), .val (.ref b1), .unset, .unset, .unset, .unset, .unset, .unset, .unset, .unset, .unset, .unset, .unset] [(.int (1 : Int32)), (.ref b1)])) _
    refine XS.iload X3.here hx rfl (hb hby at_17) rfl ?_
    show Steps p.tables e below (T3.setTop (mkF m 19 #[.val (.int u0), .val (.int u1), .val (.int u2), .val (.int u3), .val (.int u4), .val (.int u5), .val (.ref b1), .unset, .unset, .unset, .unset, .unset, .unset, .unset, .unset, .unset, .unset, .unset] [(.int u4), (.int (1 : Int32)), (.ref b1)])) _
    refine XS.bipush X3.here hx rfl (hb hby at_19) ?_
    show Steps p.tables e below (T3.setTop (mkF m 21 #[.val (.int u0), .val (.int u1), .val (.int u2), .val (.int u3), .val (.int u4), .val (.int u5), .val (.ref b1), .unset, .unset, .unset, .unset, .unset, .unset, .unset, .unset, .unset, .unset, .unset] [(.int (127 : Int32)), (.int u4), (.int (1 : Int32)), (.ref b1)])) _
    refine XS.iand X3.here hx rfl (hb hby at_21) rfl ?_
    show Steps p.tables e below (T3.setTop (mkF m 22 #[.val (.int u0), .val (.int u1), .val (.int u2), .val (.int u3), .val (.int u4), .val (.int u5), .val (.ref b1), .unset, .unset, .unset, .unset, .unset, .unset, .unset, .unset, .unset, .unset, .unset] [(.int (u4 &&& (127 : Int32))), (.int (1 : Int32)), (.ref b1)])) _
    refine XS.i2b X3.here hx rfl (hb hby at_22) rfl ?_
    show Steps p.tables e below (T3.setTop (mkF m 23 #[.val (.int u0), .val (.int u1), .val (.int u2), .val (.int u3), .val (.int u4), .val (.int u5), .val (.ref b1), .unset, .unset, .unset, .unset, .unset, .unset, .unset, .unset, .unset, .unset, .unset] [(.int ((u4 &&& (127 : Int32)).toInt8.toInt32)), (.int (1 : Int32)), (.ref b1)])) _
    refine st5 _ ?_
    show Steps p.tables e below (T5.setTop (mkF m 24 #[.val (.int u0), .val (.int u1), .val (.int u2), .val (.int u3), .val (.int u4), .val (.int u5), .val (.ref b1), .unset, .unset, .unset, .unset, .unset, .unset, .unset, .unset, .unset, .unset, .unset] [])) _
    refine XS.aload X5.here hx rfl (hb hby at_24) rfl rfl ?_
    show Steps p.tables e below (T5.setTop (mkF m 26 #[.val (.int u0), .val (.int u1), .val (.int u2), .val (.int u3), .val (.int u4), .val (.int u5), .val (.ref b1), .unset, .unset, .unset, .unset, .unset, .unset, .unset, .unset, .unset, .unset, .unset] [(.ref b1)])) _
    refine XS.iconst X5.here hx rfl (hb hby at_26) ?_
    show Steps p.tables e below (T5.setTop (mkF m 27 #[.val (.int u0), .val (.int u1), .val (.int u2), .val (.int u3), .val (.int u4), .val (.int u5), .val (.ref b1), .unset, .unset, .unset, .unset, .unset, .unset, .unset, .unset, .unset, .unset, .unset] [(.int (2 : Int32)), (.ref b1)])) _
    refine XS.iload X5.here hx rfl (hb hby at_27) rfl ?_
    show Steps p.tables e below (T5.setTop (mkF m 29 #[.val (.int u0), .val (.int u1), .val (.int u2), .val (.int u3), .val (.int u4), .val (.int u5), .val (.ref b1), .unset, .unset, .unset, .unset, .unset, .unset, .unset, .unset, .unset, .unset, .unset] [(.int u5), (.int (2 : Int32)), (.ref b1)])) _
    refine XS.bipush X5.here hx rfl (hb hby at_29) ?_
    show Steps p.tables e below (T5.setTop (mkF m 31 #[.val (.int u0), .val (.int u1), .val (.int u2), .val (.int u3), .val (.int u4), .val (.int u5), .val (.ref b1), .unset, .unset, .unset, .unset, .unset, .unset, .unset, .unset, .unset, .unset, .unset] [(.int (127 : Int32)), (.int u5), (.int (2 : Int32)), (.ref b1)])) _
    refine XS.iand X5.here hx rfl (hb hby at_31) rfl ?_
    show Steps p.tables e below (T5.setTop (mkF m 32 #[.val (.int u0), .val (.int u1), .val (.int u2), .val (.int u3), .val (.int u4), .val (.int u5), .val (.ref b1), .unset, .unset, .unset, .unset, .unset, .unset, .unset, .unset, .unset, .unset, .unset] [(.int (u5 &&& (127 : Int32))), (.int (2 : Int32)), (.ref b1)])) _
    refine XS.i2b X5.here hx rfl (hb hby at_32) rfl ?_
    show Steps p.tables e below (T5.setTop (mkF m 33 #[.val (.int u0), .val (.int u1), .val (.int u2), .val (.int u3), .val (.int u4), .val (.int u5), .val (.ref b1), .unset, .unset, .unset, .unset, .unset, .unset, .unset, .unset, .unset, .unset, .unset] [(.int ((u5 &&& (127 : Int32)).toInt8.toInt32)), (.int (2 : Int32)), (.ref b1)])) _
    refine st7 _ ?_
    show Steps p.tables e below (T7.setTop (mkF m 34 #[.val (.int u0), .val (.int u1), .val (.int u2), .val (.int u3), .val (.int u4), .val (.int u5), .val (.ref b1), .unset, .unset, .unset, .unset, .unset, .unset, .unset, .unset, .unset, .unset, .unset] [])) _
    refine XS.aload X7.here hx rfl (hb hby at_34) rfl rfl ?_
    show Steps p.tables e below (T7.setTop (mkF m 36 #[.val (.int u0), .val (.int u1), .val (.int u2), .val (.int u3), .val (.int u4), .val (.int u5), .val (.ref b1), .unset, .unset, .unset, .unset, .unset, .unset, .unset, .unset, .unset, .unset, .unset] [(.ref b1)])) _
    refine XS.iconst X7.here hx rfl (hb hby at_36) ?_
    show Steps p.tables e below (T7.setTop (mkF m 37 #[.val (.int u0), .val (.int u1), .val (.int u2), .val (.int u3), .val (.int u4), .val (.int u5), .val (.ref b1), .unset, .unset, .unset, .unset, .unset, .unset, .unset, .unset, .unset, .unset, .unset] [(.int (3 : Int32)), (.ref b1)])) _
    refine XS.iloadN X7.here hx rfl (hb hby at_37) rfl ?_
    show Steps p.tables e below (T7.setTop (mkF m 38 #[.val (.int u0), .val (.int u1), .val (.int u2), .val (.int u3), .val (.int u4), .val (.int u5), .val (.ref b1), .unset, .unset, .unset, .unset, .unset, .unset, .unset, .unset, .unset, .unset, .unset] [(.int u3), (.int (3 : Int32)), (.ref b1)])) _
    refine XS.bipush X7.here hx rfl (hb hby at_38) ?_
    show Steps p.tables e below (T7.setTop (mkF m 40 #[.val (.int u0), .val (.int u1), .val (.int u2), .val (.int u3), .val (.int u4), .val (.int u5), .val (.ref b1), .unset, .unset, .unset, .unset, .unset, .unset, .unset, .unset, .unset, .unset, .unset] [(.int (8 : Int32)), (.int u3), (.int (3 : Int32)), (.ref b1)])) _
    refine XS.iushr X7.here hx rfl (hb hby at_40) rfl ?_
    show Steps p.tables e below (T7.setTop (mkF m 41 #[.val (.int u0), .val (.int u1), .val (.int u2), .val (.int u3), .val (.int u4), .val (.int u5), .val (.ref b1), .unset, .unset, .unset, .unset, .unset, .unset, .unset, .unset, .unset, .unset, .unset] [(.int ((u3.toUInt32 >>> ((8 : Int32) &&& 31).toUInt32).toInt32)), (.int (3 : Int32)), (.ref b1)])) _
    refine XS.bipush X7.here hx rfl (hb hby at_41) ?_
    show Steps p.tables e below (T7.setTop (mkF m 43 #[.val (.int u0), .val (.int u1), .val (.int u2), .val (.int u3), .val (.int u4), .val (.int u5), .val (.ref b1), .unset, .unset, .unset, .unset, .unset, .unset, .unset, .unset, .unset, .unset, .unset] [(.int (127 : Int32)), (.int ((u3.toUInt32 >>> ((8 : Int32) &&& 31).toUInt32).toInt32)), (.int (3 : Int32)), (.ref b1)])) _
    refine XS.iand X7.here hx rfl (hb hby at_43) rfl ?_
    show Steps p.tables e below (T7.setTop (mkF m 44 #[.val (.int u0), .val (.int u1), .val (.int u2), .val (.int u3), .val (.int u4), .val (.int u5), .val (.ref b1), .unset, .unset, .unset, .unset, .unset, .unset, .unset, .unset, .unset, .unset, .unset] [(.int (((u3.toUInt32 >>> ((8 : Int32) &&& 31).toUInt32).toInt32) &&& (127 : Int32))), (.int (3 : Int32)), (.ref b1)])) _
    refine XS.i2b X7.here hx rfl (hb hby at_44) rfl ?_
    show Steps p.tables e below (T7.setTop (mkF m 45 #[.val (.int u0), .val (.int u1), .val (.int u2), .val (.int u3), .val (.int u4), .val (.int u5), .val (.ref b1), .unset, .unset, .unset, .unset, .unset, .unset, .unset, .unset, .unset, .unset, .unset] [(.int ((((u3.toUInt32 >>> ((8 : Int32) &&& 31).toUInt32).toInt32) &&& (127 : Int32)).toInt8.toInt32)), (.int (3 : Int32)), (.ref b1)])) _
    refine st9 _ ?_
    exact k)
  have pre11 : ∀ t, Steps p.tables e below (T9.setTop (mkF m 60 #[.val (.int u0), .val (.int u1), .val (.int u2), .val (.int u3), .val (.int u4), .val (.int u5), .val (.ref b1), .unset, .unset, .unset, .unset, .unset, .unset, .unset, .unset, .unset, .unset, .unset] [(.int (j0_46 u0 u1 u2))])) t → Steps p.tables e below (s₁.setTop (entryFrame m #[(.int u0), (.int u1), (.int u2), (.int u3), (.int u4), (.int u5)] maxLocals)) t := by
    have pre12 : ∀ t, Steps p.tables e below (T9.setTop (mkF m 52 #[.val (.int u0), .val (.int u1), .val (.int u2), .val (.int u3), .val (.int u4), .val (.int u5), .val (.ref b1), .unset, .unset, .unset, .unset, .unset, .unset, .unset, .unset, .unset, .unset, .unset] [(.int (((u2.toUInt32 >>> ((8 : Int32) &&& 31).toUInt32).toInt32) &&& (1 : Int32)))])) t → Steps p.tables e below (s₁.setTop (entryFrame m #[(.int u0), (.int u1), (.int u2), (.int u3), (.int u4), (.int u5)] maxLocals)) t := fun t k => pre10 t (by
      show Steps p.tables e below (T9.setTop (mkF m 46 #[.val (.int u0), .val (.int u1), .val (.int u2), .val (.int u3), .val (.int u4), .val (.int u5), .val (.ref b1), .unset, .unset, .unset, .unset, .unset, .unset, .unset, .unset, .unset, .unset, .unset] [])) _
      refine XS.iloadN X9.here hx rfl (hb hby at_46) rfl ?_
      show Steps p.tables e below (T9.setTop (mkF m 47 #[.val (.int u0), .val (.int u1), .val (.int u2), .val (.int u3), .val (.int u4), .val (.int u5), .val (.ref b1), .unset, .unset, .unset, .unset, .unset, .unset, .unset, .unset, .unset, .unset, .unset] [(.int u2)])) _
      refine XS.bipush X9.here hx rfl (hb hby at_47) ?_
      show Steps p.tables e below (T9.setTop (mkF m 49 #[.val (.int u0), .val (.int u1), .val (.int u2), .val (.int u3), .val (.int u4), .val (.int u5), .val (.ref b1), .unset, .unset, .unset, .unset, .unset, .unset, .unset, .unset, .unset, .unset, .unset] [(.int (8 : Int32)), (.int u2)])) _
      refine XS.iushr X9.here hx rfl (hb hby at_49) rfl ?_
      show Steps p.tables e below (T9.setTop (mkF m 50 #[.val (.int u0), .val (.int u1), .val (.int u2), .val (.int u3), .val (.int u4), .val (.int u5), .val (.ref b1), .unset, .unset, .unset, .unset, .unset, .unset, .unset, .unset, .unset, .unset, .unset] [(.int ((u2.toUInt32 >>> ((8 : Int32) &&& 31).toUInt32).toInt32))])) _
      refine XS.iconst X9.here hx rfl (hb hby at_50) ?_
      show Steps p.tables e below (T9.setTop (mkF m 51 #[.val (.int u0), .val (.int u1), .val (.int u2), .val (.int u3), .val (.int u4), .val (.int u5), .val (.ref b1), .unset, .unset, .unset, .unset, .unset, .unset, .unset, .unset, .unset, .unset, .unset] [(.int (1 : Int32)), (.int ((u2.toUInt32 >>> ((8 : Int32) &&& 31).toUInt32).toInt32))])) _
      refine XS.iand X9.here hx rfl (hb hby at_51) rfl ?_
      exact k)
    by_cases hc52 : (((u2.toUInt32 >>> ((8 : Int32) &&& 31).toUInt32).toInt32) &&& (1 : Int32)) = (0 : Int32)
    · -- pc 52: (((u2.toUInt32 >>> ((8 : Int32) &&& 31).toUInt32).toInt32) &&& (1 : Int32)) = (0 : Int32)
      intro t k
      have qS0 : (j0_46 u0 u1 u2) = u1 := (if_pos hc52).trans (rfl)
      rw [qS0] at k
      refine pre12 t ?_
      show Steps p.tables e below (T9.setTop (mkF m 52 #[.val (.int u0), .val (.int u1), .val (.int u2), .val (.int u3), .val (.int u4), .val (.int u5), .val (.ref b1), .unset, .unset, .unset, .unset, .unset, .unset, .unset, .unset, .unset, .unset, .unset] [(.int (((u2.toUInt32 >>> ((8 : Int32) &&& 31).toUInt32).toInt32) &&& (1 : Int32)))])) _
      refine XS.ifYes X9.here hx rfl (pc0 := 52) (pc' := 59) rfl (hb hby at_52) rfl ((if0 _ _).trans (teq hc52).1) (by decide) (by decide) ?_
      show Steps p.tables e below (T9.setTop (mkF m 59 #[.val (.int u0), .val (.int u1), .val (.int u2), .val (.int u3), .val (.int u4), .val (.int u5), .val (.ref b1), .unset, .unset, .unset, .unset, .unset, .unset, .unset, .unset, .unset, .unset, .unset] [])) _
      refine XS.iloadN X9.here hx rfl (hb hby at_59) rfl ?_
      exact k
    · -- pc 52: not (((u2.toUInt32 >>> ((8 : Int32) &&& 31).toUInt32).toInt32) &&& (1 : Int32)) = (0 : Int32)
      intro t k
      have qS0 : (j0_46 u0 u1 u2) = u0 := (if_neg hc52).trans (rfl)
      rw [qS0] at k
      refine pre12 t ?_
      show Steps p.tables e below (T9.setTop (mkF m 52 #[.val (.int u0), .val (.int u1), .val (.int u2), .val (.int u3), .val (.int u4), .val (.int u5), .val (.ref b1), .unset, .unset, .unset, .unset, .unset, .unset, .unset, .unset, .unset, .unset, .unset] [(.int (((u2.toUInt32 >>> ((8 : Int32) &&& 31).toUInt32).toInt32) &&& (1 : Int32)))])) _
      refine XS.ifNo X9.here hx rfl (hb hby at_52) rfl ((if0 _ _).trans (feq hc52).1) ?_
      show Steps p.tables e below (T9.setTop (mkF m 55 #[.val (.int u0), .val (.int u1), .val (.int u2), .val (.int u3), .val (.int u4), .val (.int u5), .val (.ref b1), .unset, .unset, .unset, .unset, .unset, .unset, .unset, .unset, .unset, .unset, .unset] [])) _
      refine XS.iloadN X9.here hx rfl (hb hby at_55) rfl ?_
      show Steps p.tables e below (T9.setTop (mkF m 56 #[.val (.int u0), .val (.int u1), .val (.int u2), .val (.int u3), .val (.int u4), .val (.int u5), .val (.ref b1), .unset, .unset, .unset, .unset, .unset, .unset, .unset, .unset, .unset, .unset, .unset] [(.int u0)])) _
      refine XS.goto X9.here hx rfl (pc0 := 56) (pc' := 60) rfl (hb hby at_56) (by decide) (by decide) ?_
      exact k
  obtain ⟨T13, h13, X13, e13, E13, A13, D13, -, st13⟩ := newO X9 hx hZ hown (hw _ (List.mem_of_getElem? (i := 1) rfl)) (hw _ (List.mem_of_getElem? (i := 2) rfl)) (hw _ (List.mem_of_getElem? (i := 3) rfl)) e9 (g := (mkF m 62 #[.val (.int u0), .val (.int u1), .val (.int u2), .val (.int u3), .val (.int u4), .val (.int u5), .val (.ref b1), .val (.int (j0_46 u0 u1 u2)), .unset, .unset, .unset, .unset, .unset, .unset, .unset, .unset, .unset, .unset] [])) rfl (hb hby at_62) (by decide) (by decide)
  obtain ⟨b13, g13⟩ : ∃ z, z = h9.size := ⟨_, rfl⟩
  rw [← g13] at A13 D13 st13
  have g_b13 : n0 ≤ b13 := Nat.le_trans (Nat.le_trans Z0 K9.1) (Nat.le_of_eq g13.symm)
  have sz_b13 : h0.size ≤ b13 := Nat.le_trans K9.1 (Nat.le_of_eq g13.symm)
  have ne_b1_b13 : b1 ≠ b13 := Nat.ne_of_lt (Nat.lt_of_lt_of_le V_b1_9.lt (Nat.le_of_eq g13.symm))
  have V_b1_14 := V_b1_9.ext E13
  have K13 : Keep h0 h13 [] := K9.ext E13
  have F_bytes_b13 : Fld Z h13 b13 "com/example/scorpus/scorpus/engine/ByteReader" "bytes" "[B" .null := D13 (Or.inr (hw _ (List.mem_of_getElem? (i := 11) rfl))) (ty := (.array .byte)) (by decide)
  have F_position_b13 : Fld Z h13 b13 "com/example/scorpus/scorpus/engine/ByteReader" "position" "I" (.int (0 : Int32)) := D13 (Or.inl (hw _ (List.mem_of_getElem? (i := 13) rfl))) (ty := .int) (by decide)
  have F_end_b13 : Fld Z h13 b13 "com/example/scorpus/scorpus/engine/ByteReader" "end" "I" (.int (0 : Int32)) := D13 (Or.inr (hw _ (List.mem_of_getElem? (i := 15) rfl))) (ty := .int) (by decide)
  obtain ⟨_, _, ⟨T15, L15, k15, n15⟩, -, X15, ⟨Lc15, hQ15, l15, y15, z15⟩, st15⟩ := X13.specialBack hx (y := (⟨"com/example/scorpus/scorpus/engine/ByteReader", "<init>", "([BII)V"⟩ : MethodName)) rfl hown (mvT hZ (hw _ (List.mem_of_getElem? (i := 4) rfl))) (mvT hZ (hw _ (List.mem_of_getElem? (i := 5) rfl))) (mvT hZ (hw _ (List.mem_of_getElem? (i := 6) rfl))) (by decide) (backOf (W := 1) (rm1 l Z a0 hw [] b13 b1 u0 (j0_46 u0 u1 u2)  h13 n0 (Nat.le_trans Z0 K13.1) A13 F_bytes_b13 F_position_b13 F_end_b13 g_b13) hZ (hw _ (List.mem_of_getElem? (i := 6) rfl)) (hw _ (List.mem_of_getElem? (i := 3) rfl)) (by decide) (by decide)) (g := (mkF m 71 #[.val (.int u0), .val (.int u1), .val (.int u2), .val (.int u3), .val (.int u4), .val (.int u5), .val (.ref b1), .val (.int (j0_46 u0 u1 u2)), .unset, .unset, .unset, .unset, .unset, .unset, .unset, .unset, .unset, .unset] [(.int (j0_46 u0 u1 u2)), (.int u0), (.ref b1), (.ref b13), (.ref b13)])) rfl (by rw [hml]; rfl) (Steps.refl _) (a := b13) (argsL := [(.ref b1), (.int u0), (.int (j0_46 u0 u1 u2))]) (rest := [(.ref b13)]) (lenOf pd_1 rfl) rfl (by show 2 * 0 + _ ≤ _; exact Nat.le_of_eq rfl) (hb hby at_71) (fun _ _ => ⟨rfl, e13, (by decide : 2 + 0 ≤ _), (by decide : 7 + 0 ≤ _)⟩)
  dsimp only [Pt.U, Pt.locs, Pt.cells, Pt.slots] at X15 l15 y15 z15 st15 hQ15
  subst l15 y15 z15
  obtain ⟨rfl, N15q, K15q, E_r15, F_bytes15, F_position15, F_end15⟩ := hQ15
  have N15 := Fr.app N9 N15q
  have K15 : Keep h0 T15.heap [] := K13.trans K15q (allS (Or.inr sz_b13) all0)
  have V_b1_16 := V_b1_14.keep K15q (ninS ne_b1_b13 nin0)
  obtain ⟨cq17, kq17, q17a, q17b, q17c⟩ := isOf hZ rfl E_r15
  obtain ⟨_, _, ⟨T17, L17, k17, n17⟩, -, X17, ⟨Lc17, hQ17, l17, y17, z17⟩, st17⟩ := X15.virtualBack hx (y := (⟨"com/example/scorpus/scorpus/engine/ByteReader", "atEnd", "()Z"⟩ : MethodName)) (z := (⟨"com/example/scorpus/scorpus/engine/ByteReader", "atEnd", "()Z"⟩ : MethodName)) hown (mvT hZ (hw _ (List.mem_of_getElem? (i := 16) rfl))) (mvT hZ (hw _ (List.mem_of_getElem? (i := 17) rfl))) (notFace_of_selects (args := #[]) (mvT hZ (hw _ (List.mem_of_getElem? (i := 19) rfl)))) (mvT hZ (hw _ (List.mem_of_getElem? (i := 19) rfl))) (mvT hZ (hw _ (List.mem_of_getElem? (i := 18) rfl))) (by decide) (backOf (W := 0) (rm3 l Z a0 hw [] b13 u0 (j0_46 u0 u1 u2) T15.heap n0 (Nat.le_trans Z0 K15.1) F_position15 F_end15) hZ (hw _ (List.mem_of_getElem? (i := 20) rfl)) (hw _ (List.mem_of_getElem? (i := 3) rfl)) (by decide) (by decide)) q17a q17c (g := (mkF m 78 #[.val (.int u0), .val (.int u1), .val (.int u2), .val (.int u3), .val (.int u4), .val (.int u5), .val (.ref b1), .val (.int (j0_46 u0 u1 u2)), .val (.ref b13), .unset, .unset, .unset, .unset, .unset, .unset, .unset, .unset, .unset] [(.ref b13)])) rfl (by rw [hml]; rfl) (Steps.refl _) (argsL := []) (rest := []) (lenOf pd_2 rfl) rfl (by show 2 * 0 + _ ≤ _; exact Nat.le_of_eq rfl) (hb hby at_78) (fun _ _ => ⟨rfl, rfl, (by decide : 2 + 0 ≤ _), (by decide : 7 + 0 ≤ _)⟩)
  dsimp only [Pt.U, Pt.locs, Pt.cells, Pt.slots] at X17 l17 y17 z17 st17 hQ17
  subst l17 y17 z17
  obtain ⟨rfl, N17q, e17⟩ := hQ17
  have N17 := Fr.app N15 N17q
  have pre18 : ∀ t, Steps p.tables e below (T17.setTop (mkF m 81 #[.val (.int u0), .val (.int u1), .val (.int u2), .val (.int u3), .val (.int u4), .val (.int u5), .val (.ref b1), .val (.int (j0_46 u0 u1 u2)), .val (.ref b13), .unset, .unset, .unset, .unset, .unset, .unset, .unset, .unset, .unset] [(.int (f3 u0 (j0_46 u0 u1 u2)))])) t → Steps p.tables e below (s₁.setTop (entryFrame m #[(.int u0), (.int u1), (.int u2), (.int u3), (.int u4), (.int u5)] maxLocals)) t := fun t k => pre11 t (by
    show Steps p.tables e below (T9.setTop (mkF m 60 #[.val (.int u0), .val (.int u1), .val (.int u2), .val (.int u3), .val (.int u4), .val (.int u5), .val (.ref b1), .unset, .unset, .unset, .unset, .unset, .unset, .unset, .unset, .unset, .unset, .unset] [(.int (j0_46 u0 u1 u2))])) _
    refine XS.istore X9.here hx rfl (hb hby at_60) rfl (l' := #[.val (.int u0), .val (.int u1), .val (.int u2), .val (.int u3), .val (.int u4), .val (.int u5), .val (.ref b1), .val (.int (j0_46 u0 u1 u2)), .unset, .unset, .unset, .unset, .unset, .unset, .unset, .unset, .unset, .unset]) rfl ?_
    show Steps p.tables e below (T9.setTop (mkF m 62 #[.val (.int u0), .val (.int u1), .val (.int u2), .val (.int u3), .val (.int u4), .val (.int u5), .val (.ref b1), .val (.int (j0_46 u0 u1 u2)), .unset, .unset, .unset, .unset, .unset, .unset, .unset, .unset, .unset, .unset] [])) _
    refine st13 _ ?_
    show Steps p.tables e below (T13.setTop (mkF m 65 #[.val (.int u0), .val (.int u1), .val (.int u2), .val (.int u3), .val (.int u4), .val (.int u5), .val (.ref b1), .val (.int (j0_46 u0 u1 u2)), .unset, .unset, .unset, .unset, .unset, .unset, .unset, .unset, .unset, .unset] [(.ref b13)])) _
    refine XS.dup X13.here hx rfl (hb hby at_65) rfl rfl ?_
    show Steps p.tables e below (T13.setTop (mkF m 66 #[.val (.int u0), .val (.int u1), .val (.int u2), .val (.int u3), .val (.int u4), .val (.int u5), .val (.ref b1), .val (.int (j0_46 u0 u1 u2)), .unset, .unset, .unset, .unset, .unset, .unset, .unset, .unset, .unset, .unset] [(.ref b13), (.ref b13)])) _
    refine XS.aload X13.here hx rfl (hb hby at_66) rfl rfl ?_
    show Steps p.tables e below (T13.setTop (mkF m 68 #[.val (.int u0), .val (.int u1), .val (.int u2), .val (.int u3), .val (.int u4), .val (.int u5), .val (.ref b1), .val (.int (j0_46 u0 u1 u2)), .unset, .unset, .unset, .unset, .unset, .unset, .unset, .unset, .unset, .unset] [(.ref b1), (.ref b13), (.ref b13)])) _
    refine XS.iloadN X13.here hx rfl (hb hby at_68) rfl ?_
    show Steps p.tables e below (T13.setTop (mkF m 69 #[.val (.int u0), .val (.int u1), .val (.int u2), .val (.int u3), .val (.int u4), .val (.int u5), .val (.ref b1), .val (.int (j0_46 u0 u1 u2)), .unset, .unset, .unset, .unset, .unset, .unset, .unset, .unset, .unset, .unset] [(.int u0), (.ref b1), (.ref b13), (.ref b13)])) _
    refine XS.iload X13.here hx rfl (hb hby at_69) rfl ?_
    show Steps p.tables e below (T13.setTop (mkF m 71 #[.val (.int u0), .val (.int u1), .val (.int u2), .val (.int u3), .val (.int u4), .val (.int u5), .val (.ref b1), .val (.int (j0_46 u0 u1 u2)), .unset, .unset, .unset, .unset, .unset, .unset, .unset, .unset, .unset, .unset] [(.int (j0_46 u0 u1 u2)), (.int u0), (.ref b1), (.ref b13), (.ref b13)])) _
    refine st15.trans ?_
    show Steps p.tables e below (T15.setTop (mkF m 74 #[.val (.int u0), .val (.int u1), .val (.int u2), .val (.int u3), .val (.int u4), .val (.int u5), .val (.ref b1), .val (.int (j0_46 u0 u1 u2)), .unset, .unset, .unset, .unset, .unset, .unset, .unset, .unset, .unset, .unset] [(.ref b13)])) _
    refine XS.astore X15.here hx rfl (hb hby at_74) rfl rfl (l' := #[.val (.int u0), .val (.int u1), .val (.int u2), .val (.int u3), .val (.int u4), .val (.int u5), .val (.ref b1), .val (.int (j0_46 u0 u1 u2)), .val (.ref b13), .unset, .unset, .unset, .unset, .unset, .unset, .unset, .unset, .unset]) rfl ?_
    show Steps p.tables e below (T15.setTop (mkF m 76 #[.val (.int u0), .val (.int u1), .val (.int u2), .val (.int u3), .val (.int u4), .val (.int u5), .val (.ref b1), .val (.int (j0_46 u0 u1 u2)), .val (.ref b13), .unset, .unset, .unset, .unset, .unset, .unset, .unset, .unset, .unset] [])) _
    refine XS.aload X15.here hx rfl (hb hby at_76) rfl rfl ?_
    show Steps p.tables e below (T15.setTop (mkF m 78 #[.val (.int u0), .val (.int u1), .val (.int u2), .val (.int u3), .val (.int u4), .val (.int u5), .val (.ref b1), .val (.int (j0_46 u0 u1 u2)), .val (.ref b13), .unset, .unset, .unset, .unset, .unset, .unset, .unset, .unset, .unset] [(.ref b13)])) _
    refine st17.trans ?_
    exact k)
  have pre19 : ∀ t, Steps p.tables e below (T17.setTop (mkF m 92 #[.val (.int u0), .val (.int u1), .val (.int u2), .val (.int u3), .val (.int u4), .val (.int u5), .val (.ref b1), .val (.int (j0_46 u0 u1 u2)), .val (.ref b13), .unset, .unset, .unset, .unset, .unset, .unset, .unset, .unset, .unset] [(.int (j0_81 u0 u1 u2)), (.int (f3 u0 (j0_46 u0 u1 u2)))])) t → Steps p.tables e below (s₁.setTop (entryFrame m #[(.int u0), (.int u1), (.int u2), (.int u3), (.int u4), (.int u5)] maxLocals)) t := by
    have pre20 : ∀ t, Steps p.tables e below (T17.setTop (mkF m 84 #[.val (.int u0), .val (.int u1), .val (.int u2), .val (.int u3), .val (.int u4), .val (.int u5), .val (.ref b1), .val (.int (j0_46 u0 u1 u2)), .val (.ref b13), .unset, .unset, .unset, .unset, .unset, .unset, .unset, .unset, .unset] [(.int (j0_46 u0 u1 u2)), (.int u0), (.int (f3 u0 (j0_46 u0 u1 u2)))])) t → Steps p.tables e below (s₁.setTop (entryFrame m #[(.int u0), (.int u1), (.int u2), (.int u3), (.int u4), (.int u5)] maxLocals)) t := fun t k => pre18 t (by
      show Steps p.tables e below (T17.setTop (mkF m 81 #[.val (.int u0), .val (.int u1), .val (.int u2), .val (.int u3), .val (.int u4), .val (.int u5), .val (.ref b1), .val (.int (j0_46 u0 u1 u2)), .val (.ref b13), .unset, .unset, .unset, .unset, .unset, .unset, .unset, .unset, .unset] [(.int (f3 u0 (j0_46 u0 u1 u2)))])) _
      refine XS.iloadN X17.here hx rfl (hb hby at_81) rfl ?_
      show Steps p.tables e below (T17.setTop (mkF m 82 #[.val (.int u0), .val (.int u1), .val (.int u2), .val (.int u3), .val (.int u4), .val (.int u5), .val (.ref b1), .val (.int (j0_46 u0 u1 u2)), .val (.ref b13), .unset, .unset, .unset, .unset, .unset, .unset, .unset, .unset, .unset] [(.int u0), (.int (f3 u0 (j0_46 u0 u1 u2)))])) _
      refine XS.iload X17.here hx rfl (hb hby at_82) rfl ?_
      exact k)
    by_cases hc84 : u0 = (j0_46 u0 u1 u2)
    · -- pc 84: u0 = (j0_46 u0 u1 u2)
      intro t k
      have qS0 : (j0_81 u0 u1 u2) = (1 : Int32) := (if_pos hc84).trans (rfl)
      rw [qS0] at k
      refine pre20 t ?_
      show Steps p.tables e below (T17.setTop (mkF m 84 #[.val (.int u0), .val (.int u1), .val (.int u2), .val (.int u3), .val (.int u4), .val (.int u5), .val (.ref b1), .val (.int (j0_46 u0 u1 u2)), .val (.ref b13), .unset, .unset, .unset, .unset, .unset, .unset, .unset, .unset, .unset] [(.int (j0_46 u0 u1 u2)), (.int u0), (.int (f3 u0 (j0_46 u0 u1 u2)))])) _
      refine XS.icmpNo X17.here hx rfl (hb hby at_84) rfl (teq hc84).2 ?_
      show Steps p.tables e below (T17.setTop (mkF m 87 #[.val (.int u0), .val (.int u1), .val (.int u2), .val (.int u3), .val (.int u4), .val (.int u5), .val (.ref b1), .val (.int (j0_46 u0 u1 u2)), .val (.ref b13), .unset, .unset, .unset, .unset, .unset, .unset, .unset, .unset, .unset] [(.int (f3 u0 (j0_46 u0 u1 u2)))])) _
      refine XS.iconst X17.here hx rfl (hb hby at_87) ?_
      show Steps p.tables e below (T17.setTop (mkF m 88 #[.val (.int u0), .val (.int u1), .val (.int u2), .val (.int u3), .val (.int u4), .val (.int u5), .val (.ref b1), .val (.int (j0_46 u0 u1 u2)), .val (.ref b13), .unset, .unset, .unset, .unset, .unset, .unset, .unset, .unset, .unset] [(.int (1 : Int32)), (.int (f3 u0 (j0_46 u0 u1 u2)))])) _
      refine XS.goto X17.here hx rfl (pc0 := 88) (pc' := 92) rfl (hb hby at_88) (by decide) (by decide) ?_
      exact k
    · -- pc 84: not u0 = (j0_46 u0 u1 u2)
      intro t k
      have qS0 : (j0_81 u0 u1 u2) = (0 : Int32) := (if_neg hc84).trans (rfl)
      rw [qS0] at k
      refine pre20 t ?_
      show Steps p.tables e below (T17.setTop (mkF m 84 #[.val (.int u0), .val (.int u1), .val (.int u2), .val (.int u3), .val (.int u4), .val (.int u5), .val (.ref b1), .val (.int (j0_46 u0 u1 u2)), .val (.ref b13), .unset, .unset, .unset, .unset, .unset, .unset, .unset, .unset, .unset] [(.int (j0_46 u0 u1 u2)), (.int u0), (.int (f3 u0 (j0_46 u0 u1 u2)))])) _
      refine XS.icmpYes X17.here hx rfl (pc0 := 84) (pc' := 91) rfl (hb hby at_84) rfl (feq hc84).2 (by decide) (by decide) ?_
      show Steps p.tables e below (T17.setTop (mkF m 91 #[.val (.int u0), .val (.int u1), .val (.int u2), .val (.int u3), .val (.int u4), .val (.int u5), .val (.ref b1), .val (.int (j0_46 u0 u1 u2)), .val (.ref b13), .unset, .unset, .unset, .unset, .unset, .unset, .unset, .unset, .unset] [(.int (f3 u0 (j0_46 u0 u1 u2)))])) _
      refine XS.iconst X17.here hx rfl (hb hby at_91) ?_
      exact k
  have pre21 : ∀ t, Steps p.tables e below (T17.setTop (mkF m 107 #[.val (.int u0), .val (.int u1), .val (.int u2), .val (.int u3), .val (.int u4), .val (.int u5), .val (.ref b1), .val (.int (j0_46 u0 u1 u2)), .val (.ref b13), .val (.int (1 : Int32)), .val (.int (u0 &&& (3 : Int32))), .unset, .unset, .unset, .unset, .unset, .unset, .unset] [])) t → Steps p.tables e below (s₁.setTop (entryFrame m #[(.int u0), (.int u1), (.int u2), (.int u3), (.int u4), (.int u5)] maxLocals)) t := fun t k => pre19 t (by
    show Steps p.tables e below (T17.setTop (mkF m 92 #[.val (.int u0), .val (.int u1), .val (.int u2), .val (.int u3), .val (.int u4), .val (.int u5), .val (.ref b1), .val (.int (j0_46 u0 u1 u2)), .val (.ref b13), .unset, .unset, .unset, .unset, .unset, .unset, .unset, .unset, .unset] [(.int (j0_81 u0 u1 u2)), (.int (f3 u0 (j0_46 u0 u1 u2)))])) _
    refine XS.icmpNo X17.here hx rfl (hb hby at_92) rfl (teq (rfl : (f3 u0 (j0_46 u0 u1 u2)) = (j0_81 u0 u1 u2))).2 ?_
    show Steps p.tables e below (T17.setTop (mkF m 95 #[.val (.int u0), .val (.int u1), .val (.int u2), .val (.int u3), .val (.int u4), .val (.int u5), .val (.ref b1), .val (.int (j0_46 u0 u1 u2)), .val (.ref b13), .unset, .unset, .unset, .unset, .unset, .unset, .unset, .unset, .unset] [])) _
    refine XS.iconst X17.here hx rfl (hb hby at_95) ?_
    show Steps p.tables e below (T17.setTop (mkF m 96 #[.val (.int u0), .val (.int u1), .val (.int u2), .val (.int u3), .val (.int u4), .val (.int u5), .val (.ref b1), .val (.int (j0_46 u0 u1 u2)), .val (.ref b13), .unset, .unset, .unset, .unset, .unset, .unset, .unset, .unset, .unset] [(.int (1 : Int32))])) _
    refine XS.goto X17.here hx rfl (pc0 := 96) (pc' := 100) rfl (hb hby at_96) (by decide) (by decide) ?_
    show Steps p.tables e below (T17.setTop (mkF m 100 #[.val (.int u0), .val (.int u1), .val (.int u2), .val (.int u3), .val (.int u4), .val (.int u5), .val (.ref b1), .val (.int (j0_46 u0 u1 u2)), .val (.ref b13), .unset, .unset, .unset, .unset, .unset, .unset, .unset, .unset, .unset] [(.int (1 : Int32))])) _
    refine XS.istore X17.here hx rfl (hb hby at_100) rfl (l' := #[.val (.int u0), .val (.int u1), .val (.int u2), .val (.int u3), .val (.int u4), .val (.int u5), .val (.ref b1), .val (.int (j0_46 u0 u1 u2)), .val (.ref b13), .val (.int (1 : Int32)), .unset, .unset, .unset, .unset, .unset, .unset, .unset, .unset]) rfl ?_
    show Steps p.tables e below (T17.setTop (mkF m 102 #[.val (.int u0), .val (.int u1), .val (.int u2), .val (.int u3), .val (.int u4), .val (.int u5), .val (.ref b1), .val (.int (j0_46 u0 u1 u2)), .val (.ref b13), .val (.int (1 : Int32)), .unset, .unset, .unset, .unset, .unset, .unset, .unset, .unset] [])) _
    refine XS.iloadN X17.here hx rfl (hb hby at_102) rfl ?_
    show Steps p.tables e below (T17.setTop (mkF m 103 #[.val (.int u0), .val (.int u1), .val (.int u2), .val (.int u3), .val (.int u4), .val (.int u5), .val (.ref b1), .val (.int (j0_46 u0 u1 u2)), .val (.ref b13), .val (.int (1 : Int32)), .unset, .unset, .unset, .unset, .unset, .unset, .unset, .unset] [(.int u0)])) _
    refine XS.iconst X17.here hx rfl (hb hby at_103) ?_
    show Steps p.tables e below (T17.setTop (mkF m 104 #[.val (.int u0), .val (.int u1), .val (.int u2), .val (.int u3), .val (.int u4), .val (.int u5), .val (.ref b1), .val (.int (j0_46 u0 u1 u2)), .val (.ref b13), .val (.int (1 : Int32)), .unset, .unset, .unset, .unset, .unset, .unset, .unset, .unset] [(.int (3 : Int32)), (.int u0)])) _
    refine XS.iand X17.here hx rfl (hb hby at_104) rfl ?_
    show Steps p.tables e below (T17.setTop (mkF m 105 #[.val (.int u0), .val (.int u1), .val (.int u2), .val (.int u3), .val (.int u4), .val (.int u5), .val (.ref b1), .val (.int (j0_46 u0 u1 u2)), .val (.ref b13), .val (.int (1 : Int32)), .unset, .unset, .unset, .unset, .unset, .unset, .unset, .unset] [(.int (u0 &&& (3 : Int32)))])) _
    refine XS.istore X17.here hx rfl (hb hby at_105) rfl (l' := #[.val (.int u0), .val (.int u1), .val (.int u2), .val (.int u3), .val (.int u4), .val (.int u5), .val (.ref b1), .val (.int (j0_46 u0 u1 u2)), .val (.ref b13), .val (.int (1 : Int32)), .val (.int (u0 &&& (3 : Int32))), .unset, .unset, .unset, .unset, .unset, .unset, .unset]) rfl ?_
    exact k)
  obtain ⟨ff, hff, rff⟩ : ∃ z : Int32, z = (u0 &&& (3 : Int32)) ∧ (0 ≤ z.toInt ∧ z.toInt ≤ 3) := ⟨_, rfl, own_f _⟩
  rw [← hff] at pre21
  have pre22 : ∀ t, Steps p.tables e below (T17.setTop (mkF m 118 #[.val (.int u0), .val (.int u1), .val (.int u2), .val (.int u3), .val (.int u4), .val (.int u5), .val (.ref b1), .val (.int (j0_46 u0 u1 u2)), .val (.ref b13), .val (.int (1 : Int32)), .val (.int ff), .val (.int ((u1 &&& (2147483647 : Int32)) % ((5 : Int32) - ff))), .unset, .unset, .unset, .unset, .unset, .unset] [])) t → Steps p.tables e below (s₁.setTop (entryFrame m #[(.int u0), (.int u1), (.int u2), (.int u3), (.int u4), (.int u5)] maxLocals)) t := fun t k => pre21 t (by
    show Steps p.tables e below (T17.setTop (mkF m 107 #[.val (.int u0), .val (.int u1), .val (.int u2), .val (.int u3), .val (.int u4), .val (.int u5), .val (.ref b1), .val (.int (j0_46 u0 u1 u2)), .val (.ref b13), .val (.int (1 : Int32)), .val (.int ff), .unset, .unset, .unset, .unset, .unset, .unset, .unset] [])) _
    refine XS.iloadN X17.here hx rfl (hb hby at_107) rfl ?_
    show Steps p.tables e below (T17.setTop (mkF m 108 #[.val (.int u0), .val (.int u1), .val (.int u2), .val (.int u3), .val (.int u4), .val (.int u5), .val (.ref b1), .val (.int (j0_46 u0 u1 u2)), .val (.ref b13), .val (.int (1 : Int32)), .val (.int ff), .unset, .unset, .unset, .unset, .unset, .unset, .unset] [(.int u1)])) _
    refine X17.ldcInt hx hown (mvT hZ (hw _ (List.mem_of_getElem? (i := 21) rfl))) (g := (mkF m 108 #[.val (.int u0), .val (.int u1), .val (.int u2), .val (.int u3), .val (.int u4), .val (.int u5), .val (.ref b1), .val (.int (j0_46 u0 u1 u2)), .val (.ref b13), .val (.int (1 : Int32)), .val (.int ff), .unset, .unset, .unset, .unset, .unset, .unset, .unset] [(.int u1)])) rfl (hb hby at_108) _ ?_
    show Steps p.tables e below (T17.setTop (mkF m 110 #[.val (.int u0), .val (.int u1), .val (.int u2), .val (.int u3), .val (.int u4), .val (.int u5), .val (.ref b1), .val (.int (j0_46 u0 u1 u2)), .val (.ref b13), .val (.int (1 : Int32)), .val (.int ff), .unset, .unset, .unset, .unset, .unset, .unset, .unset] [(.int (2147483647 : Int32)), (.int u1)])) _
    refine XS.iand X17.here hx rfl (hb hby at_110) rfl ?_
    show Steps p.tables e below (T17.setTop (mkF m 111 #[.val (.int u0), .val (.int u1), .val (.int u2), .val (.int u3), .val (.int u4), .val (.int u5), .val (.ref b1), .val (.int (j0_46 u0 u1 u2)), .val (.ref b13), .val (.int (1 : Int32)), .val (.int ff), .unset, .unset, .unset, .unset, .unset, .unset, .unset] [(.int (u1 &&& (2147483647 : Int32)))])) _
    refine XS.iconst X17.here hx rfl (hb hby at_111) ?_
    show Steps p.tables e below (T17.setTop (mkF m 112 #[.val (.int u0), .val (.int u1), .val (.int u2), .val (.int u3), .val (.int u4), .val (.int u5), .val (.ref b1), .val (.int (j0_46 u0 u1 u2)), .val (.ref b13), .val (.int (1 : Int32)), .val (.int ff), .unset, .unset, .unset, .unset, .unset, .unset, .unset] [(.int (5 : Int32)), (.int (u1 &&& (2147483647 : Int32)))])) _
    refine XS.iload X17.here hx rfl (hb hby at_112) rfl ?_
    show Steps p.tables e below (T17.setTop (mkF m 114 #[.val (.int u0), .val (.int u1), .val (.int u2), .val (.int u3), .val (.int u4), .val (.int u5), .val (.ref b1), .val (.int (j0_46 u0 u1 u2)), .val (.ref b13), .val (.int (1 : Int32)), .val (.int ff), .unset, .unset, .unset, .unset, .unset, .unset, .unset] [(.int ff), (.int (5 : Int32)), (.int (u1 &&& (2147483647 : Int32)))])) _
    refine XS.isub X17.here hx rfl (hb hby at_114) rfl ?_
    show Steps p.tables e below (T17.setTop (mkF m 115 #[.val (.int u0), .val (.int u1), .val (.int u2), .val (.int u3), .val (.int u4), .val (.int u5), .val (.ref b1), .val (.int (j0_46 u0 u1 u2)), .val (.ref b13), .val (.int (1 : Int32)), .val (.int ff), .unset, .unset, .unset, .unset, .unset, .unset, .unset] [(.int ((5 : Int32) - ff)), (.int (u1 &&& (2147483647 : Int32)))])) _
    refine iremM X17 hx rfl (hb hby at_115) rfl (own_nz5 rff) ?_
    show Steps p.tables e below (T17.setTop (mkF m 116 #[.val (.int u0), .val (.int u1), .val (.int u2), .val (.int u3), .val (.int u4), .val (.int u5), .val (.ref b1), .val (.int (j0_46 u0 u1 u2)), .val (.ref b13), .val (.int (1 : Int32)), .val (.int ff), .unset, .unset, .unset, .unset, .unset, .unset, .unset] [(.int ((u1 &&& (2147483647 : Int32)) % ((5 : Int32) - ff)))])) _
    refine XS.istore X17.here hx rfl (hb hby at_116) rfl (l' := #[.val (.int u0), .val (.int u1), .val (.int u2), .val (.int u3), .val (.int u4), .val (.int u5), .val (.ref b1), .val (.int (j0_46 u0 u1 u2)), .val (.ref b13), .val (.int (1 : Int32)), .val (.int ff), .val (.int ((u1 &&& (2147483647 : Int32)) % ((5 : Int32) - ff))), .unset, .unset, .unset, .unset, .unset, .unset]) rfl ?_
    exact k)
  obtain ⟨ll, hll, rll⟩ : ∃ z : Int32, z = ((u1 &&& (2147483647 : Int32)) % ((5 : Int32) - ff)) ∧ (0 ≤ z.toInt ∧ z.toInt ≤ 4 - ff.toInt) := ⟨_, rfl, own_l _ rff⟩
  rw [← hll] at pre22
  have pre23 : ∀ t, Steps p.tables e below (T17.setTop (mkF m 125 #[.val (.int u0), .val (.int u1), .val (.int u2), .val (.int u3), .val (.int u4), .val (.int u5), .val (.ref b1), .val (.int (j0_46 u0 u1 u2)), .val (.ref b13), .val (.int (1 : Int32)), .val (.int ff), .val (.int ll), .val (.int (ff + ll)), .unset, .unset, .unset, .unset, .unset] [])) t → Steps p.tables e below (s₁.setTop (entryFrame m #[(.int u0), (.int u1), (.int u2), (.int u3), (.int u4), (.int u5)] maxLocals)) t := fun t k => pre22 t (by
    show Steps p.tables e below (T17.setTop (mkF m 118 #[.val (.int u0), .val (.int u1), .val (.int u2), .val (.int u3), .val (.int u4), .val (.int u5), .val (.ref b1), .val (.int (j0_46 u0 u1 u2)), .val (.ref b13), .val (.int (1 : Int32)), .val (.int ff), .val (.int ll), .unset, .unset, .unset, .unset, .unset, .unset] [])) _
    refine XS.iload X17.here hx rfl (hb hby at_118) rfl ?_
    show Steps p.tables e below (T17.setTop (mkF m 120 #[.val (.int u0), .val (.int u1), .val (.int u2), .val (.int u3), .val (.int u4), .val (.int u5), .val (.ref b1), .val (.int (j0_46 u0 u1 u2)), .val (.ref b13), .val (.int (1 : Int32)), .val (.int ff), .val (.int ll), .unset, .unset, .unset, .unset, .unset, .unset] [(.int ff)])) _
    refine XS.iload X17.here hx rfl (hb hby at_120) rfl ?_
    show Steps p.tables e below (T17.setTop (mkF m 122 #[.val (.int u0), .val (.int u1), .val (.int u2), .val (.int u3), .val (.int u4), .val (.int u5), .val (.ref b1), .val (.int (j0_46 u0 u1 u2)), .val (.ref b13), .val (.int (1 : Int32)), .val (.int ff), .val (.int ll), .unset, .unset, .unset, .unset, .unset, .unset] [(.int ll), (.int ff)])) _
    refine XS.iadd X17.here hx rfl (hb hby at_122) rfl ?_
    show Steps p.tables e below (T17.setTop (mkF m 123 #[.val (.int u0), .val (.int u1), .val (.int u2), .val (.int u3), .val (.int u4), .val (.int u5), .val (.ref b1), .val (.int (j0_46 u0 u1 u2)), .val (.ref b13), .val (.int (1 : Int32)), .val (.int ff), .val (.int ll), .unset, .unset, .unset, .unset, .unset, .unset] [(.int (ff + ll))])) _
    refine XS.istore X17.here hx rfl (hb hby at_123) rfl (l' := #[.val (.int u0), .val (.int u1), .val (.int u2), .val (.int u3), .val (.int u4), .val (.int u5), .val (.ref b1), .val (.int (j0_46 u0 u1 u2)), .val (.ref b13), .val (.int (1 : Int32)), .val (.int ff), .val (.int ll), .val (.int (ff + ll)), .unset, .unset, .unset, .unset, .unset]) rfl ?_
    exact k)
  obtain ⟨tt, htt, rtt⟩ : ∃ z : Int32, z = (ff + ll) ∧ (z.toInt = ff.toInt + ll.toInt) := ⟨_, rfl, own_t rff rll⟩
  rw [← htt] at pre23
  have pre24 : ∀ t, Steps p.tables e below (T17.setTop (mkF m 136 #[.val (.int u0), .val (.int u1), .val (.int u2), .val (.int u3), .val (.int u4), .val (.int u5), .val (.ref b1), .val (.int (j0_46 u0 u1 u2)), .val (.ref b13), .val (.int (1 : Int32)), .val (.int ff), .val (.int ll), .val (.int tt), .val (.int ((u2 &&& (2147483647 : Int32)) % (ll + (1 : Int32)))), .unset, .unset, .unset, .unset] [])) t → Steps p.tables e below (s₁.setTop (entryFrame m #[(.int u0), (.int u1), (.int u2), (.int u3), (.int u4), (.int u5)] maxLocals)) t := fun t k => pre23 t (by
    show Steps p.tables e below (T17.setTop (mkF m 125 #[.val (.int u0), .val (.int u1), .val (.int u2), .val (.int u3), .val (.int u4), .val (.int u5), .val (.ref b1), .val (.int (j0_46 u0 u1 u2)), .val (.ref b13), .val (.int (1 : Int32)), .val (.int ff), .val (.int ll), .val (.int tt), .unset, .unset, .unset, .unset, .unset] [])) _
    refine XS.iloadN X17.here hx rfl (hb hby at_125) rfl ?_
    show Steps p.tables e below (T17.setTop (mkF m 126 #[.val (.int u0), .val (.int u1), .val (.int u2), .val (.int u3), .val (.int u4), .val (.int u5), .val (.ref b1), .val (.int (j0_46 u0 u1 u2)), .val (.ref b13), .val (.int (1 : Int32)), .val (.int ff), .val (.int ll), .val (.int tt), .unset, .unset, .unset, .unset, .unset] [(.int u2)])) _
    refine X17.ldcInt hx hown (mvT hZ (hw _ (List.mem_of_getElem? (i := 21) rfl))) (g := (mkF m 126 #[.val (.int u0), .val (.int u1), .val (.int u2), .val (.int u3), .val (.int u4), .val (.int u5), .val (.ref b1), .val (.int (j0_46 u0 u1 u2)), .val (.ref b13), .val (.int (1 : Int32)), .val (.int ff), .val (.int ll), .val (.int tt), .unset, .unset, .unset, .unset, .unset] [(.int u2)])) rfl (hb hby at_126) _ ?_
    show Steps p.tables e below (T17.setTop (mkF m 128 #[.val (.int u0), .val (.int u1), .val (.int u2), .val (.int u3), .val (.int u4), .val (.int u5), .val (.ref b1), .val (.int (j0_46 u0 u1 u2)), .val (.ref b13), .val (.int (1 : Int32)), .val (.int ff), .val (.int ll), .val (.int tt), .unset, .unset, .unset, .unset, .unset] [(.int (2147483647 : Int32)), (.int u2)])) _
    refine XS.iand X17.here hx rfl (hb hby at_128) rfl ?_
    show Steps p.tables e below (T17.setTop (mkF m 129 #[.val (.int u0), .val (.int u1), .val (.int u2), .val (.int u3), .val (.int u4), .val (.int u5), .val (.ref b1), .val (.int (j0_46 u0 u1 u2)), .val (.ref b13), .val (.int (1 : Int32)), .val (.int ff), .val (.int ll), .val (.int tt), .unset, .unset, .unset, .unset, .unset] [(.int (u2 &&& (2147483647 : Int32)))])) _
    refine XS.iload X17.here hx rfl (hb hby at_129) rfl ?_
    show Steps p.tables e below (T17.setTop (mkF m 131 #[.val (.int u0), .val (.int u1), .val (.int u2), .val (.int u3), .val (.int u4), .val (.int u5), .val (.ref b1), .val (.int (j0_46 u0 u1 u2)), .val (.ref b13), .val (.int (1 : Int32)), .val (.int ff), .val (.int ll), .val (.int tt), .unset, .unset, .unset, .unset, .unset] [(.int ll), (.int (u2 &&& (2147483647 : Int32)))])) _
    refine XS.iconst X17.here hx rfl (hb hby at_131) ?_
    show Steps p.tables e below (T17.setTop (mkF m 132 #[.val (.int u0), .val (.int u1), .val (.int u2), .val (.int u3), .val (.int u4), .val (.int u5), .val (.ref b1), .val (.int (j0_46 u0 u1 u2)), .val (.ref b13), .val (.int (1 : Int32)), .val (.int ff), .val (.int ll), .val (.int tt), .unset, .unset, .unset, .unset, .unset] [(.int (1 : Int32)), (.int ll), (.int (u2 &&& (2147483647 : Int32)))])) _
    refine XS.iadd X17.here hx rfl (hb hby at_132) rfl ?_
    show Steps p.tables e below (T17.setTop (mkF m 133 #[.val (.int u0), .val (.int u1), .val (.int u2), .val (.int u3), .val (.int u4), .val (.int u5), .val (.ref b1), .val (.int (j0_46 u0 u1 u2)), .val (.ref b13), .val (.int (1 : Int32)), .val (.int ff), .val (.int ll), .val (.int tt), .unset, .unset, .unset, .unset, .unset] [(.int (ll + (1 : Int32))), (.int (u2 &&& (2147483647 : Int32)))])) _
    refine iremM X17 hx rfl (hb hby at_133) rfl (own_nz1 rff rll) ?_
    show Steps p.tables e below (T17.setTop (mkF m 134 #[.val (.int u0), .val (.int u1), .val (.int u2), .val (.int u3), .val (.int u4), .val (.int u5), .val (.ref b1), .val (.int (j0_46 u0 u1 u2)), .val (.ref b13), .val (.int (1 : Int32)), .val (.int ff), .val (.int ll), .val (.int tt), .unset, .unset, .unset, .unset, .unset] [(.int ((u2 &&& (2147483647 : Int32)) % (ll + (1 : Int32))))])) _
    refine XS.istore X17.here hx rfl (hb hby at_134) rfl (l' := #[.val (.int u0), .val (.int u1), .val (.int u2), .val (.int u3), .val (.int u4), .val (.int u5), .val (.ref b1), .val (.int (j0_46 u0 u1 u2)), .val (.ref b13), .val (.int (1 : Int32)), .val (.int ff), .val (.int ll), .val (.int tt), .val (.int ((u2 &&& (2147483647 : Int32)) % (ll + (1 : Int32)))), .unset, .unset, .unset, .unset]) rfl ?_
    exact k)
  obtain ⟨rr, hrr, rrr⟩ : ∃ z : Int32, z = ((u2 &&& (2147483647 : Int32)) % (ll + (1 : Int32))) ∧ (0 ≤ z.toInt ∧ z.toInt ≤ ll.toInt) := ⟨_, rfl, own_r _ rff rll⟩
  rw [← hrr] at pre24
  obtain ⟨T25, h25, X25, e25, E25, A25, D25, -, st25⟩ := newO X17 hx hZ hown (hw _ (List.mem_of_getElem? (i := 1) rfl)) (hw _ (List.mem_of_getElem? (i := 2) rfl)) (hw _ (List.mem_of_getElem? (i := 3) rfl)) e17 (g := (mkF m 136 #[.val (.int u0), .val (.int u1), .val (.int u2), .val (.int u3), .val (.int u4), .val (.int u5), .val (.ref b1), .val (.int (j0_46 u0 u1 u2)), .val (.ref b13), .val (.int (1 : Int32)), .val (.int ff), .val (.int ll), .val (.int tt), .val (.int rr), .unset, .unset, .unset, .unset] [])) rfl (hb hby at_136) (by decide) (by decide)
  obtain ⟨b25, g25⟩ : ∃ z, z = T15.heap.size := ⟨_, rfl⟩
  rw [← g25] at A25 D25 st25
  have g_b25 : n0 ≤ b25 := Nat.le_trans (Nat.le_trans Z0 K15.1) (Nat.le_of_eq g25.symm)
  have sz_b25 : h0.size ≤ b25 := Nat.le_trans K15.1 (Nat.le_of_eq g25.symm)
  have ne_b1_b25 : b1 ≠ b25 := Nat.ne_of_lt (Nat.lt_of_lt_of_le V_b1_16.lt (Nat.le_of_eq g25.symm))
  have V_b1_26 := V_b1_16.ext E25
  have K25 : Keep h0 h25 [] := K15.ext E25
  have F_bytes_b25 : Fld Z h25 b25 "com/example/scorpus/scorpus/engine/ByteReader" "bytes" "[B" .null := D25 (Or.inr (hw _ (List.mem_of_getElem? (i := 11) rfl))) (ty := (.array .byte)) (by decide)
  have F_position_b25 : Fld Z h25 b25 "com/example/scorpus/scorpus/engine/ByteReader" "position" "I" (.int (0 : Int32)) := D25 (Or.inl (hw _ (List.mem_of_getElem? (i := 13) rfl))) (ty := .int) (by decide)
  have F_end_b25 : Fld Z h25 b25 "com/example/scorpus/scorpus/engine/ByteReader" "end" "I" (.int (0 : Int32)) := D25 (Or.inr (hw _ (List.mem_of_getElem? (i := 15) rfl))) (ty := .int) (by decide)
  obtain ⟨_, _, ⟨T27, L27, k27, n27⟩, -, X27, ⟨Lc27, hQ27, l27, y27, z27⟩, st27⟩ := X25.specialBack hx (y := (⟨"com/example/scorpus/scorpus/engine/ByteReader", "<init>", "([BII)V"⟩ : MethodName)) rfl hown (mvT hZ (hw _ (List.mem_of_getElem? (i := 4) rfl))) (mvT hZ (hw _ (List.mem_of_getElem? (i := 5) rfl))) (mvT hZ (hw _ (List.mem_of_getElem? (i := 6) rfl))) (by decide) (backOf (W := 1) (rm1 l Z a0 hw [] b25 b1 ff tt  h25 n0 (Nat.le_trans Z0 K25.1) A25 F_bytes_b25 F_position_b25 F_end_b25 g_b25) hZ (hw _ (List.mem_of_getElem? (i := 6) rfl)) (hw _ (List.mem_of_getElem? (i := 3) rfl)) (by decide) (by decide)) (g := (mkF m 146 #[.val (.int u0), .val (.int u1), .val (.int u2), .val (.int u3), .val (.int u4), .val (.int u5), .val (.ref b1), .val (.int (j0_46 u0 u1 u2)), .val (.ref b13), .val (.int (1 : Int32)), .val (.int ff), .val (.int ll), .val (.int tt), .val (.int rr), .unset, .unset, .unset, .unset] [(.int tt), (.int ff), (.ref b1), (.ref b25), (.ref b25)])) rfl (by rw [hml]; rfl) (Steps.refl _) (a := b25) (argsL := [(.ref b1), (.int ff), (.int tt)]) (rest := [(.ref b25)]) (lenOf pd_1 rfl) rfl (by show 2 * 0 + _ ≤ _; exact Nat.le_of_eq rfl) (hb hby at_146) (fun _ _ => ⟨rfl, e25, (by decide : 3 + 0 ≤ _), (by decide : 10 + 0 ≤ _)⟩)
  dsimp only [Pt.U, Pt.locs, Pt.cells, Pt.slots] at X27 l27 y27 z27 st27 hQ27
  subst l27 y27 z27
  obtain ⟨rfl, N27q, K27q, E_r27, F_bytes27, F_position27, F_end27⟩ := hQ27
  have N27 := Fr.app N17 N27q
  have K27 : Keep h0 T27.heap [] := K25.trans K27q (allS (Or.inr sz_b25) all0)
  have V_b1_28 := V_b1_26.keep K27q (ninS ne_b1_b25 nin0)
  obtain ⟨cq29, kq29, q29a, q29b, q29c⟩ := isOf hZ rfl E_r27
  obtain ⟨_, _, ⟨T29, L29, k29, n29⟩, -, X29, ⟨Lc29, hQ29, l29, y29, z29⟩, st29⟩ := X27.virtualBack hx (y := (⟨"com/example/scorpus/scorpus/engine/ByteReader", "atEnd", "()Z"⟩ : MethodName)) (z := (⟨"com/example/scorpus/scorpus/engine/ByteReader", "atEnd", "()Z"⟩ : MethodName)) hown (mvT hZ (hw _ (List.mem_of_getElem? (i := 16) rfl))) (mvT hZ (hw _ (List.mem_of_getElem? (i := 17) rfl))) (notFace_of_selects (args := #[]) (mvT hZ (hw _ (List.mem_of_getElem? (i := 19) rfl)))) (mvT hZ (hw _ (List.mem_of_getElem? (i := 19) rfl))) (mvT hZ (hw _ (List.mem_of_getElem? (i := 18) rfl))) (by decide) (backOf (W := 0) (rm3 l Z a0 hw [] b25 ff tt T27.heap n0 (Nat.le_trans Z0 K27.1) F_position27 F_end27) hZ (hw _ (List.mem_of_getElem? (i := 20) rfl)) (hw _ (List.mem_of_getElem? (i := 3) rfl)) (by decide) (by decide)) q29a q29c (g := (mkF m 158 #[.val (.int u0), .val (.int u1), .val (.int u2), .val (.int u3), .val (.int u4), .val (.int u5), .val (.ref b1), .val (.int (j0_46 u0 u1 u2)), .val (.ref b13), .val (.int (1 : Int32)), .val (.int ff), .val (.int ll), .val (.int tt), .val (.int rr), .val (.ref b25), .unset, .unset, .unset] [(.ref b25)])) rfl (by rw [hml]; rfl) (Steps.refl _) (argsL := []) (rest := []) (lenOf pd_2 rfl) rfl (by show 2 * 0 + _ ≤ _; exact Nat.le_of_eq rfl) (hb hby at_158) (fun _ _ => ⟨rfl, rfl, (by decide : 3 + 0 ≤ _), (by decide : 10 + 0 ≤ _)⟩)
  dsimp only [Pt.U, Pt.locs, Pt.cells, Pt.slots] at X29 l29 y29 z29 st29 hQ29
  subst l29 y29 z29
  obtain ⟨rfl, N29q, e29⟩ := hQ29
  have N29 := Fr.app N27 N29q
  have pre30 : ∀ t, Steps p.tables e below (T29.setTop (mkF m 161 #[.val (.int u0), .val (.int u1), .val (.int u2), .val (.int u3), .val (.int u4), .val (.int u5), .val (.ref b1), .val (.int (j0_46 u0 u1 u2)), .val (.ref b13), .val (.int (1 : Int32)), .val (.int ff), .val (.int ll), .val (.int tt), .val (.int rr), .val (.ref b25), .unset, .unset, .unset] [(.int (f3 ff tt))])) t → Steps p.tables e below (s₁.setTop (entryFrame m #[(.int u0), (.int u1), (.int u2), (.int u3), (.int u4), (.int u5)] maxLocals)) t := fun t k => pre24 t (by
    show Steps p.tables e below (T17.setTop (mkF m 136 #[.val (.int u0), .val (.int u1), .val (.int u2), .val (.int u3), .val (.int u4), .val (.int u5), .val (.ref b1), .val (.int (j0_46 u0 u1 u2)), .val (.ref b13), .val (.int (1 : Int32)), .val (.int ff), .val (.int ll), .val (.int tt), .val (.int rr), .unset, .unset, .unset, .unset] [])) _
    refine st25 _ ?_
    show Steps p.tables e below (T25.setTop (mkF m 139 #[.val (.int u0), .val (.int u1), .val (.int u2), .val (.int u3), .val (.int u4), .val (.int u5), .val (.ref b1), .val (.int (j0_46 u0 u1 u2)), .val (.ref b13), .val (.int (1 : Int32)), .val (.int ff), .val (.int ll), .val (.int tt), .val (.int rr), .unset, .unset, .unset, .unset] [(.ref b25)])) _
    refine XS.dup X25.here hx rfl (hb hby at_139) rfl rfl ?_
    show Steps p.tables e below (T25.setTop (mkF m 140 #[.val (.int u0), .val (.int u1), .val (.int u2), .val (.int u3), .val (.int u4), .val (.int u5), .val (.ref b1), .val (.int (j0_46 u0 u1 u2)), .val (.ref b13), .val (.int (1 : Int32)), .val (.int ff), .val (.int ll), .val (.int tt), .val (.int rr), .unset, .unset, .unset, .unset] [(.ref b25), (.ref b25)])) _
    refine XS.aload X25.here hx rfl (hb hby at_140) rfl rfl ?_
    show Steps p.tables e below (T25.setTop (mkF m 142 #[.val (.int u0), .val (.int u1), .val (.int u2), .val (.int u3), .val (.int u4), .val (.int u5), .val (.ref b1), .val (.int (j0_46 u0 u1 u2)), .val (.ref b13), .val (.int (1 : Int32)), .val (.int ff), .val (.int ll), .val (.int tt), .val (.int rr), .unset, .unset, .unset, .unset] [(.ref b1), (.ref b25), (.ref b25)])) _
    refine XS.iload X25.here hx rfl (hb hby at_142) rfl ?_
    show Steps p.tables e below (T25.setTop (mkF m 144 #[.val (.int u0), .val (.int u1), .val (.int u2), .val (.int u3), .val (.int u4), .val (.int u5), .val (.ref b1), .val (.int (j0_46 u0 u1 u2)), .val (.ref b13), .val (.int (1 : Int32)), .val (.int ff), .val (.int ll), .val (.int tt), .val (.int rr), .unset, .unset, .unset, .unset] [(.int ff), (.ref b1), (.ref b25), (.ref b25)])) _
    refine XS.iload X25.here hx rfl (hb hby at_144) rfl ?_
    show Steps p.tables e below (T25.setTop (mkF m 146 #[.val (.int u0), .val (.int u1), .val (.int u2), .val (.int u3), .val (.int u4), .val (.int u5), .val (.ref b1), .val (.int (j0_46 u0 u1 u2)), .val (.ref b13), .val (.int (1 : Int32)), .val (.int ff), .val (.int ll), .val (.int tt), .val (.int rr), .unset, .unset, .unset, .unset] [(.int tt), (.int ff), (.ref b1), (.ref b25), (.ref b25)])) _
    refine st27.trans ?_
    show Steps p.tables e below (T27.setTop (mkF m 149 #[.val (.int u0), .val (.int u1), .val (.int u2), .val (.int u3), .val (.int u4), .val (.int u5), .val (.ref b1), .val (.int (j0_46 u0 u1 u2)), .val (.ref b13), .val (.int (1 : Int32)), .val (.int ff), .val (.int ll), .val (.int tt), .val (.int rr), .unset, .unset, .unset, .unset] [(.ref b25)])) _
    refine XS.astore X27.here hx rfl (hb hby at_149) rfl rfl (l' := #[.val (.int u0), .val (.int u1), .val (.int u2), .val (.int u3), .val (.int u4), .val (.int u5), .val (.ref b1), .val (.int (j0_46 u0 u1 u2)), .val (.ref b13), .val (.int (1 : Int32)), .val (.int ff), .val (.int ll), .val (.int tt), .val (.int rr), .val (.ref b25), .unset, .unset, .unset]) rfl ?_
    show Steps p.tables e below (T27.setTop (mkF m 151 #[.val (.int u0), .val (.int u1), .val (.int u2), .val (.int u3), .val (.int u4), .val (.int u5), .val (.ref b1), .val (.int (j0_46 u0 u1 u2)), .val (.ref b13), .val (.int (1 : Int32)), .val (.int ff), .val (.int ll), .val (.int tt), .val (.int rr), .val (.ref b25), .unset, .unset, .unset] [])) _
    refine XS.iload X27.here hx rfl (hb hby at_151) rfl ?_
    show Steps p.tables e below (T27.setTop (mkF m 153 #[.val (.int u0), .val (.int u1), .val (.int u2), .val (.int u3), .val (.int u4), .val (.int u5), .val (.ref b1), .val (.int (j0_46 u0 u1 u2)), .val (.ref b13), .val (.int (1 : Int32)), .val (.int ff), .val (.int ll), .val (.int tt), .val (.int rr), .val (.ref b25), .unset, .unset, .unset] [(.int (1 : Int32))])) _
    refine XS.ifNo X27.here hx rfl (hb hby at_153) rfl ((if0 _ _).trans (feq (by decide : ¬ ((1 : Int32) = (0 : Int32)))).1) ?_
    show Steps p.tables e below (T27.setTop (mkF m 156 #[.val (.int u0), .val (.int u1), .val (.int u2), .val (.int u3), .val (.int u4), .val (.int u5), .val (.ref b1), .val (.int (j0_46 u0 u1 u2)), .val (.ref b13), .val (.int (1 : Int32)), .val (.int ff), .val (.int ll), .val (.int tt), .val (.int rr), .val (.ref b25), .unset, .unset, .unset] [])) _
    refine XS.aload X27.here hx rfl (hb hby at_156) rfl rfl ?_
    show Steps p.tables e below (T27.setTop (mkF m 158 #[.val (.int u0), .val (.int u1), .val (.int u2), .val (.int u3), .val (.int u4), .val (.int u5), .val (.ref b1), .val (.int (j0_46 u0 u1 u2)), .val (.ref b13), .val (.int (1 : Int32)), .val (.int ff), .val (.int ll), .val (.int tt), .val (.int rr), .val (.ref b25), .unset, .unset, .unset] [(.ref b25)])) _
    refine st29.trans ?_
    exact k)
  have pre31 : ∀ t, Steps p.tables e below (T29.setTop (mkF m 171 #[.val (.int u0), .val (.int u1), .val (.int u2), .val (.int u3), .val (.int u4), .val (.int u5), .val (.ref b1), .val (.int (j0_46 u0 u1 u2)), .val (.ref b13), .val (.int (1 : Int32)), .val (.int ff), .val (.int ll), .val (.int tt), .val (.int rr), .val (.ref b25), .unset, .unset, .unset] [(.int (j0_161 ll)), (.int (f3 ff tt))])) t → Steps p.tables e below (s₁.setTop (entryFrame m #[(.int u0), (.int u1), (.int u2), (.int u3), (.int u4), (.int u5)] maxLocals)) t := by
    have pre32 : ∀ t, Steps p.tables e below (T29.setTop (mkF m 163 #[.val (.int u0), .val (.int u1), .val (.int u2), .val (.int u3), .val (.int u4), .val (.int u5), .val (.ref b1), .val (.int (j0_46 u0 u1 u2)), .val (.ref b13), .val (.int (1 : Int32)), .val (.int ff), .val (.int ll), .val (.int tt), .val (.int rr), .val (.ref b25), .unset, .unset, .unset] [(.int ll), (.int (f3 ff tt))])) t → Steps p.tables e below (s₁.setTop (entryFrame m #[(.int u0), (.int u1), (.int u2), (.int u3), (.int u4), (.int u5)] maxLocals)) t := fun t k => pre30 t (by
      show Steps p.tables e below (T29.setTop (mkF m 161 #[.val (.int u0), .val (.int u1), .val (.int u2), .val (.int u3), .val (.int u4), .val (.int u5), .val (.ref b1), .val (.int (j0_46 u0 u1 u2)), .val (.ref b13), .val (.int (1 : Int32)), .val (.int ff), .val (.int ll), .val (.int tt), .val (.int rr), .val (.ref b25), .unset, .unset, .unset] [(.int (f3 ff tt))])) _
      refine XS.iload X29.here hx rfl (hb hby at_161) rfl ?_
      exact k)
    by_cases hc163 : ll = (0 : Int32)
    · -- pc 163: ll = (0 : Int32)
      intro t k
      have qS0 : (j0_161 ll) = (1 : Int32) := (if_pos hc163).trans (rfl)
      rw [qS0] at k
      refine pre32 t ?_
      show Steps p.tables e below (T29.setTop (mkF m 163 #[.val (.int u0), .val (.int u1), .val (.int u2), .val (.int u3), .val (.int u4), .val (.int u5), .val (.ref b1), .val (.int (j0_46 u0 u1 u2)), .val (.ref b13), .val (.int (1 : Int32)), .val (.int ff), .val (.int ll), .val (.int tt), .val (.int rr), .val (.ref b25), .unset, .unset, .unset] [(.int ll), (.int (f3 ff tt))])) _
      refine XS.ifNo X29.here hx rfl (hb hby at_163) rfl ((if0 _ _).trans (teq hc163).2) ?_
      show Steps p.tables e below (T29.setTop (mkF m 166 #[.val (.int u0), .val (.int u1), .val (.int u2), .val (.int u3), .val (.int u4), .val (.int u5), .val (.ref b1), .val (.int (j0_46 u0 u1 u2)), .val (.ref b13), .val (.int (1 : Int32)), .val (.int ff), .val (.int ll), .val (.int tt), .val (.int rr), .val (.ref b25), .unset, .unset, .unset] [(.int (f3 ff tt))])) _
      refine XS.iconst X29.here hx rfl (hb hby at_166) ?_
      show Steps p.tables e below (T29.setTop (mkF m 167 #[.val (.int u0), .val (.int u1), .val (.int u2), .val (.int u3), .val (.int u4), .val (.int u5), .val (.ref b1), .val (.int (j0_46 u0 u1 u2)), .val (.ref b13), .val (.int (1 : Int32)), .val (.int ff), .val (.int ll), .val (.int tt), .val (.int rr), .val (.ref b25), .unset, .unset, .unset] [(.int (1 : Int32)), (.int (f3 ff tt))])) _
      refine XS.goto X29.here hx rfl (pc0 := 167) (pc' := 171) rfl (hb hby at_167) (by decide) (by decide) ?_
      exact k
    · -- pc 163: not ll = (0 : Int32)
      intro t k
      have qS0 : (j0_161 ll) = (0 : Int32) := (if_neg hc163).trans (rfl)
      rw [qS0] at k
      refine pre32 t ?_
      show Steps p.tables e below (T29.setTop (mkF m 163 #[.val (.int u0), .val (.int u1), .val (.int u2), .val (.int u3), .val (.int u4), .val (.int u5), .val (.ref b1), .val (.int (j0_46 u0 u1 u2)), .val (.ref b13), .val (.int (1 : Int32)), .val (.int ff), .val (.int ll), .val (.int tt), .val (.int rr), .val (.ref b25), .unset, .unset, .unset] [(.int ll), (.int (f3 ff tt))])) _
      refine XS.ifYes X29.here hx rfl (pc0 := 163) (pc' := 170) rfl (hb hby at_163) rfl ((if0 _ _).trans (feq hc163).2) (by decide) (by decide) ?_
      show Steps p.tables e below (T29.setTop (mkF m 170 #[.val (.int u0), .val (.int u1), .val (.int u2), .val (.int u3), .val (.int u4), .val (.int u5), .val (.ref b1), .val (.int (j0_46 u0 u1 u2)), .val (.ref b13), .val (.int (1 : Int32)), .val (.int ff), .val (.int ll), .val (.int tt), .val (.int rr), .val (.ref b25), .unset, .unset, .unset] [(.int (f3 ff tt))])) _
      refine XS.iconst X29.here hx rfl (hb hby at_170) ?_
      exact k
  have pre33 : ∀ t, Steps p.tables e below (T29.setTop (mkF m 188 #[.val (.int u0), .val (.int u1), .val (.int u2), .val (.int u3), .val (.int u4), .val (.int u5), .val (.ref b1), .val (.int (j0_46 u0 u1 u2)), .val (.ref b13), .val (.int (1 : Int32)), .val (.int ff), .val (.int ll), .val (.int tt), .val (.int rr), .val (.ref b25), .val (.int ff), .unset, .unset] [(.int (1 : Int32)), (.int rr)])) t → Steps p.tables e below (s₁.setTop (entryFrame m #[(.int u0), (.int u1), (.int u2), (.int u3), (.int u4), (.int u5)] maxLocals)) t := fun t k => pre31 t (by
    show Steps p.tables e below (T29.setTop (mkF m 171 #[.val (.int u0), .val (.int u1), .val (.int u2), .val (.int u3), .val (.int u4), .val (.int u5), .val (.ref b1), .val (.int (j0_46 u0 u1 u2)), .val (.ref b13), .val (.int (1 : Int32)), .val (.int ff), .val (.int ll), .val (.int tt), .val (.int rr), .val (.ref b25), .unset, .unset, .unset] [(.int (j0_161 ll)), (.int (f3 ff tt))])) _
    refine XS.icmpNo X29.here hx rfl (hb hby at_171) rfl (teq (own_end0 rff rll rtt)).2 ?_
    show Steps p.tables e below (T29.setTop (mkF m 174 #[.val (.int u0), .val (.int u1), .val (.int u2), .val (.int u3), .val (.int u4), .val (.int u5), .val (.ref b1), .val (.int (j0_46 u0 u1 u2)), .val (.ref b13), .val (.int (1 : Int32)), .val (.int ff), .val (.int ll), .val (.int tt), .val (.int rr), .val (.ref b25), .unset, .unset, .unset] [])) _
    refine XS.iconst X29.here hx rfl (hb hby at_174) ?_
    show Steps p.tables e below (T29.setTop (mkF m 175 #[.val (.int u0), .val (.int u1), .val (.int u2), .val (.int u3), .val (.int u4), .val (.int u5), .val (.ref b1), .val (.int (j0_46 u0 u1 u2)), .val (.ref b13), .val (.int (1 : Int32)), .val (.int ff), .val (.int ll), .val (.int tt), .val (.int rr), .val (.ref b25), .unset, .unset, .unset] [(.int (1 : Int32))])) _
    refine XS.goto X29.here hx rfl (pc0 := 175) (pc' := 179) rfl (hb hby at_175) (by decide) (by decide) ?_
    show Steps p.tables e below (T29.setTop (mkF m 179 #[.val (.int u0), .val (.int u1), .val (.int u2), .val (.int u3), .val (.int u4), .val (.int u5), .val (.ref b1), .val (.int (j0_46 u0 u1 u2)), .val (.ref b13), .val (.int (1 : Int32)), .val (.int ff), .val (.int ll), .val (.int tt), .val (.int rr), .val (.ref b25), .unset, .unset, .unset] [(.int (1 : Int32))])) _
    refine XS.istore X29.here hx rfl (hb hby at_179) rfl (l' := #[.val (.int u0), .val (.int u1), .val (.int u2), .val (.int u3), .val (.int u4), .val (.int u5), .val (.ref b1), .val (.int (j0_46 u0 u1 u2)), .val (.ref b13), .val (.int (1 : Int32)), .val (.int ff), .val (.int ll), .val (.int tt), .val (.int rr), .val (.ref b25), .unset, .unset, .unset]) rfl ?_
    show Steps p.tables e below (T29.setTop (mkF m 181 #[.val (.int u0), .val (.int u1), .val (.int u2), .val (.int u3), .val (.int u4), .val (.int u5), .val (.ref b1), .val (.int (j0_46 u0 u1 u2)), .val (.ref b13), .val (.int (1 : Int32)), .val (.int ff), .val (.int ll), .val (.int tt), .val (.int rr), .val (.ref b25), .unset, .unset, .unset] [])) _
    refine XS.iload X29.here hx rfl (hb hby at_181) rfl ?_
    show Steps p.tables e below (T29.setTop (mkF m 183 #[.val (.int u0), .val (.int u1), .val (.int u2), .val (.int u3), .val (.int u4), .val (.int u5), .val (.ref b1), .val (.int (j0_46 u0 u1 u2)), .val (.ref b13), .val (.int (1 : Int32)), .val (.int ff), .val (.int ll), .val (.int tt), .val (.int rr), .val (.ref b25), .unset, .unset, .unset] [(.int ff)])) _
    refine XS.istore X29.here hx rfl (hb hby at_183) rfl (l' := #[.val (.int u0), .val (.int u1), .val (.int u2), .val (.int u3), .val (.int u4), .val (.int u5), .val (.ref b1), .val (.int (j0_46 u0 u1 u2)), .val (.ref b13), .val (.int (1 : Int32)), .val (.int ff), .val (.int ll), .val (.int tt), .val (.int rr), .val (.ref b25), .val (.int ff), .unset, .unset]) rfl ?_
    show Steps p.tables e below (T29.setTop (mkF m 185 #[.val (.int u0), .val (.int u1), .val (.int u2), .val (.int u3), .val (.int u4), .val (.int u5), .val (.ref b1), .val (.int (j0_46 u0 u1 u2)), .val (.ref b13), .val (.int (1 : Int32)), .val (.int ff), .val (.int ll), .val (.int tt), .val (.int rr), .val (.ref b25), .val (.int ff), .unset, .unset] [])) _
    refine XS.iload X29.here hx rfl (hb hby at_185) rfl ?_
    show Steps p.tables e below (T29.setTop (mkF m 187 #[.val (.int u0), .val (.int u1), .val (.int u2), .val (.int u3), .val (.int u4), .val (.int u5), .val (.ref b1), .val (.int (j0_46 u0 u1 u2)), .val (.ref b13), .val (.int (1 : Int32)), .val (.int ff), .val (.int ll), .val (.int tt), .val (.int rr), .val (.ref b25), .val (.int ff), .unset, .unset] [(.int rr)])) _
    refine XS.iconst X29.here hx rfl (hb hby at_187) ?_
    exact k)
  by_cases hc188 : rr < (1 : Int32)
  · -- pc 188: rr < (1 : Int32)
    obtain ⟨fs, hr, hrun, hended, hW, hsame⟩ := X29.leave (v := (some (.int (1 : Int32)))) (fun h => by rw [Bd.returns] at h; cases h)
    refine ⟨_, _, pre33 _ ?_, hrun, hended, _, _, rfl, ?_, ⟨_, rfl⟩, hW, hsame.mono (by decide) (by decide)⟩
    · show Steps p.tables e below (T29.setTop (mkF m 188 #[.val (.int u0), .val (.int u1), .val (.int u2), .val (.int u3), .val (.int u4), .val (.int u5), .val (.ref b1), .val (.int (j0_46 u0 u1 u2)), .val (.ref b13), .val (.int (1 : Int32)), .val (.int ff), .val (.int ll), .val (.int tt), .val (.int rr), .val (.ref b25), .val (.int ff), .unset, .unset] [(.int (1 : Int32)), (.int rr)])) _
      refine XS.icmpYes X29.here hx rfl (pc0 := 188) (pc' := 260) rfl (hb hby at_188) rfl (tlt hc188).1 (by decide) (by decide) ?_
      show Steps p.tables e below (T29.setTop (mkF m 260 #[.val (.int u0), .val (.int u1), .val (.int u2), .val (.int u3), .val (.int u4), .val (.int u5), .val (.ref b1), .val (.int (j0_46 u0 u1 u2)), .val (.ref b13), .val (.int (1 : Int32)), .val (.int ff), .val (.int ll), .val (.int tt), .val (.int rr), .val (.ref b25), .val (.int ff), .unset, .unset] [])) _
      refine XS.iload X29.here hx rfl (hb hby at_260) rfl ?_
      show Steps p.tables e below (T29.setTop (mkF m 262 #[.val (.int u0), .val (.int u1), .val (.int u2), .val (.int u3), .val (.int u4), .val (.int u5), .val (.ref b1), .val (.int (j0_46 u0 u1 u2)), .val (.ref b13), .val (.int (1 : Int32)), .val (.int ff), .val (.int ll), .val (.int tt), .val (.int rr), .val (.ref b25), .val (.int ff), .unset, .unset] [(.int rr)])) _
      refine XS.iconst X29.here hx rfl (hb hby at_262) ?_
      show Steps p.tables e below (T29.setTop (mkF m 263 #[.val (.int u0), .val (.int u1), .val (.int u2), .val (.int u3), .val (.int u4), .val (.int u5), .val (.ref b1), .val (.int (j0_46 u0 u1 u2)), .val (.ref b13), .val (.int (1 : Int32)), .val (.int ff), .val (.int ll), .val (.int tt), .val (.int rr), .val (.ref b25), .val (.int ff), .unset, .unset] [(.int (2 : Int32)), (.int rr)])) _
      refine XS.icmpYes X29.here hx rfl (pc0 := 263) (pc' := 335) rfl (hb hby at_263) rfl (tlt (own_lt12 hc188)).1 (by decide) (by decide) ?_
      show Steps p.tables e below (T29.setTop (mkF m 335 #[.val (.int u0), .val (.int u1), .val (.int u2), .val (.int u3), .val (.int u4), .val (.int u5), .val (.ref b1), .val (.int (j0_46 u0 u1 u2)), .val (.ref b13), .val (.int (1 : Int32)), .val (.int ff), .val (.int ll), .val (.int tt), .val (.int rr), .val (.ref b25), .val (.int ff), .unset, .unset] [])) _
      refine XS.iload X29.here hx rfl (hb hby at_335) rfl ?_
      show Steps p.tables e below (T29.setTop (mkF m 337 #[.val (.int u0), .val (.int u1), .val (.int u2), .val (.int u3), .val (.int u4), .val (.int u5), .val (.ref b1), .val (.int (j0_46 u0 u1 u2)), .val (.ref b13), .val (.int (1 : Int32)), .val (.int ff), .val (.int ll), .val (.int tt), .val (.int rr), .val (.ref b25), .val (.int ff), .unset, .unset] [(.int rr)])) _
      refine XS.iconst X29.here hx rfl (hb hby at_337) ?_
      show Steps p.tables e below (T29.setTop (mkF m 338 #[.val (.int u0), .val (.int u1), .val (.int u2), .val (.int u3), .val (.int u4), .val (.int u5), .val (.ref b1), .val (.int (j0_46 u0 u1 u2)), .val (.ref b13), .val (.int (1 : Int32)), .val (.int ff), .val (.int ll), .val (.int tt), .val (.int rr), .val (.ref b25), .val (.int ff), .unset, .unset] [(.int (3 : Int32)), (.int rr)])) _
      refine XS.icmpYes X29.here hx rfl (pc0 := 338) (pc' := 410) rfl (hb hby at_338) rfl (tlt (own_lt13 hc188)).1 (by decide) (by decide) ?_
      show Steps p.tables e below (T29.setTop (mkF m 410 #[.val (.int u0), .val (.int u1), .val (.int u2), .val (.int u3), .val (.int u4), .val (.int u5), .val (.ref b1), .val (.int (j0_46 u0 u1 u2)), .val (.ref b13), .val (.int (1 : Int32)), .val (.int ff), .val (.int ll), .val (.int tt), .val (.int rr), .val (.ref b25), .val (.int ff), .unset, .unset] [])) _
      refine XS.iload X29.here hx rfl (hb hby at_410) rfl ?_
      show Steps p.tables e below (T29.setTop (mkF m 412 #[.val (.int u0), .val (.int u1), .val (.int u2), .val (.int u3), .val (.int u4), .val (.int u5), .val (.ref b1), .val (.int (j0_46 u0 u1 u2)), .val (.ref b13), .val (.int (1 : Int32)), .val (.int ff), .val (.int ll), .val (.int tt), .val (.int rr), .val (.ref b25), .val (.int ff), .unset, .unset] [(.int rr)])) _
      refine XS.iconst X29.here hx rfl (hb hby at_412) ?_
      show Steps p.tables e below (T29.setTop (mkF m 413 #[.val (.int u0), .val (.int u1), .val (.int u2), .val (.int u3), .val (.int u4), .val (.int u5), .val (.ref b1), .val (.int (j0_46 u0 u1 u2)), .val (.ref b13), .val (.int (1 : Int32)), .val (.int ff), .val (.int ll), .val (.int tt), .val (.int rr), .val (.ref b25), .val (.int ff), .unset, .unset] [(.int (4 : Int32)), (.int rr)])) _
      refine XS.icmpYes X29.here hx rfl (pc0 := 413) (pc' := 485) rfl (hb hby at_413) rfl (tlt (own_lt14 hc188)).1 (by decide) (by decide) ?_
      show Steps p.tables e below (T29.setTop (mkF m 485 #[.val (.int u0), .val (.int u1), .val (.int u2), .val (.int u3), .val (.int u4), .val (.int u5), .val (.ref b1), .val (.int (j0_46 u0 u1 u2)), .val (.ref b13), .val (.int (1 : Int32)), .val (.int ff), .val (.int ll), .val (.int tt), .val (.int rr), .val (.ref b25), .val (.int ff), .unset, .unset] [])) _
      refine XS.iload X29.here hx rfl (hb hby at_485) rfl ?_
      show Steps p.tables e below (T29.setTop (mkF m 487 #[.val (.int u0), .val (.int u1), .val (.int u2), .val (.int u3), .val (.int u4), .val (.int u5), .val (.ref b1), .val (.int (j0_46 u0 u1 u2)), .val (.ref b13), .val (.int (1 : Int32)), .val (.int ff), .val (.int ll), .val (.int tt), .val (.int rr), .val (.ref b25), .val (.int ff), .unset, .unset] [(.int (1 : Int32))])) _
      exact retN X29 hx (t := .boolean) Bd.returns (by simp) (hb hby at_487) hr
    · show QL n0 _ T29.heap _
      rw [e29]
      exact ⟨rfl, N29⟩
  · -- pc 188: not rr < (1 : Int32)
    obtain ⟨_, z_0, -, -, -, -, hval_0⟩ := own_elem V_b1_28 (by simp) (j := ff) (own_in0 rff rll rtt rrr hc188)
    have rz_0 := own_vs (own_b7 _) (own_b7 _) (own_b7 _) (own_b7 _) _ hval_0
    obtain ⟨cq34, kq34, q34a, q34b, q34c⟩ := isOf hZ e29 E_r27
    obtain ⟨_, _, ⟨T34, L34, k34, n34⟩, -, X34, ⟨Lc34, hQ34, l34, y34, z34⟩, st34⟩ := X29.virtualBack hx (y := (⟨"com/example/scorpus/scorpus/engine/ByteReader", "readNumber", "()J"⟩ : MethodName)) (z := (⟨"com/example/scorpus/scorpus/engine/ByteReader", "readNumber", "()J"⟩ : MethodName)) hown (mvT hZ (hw _ (List.mem_of_getElem? (i := 22) rfl))) (mvT hZ (hw _ (List.mem_of_getElem? (i := 23) rfl))) (notFace_of_selects (args := #[]) (mvT hZ (hw _ (List.mem_of_getElem? (i := 25) rfl)))) (mvT hZ (hw _ (List.mem_of_getElem? (i := 25) rfl))) (mvT hZ (hw _ (List.mem_of_getElem? (i := 24) rfl))) (by decide) (backOf (W := 0) (rm4 l Z a0 hw [] b25 b1 k1 (4 : Int32) [(.int (nar .byte ((u3 &&& (127 : Int32)).toInt8.toInt32))), (.int (nar .byte ((u4 &&& (127 : Int32)).toInt8.toInt32))), (.int (nar .byte ((u5 &&& (127 : Int32)).toInt8.toInt32))), (.int (nar .byte ((((u3.toUInt32 >>> ((8 : Int32) &&& 31).toUInt32).toInt32) &&& (127 : Int32)).toInt8.toInt32)))] ff tt z_0 T27.heap n0 (Nat.le_trans Z0 K27.1) E_r27 F_bytes27 F_position27 F_end27 g_b25 V_b1_28 ne_b1_b25 (own_ne0 rff rll rtt rrr hc188) (own_in0 rff rll rtt rrr hc188) hval_0 rz_0.1 rz_0.2) hZ (hw _ (List.mem_of_getElem? (i := 26) rfl)) (hw _ (List.mem_of_getElem? (i := 3) rfl)) (by decide) (by decide)) q34a q34c (g := (mkF m 193 #[.val (.int u0), .val (.int u1), .val (.int u2), .val (.int u3), .val (.int u4), .val (.int u5), .val (.ref b1), .val (.int (j0_46 u0 u1 u2)), .val (.ref b13), .val (.int (1 : Int32)), .val (.int ff), .val (.int ll), .val (.int tt), .val (.int rr), .val (.ref b25), .val (.int ff), .unset, .unset] [(.ref b25)])) rfl (by rw [hml]; rfl) (Steps.refl _) (argsL := []) (rest := []) (lenOf pd_3 rfl) rfl (by show 2 * 0 + _ ≤ _; exact Nat.le_of_eq rfl) (hb hby at_193) (fun _ _ => ⟨rfl, e29, (by decide : 3 + 0 ≤ _), (by decide : 10 + 0 ≤ _)⟩)
    dsimp only [Pt.U, Pt.locs, Pt.cells, Pt.slots] at X34 l34 y34 z34 st34 hQ34
    subst l34 y34 z34
    obtain ⟨rfl, N34q, K34q, E_r34, F_bytes34, F_position34, F_end34⟩ := hQ34
    have N34 := Fr.app N29 N34q
    have K34 : Keep h0 T34.heap [] := K27.trans K34q (allS (Or.inr sz_b25) all0)
    have V_b1_35 := V_b1_28.keep K34q (ninS ne_b1_b25 nin0)
    obtain ⟨c36, Ar36, hin36, hat36, hfit36⟩ := own_elemV V_b1_35 (j := ff) (own_in0 rff rll rtt rrr hc188) hval_0
    obtain ⟨cq37, kq37, q37a, q37b, q37c⟩ := isOf hZ rfl E_r34
    obtain ⟨_, _, ⟨T37, L37, k37, n37⟩, -, X37, ⟨Lc37, hQ37, l37, y37, z37⟩, st37⟩ := X34.virtualBack hx (y := (⟨"com/example/scorpus/scorpus/engine/ByteReader", "atEnd", "()Z"⟩ : MethodName)) (z := (⟨"com/example/scorpus/scorpus/engine/ByteReader", "atEnd", "()Z"⟩ : MethodName)) hown (mvT hZ (hw _ (List.mem_of_getElem? (i := 16) rfl))) (mvT hZ (hw _ (List.mem_of_getElem? (i := 17) rfl))) (notFace_of_selects (args := #[]) (mvT hZ (hw _ (List.mem_of_getElem? (i := 19) rfl)))) (mvT hZ (hw _ (List.mem_of_getElem? (i := 19) rfl))) (mvT hZ (hw _ (List.mem_of_getElem? (i := 18) rfl))) (by decide) (backOf (W := 0) (rm3 l Z a0 hw [] b25 (ff + (1 : Int32)) tt T34.heap n0 (Nat.le_trans Z0 K34.1) F_position34 F_end34) hZ (hw _ (List.mem_of_getElem? (i := 20) rfl)) (hw _ (List.mem_of_getElem? (i := 3) rfl)) (by decide) (by decide)) q37a q37c (g := (mkF m 235 #[.val (.int u0), .val (.int u1), .val (.int u2), .val (.int u3), .val (.int u4), .val (.int u5), .val (.ref b1), .val (.int (j0_46 u0 u1 u2)), .val (.ref b13), .val (.int (1 : Int32)), .val (.int ff), .val (.int ll), .val (.int tt), .val (.int rr), .val (.ref b25), .val (.int (ff + (1 : Int32))), .val (.long (z_0.toInt64)), .second] [(.ref b25)])) rfl (by rw [hml]; rfl) (Steps.refl _) (argsL := []) (rest := []) (lenOf pd_2 rfl) rfl (by show 2 * 0 + _ ≤ _; exact Nat.le_of_eq rfl) (hb hby at_235) (fun _ _ => ⟨rfl, rfl, (by decide : 3 + 0 ≤ _), (by decide : 10 + 0 ≤ _)⟩)
    dsimp only [Pt.U, Pt.locs, Pt.cells, Pt.slots] at X37 l37 y37 z37 st37 hQ37
    subst l37 y37 z37
    obtain ⟨rfl, N37q, e37⟩ := hQ37
    have N37 := Fr.app N34 N37q
    have pre38 : ∀ t, Steps p.tables e below (T37.setTop (mkF m 238 #[.val (.int u0), .val (.int u1), .val (.int u2), .val (.int u3), .val (.int u4), .val (.int u5), .val (.ref b1), .val (.int (j0_46 u0 u1 u2)), .val (.ref b13), .val (.int (1 : Int32)), .val (.int ff), .val (.int ll), .val (.int tt), .val (.int rr), .val (.ref b25), .val (.int (ff + (1 : Int32))), .val (.long (z_0.toInt64)), .second] [(.int (f3 (ff + (1 : Int32)) tt))])) t → Steps p.tables e below (s₁.setTop (entryFrame m #[(.int u0), (.int u1), (.int u2), (.int u3), (.int u4), (.int u5)] maxLocals)) t := fun t k => pre33 t (by
      show Steps p.tables e below (T29.setTop (mkF m 188 #[.val (.int u0), .val (.int u1), .val (.int u2), .val (.int u3), .val (.int u4), .val (.int u5), .val (.ref b1), .val (.int (j0_46 u0 u1 u2)), .val (.ref b13), .val (.int (1 : Int32)), .val (.int ff), .val (.int ll), .val (.int tt), .val (.int rr), .val (.ref b25), .val (.int ff), .unset, .unset] [(.int (1 : Int32)), (.int rr)])) _
      refine XS.icmpNo X29.here hx rfl (hb hby at_188) rfl (flt hc188).1 ?_
      show Steps p.tables e below (T29.setTop (mkF m 191 #[.val (.int u0), .val (.int u1), .val (.int u2), .val (.int u3), .val (.int u4), .val (.int u5), .val (.ref b1), .val (.int (j0_46 u0 u1 u2)), .val (.ref b13), .val (.int (1 : Int32)), .val (.int ff), .val (.int ll), .val (.int tt), .val (.int rr), .val (.ref b25), .val (.int ff), .unset, .unset] [])) _
      refine XS.aload X29.here hx rfl (hb hby at_191) rfl rfl ?_
      show Steps p.tables e below (T29.setTop (mkF m 193 #[.val (.int u0), .val (.int u1), .val (.int u2), .val (.int u3), .val (.int u4), .val (.int u5), .val (.ref b1), .val (.int (j0_46 u0 u1 u2)), .val (.ref b13), .val (.int (1 : Int32)), .val (.int ff), .val (.int ll), .val (.int tt), .val (.int rr), .val (.ref b25), .val (.int ff), .unset, .unset] [(.ref b25)])) _
      refine st34.trans ?_
      show Steps p.tables e below (T34.setTop (mkF m 196 #[.val (.int u0), .val (.int u1), .val (.int u2), .val (.int u3), .val (.int u4), .val (.int u5), .val (.ref b1), .val (.int (j0_46 u0 u1 u2)), .val (.ref b13), .val (.int (1 : Int32)), .val (.int ff), .val (.int ll), .val (.int tt), .val (.int rr), .val (.ref b25), .val (.int ff), .unset, .unset] [(.long (z_0.toInt64))])) _
      refine XS.lstore X34.here hx rfl (hb hby at_196) rfl (l' := #[.val (.int u0), .val (.int u1), .val (.int u2), .val (.int u3), .val (.int u4), .val (.int u5), .val (.ref b1), .val (.int (j0_46 u0 u1 u2)), .val (.ref b13), .val (.int (1 : Int32)), .val (.int ff), .val (.int ll), .val (.int tt), .val (.int rr), .val (.ref b25), .val (.int ff), .val (.long (z_0.toInt64)), .second]) rfl ?_
      show Steps p.tables e below (T34.setTop (mkF m 198 #[.val (.int u0), .val (.int u1), .val (.int u2), .val (.int u3), .val (.int u4), .val (.int u5), .val (.ref b1), .val (.int (j0_46 u0 u1 u2)), .val (.ref b13), .val (.int (1 : Int32)), .val (.int ff), .val (.int ll), .val (.int tt), .val (.int rr), .val (.ref b25), .val (.int ff), .val (.long (z_0.toInt64)), .second] [])) _
      refine XS.iload X34.here hx rfl (hb hby at_198) rfl ?_
      show Steps p.tables e below (T34.setTop (mkF m 200 #[.val (.int u0), .val (.int u1), .val (.int u2), .val (.int u3), .val (.int u4), .val (.int u5), .val (.ref b1), .val (.int (j0_46 u0 u1 u2)), .val (.ref b13), .val (.int (1 : Int32)), .val (.int ff), .val (.int ll), .val (.int tt), .val (.int rr), .val (.ref b25), .val (.int ff), .val (.long (z_0.toInt64)), .second] [(.int (1 : Int32))])) _
      refine XS.ifNo X34.here hx rfl (hb hby at_200) rfl ((if0 _ _).trans (feq (by decide : ¬ ((1 : Int32) = (0 : Int32)))).1) ?_
      show Steps p.tables e below (T34.setTop (mkF m 203 #[.val (.int u0), .val (.int u1), .val (.int u2), .val (.int u3), .val (.int u4), .val (.int u5), .val (.ref b1), .val (.int (j0_46 u0 u1 u2)), .val (.ref b13), .val (.int (1 : Int32)), .val (.int ff), .val (.int ll), .val (.int tt), .val (.int rr), .val (.ref b25), .val (.int ff), .val (.long (z_0.toInt64)), .second] [])) _
      refine XS.lload X34.here hx rfl (hb hby at_203) rfl ?_
      show Steps p.tables e below (T34.setTop (mkF m 205 #[.val (.int u0), .val (.int u1), .val (.int u2), .val (.int u3), .val (.int u4), .val (.int u5), .val (.ref b1), .val (.int (j0_46 u0 u1 u2)), .val (.ref b13), .val (.int (1 : Int32)), .val (.int ff), .val (.int ll), .val (.int tt), .val (.int rr), .val (.ref b25), .val (.int ff), .val (.long (z_0.toInt64)), .second] [(.long (z_0.toInt64))])) _
      refine XS.aload X34.here hx rfl (hb hby at_205) rfl rfl ?_
      show Steps p.tables e below (T34.setTop (mkF m 207 #[.val (.int u0), .val (.int u1), .val (.int u2), .val (.int u3), .val (.int u4), .val (.int u5), .val (.ref b1), .val (.int (j0_46 u0 u1 u2)), .val (.ref b13), .val (.int (1 : Int32)), .val (.int ff), .val (.int ll), .val (.int tt), .val (.int rr), .val (.ref b25), .val (.int ff), .val (.long (z_0.toInt64)), .second] [(.ref b1), (.long (z_0.toInt64))])) _
      refine XS.iload X34.here hx rfl (hb hby at_207) rfl ?_
      show Steps p.tables e below (T34.setTop (mkF m 209 #[.val (.int u0), .val (.int u1), .val (.int u2), .val (.int u3), .val (.int u4), .val (.int u5), .val (.ref b1), .val (.int (j0_46 u0 u1 u2)), .val (.ref b13), .val (.int (1 : Int32)), .val (.int ff), .val (.int ll), .val (.int tt), .val (.int rr), .val (.ref b25), .val (.int ff), .val (.long (z_0.toInt64)), .second] [(.int ff), (.ref b1), (.long (z_0.toInt64))])) _
      refine X34.baloadBytes hx (j := ff) (v := (.int z_0)) Ar36.1 (State.isArrayOf_alike hZ.alike Ar36.2.1) Ar36.2.2 hin36 hat36 (g := (mkF m 209 #[.val (.int u0), .val (.int u1), .val (.int u2), .val (.int u3), .val (.int u4), .val (.int u5), .val (.ref b1), .val (.int (j0_46 u0 u1 u2)), .val (.ref b13), .val (.int (1 : Int32)), .val (.int ff), .val (.int ll), .val (.int tt), .val (.int rr), .val (.ref b25), .val (.int ff), .val (.long (z_0.toInt64)), .second] [(.int ff), (.ref b1), (.long (z_0.toInt64))])) rfl rfl (hb hby at_209) _ ?_
      show Steps p.tables e below (T34.setTop (mkF m 210 #[.val (.int u0), .val (.int u1), .val (.int u2), .val (.int u3), .val (.int u4), .val (.int u5), .val (.ref b1), .val (.int (j0_46 u0 u1 u2)), .val (.ref b13), .val (.int (1 : Int32)), .val (.int ff), .val (.int ll), .val (.int tt), .val (.int rr), .val (.ref b25), .val (.int ff), .val (.long (z_0.toInt64)), .second] [(.int z_0), (.long (z_0.toInt64))])) _
      refine XS.i2l X34.here hx rfl (hb hby at_210) rfl ?_
      show Steps p.tables e below (T34.setTop (mkF m 211 #[.val (.int u0), .val (.int u1), .val (.int u2), .val (.int u3), .val (.int u4), .val (.int u5), .val (.ref b1), .val (.int (j0_46 u0 u1 u2)), .val (.ref b13), .val (.int (1 : Int32)), .val (.int ff), .val (.int ll), .val (.int tt), .val (.int rr), .val (.ref b25), .val (.int ff), .val (.long (z_0.toInt64)), .second] [(.long (z_0.toInt64)), (.long (z_0.toInt64))])) _
      refine XS.lcmp X34.here hx rfl (hb hby at_211) rfl ?_
      show Steps p.tables e below (T34.setTop (mkF m 212 #[.val (.int u0), .val (.int u1), .val (.int u2), .val (.int u3), .val (.int u4), .val (.int u5), .val (.ref b1), .val (.int (j0_46 u0 u1 u2)), .val (.ref b13), .val (.int (1 : Int32)), .val (.int ff), .val (.int ll), .val (.int tt), .val (.int rr), .val (.ref b25), .val (.int ff), .val (.long (z_0.toInt64)), .second] [(.int (lcmpW (z_0.toInt64) (z_0.toInt64)))])) _
      refine XS.ifNo X34.here hx rfl (hb hby at_212) rfl ((if0 _ _).trans (teq ((lw_eq _ _).mpr rfl)).2) ?_
      show Steps p.tables e below (T34.setTop (mkF m 215 #[.val (.int u0), .val (.int u1), .val (.int u2), .val (.int u3), .val (.int u4), .val (.int u5), .val (.ref b1), .val (.int (j0_46 u0 u1 u2)), .val (.ref b13), .val (.int (1 : Int32)), .val (.int ff), .val (.int ll), .val (.int tt), .val (.int rr), .val (.ref b25), .val (.int ff), .val (.long (z_0.toInt64)), .second] [])) _
      refine XS.iconst X34.here hx rfl (hb hby at_215) ?_
      show Steps p.tables e below (T34.setTop (mkF m 216 #[.val (.int u0), .val (.int u1), .val (.int u2), .val (.int u3), .val (.int u4), .val (.int u5), .val (.ref b1), .val (.int (j0_46 u0 u1 u2)), .val (.ref b13), .val (.int (1 : Int32)), .val (.int ff), .val (.int ll), .val (.int tt), .val (.int rr), .val (.ref b25), .val (.int ff), .val (.long (z_0.toInt64)), .second] [(.int (1 : Int32))])) _
      refine XS.goto X34.here hx rfl (pc0 := 216) (pc' := 220) rfl (hb hby at_216) (by decide) (by decide) ?_
      show Steps p.tables e below (T34.setTop (mkF m 220 #[.val (.int u0), .val (.int u1), .val (.int u2), .val (.int u3), .val (.int u4), .val (.int u5), .val (.ref b1), .val (.int (j0_46 u0 u1 u2)), .val (.ref b13), .val (.int (1 : Int32)), .val (.int ff), .val (.int ll), .val (.int tt), .val (.int rr), .val (.ref b25), .val (.int ff), .val (.long (z_0.toInt64)), .second] [(.int (1 : Int32))])) _
      refine XS.istore X34.here hx rfl (hb hby at_220) rfl (l' := #[.val (.int u0), .val (.int u1), .val (.int u2), .val (.int u3), .val (.int u4), .val (.int u5), .val (.ref b1), .val (.int (j0_46 u0 u1 u2)), .val (.ref b13), .val (.int (1 : Int32)), .val (.int ff), .val (.int ll), .val (.int tt), .val (.int rr), .val (.ref b25), .val (.int ff), .val (.long (z_0.toInt64)), .second]) rfl ?_
      show Steps p.tables e below (T34.setTop (mkF m 222 #[.val (.int u0), .val (.int u1), .val (.int u2), .val (.int u3), .val (.int u4), .val (.int u5), .val (.ref b1), .val (.int (j0_46 u0 u1 u2)), .val (.ref b13), .val (.int (1 : Int32)), .val (.int ff), .val (.int ll), .val (.int tt), .val (.int rr), .val (.ref b25), .val (.int ff), .val (.long (z_0.toInt64)), .second] [])) _
      refine XS.iload X34.here hx rfl (hb hby at_222) rfl ?_
      show Steps p.tables e below (T34.setTop (mkF m 224 #[.val (.int u0), .val (.int u1), .val (.int u2), .val (.int u3), .val (.int u4), .val (.int u5), .val (.ref b1), .val (.int (j0_46 u0 u1 u2)), .val (.ref b13), .val (.int (1 : Int32)), .val (.int ff), .val (.int ll), .val (.int tt), .val (.int rr), .val (.ref b25), .val (.int ff), .val (.long (z_0.toInt64)), .second] [(.int ff)])) _
      refine XS.iconst X34.here hx rfl (hb hby at_224) ?_
      show Steps p.tables e below (T34.setTop (mkF m 225 #[.val (.int u0), .val (.int u1), .val (.int u2), .val (.int u3), .val (.int u4), .val (.int u5), .val (.ref b1), .val (.int (j0_46 u0 u1 u2)), .val (.ref b13), .val (.int (1 : Int32)), .val (.int ff), .val (.int ll), .val (.int tt), .val (.int rr), .val (.ref b25), .val (.int ff), .val (.long (z_0.toInt64)), .second] [(.int (1 : Int32)), (.int ff)])) _
      refine XS.iadd X34.here hx rfl (hb hby at_225) rfl ?_
      show Steps p.tables e below (T34.setTop (mkF m 226 #[.val (.int u0), .val (.int u1), .val (.int u2), .val (.int u3), .val (.int u4), .val (.int u5), .val (.ref b1), .val (.int (j0_46 u0 u1 u2)), .val (.ref b13), .val (.int (1 : Int32)), .val (.int ff), .val (.int ll), .val (.int tt), .val (.int rr), .val (.ref b25), .val (.int ff), .val (.long (z_0.toInt64)), .second] [(.int (ff + (1 : Int32)))])) _
      refine XS.istore X34.here hx rfl (hb hby at_226) rfl (l' := #[.val (.int u0), .val (.int u1), .val (.int u2), .val (.int u3), .val (.int u4), .val (.int u5), .val (.ref b1), .val (.int (j0_46 u0 u1 u2)), .val (.ref b13), .val (.int (1 : Int32)), .val (.int ff), .val (.int ll), .val (.int tt), .val (.int rr), .val (.ref b25), .val (.int (ff + (1 : Int32))), .val (.long (z_0.toInt64)), .second]) rfl ?_
      show Steps p.tables e below (T34.setTop (mkF m 228 #[.val (.int u0), .val (.int u1), .val (.int u2), .val (.int u3), .val (.int u4), .val (.int u5), .val (.ref b1), .val (.int (j0_46 u0 u1 u2)), .val (.ref b13), .val (.int (1 : Int32)), .val (.int ff), .val (.int ll), .val (.int tt), .val (.int rr), .val (.ref b25), .val (.int (ff + (1 : Int32))), .val (.long (z_0.toInt64)), .second] [])) _
      refine XS.iload X34.here hx rfl (hb hby at_228) rfl ?_
      show Steps p.tables e below (T34.setTop (mkF m 230 #[.val (.int u0), .val (.int u1), .val (.int u2), .val (.int u3), .val (.int u4), .val (.int u5), .val (.ref b1), .val (.int (j0_46 u0 u1 u2)), .val (.ref b13), .val (.int (1 : Int32)), .val (.int ff), .val (.int ll), .val (.int tt), .val (.int rr), .val (.ref b25), .val (.int (ff + (1 : Int32))), .val (.long (z_0.toInt64)), .second] [(.int (1 : Int32))])) _
      refine XS.ifNo X34.here hx rfl (hb hby at_230) rfl ((if0 _ _).trans (feq (by decide : ¬ ((1 : Int32) = (0 : Int32)))).1) ?_
      show Steps p.tables e below (T34.setTop (mkF m 233 #[.val (.int u0), .val (.int u1), .val (.int u2), .val (.int u3), .val (.int u4), .val (.int u5), .val (.ref b1), .val (.int (j0_46 u0 u1 u2)), .val (.ref b13), .val (.int (1 : Int32)), .val (.int ff), .val (.int ll), .val (.int tt), .val (.int rr), .val (.ref b25), .val (.int (ff + (1 : Int32))), .val (.long (z_0.toInt64)), .second] [])) _
      refine XS.aload X34.here hx rfl (hb hby at_233) rfl rfl ?_
      show Steps p.tables e below (T34.setTop (mkF m 235 #[.val (.int u0), .val (.int u1), .val (.int u2), .val (.int u3), .val (.int u4), .val (.int u5), .val (.ref b1), .val (.int (j0_46 u0 u1 u2)), .val (.ref b13), .val (.int (1 : Int32)), .val (.int ff), .val (.int ll), .val (.int tt), .val (.int rr), .val (.ref b25), .val (.int (ff + (1 : Int32))), .val (.long (z_0.toInt64)), .second] [(.ref b25)])) _
      refine st37.trans ?_
      exact k)
    have pre39 : ∀ t, Steps p.tables e below (T37.setTop (mkF m 250 #[.val (.int u0), .val (.int u1), .val (.int u2), .val (.int u3), .val (.int u4), .val (.int u5), .val (.ref b1), .val (.int (j0_46 u0 u1 u2)), .val (.ref b13), .val (.int (1 : Int32)), .val (.int ff), .val (.int ll), .val (.int tt), .val (.int rr), .val (.ref b25), .val (.int (ff + (1 : Int32))), .val (.long (z_0.toInt64)), .second] [(.int (j0_238 ff tt)), (.int (f3 (ff + (1 : Int32)) tt))])) t → Steps p.tables e below (s₁.setTop (entryFrame m #[(.int u0), (.int u1), (.int u2), (.int u3), (.int u4), (.int u5)] maxLocals)) t := by
      have pre40 : ∀ t, Steps p.tables e below (T37.setTop (mkF m 242 #[.val (.int u0), .val (.int u1), .val (.int u2), .val (.int u3), .val (.int u4), .val (.int u5), .val (.ref b1), .val (.int (j0_46 u0 u1 u2)), .val (.ref b13), .val (.int (1 : Int32)), .val (.int ff), .val (.int ll), .val (.int tt), .val (.int rr), .val (.ref b25), .val (.int (ff + (1 : Int32))), .val (.long (z_0.toInt64)), .second] [(.int tt), (.int (ff + (1 : Int32))), (.int (f3 (ff + (1 : Int32)) tt))])) t → Steps p.tables e below (s₁.setTop (entryFrame m #[(.int u0), (.int u1), (.int u2), (.int u3), (.int u4), (.int u5)] maxLocals)) t := fun t k => pre38 t (by
        show Steps p.tables e below (T37.setTop (mkF m 238 #[.val (.int u0), .val (.int u1), .val (.int u2), .val (.int u3), .val (.int u4), .val (.int u5), .val (.ref b1), .val (.int (j0_46 u0 u1 u2)), .val (.ref b13), .val (.int (1 : Int32)), .val (.int ff), .val (.int ll), .val (.int tt), .val (.int rr), .val (.ref b25), .val (.int (ff + (1 : Int32))), .val (.long (z_0.toInt64)), .second] [(.int (f3 (ff + (1 : Int32)) tt))])) _
        refine XS.iload X37.here hx rfl (hb hby at_238) rfl ?_
        show Steps p.tables e below (T37.setTop (mkF m 240 #[.val (.int u0), .val (.int u1), .val (.int u2), .val (.int u3), .val (.int u4), .val (.int u5), .val (.ref b1), .val (.int (j0_46 u0 u1 u2)), .val (.ref b13), .val (.int (1 : Int32)), .val (.int ff), .val (.int ll), .val (.int tt), .val (.int rr), .val (.ref b25), .val (.int (ff + (1 : Int32))), .val (.long (z_0.toInt64)), .second] [(.int (ff + (1 : Int32))), (.int (f3 (ff + (1 : Int32)) tt))])) _
        refine XS.iload X37.here hx rfl (hb hby at_240) rfl ?_
        exact k)
      by_cases hc242 : (ff + (1 : Int32)) = tt
      · -- pc 242: (ff + (1 : Int32)) = tt
        intro t k
        have qS0 : (j0_238 ff tt) = (1 : Int32) := (if_pos hc242).trans (rfl)
        rw [qS0] at k
        refine pre40 t ?_
        show Steps p.tables e below (T37.setTop (mkF m 242 #[.val (.int u0), .val (.int u1), .val (.int u2), .val (.int u3), .val (.int u4), .val (.int u5), .val (.ref b1), .val (.int (j0_46 u0 u1 u2)), .val (.ref b13), .val (.int (1 : Int32)), .val (.int ff), .val (.int ll), .val (.int tt), .val (.int rr), .val (.ref b25), .val (.int (ff + (1 : Int32))), .val (.long (z_0.toInt64)), .second] [(.int tt), (.int (ff + (1 : Int32))), (.int (f3 (ff + (1 : Int32)) tt))])) _
        refine XS.icmpNo X37.here hx rfl (hb hby at_242) rfl (teq hc242).2 ?_
        show Steps p.tables e below (T37.setTop (mkF m 245 #[.val (.int u0), .val (.int u1), .val (.int u2), .val (.int u3), .val (.int u4), .val (.int u5), .val (.ref b1), .val (.int (j0_46 u0 u1 u2)), .val (.ref b13), .val (.int (1 : Int32)), .val (.int ff), .val (.int ll), .val (.int tt), .val (.int rr), .val (.ref b25), .val (.int (ff + (1 : Int32))), .val (.long (z_0.toInt64)), .second] [(.int (f3 (ff + (1 : Int32)) tt))])) _
        refine XS.iconst X37.here hx rfl (hb hby at_245) ?_
        show Steps p.tables e below (T37.setTop (mkF m 246 #[.val (.int u0), .val (.int u1), .val (.int u2), .val (.int u3), .val (.int u4), .val (.int u5), .val (.ref b1), .val (.int (j0_46 u0 u1 u2)), .val (.ref b13), .val (.int (1 : Int32)), .val (.int ff), .val (.int ll), .val (.int tt), .val (.int rr), .val (.ref b25), .val (.int (ff + (1 : Int32))), .val (.long (z_0.toInt64)), .second] [(.int (1 : Int32)), (.int (f3 (ff + (1 : Int32)) tt))])) _
        refine XS.goto X37.here hx rfl (pc0 := 246) (pc' := 250) rfl (hb hby at_246) (by decide) (by decide) ?_
        exact k
      · -- pc 242: not (ff + (1 : Int32)) = tt
        intro t k
        have qS0 : (j0_238 ff tt) = (0 : Int32) := (if_neg hc242).trans (rfl)
        rw [qS0] at k
        refine pre40 t ?_
        show Steps p.tables e below (T37.setTop (mkF m 242 #[.val (.int u0), .val (.int u1), .val (.int u2), .val (.int u3), .val (.int u4), .val (.int u5), .val (.ref b1), .val (.int (j0_46 u0 u1 u2)), .val (.ref b13), .val (.int (1 : Int32)), .val (.int ff), .val (.int ll), .val (.int tt), .val (.int rr), .val (.ref b25), .val (.int (ff + (1 : Int32))), .val (.long (z_0.toInt64)), .second] [(.int tt), (.int (ff + (1 : Int32))), (.int (f3 (ff + (1 : Int32)) tt))])) _
        refine XS.icmpYes X37.here hx rfl (pc0 := 242) (pc' := 249) rfl (hb hby at_242) rfl (feq hc242).2 (by decide) (by decide) ?_
        show Steps p.tables e below (T37.setTop (mkF m 249 #[.val (.int u0), .val (.int u1), .val (.int u2), .val (.int u3), .val (.int u4), .val (.int u5), .val (.ref b1), .val (.int (j0_46 u0 u1 u2)), .val (.ref b13), .val (.int (1 : Int32)), .val (.int ff), .val (.int ll), .val (.int tt), .val (.int rr), .val (.ref b25), .val (.int (ff + (1 : Int32))), .val (.long (z_0.toInt64)), .second] [(.int (f3 (ff + (1 : Int32)) tt))])) _
        refine XS.iconst X37.here hx rfl (hb hby at_249) ?_
        exact k
    have pre41 : ∀ t, Steps p.tables e below (T37.setTop (mkF m 263 #[.val (.int u0), .val (.int u1), .val (.int u2), .val (.int u3), .val (.int u4), .val (.int u5), .val (.ref b1), .val (.int (j0_46 u0 u1 u2)), .val (.ref b13), .val (.int (1 : Int32)), .val (.int ff), .val (.int ll), .val (.int tt), .val (.int rr), .val (.ref b25), .val (.int (ff + (1 : Int32))), .val (.long (z_0.toInt64)), .second] [(.int (2 : Int32)), (.int rr)])) t → Steps p.tables e below (s₁.setTop (entryFrame m #[(.int u0), (.int u1), (.int u2), (.int u3), (.int u4), (.int u5)] maxLocals)) t := fun t k => pre39 t (by
      show Steps p.tables e below (T37.setTop (mkF m 250 #[.val (.int u0), .val (.int u1), .val (.int u2), .val (.int u3), .val (.int u4), .val (.int u5), .val (.ref b1), .val (.int (j0_46 u0 u1 u2)), .val (.ref b13), .val (.int (1 : Int32)), .val (.int ff), .val (.int ll), .val (.int tt), .val (.int rr), .val (.ref b25), .val (.int (ff + (1 : Int32))), .val (.long (z_0.toInt64)), .second] [(.int (j0_238 ff tt)), (.int (f3 (ff + (1 : Int32)) tt))])) _
      refine XS.icmpNo X37.here hx rfl (hb hby at_250) rfl (teq (rfl : (f3 (ff + (1 : Int32)) tt) = (j0_238 ff tt))).2 ?_
      show Steps p.tables e below (T37.setTop (mkF m 253 #[.val (.int u0), .val (.int u1), .val (.int u2), .val (.int u3), .val (.int u4), .val (.int u5), .val (.ref b1), .val (.int (j0_46 u0 u1 u2)), .val (.ref b13), .val (.int (1 : Int32)), .val (.int ff), .val (.int ll), .val (.int tt), .val (.int rr), .val (.ref b25), .val (.int (ff + (1 : Int32))), .val (.long (z_0.toInt64)), .second] [])) _
      refine XS.iconst X37.here hx rfl (hb hby at_253) ?_
      show Steps p.tables e below (T37.setTop (mkF m 254 #[.val (.int u0), .val (.int u1), .val (.int u2), .val (.int u3), .val (.int u4), .val (.int u5), .val (.ref b1), .val (.int (j0_46 u0 u1 u2)), .val (.ref b13), .val (.int (1 : Int32)), .val (.int ff), .val (.int ll), .val (.int tt), .val (.int rr), .val (.ref b25), .val (.int (ff + (1 : Int32))), .val (.long (z_0.toInt64)), .second] [(.int (1 : Int32))])) _
      refine XS.goto X37.here hx rfl (pc0 := 254) (pc' := 258) rfl (hb hby at_254) (by decide) (by decide) ?_
      show Steps p.tables e below (T37.setTop (mkF m 258 #[.val (.int u0), .val (.int u1), .val (.int u2), .val (.int u3), .val (.int u4), .val (.int u5), .val (.ref b1), .val (.int (j0_46 u0 u1 u2)), .val (.ref b13), .val (.int (1 : Int32)), .val (.int ff), .val (.int ll), .val (.int tt), .val (.int rr), .val (.ref b25), .val (.int (ff + (1 : Int32))), .val (.long (z_0.toInt64)), .second] [(.int (1 : Int32))])) _
      refine XS.istore X37.here hx rfl (hb hby at_258) rfl (l' := #[.val (.int u0), .val (.int u1), .val (.int u2), .val (.int u3), .val (.int u4), .val (.int u5), .val (.ref b1), .val (.int (j0_46 u0 u1 u2)), .val (.ref b13), .val (.int (1 : Int32)), .val (.int ff), .val (.int ll), .val (.int tt), .val (.int rr), .val (.ref b25), .val (.int (ff + (1 : Int32))), .val (.long (z_0.toInt64)), .second]) rfl ?_
      show Steps p.tables e below (T37.setTop (mkF m 260 #[.val (.int u0), .val (.int u1), .val (.int u2), .val (.int u3), .val (.int u4), .val (.int u5), .val (.ref b1), .val (.int (j0_46 u0 u1 u2)), .val (.ref b13), .val (.int (1 : Int32)), .val (.int ff), .val (.int ll), .val (.int tt), .val (.int rr), .val (.ref b25), .val (.int (ff + (1 : Int32))), .val (.long (z_0.toInt64)), .second] [])) _
      refine XS.iload X37.here hx rfl (hb hby at_260) rfl ?_
      show Steps p.tables e below (T37.setTop (mkF m 262 #[.val (.int u0), .val (.int u1), .val (.int u2), .val (.int u3), .val (.int u4), .val (.int u5), .val (.ref b1), .val (.int (j0_46 u0 u1 u2)), .val (.ref b13), .val (.int (1 : Int32)), .val (.int ff), .val (.int ll), .val (.int tt), .val (.int rr), .val (.ref b25), .val (.int (ff + (1 : Int32))), .val (.long (z_0.toInt64)), .second] [(.int rr)])) _
      refine XS.iconst X37.here hx rfl (hb hby at_262) ?_
      exact k)
    by_cases hc263 : rr < (2 : Int32)
    · -- pc 263: rr < (2 : Int32)
      obtain ⟨fs, hr, hrun, hended, hW, hsame⟩ := X37.leave (v := (some (.int (1 : Int32)))) (fun h => by rw [Bd.returns] at h; cases h)
      refine ⟨_, _, pre41 _ ?_, hrun, hended, _, _, rfl, ?_, ⟨_, rfl⟩, hW, hsame.mono (by decide) (by decide)⟩
      · show Steps p.tables e below (T37.setTop (mkF m 263 #[.val (.int u0), .val (.int u1), .val (.int u2), .val (.int u3), .val (.int u4), .val (.int u5), .val (.ref b1), .val (.int (j0_46 u0 u1 u2)), .val (.ref b13), .val (.int (1 : Int32)), .val (.int ff), .val (.int ll), .val (.int tt), .val (.int rr), .val (.ref b25), .val (.int (ff + (1 : Int32))), .val (.long (z_0.toInt64)), .second] [(.int (2 : Int32)), (.int rr)])) _
        refine XS.icmpYes X37.here hx rfl (pc0 := 263) (pc' := 335) rfl (hb hby at_263) rfl (tlt hc263).1 (by decide) (by decide) ?_
        show Steps p.tables e below (T37.setTop (mkF m 335 #[.val (.int u0), .val (.int u1), .val (.int u2), .val (.int u3), .val (.int u4), .val (.int u5), .val (.ref b1), .val (.int (j0_46 u0 u1 u2)), .val (.ref b13), .val (.int (1 : Int32)), .val (.int ff), .val (.int ll), .val (.int tt), .val (.int rr), .val (.ref b25), .val (.int (ff + (1 : Int32))), .val (.long (z_0.toInt64)), .second] [])) _
        refine XS.iload X37.here hx rfl (hb hby at_335) rfl ?_
        show Steps p.tables e below (T37.setTop (mkF m 337 #[.val (.int u0), .val (.int u1), .val (.int u2), .val (.int u3), .val (.int u4), .val (.int u5), .val (.ref b1), .val (.int (j0_46 u0 u1 u2)), .val (.ref b13), .val (.int (1 : Int32)), .val (.int ff), .val (.int ll), .val (.int tt), .val (.int rr), .val (.ref b25), .val (.int (ff + (1 : Int32))), .val (.long (z_0.toInt64)), .second] [(.int rr)])) _
        refine XS.iconst X37.here hx rfl (hb hby at_337) ?_
        show Steps p.tables e below (T37.setTop (mkF m 338 #[.val (.int u0), .val (.int u1), .val (.int u2), .val (.int u3), .val (.int u4), .val (.int u5), .val (.ref b1), .val (.int (j0_46 u0 u1 u2)), .val (.ref b13), .val (.int (1 : Int32)), .val (.int ff), .val (.int ll), .val (.int tt), .val (.int rr), .val (.ref b25), .val (.int (ff + (1 : Int32))), .val (.long (z_0.toInt64)), .second] [(.int (3 : Int32)), (.int rr)])) _
        refine XS.icmpYes X37.here hx rfl (pc0 := 338) (pc' := 410) rfl (hb hby at_338) rfl (tlt (own_lt23 hc263)).1 (by decide) (by decide) ?_
        show Steps p.tables e below (T37.setTop (mkF m 410 #[.val (.int u0), .val (.int u1), .val (.int u2), .val (.int u3), .val (.int u4), .val (.int u5), .val (.ref b1), .val (.int (j0_46 u0 u1 u2)), .val (.ref b13), .val (.int (1 : Int32)), .val (.int ff), .val (.int ll), .val (.int tt), .val (.int rr), .val (.ref b25), .val (.int (ff + (1 : Int32))), .val (.long (z_0.toInt64)), .second] [])) _
        refine XS.iload X37.here hx rfl (hb hby at_410) rfl ?_
        show Steps p.tables e below (T37.setTop (mkF m 412 #[.val (.int u0), .val (.int u1), .val (.int u2), .val (.int u3), .val (.int u4), .val (.int u5), .val (.ref b1), .val (.int (j0_46 u0 u1 u2)), .val (.ref b13), .val (.int (1 : Int32)), .val (.int ff), .val (.int ll), .val (.int tt), .val (.int rr), .val (.ref b25), .val (.int (ff + (1 : Int32))), .val (.long (z_0.toInt64)), .second] [(.int rr)])) _
        refine XS.iconst X37.here hx rfl (hb hby at_412) ?_
        show Steps p.tables e below (T37.setTop (mkF m 413 #[.val (.int u0), .val (.int u1), .val (.int u2), .val (.int u3), .val (.int u4), .val (.int u5), .val (.ref b1), .val (.int (j0_46 u0 u1 u2)), .val (.ref b13), .val (.int (1 : Int32)), .val (.int ff), .val (.int ll), .val (.int tt), .val (.int rr), .val (.ref b25), .val (.int (ff + (1 : Int32))), .val (.long (z_0.toInt64)), .second] [(.int (4 : Int32)), (.int rr)])) _
        refine XS.icmpYes X37.here hx rfl (pc0 := 413) (pc' := 485) rfl (hb hby at_413) rfl (tlt (own_lt24 hc263)).1 (by decide) (by decide) ?_
        show Steps p.tables e below (T37.setTop (mkF m 485 #[.val (.int u0), .val (.int u1), .val (.int u2), .val (.int u3), .val (.int u4), .val (.int u5), .val (.ref b1), .val (.int (j0_46 u0 u1 u2)), .val (.ref b13), .val (.int (1 : Int32)), .val (.int ff), .val (.int ll), .val (.int tt), .val (.int rr), .val (.ref b25), .val (.int (ff + (1 : Int32))), .val (.long (z_0.toInt64)), .second] [])) _
        refine XS.iload X37.here hx rfl (hb hby at_485) rfl ?_
        show Steps p.tables e below (T37.setTop (mkF m 487 #[.val (.int u0), .val (.int u1), .val (.int u2), .val (.int u3), .val (.int u4), .val (.int u5), .val (.ref b1), .val (.int (j0_46 u0 u1 u2)), .val (.ref b13), .val (.int (1 : Int32)), .val (.int ff), .val (.int ll), .val (.int tt), .val (.int rr), .val (.ref b25), .val (.int (ff + (1 : Int32))), .val (.long (z_0.toInt64)), .second] [(.int (1 : Int32))])) _
        exact retN X37 hx (t := .boolean) Bd.returns (by simp) (hb hby at_487) hr
      · show QL n0 _ T37.heap _
        rw [e37]
        exact ⟨rfl, N37⟩
    · -- pc 263: not rr < (2 : Int32)
      obtain ⟨_, z_1, -, -, -, -, hval_1⟩ := own_elem V_b1_35 (by simp) (j := (ff + (1 : Int32))) (own_in1 rff rll rtt rrr hc263)
      have rz_1 := own_vs (own_b7 _) (own_b7 _) (own_b7 _) (own_b7 _) _ hval_1
      obtain ⟨cq42, kq42, q42a, q42b, q42c⟩ := isOf hZ e37 E_r34
      obtain ⟨_, _, ⟨T42, L42, k42, n42⟩, -, X42, ⟨Lc42, hQ42, l42, y42, z42⟩, st42⟩ := X37.virtualBack hx (y := (⟨"com/example/scorpus/scorpus/engine/ByteReader", "readNumber", "()J"⟩ : MethodName)) (z := (⟨"com/example/scorpus/scorpus/engine/ByteReader", "readNumber", "()J"⟩ : MethodName)) hown (mvT hZ (hw _ (List.mem_of_getElem? (i := 22) rfl))) (mvT hZ (hw _ (List.mem_of_getElem? (i := 23) rfl))) (notFace_of_selects (args := #[]) (mvT hZ (hw _ (List.mem_of_getElem? (i := 25) rfl)))) (mvT hZ (hw _ (List.mem_of_getElem? (i := 25) rfl))) (mvT hZ (hw _ (List.mem_of_getElem? (i := 24) rfl))) (by decide) (backOf (W := 0) (rm4 l Z a0 hw [] b25 b1 k1 (4 : Int32) [(.int (nar .byte ((u3 &&& (127 : Int32)).toInt8.toInt32))), (.int (nar .byte ((u4 &&& (127 : Int32)).toInt8.toInt32))), (.int (nar .byte ((u5 &&& (127 : Int32)).toInt8.toInt32))), (.int (nar .byte ((((u3.toUInt32 >>> ((8 : Int32) &&& 31).toUInt32).toInt32) &&& (127 : Int32)).toInt8.toInt32)))] (ff + (1 : Int32)) tt z_1 T34.heap n0 (Nat.le_trans Z0 K34.1) E_r34 F_bytes34 F_position34 F_end34 g_b25 V_b1_35 ne_b1_b25 (own_ne1 rff rll rtt rrr hc263) (own_in1 rff rll rtt rrr hc263) hval_1 rz_1.1 rz_1.2) hZ (hw _ (List.mem_of_getElem? (i := 26) rfl)) (hw _ (List.mem_of_getElem? (i := 3) rfl)) (by decide) (by decide)) q42a q42c (g := (mkF m 268 #[.val (.int u0), .val (.int u1), .val (.int u2), .val (.int u3), .val (.int u4), .val (.int u5), .val (.ref b1), .val (.int (j0_46 u0 u1 u2)), .val (.ref b13), .val (.int (1 : Int32)), .val (.int ff), .val (.int ll), .val (.int tt), .val (.int rr), .val (.ref b25), .val (.int (ff + (1 : Int32))), .val (.long (z_0.toInt64)), .second] [(.ref b25)])) rfl (by rw [hml]; rfl) (Steps.refl _) (argsL := []) (rest := []) (lenOf pd_3 rfl) rfl (by show 2 * 0 + _ ≤ _; exact Nat.le_of_eq rfl) (hb hby at_268) (fun _ _ => ⟨rfl, e37, (by decide : 3 + 0 ≤ _), (by decide : 10 + 0 ≤ _)⟩)
      dsimp only [Pt.U, Pt.locs, Pt.cells, Pt.slots] at X42 l42 y42 z42 st42 hQ42
      subst l42 y42 z42
      obtain ⟨rfl, N42q, K42q, E_r42, F_bytes42, F_position42, F_end42⟩ := hQ42
      have N42 := Fr.app N37 N42q
      have K42 : Keep h0 T42.heap [] := K34.trans K42q (allS (Or.inr sz_b25) all0)
      have V_b1_43 := V_b1_35.keep K42q (ninS ne_b1_b25 nin0)
      obtain ⟨c44, Ar44, hin44, hat44, hfit44⟩ := own_elemV V_b1_43 (j := (ff + (1 : Int32))) (own_in1 rff rll rtt rrr hc263) hval_1
      obtain ⟨cq45, kq45, q45a, q45b, q45c⟩ := isOf hZ rfl E_r42
      obtain ⟨_, _, ⟨T45, L45, k45, n45⟩, -, X45, ⟨Lc45, hQ45, l45, y45, z45⟩, st45⟩ := X42.virtualBack hx (y := (⟨"com/example/scorpus/scorpus/engine/ByteReader", "atEnd", "()Z"⟩ : MethodName)) (z := (⟨"com/example/scorpus/scorpus/engine/ByteReader", "atEnd", "()Z"⟩ : MethodName)) hown (mvT hZ (hw _ (List.mem_of_getElem? (i := 16) rfl))) (mvT hZ (hw _ (List.mem_of_getElem? (i := 17) rfl))) (notFace_of_selects (args := #[]) (mvT hZ (hw _ (List.mem_of_getElem? (i := 19) rfl)))) (mvT hZ (hw _ (List.mem_of_getElem? (i := 19) rfl))) (mvT hZ (hw _ (List.mem_of_getElem? (i := 18) rfl))) (by decide) (backOf (W := 0) (rm3 l Z a0 hw [] b25 ((ff + (1 : Int32)) + (1 : Int32)) tt T42.heap n0 (Nat.le_trans Z0 K42.1) F_position42 F_end42) hZ (hw _ (List.mem_of_getElem? (i := 20) rfl)) (hw _ (List.mem_of_getElem? (i := 3) rfl)) (by decide) (by decide)) q45a q45c (g := (mkF m 310 #[.val (.int u0), .val (.int u1), .val (.int u2), .val (.int u3), .val (.int u4), .val (.int u5), .val (.ref b1), .val (.int (j0_46 u0 u1 u2)), .val (.ref b13), .val (.int (1 : Int32)), .val (.int ff), .val (.int ll), .val (.int tt), .val (.int rr), .val (.ref b25), .val (.int ((ff + (1 : Int32)) + (1 : Int32))), .val (.long (z_1.toInt64)), .second] [(.ref b25)])) rfl (by rw [hml]; rfl) (Steps.refl _) (argsL := []) (rest := []) (lenOf pd_2 rfl) rfl (by show 2 * 0 + _ ≤ _; exact Nat.le_of_eq rfl) (hb hby at_310) (fun _ _ => ⟨rfl, rfl, (by decide : 3 + 0 ≤ _), (by decide : 10 + 0 ≤ _)⟩)
      dsimp only [Pt.U, Pt.locs, Pt.cells, Pt.slots] at X45 l45 y45 z45 st45 hQ45
      subst l45 y45 z45
      obtain ⟨rfl, N45q, e45⟩ := hQ45
      have N45 := Fr.app N42 N45q
      have pre46 : ∀ t, Steps p.tables e below (T45.setTop (mkF m 313 #[.val (.int u0), .val (.int u1), .val (.int u2), .val (.int u3), .val (.int u4), .val (.int u5), .val (.ref b1), .val (.int (j0_46 u0 u1 u2)), .val (.ref b13), .val (.int (1 : Int32)), .val (.int ff), .val (.int ll), .val (.int tt), .val (.int rr), .val (.ref b25), .val (.int ((ff + (1 : Int32)) + (1 : Int32))), .val (.long (z_1.toInt64)), .second] [(.int (f3 ((ff + (1 : Int32)) + (1 : Int32)) tt))])) t → Steps p.tables e below (s₁.setTop (entryFrame m #[(.int u0), (.int u1), (.int u2), (.int u3), (.int u4), (.int u5)] maxLocals)) t := fun t k => pre41 t (by
        show Steps p.tables e below (T37.setTop (mkF m 263 #[.val (.int u0), .val (.int u1), .val (.int u2), .val (.int u3), .val (.int u4), .val (.int u5), .val (.ref b1), .val (.int (j0_46 u0 u1 u2)), .val (.ref b13), .val (.int (1 : Int32)), .val (.int ff), .val (.int ll), .val (.int tt), .val (.int rr), .val (.ref b25), .val (.int (ff + (1 : Int32))), .val (.long (z_0.toInt64)), .second] [(.int (2 : Int32)), (.int rr)])) _
        refine XS.icmpNo X37.here hx rfl (hb hby at_263) rfl (flt hc263).1 ?_
        show Steps p.tables e below (T37.setTop (mkF m 266 #[.val (.int u0), .val (.int u1), .val (.int u2), .val (.int u3), .val (.int u4), .val (.int u5), .val (.ref b1), .val (.int (j0_46 u0 u1 u2)), .val (.ref b13), .val (.int (1 : Int32)), .val (.int ff), .val (.int ll), .val (.int tt), .val (.int rr), .val (.ref b25), .val (.int (ff + (1 : Int32))), .val (.long (z_0.toInt64)), .second] [])) _
        refine XS.aload X37.here hx rfl (hb hby at_266) rfl rfl ?_
        show Steps p.tables e below (T37.setTop (mkF m 268 #[.val (.int u0), .val (.int u1), .val (.int u2), .val (.int u3), .val (.int u4), .val (.int u5), .val (.ref b1), .val (.int (j0_46 u0 u1 u2)), .val (.ref b13), .val (.int (1 : Int32)), .val (.int ff), .val (.int ll), .val (.int tt), .val (.int rr), .val (.ref b25), .val (.int (ff + (1 : Int32))), .val (.long (z_0.toInt64)), .second] [(.ref b25)])) _
        refine st42.trans ?_
        show Steps p.tables e below (T42.setTop (mkF m 271 #[.val (.int u0), .val (.int u1), .val (.int u2), .val (.int u3), .val (.int u4), .val (.int u5), .val (.ref b1), .val (.int (j0_46 u0 u1 u2)), .val (.ref b13), .val (.int (1 : Int32)), .val (.int ff), .val (.int ll), .val (.int tt), .val (.int rr), .val (.ref b25), .val (.int (ff + (1 : Int32))), .val (.long (z_0.toInt64)), .second] [(.long (z_1.toInt64))])) _
        refine XS.lstore X42.here hx rfl (hb hby at_271) rfl (l' := #[.val (.int u0), .val (.int u1), .val (.int u2), .val (.int u3), .val (.int u4), .val (.int u5), .val (.ref b1), .val (.int (j0_46 u0 u1 u2)), .val (.ref b13), .val (.int (1 : Int32)), .val (.int ff), .val (.int ll), .val (.int tt), .val (.int rr), .val (.ref b25), .val (.int (ff + (1 : Int32))), .val (.long (z_1.toInt64)), .second]) rfl ?_
        show Steps p.tables e below (T42.setTop (mkF m 273 #[.val (.int u0), .val (.int u1), .val (.int u2), .val (.int u3), .val (.int u4), .val (.int u5), .val (.ref b1), .val (.int (j0_46 u0 u1 u2)), .val (.ref b13), .val (.int (1 : Int32)), .val (.int ff), .val (.int ll), .val (.int tt), .val (.int rr), .val (.ref b25), .val (.int (ff + (1 : Int32))), .val (.long (z_1.toInt64)), .second] [])) _
        refine XS.iload X42.here hx rfl (hb hby at_273) rfl ?_
        show Steps p.tables e below (T42.setTop (mkF m 275 #[.val (.int u0), .val (.int u1), .val (.int u2), .val (.int u3), .val (.int u4), .val (.int u5), .val (.ref b1), .val (.int (j0_46 u0 u1 u2)), .val (.ref b13), .val (.int (1 : Int32)), .val (.int ff), .val (.int ll), .val (.int tt), .val (.int rr), .val (.ref b25), .val (.int (ff + (1 : Int32))), .val (.long (z_1.toInt64)), .second] [(.int (1 : Int32))])) _
        refine XS.ifNo X42.here hx rfl (hb hby at_275) rfl ((if0 _ _).trans (feq (by decide : ¬ ((1 : Int32) = (0 : Int32)))).1) ?_
        show Steps p.tables e below (T42.setTop (mkF m 278 #[.val (.int u0), .val (.int u1), .val (.int u2), .val (.int u3), .val (.int u4), .val (.int u5), .val (.ref b1), .val (.int (j0_46 u0 u1 u2)), .val (.ref b13), .val (.int (1 : Int32)), .val (.int ff), .val (.int ll), .val (.int tt), .val (.int rr), .val (.ref b25), .val (.int (ff + (1 : Int32))), .val (.long (z_1.toInt64)), .second] [])) _
        refine XS.lload X42.here hx rfl (hb hby at_278) rfl ?_
        show Steps p.tables e below (T42.setTop (mkF m 280 #[.val (.int u0), .val (.int u1), .val (.int u2), .val (.int u3), .val (.int u4), .val (.int u5), .val (.ref b1), .val (.int (j0_46 u0 u1 u2)), .val (.ref b13), .val (.int (1 : Int32)), .val (.int ff), .val (.int ll), .val (.int tt), .val (.int rr), .val (.ref b25), .val (.int (ff + (1 : Int32))), .val (.long (z_1.toInt64)), .second] [(.long (z_1.toInt64))])) _
        refine XS.aload X42.here hx rfl (hb hby at_280) rfl rfl ?_
        show Steps p.tables e below (T42.setTop (mkF m 282 #[.val (.int u0), .val (.int u1), .val (.int u2), .val (.int u3), .val (.int u4), .val (.int u5), .val (.ref b1), .val (.int (j0_46 u0 u1 u2)), .val (.ref b13), .val (.int (1 : Int32)), .val (.int ff), .val (.int ll), .val (.int tt), .val (.int rr), .val (.ref b25), .val (.int (ff + (1 : Int32))), .val (.long (z_1.toInt64)), .second] [(.ref b1), (.long (z_1.toInt64))])) _
        refine XS.iload X42.here hx rfl (hb hby at_282) rfl ?_
        show Steps p.tables e below (T42.setTop (mkF m 284 #[.val (.int u0), .val (.int u1), .val (.int u2), .val (.int u3), .val (.int u4), .val (.int u5), .val (.ref b1), .val (.int (j0_46 u0 u1 u2)), .val (.ref b13), .val (.int (1 : Int32)), .val (.int ff), .val (.int ll), .val (.int tt), .val (.int rr), .val (.ref b25), .val (.int (ff + (1 : Int32))), .val (.long (z_1.toInt64)), .second] [(.int (ff + (1 : Int32))), (.ref b1), (.long (z_1.toInt64))])) _
        refine X42.baloadBytes hx (j := (ff + (1 : Int32))) (v := (.int z_1)) Ar44.1 (State.isArrayOf_alike hZ.alike Ar44.2.1) Ar44.2.2 hin44 hat44 (g := (mkF m 284 #[.val (.int u0), .val (.int u1), .val (.int u2), .val (.int u3), .val (.int u4), .val (.int u5), .val (.ref b1), .val (.int (j0_46 u0 u1 u2)), .val (.ref b13), .val (.int (1 : Int32)), .val (.int ff), .val (.int ll), .val (.int tt), .val (.int rr), .val (.ref b25), .val (.int (ff + (1 : Int32))), .val (.long (z_1.toInt64)), .second] [(.int (ff + (1 : Int32))), (.ref b1), (.long (z_1.toInt64))])) rfl rfl (hb hby at_284) _ ?_
        show Steps p.tables e below (T42.setTop (mkF m 285 #[.val (.int u0), .val (.int u1), .val (.int u2), .val (.int u3), .val (.int u4), .val (.int u5), .val (.ref b1), .val (.int (j0_46 u0 u1 u2)), .val (.ref b13), .val (.int (1 : Int32)), .val (.int ff), .val (.int ll), .val (.int tt), .val (.int rr), .val (.ref b25), .val (.int (ff + (1 : Int32))), .val (.long (z_1.toInt64)), .second] [(.int z_1), (.long (z_1.toInt64))])) _
        refine XS.i2l X42.here hx rfl (hb hby at_285) rfl ?_
        show Steps p.tables e below (T42.setTop (mkF m 286 #[.val (.int u0), .val (.int u1), .val (.int u2), .val (.int u3), .val (.int u4), .val (.int u5), .val (.ref b1), .val (.int (j0_46 u0 u1 u2)), .val (.ref b13), .val (.int (1 : Int32)), .val (.int ff), .val (.int ll), .val (.int tt), .val (.int rr), .val (.ref b25), .val (.int (ff + (1 : Int32))), .val (.long (z_1.toInt64)), .second] [(.long (z_1.toInt64)), (.long (z_1.toInt64))])) _
        refine XS.lcmp X42.here hx rfl (hb hby at_286) rfl ?_
        show Steps p.tables e below (T42.setTop (mkF m 287 #[.val (.int u0), .val (.int u1), .val (.int u2), .val (.int u3), .val (.int u4), .val (.int u5), .val (.ref b1), .val (.int (j0_46 u0 u1 u2)), .val (.ref b13), .val (.int (1 : Int32)), .val (.int ff), .val (.int ll), .val (.int tt), .val (.int rr), .val (.ref b25), .val (.int (ff + (1 : Int32))), .val (.long (z_1.toInt64)), .second] [(.int (lcmpW (z_1.toInt64) (z_1.toInt64)))])) _
        refine XS.ifNo X42.here hx rfl (hb hby at_287) rfl ((if0 _ _).trans (teq ((lw_eq _ _).mpr rfl)).2) ?_
        show Steps p.tables e below (T42.setTop (mkF m 290 #[.val (.int u0), .val (.int u1), .val (.int u2), .val (.int u3), .val (.int u4), .val (.int u5), .val (.ref b1), .val (.int (j0_46 u0 u1 u2)), .val (.ref b13), .val (.int (1 : Int32)), .val (.int ff), .val (.int ll), .val (.int tt), .val (.int rr), .val (.ref b25), .val (.int (ff + (1 : Int32))), .val (.long (z_1.toInt64)), .second] [])) _
        refine XS.iconst X42.here hx rfl (hb hby at_290) ?_
        show Steps p.tables e below (T42.setTop (mkF m 291 #[.val (.int u0), .val (.int u1), .val (.int u2), .val (.int u3), .val (.int u4), .val (.int u5), .val (.ref b1), .val (.int (j0_46 u0 u1 u2)), .val (.ref b13), .val (.int (1 : Int32)), .val (.int ff), .val (.int ll), .val (.int tt), .val (.int rr), .val (.ref b25), .val (.int (ff + (1 : Int32))), .val (.long (z_1.toInt64)), .second] [(.int (1 : Int32))])) _
        refine XS.goto X42.here hx rfl (pc0 := 291) (pc' := 295) rfl (hb hby at_291) (by decide) (by decide) ?_
        show Steps p.tables e below (T42.setTop (mkF m 295 #[.val (.int u0), .val (.int u1), .val (.int u2), .val (.int u3), .val (.int u4), .val (.int u5), .val (.ref b1), .val (.int (j0_46 u0 u1 u2)), .val (.ref b13), .val (.int (1 : Int32)), .val (.int ff), .val (.int ll), .val (.int tt), .val (.int rr), .val (.ref b25), .val (.int (ff + (1 : Int32))), .val (.long (z_1.toInt64)), .second] [(.int (1 : Int32))])) _
        refine XS.istore X42.here hx rfl (hb hby at_295) rfl (l' := #[.val (.int u0), .val (.int u1), .val (.int u2), .val (.int u3), .val (.int u4), .val (.int u5), .val (.ref b1), .val (.int (j0_46 u0 u1 u2)), .val (.ref b13), .val (.int (1 : Int32)), .val (.int ff), .val (.int ll), .val (.int tt), .val (.int rr), .val (.ref b25), .val (.int (ff + (1 : Int32))), .val (.long (z_1.toInt64)), .second]) rfl ?_
        show Steps p.tables e below (T42.setTop (mkF m 297 #[.val (.int u0), .val (.int u1), .val (.int u2), .val (.int u3), .val (.int u4), .val (.int u5), .val (.ref b1), .val (.int (j0_46 u0 u1 u2)), .val (.ref b13), .val (.int (1 : Int32)), .val (.int ff), .val (.int ll), .val (.int tt), .val (.int rr), .val (.ref b25), .val (.int (ff + (1 : Int32))), .val (.long (z_1.toInt64)), .second] [])) _
        refine XS.iload X42.here hx rfl (hb hby at_297) rfl ?_
        show Steps p.tables e below (T42.setTop (mkF m 299 #[.val (.int u0), .val (.int u1), .val (.int u2), .val (.int u3), .val (.int u4), .val (.int u5), .val (.ref b1), .val (.int (j0_46 u0 u1 u2)), .val (.ref b13), .val (.int (1 : Int32)), .val (.int ff), .val (.int ll), .val (.int tt), .val (.int rr), .val (.ref b25), .val (.int (ff + (1 : Int32))), .val (.long (z_1.toInt64)), .second] [(.int (ff + (1 : Int32)))])) _
        refine XS.iconst X42.here hx rfl (hb hby at_299) ?_
        show Steps p.tables e below (T42.setTop (mkF m 300 #[.val (.int u0), .val (.int u1), .val (.int u2), .val (.int u3), .val (.int u4), .val (.int u5), .val (.ref b1), .val (.int (j0_46 u0 u1 u2)), .val (.ref b13), .val (.int (1 : Int32)), .val (.int ff), .val (.int ll), .val (.int tt), .val (.int rr), .val (.ref b25), .val (.int (ff + (1 : Int32))), .val (.long (z_1.toInt64)), .second] [(.int (1 : Int32)), (.int (ff + (1 : Int32)))])) _
        refine XS.iadd X42.here hx rfl (hb hby at_300) rfl ?_
        show Steps p.tables e below (T42.setTop (mkF m 301 #[.val (.int u0), .val (.int u1), .val (.int u2), .val (.int u3), .val (.int u4), .val (.int u5), .val (.ref b1), .val (.int (j0_46 u0 u1 u2)), .val (.ref b13), .val (.int (1 : Int32)), .val (.int ff), .val (.int ll), .val (.int tt), .val (.int rr), .val (.ref b25), .val (.int (ff + (1 : Int32))), .val (.long (z_1.toInt64)), .second] [(.int ((ff + (1 : Int32)) + (1 : Int32)))])) _
        refine XS.istore X42.here hx rfl (hb hby at_301) rfl (l' := #[.val (.int u0), .val (.int u1), .val (.int u2), .val (.int u3), .val (.int u4), .val (.int u5), .val (.ref b1), .val (.int (j0_46 u0 u1 u2)), .val (.ref b13), .val (.int (1 : Int32)), .val (.int ff), .val (.int ll), .val (.int tt), .val (.int rr), .val (.ref b25), .val (.int ((ff + (1 : Int32)) + (1 : Int32))), .val (.long (z_1.toInt64)), .second]) rfl ?_
        show Steps p.tables e below (T42.setTop (mkF m 303 #[.val (.int u0), .val (.int u1), .val (.int u2), .val (.int u3), .val (.int u4), .val (.int u5), .val (.ref b1), .val (.int (j0_46 u0 u1 u2)), .val (.ref b13), .val (.int (1 : Int32)), .val (.int ff), .val (.int ll), .val (.int tt), .val (.int rr), .val (.ref b25), .val (.int ((ff + (1 : Int32)) + (1 : Int32))), .val (.long (z_1.toInt64)), .second] [])) _
        refine XS.iload X42.here hx rfl (hb hby at_303) rfl ?_
        show Steps p.tables e below (T42.setTop (mkF m 305 #[.val (.int u0), .val (.int u1), .val (.int u2), .val (.int u3), .val (.int u4), .val (.int u5), .val (.ref b1), .val (.int (j0_46 u0 u1 u2)), .val (.ref b13), .val (.int (1 : Int32)), .val (.int ff), .val (.int ll), .val (.int tt), .val (.int rr), .val (.ref b25), .val (.int ((ff + (1 : Int32)) + (1 : Int32))), .val (.long (z_1.toInt64)), .second] [(.int (1 : Int32))])) _
        refine XS.ifNo X42.here hx rfl (hb hby at_305) rfl ((if0 _ _).trans (feq (by decide : ¬ ((1 : Int32) = (0 : Int32)))).1) ?_
        show Steps p.tables e below (T42.setTop (mkF m 308 #[.val (.int u0), .val (.int u1), .val (.int u2), .val (.int u3), .val (.int u4), .val (.int u5), .val (.ref b1), .val (.int (j0_46 u0 u1 u2)), .val (.ref b13), .val (.int (1 : Int32)), .val (.int ff), .val (.int ll), .val (.int tt), .val (.int rr), .val (.ref b25), .val (.int ((ff + (1 : Int32)) + (1 : Int32))), .val (.long (z_1.toInt64)), .second] [])) _
        refine XS.aload X42.here hx rfl (hb hby at_308) rfl rfl ?_
        show Steps p.tables e below (T42.setTop (mkF m 310 #[.val (.int u0), .val (.int u1), .val (.int u2), .val (.int u3), .val (.int u4), .val (.int u5), .val (.ref b1), .val (.int (j0_46 u0 u1 u2)), .val (.ref b13), .val (.int (1 : Int32)), .val (.int ff), .val (.int ll), .val (.int tt), .val (.int rr), .val (.ref b25), .val (.int ((ff + (1 : Int32)) + (1 : Int32))), .val (.long (z_1.toInt64)), .second] [(.ref b25)])) _
        refine st45.trans ?_
        exact k)
      have pre47 : ∀ t, Steps p.tables e below (T45.setTop (mkF m 325 #[.val (.int u0), .val (.int u1), .val (.int u2), .val (.int u3), .val (.int u4), .val (.int u5), .val (.ref b1), .val (.int (j0_46 u0 u1 u2)), .val (.ref b13), .val (.int (1 : Int32)), .val (.int ff), .val (.int ll), .val (.int tt), .val (.int rr), .val (.ref b25), .val (.int ((ff + (1 : Int32)) + (1 : Int32))), .val (.long (z_1.toInt64)), .second] [(.int (j0_313 ff tt)), (.int (f3 ((ff + (1 : Int32)) + (1 : Int32)) tt))])) t → Steps p.tables e below (s₁.setTop (entryFrame m #[(.int u0), (.int u1), (.int u2), (.int u3), (.int u4), (.int u5)] maxLocals)) t := by
        have pre48 : ∀ t, Steps p.tables e below (T45.setTop (mkF m 317 #[.val (.int u0), .val (.int u1), .val (.int u2), .val (.int u3), .val (.int u4), .val (.int u5), .val (.ref b1), .val (.int (j0_46 u0 u1 u2)), .val (.ref b13), .val (.int (1 : Int32)), .val (.int ff), .val (.int ll), .val (.int tt), .val (.int rr), .val (.ref b25), .val (.int ((ff + (1 : Int32)) + (1 : Int32))), .val (.long (z_1.toInt64)), .second] [(.int tt), (.int ((ff + (1 : Int32)) + (1 : Int32))), (.int (f3 ((ff + (1 : Int32)) + (1 : Int32)) tt))])) t → Steps p.tables e below (s₁.setTop (entryFrame m #[(.int u0), (.int u1), (.int u2), (.int u3), (.int u4), (.int u5)] maxLocals)) t := fun t k => pre46 t (by
          show Steps p.tables e below (T45.setTop (mkF m 313 #[.val (.int u0), .val (.int u1), .val (.int u2), .val (.int u3), .val (.int u4), .val (.int u5), .val (.ref b1), .val (.int (j0_46 u0 u1 u2)), .val (.ref b13), .val (.int (1 : Int32)), .val (.int ff), .val (.int ll), .val (.int tt), .val (.int rr), .val (.ref b25), .val (.int ((ff + (1 : Int32)) + (1 : Int32))), .val (.long (z_1.toInt64)), .second] [(.int (f3 ((ff + (1 : Int32)) + (1 : Int32)) tt))])) _
          refine XS.iload X45.here hx rfl (hb hby at_313) rfl ?_
          show Steps p.tables e below (T45.setTop (mkF m 315 #[.val (.int u0), .val (.int u1), .val (.int u2), .val (.int u3), .val (.int u4), .val (.int u5), .val (.ref b1), .val (.int (j0_46 u0 u1 u2)), .val (.ref b13), .val (.int (1 : Int32)), .val (.int ff), .val (.int ll), .val (.int tt), .val (.int rr), .val (.ref b25), .val (.int ((ff + (1 : Int32)) + (1 : Int32))), .val (.long (z_1.toInt64)), .second] [(.int ((ff + (1 : Int32)) + (1 : Int32))), (.int (f3 ((ff + (1 : Int32)) + (1 : Int32)) tt))])) _
          refine XS.iload X45.here hx rfl (hb hby at_315) rfl ?_
          exact k)
        by_cases hc317 : ((ff + (1 : Int32)) + (1 : Int32)) = tt
        · -- pc 317: ((ff + (1 : Int32)) + (1 : Int32)) = tt
          intro t k
          have qS0 : (j0_313 ff tt) = (1 : Int32) := (if_pos hc317).trans (rfl)
          rw [qS0] at k
          refine pre48 t ?_
          show Steps p.tables e below (T45.setTop (mkF m 317 #[.val (.int u0), .val (.int u1), .val (.int u2), .val (.int u3), .val (.int u4), .val (.int u5), .val (.ref b1), .val (.int (j0_46 u0 u1 u2)), .val (.ref b13), .val (.int (1 : Int32)), .val (.int ff), .val (.int ll), .val (.int tt), .val (.int rr), .val (.ref b25), .val (.int ((ff + (1 : Int32)) + (1 : Int32))), .val (.long (z_1.toInt64)), .second] [(.int tt), (.int ((ff + (1 : Int32)) + (1 : Int32))), (.int (f3 ((ff + (1 : Int32)) + (1 : Int32)) tt))])) _
          refine XS.icmpNo X45.here hx rfl (hb hby at_317) rfl (teq hc317).2 ?_
          show Steps p.tables e below (T45.setTop (mkF m 320 #[.val (.int u0), .val (.int u1), .val (.int u2), .val (.int u3), .val (.int u4), .val (.int u5), .val (.ref b1), .val (.int (j0_46 u0 u1 u2)), .val (.ref b13), .val (.int (1 : Int32)), .val (.int ff), .val (.int ll), .val (.int tt), .val (.int rr), .val (.ref b25), .val (.int ((ff + (1 : Int32)) + (1 : Int32))), .val (.long (z_1.toInt64)), .second] [(.int (f3 ((ff + (1 : Int32)) + (1 : Int32)) tt))])) _
          refine XS.iconst X45.here hx rfl (hb hby at_320) ?_
          show Steps p.tables e below (T45.setTop (mkF m 321 #[.val (.int u0), .val (.int u1), .val (.int u2), .val (.int u3), .val (.int u4), .val (.int u5), .val (.ref b1), .val (.int (j0_46 u0 u1 u2)), .val (.ref b13), .val (.int (1 : Int32)), .val (.int ff), .val (.int ll), .val (.int tt), .val (.int rr), .val (.ref b25), .val (.int ((ff + (1 : Int32)) + (1 : Int32))), .val (.long (z_1.toInt64)), .second] [(.int (1 : Int32)), (.int (f3 ((ff + (1 : Int32)) + (1 : Int32)) tt))])) _
          refine XS.goto X45.here hx rfl (pc0 := 321) (pc' := 325) rfl (hb hby at_321) (by decide) (by decide) ?_
          exact k
        · -- pc 317: not ((ff + (1 : Int32)) + (1 : Int32)) = tt
          intro t k
          have qS0 : (j0_313 ff tt) = (0 : Int32) := (if_neg hc317).trans (rfl)
          rw [qS0] at k
          refine pre48 t ?_
          show Steps p.tables e below (T45.setTop (mkF m 317 #[.val (.int u0), .val (.int u1), .val (.int u2), .val (.int u3), .val (.int u4), .val (.int u5), .val (.ref b1), .val (.int (j0_46 u0 u1 u2)), .val (.ref b13), .val (.int (1 : Int32)), .val (.int ff), .val (.int ll), .val (.int tt), .val (.int rr), .val (.ref b25), .val (.int ((ff + (1 : Int32)) + (1 : Int32))), .val (.long (z_1.toInt64)), .second] [(.int tt), (.int ((ff + (1 : Int32)) + (1 : Int32))), (.int (f3 ((ff + (1 : Int32)) + (1 : Int32)) tt))])) _
          refine XS.icmpYes X45.here hx rfl (pc0 := 317) (pc' := 324) rfl (hb hby at_317) rfl (feq hc317).2 (by decide) (by decide) ?_
          show Steps p.tables e below (T45.setTop (mkF m 324 #[.val (.int u0), .val (.int u1), .val (.int u2), .val (.int u3), .val (.int u4), .val (.int u5), .val (.ref b1), .val (.int (j0_46 u0 u1 u2)), .val (.ref b13), .val (.int (1 : Int32)), .val (.int ff), .val (.int ll), .val (.int tt), .val (.int rr), .val (.ref b25), .val (.int ((ff + (1 : Int32)) + (1 : Int32))), .val (.long (z_1.toInt64)), .second] [(.int (f3 ((ff + (1 : Int32)) + (1 : Int32)) tt))])) _
          refine XS.iconst X45.here hx rfl (hb hby at_324) ?_
          exact k
      have pre49 : ∀ t, Steps p.tables e below (T45.setTop (mkF m 338 #[.val (.int u0), .val (.int u1), .val (.int u2), .val (.int u3), .val (.int u4), .val (.int u5), .val (.ref b1), .val (.int (j0_46 u0 u1 u2)), .val (.ref b13), .val (.int (1 : Int32)), .val (.int ff), .val (.int ll), .val (.int tt), .val (.int rr), .val (.ref b25), .val (.int ((ff + (1 : Int32)) + (1 : Int32))), .val (.long (z_1.toInt64)), .second] [(.int (3 : Int32)), (.int rr)])) t → Steps p.tables e below (s₁.setTop (entryFrame m #[(.int u0), (.int u1), (.int u2), (.int u3), (.int u4), (.int u5)] maxLocals)) t := fun t k => pre47 t (by
        show Steps p.tables e below (T45.setTop (mkF m 325 #[.val (.int u0), .val (.int u1), .val (.int u2), .val (.int u3), .val (.int u4), .val (.int u5), .val (.ref b1), .val (.int (j0_46 u0 u1 u2)), .val (.ref b13), .val (.int (1 : Int32)), .val (.int ff), .val (.int ll), .val (.int tt), .val (.int rr), .val (.ref b25), .val (.int ((ff + (1 : Int32)) + (1 : Int32))), .val (.long (z_1.toInt64)), .second] [(.int (j0_313 ff tt)), (.int (f3 ((ff + (1 : Int32)) + (1 : Int32)) tt))])) _
        refine XS.icmpNo X45.here hx rfl (hb hby at_325) rfl (teq (rfl : (f3 ((ff + (1 : Int32)) + (1 : Int32)) tt) = (j0_313 ff tt))).2 ?_
        show Steps p.tables e below (T45.setTop (mkF m 328 #[.val (.int u0), .val (.int u1), .val (.int u2), .val (.int u3), .val (.int u4), .val (.int u5), .val (.ref b1), .val (.int (j0_46 u0 u1 u2)), .val (.ref b13), .val (.int (1 : Int32)), .val (.int ff), .val (.int ll), .val (.int tt), .val (.int rr), .val (.ref b25), .val (.int ((ff + (1 : Int32)) + (1 : Int32))), .val (.long (z_1.toInt64)), .second] [])) _
        refine XS.iconst X45.here hx rfl (hb hby at_328) ?_
        show Steps p.tables e below (T45.setTop (mkF m 329 #[.val (.int u0), .val (.int u1), .val (.int u2), .val (.int u3), .val (.int u4), .val (.int u5), .val (.ref b1), .val (.int (j0_46 u0 u1 u2)), .val (.ref b13), .val (.int (1 : Int32)), .val (.int ff), .val (.int ll), .val (.int tt), .val (.int rr), .val (.ref b25), .val (.int ((ff + (1 : Int32)) + (1 : Int32))), .val (.long (z_1.toInt64)), .second] [(.int (1 : Int32))])) _
        refine XS.goto X45.here hx rfl (pc0 := 329) (pc' := 333) rfl (hb hby at_329) (by decide) (by decide) ?_
        show Steps p.tables e below (T45.setTop (mkF m 333 #[.val (.int u0), .val (.int u1), .val (.int u2), .val (.int u3), .val (.int u4), .val (.int u5), .val (.ref b1), .val (.int (j0_46 u0 u1 u2)), .val (.ref b13), .val (.int (1 : Int32)), .val (.int ff), .val (.int ll), .val (.int tt), .val (.int rr), .val (.ref b25), .val (.int ((ff + (1 : Int32)) + (1 : Int32))), .val (.long (z_1.toInt64)), .second] [(.int (1 : Int32))])) _
        refine XS.istore X45.here hx rfl (hb hby at_333) rfl (l' := #[.val (.int u0), .val (.int u1), .val (.int u2), .val (.int u3), .val (.int u4), .val (.int u5), .val (.ref b1), .val (.int (j0_46 u0 u1 u2)), .val (.ref b13), .val (.int (1 : Int32)), .val (.int ff), .val (.int ll), .val (.int tt), .val (.int rr), .val (.ref b25), .val (.int ((ff + (1 : Int32)) + (1 : Int32))), .val (.long (z_1.toInt64)), .second]) rfl ?_
        show Steps p.tables e below (T45.setTop (mkF m 335 #[.val (.int u0), .val (.int u1), .val (.int u2), .val (.int u3), .val (.int u4), .val (.int u5), .val (.ref b1), .val (.int (j0_46 u0 u1 u2)), .val (.ref b13), .val (.int (1 : Int32)), .val (.int ff), .val (.int ll), .val (.int tt), .val (.int rr), .val (.ref b25), .val (.int ((ff + (1 : Int32)) + (1 : Int32))), .val (.long (z_1.toInt64)), .second] [])) _
        refine XS.iload X45.here hx rfl (hb hby at_335) rfl ?_
        show Steps p.tables e below (T45.setTop (mkF m 337 #[.val (.int u0), .val (.int u1), .val (.int u2), .val (.int u3), .val (.int u4), .val (.int u5), .val (.ref b1), .val (.int (j0_46 u0 u1 u2)), .val (.ref b13), .val (.int (1 : Int32)), .val (.int ff), .val (.int ll), .val (.int tt), .val (.int rr), .val (.ref b25), .val (.int ((ff + (1 : Int32)) + (1 : Int32))), .val (.long (z_1.toInt64)), .second] [(.int rr)])) _
        refine XS.iconst X45.here hx rfl (hb hby at_337) ?_
        exact k)
      by_cases hc338 : rr < (3 : Int32)
      · -- pc 338: rr < (3 : Int32)
        obtain ⟨fs, hr, hrun, hended, hW, hsame⟩ := X45.leave (v := (some (.int (1 : Int32)))) (fun h => by rw [Bd.returns] at h; cases h)
        refine ⟨_, _, pre49 _ ?_, hrun, hended, _, _, rfl, ?_, ⟨_, rfl⟩, hW, hsame.mono (by decide) (by decide)⟩
        · show Steps p.tables e below (T45.setTop (mkF m 338 #[.val (.int u0), .val (.int u1), .val (.int u2), .val (.int u3), .val (.int u4), .val (.int u5), .val (.ref b1), .val (.int (j0_46 u0 u1 u2)), .val (.ref b13), .val (.int (1 : Int32)), .val (.int ff), .val (.int ll), .val (.int tt), .val (.int rr), .val (.ref b25), .val (.int ((ff + (1 : Int32)) + (1 : Int32))), .val (.long (z_1.toInt64)), .second] [(.int (3 : Int32)), (.int rr)])) _
          refine XS.icmpYes X45.here hx rfl (pc0 := 338) (pc' := 410) rfl (hb hby at_338) rfl (tlt hc338).1 (by decide) (by decide) ?_
          show Steps p.tables e below (T45.setTop (mkF m 410 #[.val (.int u0), .val (.int u1), .val (.int u2), .val (.int u3), .val (.int u4), .val (.int u5), .val (.ref b1), .val (.int (j0_46 u0 u1 u2)), .val (.ref b13), .val (.int (1 : Int32)), .val (.int ff), .val (.int ll), .val (.int tt), .val (.int rr), .val (.ref b25), .val (.int ((ff + (1 : Int32)) + (1 : Int32))), .val (.long (z_1.toInt64)), .second] [])) _
          refine XS.iload X45.here hx rfl (hb hby at_410) rfl ?_
          show Steps p.tables e below (T45.setTop (mkF m 412 #[.val (.int u0), .val (.int u1), .val (.int u2), .val (.int u3), .val (.int u4), .val (.int u5), .val (.ref b1), .val (.int (j0_46 u0 u1 u2)), .val (.ref b13), .val (.int (1 : Int32)), .val (.int ff), .val (.int ll), .val (.int tt), .val (.int rr), .val (.ref b25), .val (.int ((ff + (1 : Int32)) + (1 : Int32))), .val (.long (z_1.toInt64)), .second] [(.int rr)])) _
          refine XS.iconst X45.here hx rfl (hb hby at_412) ?_
          show Steps p.tables e below (T45.setTop (mkF m 413 #[.val (.int u0), .val (.int u1), .val (.int u2), .val (.int u3), .val (.int u4), .val (.int u5), .val (.ref b1), .val (.int (j0_46 u0 u1 u2)), .val (.ref b13), .val (.int (1 : Int32)), .val (.int ff), .val (.int ll), .val (.int tt), .val (.int rr), .val (.ref b25), .val (.int ((ff + (1 : Int32)) + (1 : Int32))), .val (.long (z_1.toInt64)), .second] [(.int (4 : Int32)), (.int rr)])) _
          refine XS.icmpYes X45.here hx rfl (pc0 := 413) (pc' := 485) rfl (hb hby at_413) rfl (tlt (own_lt34 hc338)).1 (by decide) (by decide) ?_
          show Steps p.tables e below (T45.setTop (mkF m 485 #[.val (.int u0), .val (.int u1), .val (.int u2), .val (.int u3), .val (.int u4), .val (.int u5), .val (.ref b1), .val (.int (j0_46 u0 u1 u2)), .val (.ref b13), .val (.int (1 : Int32)), .val (.int ff), .val (.int ll), .val (.int tt), .val (.int rr), .val (.ref b25), .val (.int ((ff + (1 : Int32)) + (1 : Int32))), .val (.long (z_1.toInt64)), .second] [])) _
          refine XS.iload X45.here hx rfl (hb hby at_485) rfl ?_
          show Steps p.tables e below (T45.setTop (mkF m 487 #[.val (.int u0), .val (.int u1), .val (.int u2), .val (.int u3), .val (.int u4), .val (.int u5), .val (.ref b1), .val (.int (j0_46 u0 u1 u2)), .val (.ref b13), .val (.int (1 : Int32)), .val (.int ff), .val (.int ll), .val (.int tt), .val (.int rr), .val (.ref b25), .val (.int ((ff + (1 : Int32)) + (1 : Int32))), .val (.long (z_1.toInt64)), .second] [(.int (1 : Int32))])) _
          exact retN X45 hx (t := .boolean) Bd.returns (by simp) (hb hby at_487) hr
        · show QL n0 _ T45.heap _
          rw [e45]
          exact ⟨rfl, N45⟩
      · -- pc 338: not rr < (3 : Int32)
        obtain ⟨_, z_2, -, -, -, -, hval_2⟩ := own_elem V_b1_43 (by simp) (j := ((ff + (1 : Int32)) + (1 : Int32))) (own_in2 rff rll rtt rrr hc338)
        have rz_2 := own_vs (own_b7 _) (own_b7 _) (own_b7 _) (own_b7 _) _ hval_2
        obtain ⟨cq50, kq50, q50a, q50b, q50c⟩ := isOf hZ e45 E_r42
        obtain ⟨_, _, ⟨T50, L50, k50, n50⟩, -, X50, ⟨Lc50, hQ50, l50, y50, z50⟩, st50⟩ := X45.virtualBack hx (y := (⟨"com/example/scorpus/scorpus/engine/ByteReader", "readNumber", "()J"⟩ : MethodName)) (z := (⟨"com/example/scorpus/scorpus/engine/ByteReader", "readNumber", "()J"⟩ : MethodName)) hown (mvT hZ (hw _ (List.mem_of_getElem? (i := 22) rfl))) (mvT hZ (hw _ (List.mem_of_getElem? (i := 23) rfl))) (notFace_of_selects (args := #[]) (mvT hZ (hw _ (List.mem_of_getElem? (i := 25) rfl)))) (mvT hZ (hw _ (List.mem_of_getElem? (i := 25) rfl))) (mvT hZ (hw _ (List.mem_of_getElem? (i := 24) rfl))) (by decide) (backOf (W := 0) (rm4 l Z a0 hw [] b25 b1 k1 (4 : Int32) [(.int (nar .byte ((u3 &&& (127 : Int32)).toInt8.toInt32))), (.int (nar .byte ((u4 &&& (127 : Int32)).toInt8.toInt32))), (.int (nar .byte ((u5 &&& (127 : Int32)).toInt8.toInt32))), (.int (nar .byte ((((u3.toUInt32 >>> ((8 : Int32) &&& 31).toUInt32).toInt32) &&& (127 : Int32)).toInt8.toInt32)))] ((ff + (1 : Int32)) + (1 : Int32)) tt z_2 T42.heap n0 (Nat.le_trans Z0 K42.1) E_r42 F_bytes42 F_position42 F_end42 g_b25 V_b1_43 ne_b1_b25 (own_ne2 rff rll rtt rrr hc338) (own_in2 rff rll rtt rrr hc338) hval_2 rz_2.1 rz_2.2) hZ (hw _ (List.mem_of_getElem? (i := 26) rfl)) (hw _ (List.mem_of_getElem? (i := 3) rfl)) (by decide) (by decide)) q50a q50c (g := (mkF m 343 #[.val (.int u0), .val (.int u1), .val (.int u2), .val (.int u3), .val (.int u4), .val (.int u5), .val (.ref b1), .val (.int (j0_46 u0 u1 u2)), .val (.ref b13), .val (.int (1 : Int32)), .val (.int ff), .val (.int ll), .val (.int tt), .val (.int rr), .val (.ref b25), .val (.int ((ff + (1 : Int32)) + (1 : Int32))), .val (.long (z_1.toInt64)), .second] [(.ref b25)])) rfl (by rw [hml]; rfl) (Steps.refl _) (argsL := []) (rest := []) (lenOf pd_3 rfl) rfl (by show 2 * 0 + _ ≤ _; exact Nat.le_of_eq rfl) (hb hby at_343) (fun _ _ => ⟨rfl, e45, (by decide : 3 + 0 ≤ _), (by decide : 10 + 0 ≤ _)⟩)
        dsimp only [Pt.U, Pt.locs, Pt.cells, Pt.slots] at X50 l50 y50 z50 st50 hQ50
        subst l50 y50 z50
        obtain ⟨rfl, N50q, K50q, E_r50, F_bytes50, F_position50, F_end50⟩ := hQ50
        have N50 := Fr.app N45 N50q
        have K50 : Keep h0 T50.heap [] := K42.trans K50q (allS (Or.inr sz_b25) all0)
        have V_b1_51 := V_b1_43.keep K50q (ninS ne_b1_b25 nin0)
        obtain ⟨c52, Ar52, hin52, hat52, hfit52⟩ := own_elemV V_b1_51 (j := ((ff + (1 : Int32)) + (1 : Int32))) (own_in2 rff rll rtt rrr hc338) hval_2
        obtain ⟨cq53, kq53, q53a, q53b, q53c⟩ := isOf hZ rfl E_r50
        obtain ⟨_, _, ⟨T53, L53, k53, n53⟩, -, X53, ⟨Lc53, hQ53, l53, y53, z53⟩, st53⟩ := X50.virtualBack hx (y := (⟨"com/example/scorpus/scorpus/engine/ByteReader", "atEnd", "()Z"⟩ : MethodName)) (z := (⟨"com/example/scorpus/scorpus/engine/ByteReader", "atEnd", "()Z"⟩ : MethodName)) hown (mvT hZ (hw _ (List.mem_of_getElem? (i := 16) rfl))) (mvT hZ (hw _ (List.mem_of_getElem? (i := 17) rfl))) (notFace_of_selects (args := #[]) (mvT hZ (hw _ (List.mem_of_getElem? (i := 19) rfl)))) (mvT hZ (hw _ (List.mem_of_getElem? (i := 19) rfl))) (mvT hZ (hw _ (List.mem_of_getElem? (i := 18) rfl))) (by decide) (backOf (W := 0) (rm3 l Z a0 hw [] b25 (((ff + (1 : Int32)) + (1 : Int32)) + (1 : Int32)) tt T50.heap n0 (Nat.le_trans Z0 K50.1) F_position50 F_end50) hZ (hw _ (List.mem_of_getElem? (i := 20) rfl)) (hw _ (List.mem_of_getElem? (i := 3) rfl)) (by decide) (by decide)) q53a q53c (g := (mkF m 385 #[.val (.int u0), .val (.int u1), .val (.int u2), .val (.int u3), .val (.int u4), .val (.int u5), .val (.ref b1), .val (.int (j0_46 u0 u1 u2)), .val (.ref b13), .val (.int (1 : Int32)), .val (.int ff), .val (.int ll), .val (.int tt), .val (.int rr), .val (.ref b25), .val (.int (((ff + (1 : Int32)) + (1 : Int32)) + (1 : Int32))), .val (.long (z_2.toInt64)), .second] [(.ref b25)])) rfl (by rw [hml]; rfl) (Steps.refl _) (argsL := []) (rest := []) (lenOf pd_2 rfl) rfl (by show 2 * 0 + _ ≤ _; exact Nat.le_of_eq rfl) (hb hby at_385) (fun _ _ => ⟨rfl, rfl, (by decide : 3 + 0 ≤ _), (by decide : 10 + 0 ≤ _)⟩)
        dsimp only [Pt.U, Pt.locs, Pt.cells, Pt.slots] at X53 l53 y53 z53 st53 hQ53
        subst l53 y53 z53
        obtain ⟨rfl, N53q, e53⟩ := hQ53
        have N53 := Fr.app N50 N53q
        have pre54 : ∀ t, Steps p.tables e below (T53.setTop (mkF m 388 #[.val (.int u0), .val (.int u1), .val (.int u2), .val (.int u3), .val (.int u4), .val (.int u5), .val (.ref b1), .val (.int (j0_46 u0 u1 u2)), .val (.ref b13), .val (.int (1 : Int32)), .val (.int ff), .val (.int ll), .val (.int tt), .val (.int rr), .val (.ref b25), .val (.int (((ff + (1 : Int32)) + (1 : Int32)) + (1 : Int32))), .val (.long (z_2.toInt64)), .second] [(.int (f3 (((ff + (1 : Int32)) + (1 : Int32)) + (1 : Int32)) tt))])) t → Steps p.tables e below (s₁.setTop (entryFrame m #[(.int u0), (.int u1), (.int u2), (.int u3), (.int u4), (.int u5)] maxLocals)) t := fun t k => pre49 t (by
          show Steps p.tables e below (T45.setTop (mkF m 338 #[.val (.int u0), .val (.int u1), .val (.int u2), .val (.int u3), .val (.int u4), .val (.int u5), .val (.ref b1), .val (.int (j0_46 u0 u1 u2)), .val (.ref b13), .val (.int (1 : Int32)), .val (.int ff), .val (.int ll), .val (.int tt), .val (.int rr), .val (.ref b25), .val (.int ((ff + (1 : Int32)) + (1 : Int32))), .val (.long (z_1.toInt64)), .second] [(.int (3 : Int32)), (.int rr)])) _
          refine XS.icmpNo X45.here hx rfl (hb hby at_338) rfl (flt hc338).1 ?_
          show Steps p.tables e below (T45.setTop (mkF m 341 #[.val (.int u0), .val (.int u1), .val (.int u2), .val (.int u3), .val (.int u4), .val (.int u5), .val (.ref b1), .val (.int (j0_46 u0 u1 u2)), .val (.ref b13), .val (.int (1 : Int32)), .val (.int ff), .val (.int ll), .val (.int tt), .val (.int rr), .val (.ref b25), .val (.int ((ff + (1 : Int32)) + (1 : Int32))), .val (.long (z_1.toInt64)), .second] [])) _
          refine XS.aload X45.here hx rfl (hb hby at_341) rfl rfl ?_
          show Steps p.tables e below (T45.setTop (mkF m 343 #[.val (.int u0), .val (.int u1), .val (.int u2), .val (.int u3), .val (.int u4), .val (.int u5), .val (.ref b1), .val (.int (j0_46 u0 u1 u2)), .val (.ref b13), .val (.int (1 : Int32)), .val (.int ff), .val (.int ll), .val (.int tt), .val (.int rr), .val (.ref b25), .val (.int ((ff + (1 : Int32)) + (1 : Int32))), .val (.long (z_1.toInt64)), .second] [(.ref b25)])) _
          refine st50.trans ?_
          show Steps p.tables e below (T50.setTop (mkF m 346 #[.val (.int u0), .val (.int u1), .val (.int u2), .val (.int u3), .val (.int u4), .val (.int u5), .val (.ref b1), .val (.int (j0_46 u0 u1 u2)), .val (.ref b13), .val (.int (1 : Int32)), .val (.int ff), .val (.int ll), .val (.int tt), .val (.int rr), .val (.ref b25), .val (.int ((ff + (1 : Int32)) + (1 : Int32))), .val (.long (z_1.toInt64)), .second] [(.long (z_2.toInt64))])) _
          refine XS.lstore X50.here hx rfl (hb hby at_346) rfl (l' := #[.val (.int u0), .val (.int u1), .val (.int u2), .val (.int u3), .val (.int u4), .val (.int u5), .val (.ref b1), .val (.int (j0_46 u0 u1 u2)), .val (.ref b13), .val (.int (1 : Int32)), .val (.int ff), .val (.int ll), .val (.int tt), .val (.int rr), .val (.ref b25), .val (.int ((ff + (1 : Int32)) + (1 : Int32))), .val (.long (z_2.toInt64)), .second]) rfl ?_
          show Steps p.tables e below (T50.setTop (mkF m 348 #[.val (.int u0), .val (.int u1), .val (.int u2), .val (.int u3), .val (.int u4), .val (.int u5), .val (.ref b1), .val (.int (j0_46 u0 u1 u2)), .val (.ref b13), .val (.int (1 : Int32)), .val (.int ff), .val (.int ll), .val (.int tt), .val (.int rr), .val (.ref b25), .val (.int ((ff + (1 : Int32)) + (1 : Int32))), .val (.long (z_2.toInt64)), .second] [])) _
          refine XS.iload X50.here hx rfl (hb hby at_348) rfl ?_
          show Steps p.tables e below (T50.setTop (mkF m 350 #[.val (.int u0), .val (.int u1), .val (.int u2), .val (.int u3), .val (.int u4), .val (.int u5), .val (.ref b1), .val (.int (j0_46 u0 u1 u2)), .val (.ref b13), .val (.int (1 : Int32)), .val (.int ff), .val (.int ll), .val (.int tt), .val (.int rr), .val (.ref b25), .val (.int ((ff + (1 : Int32)) + (1 : Int32))), .val (.long (z_2.toInt64)), .second] [(.int (1 : Int32))])) _
          refine XS.ifNo X50.here hx rfl (hb hby at_350) rfl ((if0 _ _).trans (feq (by decide : ¬ ((1 : Int32) = (0 : Int32)))).1) ?_
          show Steps p.tables e below (T50.setTop (mkF m 353 #[.val (.int u0), .val (.int u1), .val (.int u2), .val (.int u3), .val (.int u4), .val (.int u5), .val (.ref b1), .val (.int (j0_46 u0 u1 u2)), .val (.ref b13), .val (.int (1 : Int32)), .val (.int ff), .val (.int ll), .val (.int tt), .val (.int rr), .val (.ref b25), .val (.int ((ff + (1 : Int32)) + (1 : Int32))), .val (.long (z_2.toInt64)), .second] [])) _
          refine XS.lload X50.here hx rfl (hb hby at_353) rfl ?_
          show Steps p.tables e below (T50.setTop (mkF m 355 #[.val (.int u0), .val (.int u1), .val (.int u2), .val (.int u3), .val (.int u4), .val (.int u5), .val (.ref b1), .val (.int (j0_46 u0 u1 u2)), .val (.ref b13), .val (.int (1 : Int32)), .val (.int ff), .val (.int ll), .val (.int tt), .val (.int rr), .val (.ref b25), .val (.int ((ff + (1 : Int32)) + (1 : Int32))), .val (.long (z_2.toInt64)), .second] [(.long (z_2.toInt64))])) _
          refine XS.aload X50.here hx rfl (hb hby at_355) rfl rfl ?_
          show Steps p.tables e below (T50.setTop (mkF m 357 #[.val (.int u0), .val (.int u1), .val (.int u2), .val (.int u3), .val (.int u4), .val (.int u5), .val (.ref b1), .val (.int (j0_46 u0 u1 u2)), .val (.ref b13), .val (.int (1 : Int32)), .val (.int ff), .val (.int ll), .val (.int tt), .val (.int rr), .val (.ref b25), .val (.int ((ff + (1 : Int32)) + (1 : Int32))), .val (.long (z_2.toInt64)), .second] [(.ref b1), (.long (z_2.toInt64))])) _
          refine XS.iload X50.here hx rfl (hb hby at_357) rfl ?_
          show Steps p.tables e below (T50.setTop (mkF m 359 #[.val (.int u0), .val (.int u1), .val (.int u2), .val (.int u3), .val (.int u4), .val (.int u5), .val (.ref b1), .val (.int (j0_46 u0 u1 u2)), .val (.ref b13), .val (.int (1 : Int32)), .val (.int ff), .val (.int ll), .val (.int tt), .val (.int rr), .val (.ref b25), .val (.int ((ff + (1 : Int32)) + (1 : Int32))), .val (.long (z_2.toInt64)), .second] [(.int ((ff + (1 : Int32)) + (1 : Int32))), (.ref b1), (.long (z_2.toInt64))])) _
          refine X50.baloadBytes hx (j := ((ff + (1 : Int32)) + (1 : Int32))) (v := (.int z_2)) Ar52.1 (State.isArrayOf_alike hZ.alike Ar52.2.1) Ar52.2.2 hin52 hat52 (g := (mkF m 359 #[.val (.int u0), .val (.int u1), .val (.int u2), .val (.int u3), .val (.int u4), .val (.int u5), .val (.ref b1), .val (.int (j0_46 u0 u1 u2)), .val (.ref b13), .val (.int (1 : Int32)), .val (.int ff), .val (.int ll), .val (.int tt), .val (.int rr), .val (.ref b25), .val (.int ((ff + (1 : Int32)) + (1 : Int32))), .val (.long (z_2.toInt64)), .second] [(.int ((ff + (1 : Int32)) + (1 : Int32))), (.ref b1), (.long (z_2.toInt64))])) rfl rfl (hb hby at_359) _ ?_
          show Steps p.tables e below (T50.setTop (mkF m 360 #[.val (.int u0), .val (.int u1), .val (.int u2), .val (.int u3), .val (.int u4), .val (.int u5), .val (.ref b1), .val (.int (j0_46 u0 u1 u2)), .val (.ref b13), .val (.int (1 : Int32)), .val (.int ff), .val (.int ll), .val (.int tt), .val (.int rr), .val (.ref b25), .val (.int ((ff + (1 : Int32)) + (1 : Int32))), .val (.long (z_2.toInt64)), .second] [(.int z_2), (.long (z_2.toInt64))])) _
          refine XS.i2l X50.here hx rfl (hb hby at_360) rfl ?_
          show Steps p.tables e below (T50.setTop (mkF m 361 #[.val (.int u0), .val (.int u1), .val (.int u2), .val (.int u3), .val (.int u4), .val (.int u5), .val (.ref b1), .val (.int (j0_46 u0 u1 u2)), .val (.ref b13), .val (.int (1 : Int32)), .val (.int ff), .val (.int ll), .val (.int tt), .val (.int rr), .val (.ref b25), .val (.int ((ff + (1 : Int32)) + (1 : Int32))), .val (.long (z_2.toInt64)), .second] [(.long (z_2.toInt64)), (.long (z_2.toInt64))])) _
          refine XS.lcmp X50.here hx rfl (hb hby at_361) rfl ?_
          show Steps p.tables e below (T50.setTop (mkF m 362 #[.val (.int u0), .val (.int u1), .val (.int u2), .val (.int u3), .val (.int u4), .val (.int u5), .val (.ref b1), .val (.int (j0_46 u0 u1 u2)), .val (.ref b13), .val (.int (1 : Int32)), .val (.int ff), .val (.int ll), .val (.int tt), .val (.int rr), .val (.ref b25), .val (.int ((ff + (1 : Int32)) + (1 : Int32))), .val (.long (z_2.toInt64)), .second] [(.int (lcmpW (z_2.toInt64) (z_2.toInt64)))])) _
          refine XS.ifNo X50.here hx rfl (hb hby at_362) rfl ((if0 _ _).trans (teq ((lw_eq _ _).mpr rfl)).2) ?_
          show Steps p.tables e below (T50.setTop (mkF m 365 #[.val (.int u0), .val (.int u1), .val (.int u2), .val (.int u3), .val (.int u4), .val (.int u5), .val (.ref b1), .val (.int (j0_46 u0 u1 u2)), .val (.ref b13), .val (.int (1 : Int32)), .val (.int ff), .val (.int ll), .val (.int tt), .val (.int rr), .val (.ref b25), .val (.int ((ff + (1 : Int32)) + (1 : Int32))), .val (.long (z_2.toInt64)), .second] [])) _
          refine XS.iconst X50.here hx rfl (hb hby at_365) ?_
          show Steps p.tables e below (T50.setTop (mkF m 366 #[.val (.int u0), .val (.int u1), .val (.int u2), .val (.int u3), .val (.int u4), .val (.int u5), .val (.ref b1), .val (.int (j0_46 u0 u1 u2)), .val (.ref b13), .val (.int (1 : Int32)), .val (.int ff), .val (.int ll), .val (.int tt), .val (.int rr), .val (.ref b25), .val (.int ((ff + (1 : Int32)) + (1 : Int32))), .val (.long (z_2.toInt64)), .second] [(.int (1 : Int32))])) _
          refine XS.goto X50.here hx rfl (pc0 := 366) (pc' := 370) rfl (hb hby at_366) (by decide) (by decide) ?_
          show Steps p.tables e below (T50.setTop (mkF m 370 #[.val (.int u0), .val (.int u1), .val (.int u2), .val (.int u3), .val (.int u4), .val (.int u5), .val (.ref b1), .val (.int (j0_46 u0 u1 u2)), .val (.ref b13), .val (.int (1 : Int32)), .val (.int ff), .val (.int ll), .val (.int tt), .val (.int rr), .val (.ref b25), .val (.int ((ff + (1 : Int32)) + (1 : Int32))), .val (.long (z_2.toInt64)), .second] [(.int (1 : Int32))])) _
          refine XS.istore X50.here hx rfl (hb hby at_370) rfl (l' := #[.val (.int u0), .val (.int u1), .val (.int u2), .val (.int u3), .val (.int u4), .val (.int u5), .val (.ref b1), .val (.int (j0_46 u0 u1 u2)), .val (.ref b13), .val (.int (1 : Int32)), .val (.int ff), .val (.int ll), .val (.int tt), .val (.int rr), .val (.ref b25), .val (.int ((ff + (1 : Int32)) + (1 : Int32))), .val (.long (z_2.toInt64)), .second]) rfl ?_
          show Steps p.tables e below (T50.setTop (mkF m 372 #[.val (.int u0), .val (.int u1), .val (.int u2), .val (.int u3), .val (.int u4), .val (.int u5), .val (.ref b1), .val (.int (j0_46 u0 u1 u2)), .val (.ref b13), .val (.int (1 : Int32)), .val (.int ff), .val (.int ll), .val (.int tt), .val (.int rr), .val (.ref b25), .val (.int ((ff + (1 : Int32)) + (1 : Int32))), .val (.long (z_2.toInt64)), .second] [])) _
          refine XS.iload X50.here hx rfl (hb hby at_372) rfl ?_
          show Steps p.tables e below (T50.setTop (mkF m 374 #[.val (.int u0), .val (.int u1), .val (.int u2), .val (.int u3), .val (.int u4), .val (.int u5), .val (.ref b1), .val (.int (j0_46 u0 u1 u2)), .val (.ref b13), .val (.int (1 : Int32)), .val (.int ff), .val (.int ll), .val (.int tt), .val (.int rr), .val (.ref b25), .val (.int ((ff + (1 : Int32)) + (1 : Int32))), .val (.long (z_2.toInt64)), .second] [(.int ((ff + (1 : Int32)) + (1 : Int32)))])) _
          refine XS.iconst X50.here hx rfl (hb hby at_374) ?_
          show Steps p.tables e below (T50.setTop (mkF m 375 #[.val (.int u0), .val (.int u1), .val (.int u2), .val (.int u3), .val (.int u4), .val (.int u5), .val (.ref b1), .val (.int (j0_46 u0 u1 u2)), .val (.ref b13), .val (.int (1 : Int32)), .val (.int ff), .val (.int ll), .val (.int tt), .val (.int rr), .val (.ref b25), .val (.int ((ff + (1 : Int32)) + (1 : Int32))), .val (.long (z_2.toInt64)), .second] [(.int (1 : Int32)), (.int ((ff + (1 : Int32)) + (1 : Int32)))])) _
          refine XS.iadd X50.here hx rfl (hb hby at_375) rfl ?_
          show Steps p.tables e below (T50.setTop (mkF m 376 #[.val (.int u0), .val (.int u1), .val (.int u2), .val (.int u3), .val (.int u4), .val (.int u5), .val (.ref b1), .val (.int (j0_46 u0 u1 u2)), .val (.ref b13), .val (.int (1 : Int32)), .val (.int ff), .val (.int ll), .val (.int tt), .val (.int rr), .val (.ref b25), .val (.int ((ff + (1 : Int32)) + (1 : Int32))), .val (.long (z_2.toInt64)), .second] [(.int (((ff + (1 : Int32)) + (1 : Int32)) + (1 : Int32)))])) _
          refine XS.istore X50.here hx rfl (hb hby at_376) rfl (l' := #[.val (.int u0), .val (.int u1), .val (.int u2), .val (.int u3), .val (.int u4), .val (.int u5), .val (.ref b1), .val (.int (j0_46 u0 u1 u2)), .val (.ref b13), .val (.int (1 : Int32)), .val (.int ff), .val (.int ll), .val (.int tt), .val (.int rr), .val (.ref b25), .val (.int (((ff + (1 : Int32)) + (1 : Int32)) + (1 : Int32))), .val (.long (z_2.toInt64)), .second]) rfl ?_
          show Steps p.tables e below (T50.setTop (mkF m 378 #[.val (.int u0), .val (.int u1), .val (.int u2), .val (.int u3), .val (.int u4), .val (.int u5), .val (.ref b1), .val (.int (j0_46 u0 u1 u2)), .val (.ref b13), .val (.int (1 : Int32)), .val (.int ff), .val (.int ll), .val (.int tt), .val (.int rr), .val (.ref b25), .val (.int (((ff + (1 : Int32)) + (1 : Int32)) + (1 : Int32))), .val (.long (z_2.toInt64)), .second] [])) _
          refine XS.iload X50.here hx rfl (hb hby at_378) rfl ?_
          show Steps p.tables e below (T50.setTop (mkF m 380 #[.val (.int u0), .val (.int u1), .val (.int u2), .val (.int u3), .val (.int u4), .val (.int u5), .val (.ref b1), .val (.int (j0_46 u0 u1 u2)), .val (.ref b13), .val (.int (1 : Int32)), .val (.int ff), .val (.int ll), .val (.int tt), .val (.int rr), .val (.ref b25), .val (.int (((ff + (1 : Int32)) + (1 : Int32)) + (1 : Int32))), .val (.long (z_2.toInt64)), .second] [(.int (1 : Int32))])) _
          refine XS.ifNo X50.here hx rfl (hb hby at_380) rfl ((if0 _ _).trans (feq (by decide : ¬ ((1 : Int32) = (0 : Int32)))).1) ?_
          show Steps p.tables e below (T50.setTop (mkF m 383 #[.val (.int u0), .val (.int u1), .val (.int u2), .val (.int u3), .val (.int u4), .val (.int u5), .val (.ref b1), .val (.int (j0_46 u0 u1 u2)), .val (.ref b13), .val (.int (1 : Int32)), .val (.int ff), .val (.int ll), .val (.int tt), .val (.int rr), .val (.ref b25), .val (.int (((ff + (1 : Int32)) + (1 : Int32)) + (1 : Int32))), .val (.long (z_2.toInt64)), .second] [])) _
          refine XS.aload X50.here hx rfl (hb hby at_383) rfl rfl ?_
          show Steps p.tables e below (T50.setTop (mkF m 385 #[.val (.int u0), .val (.int u1), .val (.int u2), .val (.int u3), .val (.int u4), .val (.int u5), .val (.ref b1), .val (.int (j0_46 u0 u1 u2)), .val (.ref b13), .val (.int (1 : Int32)), .val (.int ff), .val (.int ll), .val (.int tt), .val (.int rr), .val (.ref b25), .val (.int (((ff + (1 : Int32)) + (1 : Int32)) + (1 : Int32))), .val (.long (z_2.toInt64)), .second] [(.ref b25)])) _
          refine st53.trans ?_
          exact k)
        have pre55 : ∀ t, Steps p.tables e below (T53.setTop (mkF m 400 #[.val (.int u0), .val (.int u1), .val (.int u2), .val (.int u3), .val (.int u4), .val (.int u5), .val (.ref b1), .val (.int (j0_46 u0 u1 u2)), .val (.ref b13), .val (.int (1 : Int32)), .val (.int ff), .val (.int ll), .val (.int tt), .val (.int rr), .val (.ref b25), .val (.int (((ff + (1 : Int32)) + (1 : Int32)) + (1 : Int32))), .val (.long (z_2.toInt64)), .second] [(.int (j0_388 ff tt)), (.int (f3 (((ff + (1 : Int32)) + (1 : Int32)) + (1 : Int32)) tt))])) t → Steps p.tables e below (s₁.setTop (entryFrame m #[(.int u0), (.int u1), (.int u2), (.int u3), (.int u4), (.int u5)] maxLocals)) t := by
          have pre56 : ∀ t, Steps p.tables e below (T53.setTop (mkF m 392 #[.val (.int u0), .val (.int u1), .val (.int u2), .val (.int u3), .val (.int u4), .val (.int u5), .val (.ref b1), .val (.int (j0_46 u0 u1 u2)), .val (.ref b13), .val (.int (1 : Int32)), .val (.int ff), .val (.int ll), .val (.int tt), .val (.int rr), .val (.ref b25), .val (.int (((ff + (1 : Int32)) + (1 : Int32)) + (1 : Int32))), .val (.long (z_2.toInt64)), .second] [(.int tt), (.int (((ff + (1 : Int32)) + (1 : Int32)) + (1 : Int32))), (.int (f3 (((ff + (1 : Int32)) + (1 : Int32)) + (1 : Int32)) tt))])) t → Steps p.tables e below (s₁.setTop (entryFrame m #[(.int u0), (.int u1), (.int u2), (.int u3), (.int u4), (.int u5)] maxLocals)) t := fun t k => pre54 t (by
            show Steps p.tables e below (T53.setTop (mkF m 388 #[.val (.int u0), .val (.int u1), .val (.int u2), .val (.int u3), .val (.int u4), .val (.int u5), .val (.ref b1), .val (.int (j0_46 u0 u1 u2)), .val (.ref b13), .val (.int (1 : Int32)), .val (.int ff), .val (.int ll), .val (.int tt), .val (.int rr), .val (.ref b25), .val (.int (((ff + (1 : Int32)) + (1 : Int32)) + (1 : Int32))), .val (.long (z_2.toInt64)), .second] [(.int (f3 (((ff + (1 : Int32)) + (1 : Int32)) + (1 : Int32)) tt))])) _
            refine XS.iload X53.here hx rfl (hb hby at_388) rfl ?_
            show Steps p.tables e below (T53.setTop (mkF m 390 #[.val (.int u0), .val (.int u1), .val (.int u2), .val (.int u3), .val (.int u4), .val (.int u5), .val (.ref b1), .val (.int (j0_46 u0 u1 u2)), .val (.ref b13), .val (.int (1 : Int32)), .val (.int ff), .val (.int ll), .val (.int tt), .val (.int rr), .val (.ref b25), .val (.int (((ff + (1 : Int32)) + (1 : Int32)) + (1 : Int32))), .val (.long (z_2.toInt64)), .second] [(.int (((ff + (1 : Int32)) + (1 : Int32)) + (1 : Int32))), (.int (f3 (((ff + (1 : Int32)) + (1 : Int32)) + (1 : Int32)) tt))])) _
            refine XS.iload X53.here hx rfl (hb hby at_390) rfl ?_
            exact k)
          by_cases hc392 : (((ff + (1 : Int32)) + (1 : Int32)) + (1 : Int32)) = tt
          · -- pc 392: (((ff + (1 : Int32)) + (1 : Int32)) + (1 : Int32)) = tt
            intro t k
            have qS0 : (j0_388 ff tt) = (1 : Int32) := (if_pos hc392).trans (rfl)
            rw [qS0] at k
            refine pre56 t ?_
            show Steps p.tables e below (T53.setTop (mkF m 392 #[.val (.int u0), .val (.int u1), .val (.int u2), .val (.int u3), .val (.int u4), .val (.int u5), .val (.ref b1), .val (.int (j0_46 u0 u1 u2)), .val (.ref b13), .val (.int (1 : Int32)), .val (.int ff), .val (.int ll), .val (.int tt), .val (.int rr), .val (.ref b25), .val (.int (((ff + (1 : Int32)) + (1 : Int32)) + (1 : Int32))), .val (.long (z_2.toInt64)), .second] [(.int tt), (.int (((ff + (1 : Int32)) + (1 : Int32)) + (1 : Int32))), (.int (f3 (((ff + (1 : Int32)) + (1 : Int32)) + (1 : Int32)) tt))])) _
            refine XS.icmpNo X53.here hx rfl (hb hby at_392) rfl (teq hc392).2 ?_
            show Steps p.tables e below (T53.setTop (mkF m 395 #[.val (.int u0), .val (.int u1), .val (.int u2), .val (.int u3), .val (.int u4), .val (.int u5), .val (.ref b1), .val (.int (j0_46 u0 u1 u2)), .val (.ref b13), .val (.int (1 : Int32)), .val (.int ff), .val (.int ll), .val (.int tt), .val (.int rr), .val (.ref b25), .val (.int (((ff + (1 : Int32)) + (1 : Int32)) + (1 : Int32))), .val (.long (z_2.toInt64)), .second] [(.int (f3 (((ff + (1 : Int32)) + (1 : Int32)) + (1 : Int32)) tt))])) _
            refine XS.iconst X53.here hx rfl (hb hby at_395) ?_
            show Steps p.tables e below (T53.setTop (mkF m 396 #[.val (.int u0), .val (.int u1), .val (.int u2), .val (.int u3), .val (.int u4), .val (.int u5), .val (.ref b1), .val (.int (j0_46 u0 u1 u2)), .val (.ref b13), .val (.int (1 : Int32)), .val (.int ff), .val (.int ll), .val (.int tt), .val (.int rr), .val (.ref b25), .val (.int (((ff + (1 : Int32)) + (1 : Int32)) + (1 : Int32))), .val (.long (z_2.toInt64)), .second] [(.int (1 : Int32)), (.int (f3 (((ff + (1 : Int32)) + (1 : Int32)) + (1 : Int32)) tt))])) _
            refine XS.goto X53.here hx rfl (pc0 := 396) (pc' := 400) rfl (hb hby at_396) (by decide) (by decide) ?_
            exact k
          · -- pc 392: not (((ff + (1 : Int32)) + (1 : Int32)) + (1 : Int32)) = tt
            intro t k
            have qS0 : (j0_388 ff tt) = (0 : Int32) := (if_neg hc392).trans (rfl)
            rw [qS0] at k
            refine pre56 t ?_
            show Steps p.tables e below (T53.setTop (mkF m 392 #[.val (.int u0), .val (.int u1), .val (.int u2), .val (.int u3), .val (.int u4), .val (.int u5), .val (.ref b1), .val (.int (j0_46 u0 u1 u2)), .val (.ref b13), .val (.int (1 : Int32)), .val (.int ff), .val (.int ll), .val (.int tt), .val (.int rr), .val (.ref b25), .val (.int (((ff + (1 : Int32)) + (1 : Int32)) + (1 : Int32))), .val (.long (z_2.toInt64)), .second] [(.int tt), (.int (((ff + (1 : Int32)) + (1 : Int32)) + (1 : Int32))), (.int (f3 (((ff + (1 : Int32)) + (1 : Int32)) + (1 : Int32)) tt))])) _
            refine XS.icmpYes X53.here hx rfl (pc0 := 392) (pc' := 399) rfl (hb hby at_392) rfl (feq hc392).2 (by decide) (by decide) ?_
            show Steps p.tables e below (T53.setTop (mkF m 399 #[.val (.int u0), .val (.int u1), .val (.int u2), .val (.int u3), .val (.int u4), .val (.int u5), .val (.ref b1), .val (.int (j0_46 u0 u1 u2)), .val (.ref b13), .val (.int (1 : Int32)), .val (.int ff), .val (.int ll), .val (.int tt), .val (.int rr), .val (.ref b25), .val (.int (((ff + (1 : Int32)) + (1 : Int32)) + (1 : Int32))), .val (.long (z_2.toInt64)), .second] [(.int (f3 (((ff + (1 : Int32)) + (1 : Int32)) + (1 : Int32)) tt))])) _
            refine XS.iconst X53.here hx rfl (hb hby at_399) ?_
            exact k
        have pre57 : ∀ t, Steps p.tables e below (T53.setTop (mkF m 413 #[.val (.int u0), .val (.int u1), .val (.int u2), .val (.int u3), .val (.int u4), .val (.int u5), .val (.ref b1), .val (.int (j0_46 u0 u1 u2)), .val (.ref b13), .val (.int (1 : Int32)), .val (.int ff), .val (.int ll), .val (.int tt), .val (.int rr), .val (.ref b25), .val (.int (((ff + (1 : Int32)) + (1 : Int32)) + (1 : Int32))), .val (.long (z_2.toInt64)), .second] [(.int (4 : Int32)), (.int rr)])) t → Steps p.tables e below (s₁.setTop (entryFrame m #[(.int u0), (.int u1), (.int u2), (.int u3), (.int u4), (.int u5)] maxLocals)) t := fun t k => pre55 t (by
          show Steps p.tables e below (T53.setTop (mkF m 400 #[.val (.int u0), .val (.int u1), .val (.int u2), .val (.int u3), .val (.int u4), .val (.int u5), .val (.ref b1), .val (.int (j0_46 u0 u1 u2)), .val (.ref b13), .val (.int (1 : Int32)), .val (.int ff), .val (.int ll), .val (.int tt), .val (.int rr), .val (.ref b25), .val (.int (((ff + (1 : Int32)) + (1 : Int32)) + (1 : Int32))), .val (.long (z_2.toInt64)), .second] [(.int (j0_388 ff tt)), (.int (f3 (((ff + (1 : Int32)) + (1 : Int32)) + (1 : Int32)) tt))])) _
          refine XS.icmpNo X53.here hx rfl (hb hby at_400) rfl (teq (rfl : (f3 (((ff + (1 : Int32)) + (1 : Int32)) + (1 : Int32)) tt) = (j0_388 ff tt))).2 ?_
          show Steps p.tables e below (T53.setTop (mkF m 403 #[.val (.int u0), .val (.int u1), .val (.int u2), .val (.int u3), .val (.int u4), .val (.int u5), .val (.ref b1), .val (.int (j0_46 u0 u1 u2)), .val (.ref b13), .val (.int (1 : Int32)), .val (.int ff), .val (.int ll), .val (.int tt), .val (.int rr), .val (.ref b25), .val (.int (((ff + (1 : Int32)) + (1 : Int32)) + (1 : Int32))), .val (.long (z_2.toInt64)), .second] [])) _
          refine XS.iconst X53.here hx rfl (hb hby at_403) ?_
          show Steps p.tables e below (T53.setTop (mkF m 404 #[.val (.int u0), .val (.int u1), .val (.int u2), .val (.int u3), .val (.int u4), .val (.int u5), .val (.ref b1), .val (.int (j0_46 u0 u1 u2)), .val (.ref b13), .val (.int (1 : Int32)), .val (.int ff), .val (.int ll), .val (.int tt), .val (.int rr), .val (.ref b25), .val (.int (((ff + (1 : Int32)) + (1 : Int32)) + (1 : Int32))), .val (.long (z_2.toInt64)), .second] [(.int (1 : Int32))])) _
          refine XS.goto X53.here hx rfl (pc0 := 404) (pc' := 408) rfl (hb hby at_404) (by decide) (by decide) ?_
          show Steps p.tables e below (T53.setTop (mkF m 408 #[.val (.int u0), .val (.int u1), .val (.int u2), .val (.int u3), .val (.int u4), .val (.int u5), .val (.ref b1), .val (.int (j0_46 u0 u1 u2)), .val (.ref b13), .val (.int (1 : Int32)), .val (.int ff), .val (.int ll), .val (.int tt), .val (.int rr), .val (.ref b25), .val (.int (((ff + (1 : Int32)) + (1 : Int32)) + (1 : Int32))), .val (.long (z_2.toInt64)), .second] [(.int (1 : Int32))])) _
          refine XS.istore X53.here hx rfl (hb hby at_408) rfl (l' := #[.val (.int u0), .val (.int u1), .val (.int u2), .val (.int u3), .val (.int u4), .val (.int u5), .val (.ref b1), .val (.int (j0_46 u0 u1 u2)), .val (.ref b13), .val (.int (1 : Int32)), .val (.int ff), .val (.int ll), .val (.int tt), .val (.int rr), .val (.ref b25), .val (.int (((ff + (1 : Int32)) + (1 : Int32)) + (1 : Int32))), .val (.long (z_2.toInt64)), .second]) rfl ?_
          show Steps p.tables e below (T53.setTop (mkF m 410 #[.val (.int u0), .val (.int u1), .val (.int u2), .val (.int u3), .val (.int u4), .val (.int u5), .val (.ref b1), .val (.int (j0_46 u0 u1 u2)), .val (.ref b13), .val (.int (1 : Int32)), .val (.int ff), .val (.int ll), .val (.int tt), .val (.int rr), .val (.ref b25), .val (.int (((ff + (1 : Int32)) + (1 : Int32)) + (1 : Int32))), .val (.long (z_2.toInt64)), .second] [])) _
          refine XS.iload X53.here hx rfl (hb hby at_410) rfl ?_
          show Steps p.tables e below (T53.setTop (mkF m 412 #[.val (.int u0), .val (.int u1), .val (.int u2), .val (.int u3), .val (.int u4), .val (.int u5), .val (.ref b1), .val (.int (j0_46 u0 u1 u2)), .val (.ref b13), .val (.int (1 : Int32)), .val (.int ff), .val (.int ll), .val (.int tt), .val (.int rr), .val (.ref b25), .val (.int (((ff + (1 : Int32)) + (1 : Int32)) + (1 : Int32))), .val (.long (z_2.toInt64)), .second] [(.int rr)])) _
          refine XS.iconst X53.here hx rfl (hb hby at_412) ?_
          exact k)
        by_cases hc413 : rr < (4 : Int32)
        · -- pc 413: rr < (4 : Int32)
          obtain ⟨fs, hr, hrun, hended, hW, hsame⟩ := X53.leave (v := (some (.int (1 : Int32)))) (fun h => by rw [Bd.returns] at h; cases h)
          refine ⟨_, _, pre57 _ ?_, hrun, hended, _, _, rfl, ?_, ⟨_, rfl⟩, hW, hsame.mono (by decide) (by decide)⟩
          · show Steps p.tables e below (T53.setTop (mkF m 413 #[.val (.int u0), .val (.int u1), .val (.int u2), .val (.int u3), .val (.int u4), .val (.int u5), .val (.ref b1), .val (.int (j0_46 u0 u1 u2)), .val (.ref b13), .val (.int (1 : Int32)), .val (.int ff), .val (.int ll), .val (.int tt), .val (.int rr), .val (.ref b25), .val (.int (((ff + (1 : Int32)) + (1 : Int32)) + (1 : Int32))), .val (.long (z_2.toInt64)), .second] [(.int (4 : Int32)), (.int rr)])) _
            refine XS.icmpYes X53.here hx rfl (pc0 := 413) (pc' := 485) rfl (hb hby at_413) rfl (tlt hc413).1 (by decide) (by decide) ?_
            show Steps p.tables e below (T53.setTop (mkF m 485 #[.val (.int u0), .val (.int u1), .val (.int u2), .val (.int u3), .val (.int u4), .val (.int u5), .val (.ref b1), .val (.int (j0_46 u0 u1 u2)), .val (.ref b13), .val (.int (1 : Int32)), .val (.int ff), .val (.int ll), .val (.int tt), .val (.int rr), .val (.ref b25), .val (.int (((ff + (1 : Int32)) + (1 : Int32)) + (1 : Int32))), .val (.long (z_2.toInt64)), .second] [])) _
            refine XS.iload X53.here hx rfl (hb hby at_485) rfl ?_
            show Steps p.tables e below (T53.setTop (mkF m 487 #[.val (.int u0), .val (.int u1), .val (.int u2), .val (.int u3), .val (.int u4), .val (.int u5), .val (.ref b1), .val (.int (j0_46 u0 u1 u2)), .val (.ref b13), .val (.int (1 : Int32)), .val (.int ff), .val (.int ll), .val (.int tt), .val (.int rr), .val (.ref b25), .val (.int (((ff + (1 : Int32)) + (1 : Int32)) + (1 : Int32))), .val (.long (z_2.toInt64)), .second] [(.int (1 : Int32))])) _
            exact retN X53 hx (t := .boolean) Bd.returns (by simp) (hb hby at_487) hr
          · show QL n0 _ T53.heap _
            rw [e53]
            exact ⟨rfl, N53⟩
        · -- pc 413: not rr < (4 : Int32)
          obtain ⟨_, z_3, -, -, -, -, hval_3⟩ := own_elem V_b1_51 (by simp) (j := (((ff + (1 : Int32)) + (1 : Int32)) + (1 : Int32))) (own_in3 rff rll rtt rrr hc413)
          have rz_3 := own_vs (own_b7 _) (own_b7 _) (own_b7 _) (own_b7 _) _ hval_3
          obtain ⟨cq58, kq58, q58a, q58b, q58c⟩ := isOf hZ e53 E_r50
          obtain ⟨_, _, ⟨T58, L58, k58, n58⟩, -, X58, ⟨Lc58, hQ58, l58, y58, z58⟩, st58⟩ := X53.virtualBack hx (y := (⟨"com/example/scorpus/scorpus/engine/ByteReader", "readNumber", "()J"⟩ : MethodName)) (z := (⟨"com/example/scorpus/scorpus/engine/ByteReader", "readNumber", "()J"⟩ : MethodName)) hown (mvT hZ (hw _ (List.mem_of_getElem? (i := 22) rfl))) (mvT hZ (hw _ (List.mem_of_getElem? (i := 23) rfl))) (notFace_of_selects (args := #[]) (mvT hZ (hw _ (List.mem_of_getElem? (i := 25) rfl)))) (mvT hZ (hw _ (List.mem_of_getElem? (i := 25) rfl))) (mvT hZ (hw _ (List.mem_of_getElem? (i := 24) rfl))) (by decide) (backOf (W := 0) (rm4 l Z a0 hw [] b25 b1 k1 (4 : Int32) [(.int (nar .byte ((u3 &&& (127 : Int32)).toInt8.toInt32))), (.int (nar .byte ((u4 &&& (127 : Int32)).toInt8.toInt32))), (.int (nar .byte ((u5 &&& (127 : Int32)).toInt8.toInt32))), (.int (nar .byte ((((u3.toUInt32 >>> ((8 : Int32) &&& 31).toUInt32).toInt32) &&& (127 : Int32)).toInt8.toInt32)))] (((ff + (1 : Int32)) + (1 : Int32)) + (1 : Int32)) tt z_3 T50.heap n0 (Nat.le_trans Z0 K50.1) E_r50 F_bytes50 F_position50 F_end50 g_b25 V_b1_51 ne_b1_b25 (own_ne3 rff rll rtt rrr hc413) (own_in3 rff rll rtt rrr hc413) hval_3 rz_3.1 rz_3.2) hZ (hw _ (List.mem_of_getElem? (i := 26) rfl)) (hw _ (List.mem_of_getElem? (i := 3) rfl)) (by decide) (by decide)) q58a q58c (g := (mkF m 418 #[.val (.int u0), .val (.int u1), .val (.int u2), .val (.int u3), .val (.int u4), .val (.int u5), .val (.ref b1), .val (.int (j0_46 u0 u1 u2)), .val (.ref b13), .val (.int (1 : Int32)), .val (.int ff), .val (.int ll), .val (.int tt), .val (.int rr), .val (.ref b25), .val (.int (((ff + (1 : Int32)) + (1 : Int32)) + (1 : Int32))), .val (.long (z_2.toInt64)), .second] [(.ref b25)])) rfl (by rw [hml]; rfl) (Steps.refl _) (argsL := []) (rest := []) (lenOf pd_3 rfl) rfl (by show 2 * 0 + _ ≤ _; exact Nat.le_of_eq rfl) (hb hby at_418) (fun _ _ => ⟨rfl, e53, (by decide : 3 + 0 ≤ _), (by decide : 10 + 0 ≤ _)⟩)
          dsimp only [Pt.U, Pt.locs, Pt.cells, Pt.slots] at X58 l58 y58 z58 st58 hQ58
          subst l58 y58 z58
          obtain ⟨rfl, N58q, K58q, E_r58, F_bytes58, F_position58, F_end58⟩ := hQ58
          have N58 := Fr.app N53 N58q
          have K58 : Keep h0 T58.heap [] := K50.trans K58q (allS (Or.inr sz_b25) all0)
          have V_b1_59 := V_b1_51.keep K58q (ninS ne_b1_b25 nin0)
          obtain ⟨c60, Ar60, hin60, hat60, hfit60⟩ := own_elemV V_b1_59 (j := (((ff + (1 : Int32)) + (1 : Int32)) + (1 : Int32))) (own_in3 rff rll rtt rrr hc413) hval_3
          obtain ⟨cq61, kq61, q61a, q61b, q61c⟩ := isOf hZ rfl E_r58
          obtain ⟨_, _, ⟨T61, L61, k61, n61⟩, -, X61, ⟨Lc61, hQ61, l61, y61, z61⟩, st61⟩ := X58.virtualBack hx (y := (⟨"com/example/scorpus/scorpus/engine/ByteReader", "atEnd", "()Z"⟩ : MethodName)) (z := (⟨"com/example/scorpus/scorpus/engine/ByteReader", "atEnd", "()Z"⟩ : MethodName)) hown (mvT hZ (hw _ (List.mem_of_getElem? (i := 16) rfl))) (mvT hZ (hw _ (List.mem_of_getElem? (i := 17) rfl))) (notFace_of_selects (args := #[]) (mvT hZ (hw _ (List.mem_of_getElem? (i := 19) rfl)))) (mvT hZ (hw _ (List.mem_of_getElem? (i := 19) rfl))) (mvT hZ (hw _ (List.mem_of_getElem? (i := 18) rfl))) (by decide) (backOf (W := 0) (rm3 l Z a0 hw [] b25 ((((ff + (1 : Int32)) + (1 : Int32)) + (1 : Int32)) + (1 : Int32)) tt T58.heap n0 (Nat.le_trans Z0 K58.1) F_position58 F_end58) hZ (hw _ (List.mem_of_getElem? (i := 20) rfl)) (hw _ (List.mem_of_getElem? (i := 3) rfl)) (by decide) (by decide)) q61a q61c (g := (mkF m 460 #[.val (.int u0), .val (.int u1), .val (.int u2), .val (.int u3), .val (.int u4), .val (.int u5), .val (.ref b1), .val (.int (j0_46 u0 u1 u2)), .val (.ref b13), .val (.int (1 : Int32)), .val (.int ff), .val (.int ll), .val (.int tt), .val (.int rr), .val (.ref b25), .val (.int ((((ff + (1 : Int32)) + (1 : Int32)) + (1 : Int32)) + (1 : Int32))), .val (.long (z_3.toInt64)), .second] [(.ref b25)])) rfl (by rw [hml]; rfl) (Steps.refl _) (argsL := []) (rest := []) (lenOf pd_2 rfl) rfl (by show 2 * 0 + _ ≤ _; exact Nat.le_of_eq rfl) (hb hby at_460) (fun _ _ => ⟨rfl, rfl, (by decide : 3 + 0 ≤ _), (by decide : 10 + 0 ≤ _)⟩)
          dsimp only [Pt.U, Pt.locs, Pt.cells, Pt.slots] at X61 l61 y61 z61 st61 hQ61
          subst l61 y61 z61
          obtain ⟨rfl, N61q, e61⟩ := hQ61
          have N61 := Fr.app N58 N61q
          have pre62 : ∀ t, Steps p.tables e below (T61.setTop (mkF m 463 #[.val (.int u0), .val (.int u1), .val (.int u2), .val (.int u3), .val (.int u4), .val (.int u5), .val (.ref b1), .val (.int (j0_46 u0 u1 u2)), .val (.ref b13), .val (.int (1 : Int32)), .val (.int ff), .val (.int ll), .val (.int tt), .val (.int rr), .val (.ref b25), .val (.int ((((ff + (1 : Int32)) + (1 : Int32)) + (1 : Int32)) + (1 : Int32))), .val (.long (z_3.toInt64)), .second] [(.int (f3 ((((ff + (1 : Int32)) + (1 : Int32)) + (1 : Int32)) + (1 : Int32)) tt))])) t → Steps p.tables e below (s₁.setTop (entryFrame m #[(.int u0), (.int u1), (.int u2), (.int u3), (.int u4), (.int u5)] maxLocals)) t := fun t k => pre57 t (by
            show Steps p.tables e below (T53.setTop (mkF m 413 #[.val (.int u0), .val (.int u1), .val (.int u2), .val (.int u3), .val (.int u4), .val (.int u5), .val (.ref b1), .val (.int (j0_46 u0 u1 u2)), .val (.ref b13), .val (.int (1 : Int32)), .val (.int ff), .val (.int ll), .val (.int tt), .val (.int rr), .val (.ref b25), .val (.int (((ff + (1 : Int32)) + (1 : Int32)) + (1 : Int32))), .val (.long (z_2.toInt64)), .second] [(.int (4 : Int32)), (.int rr)])) _
            refine XS.icmpNo X53.here hx rfl (hb hby at_413) rfl (flt hc413).1 ?_
            show Steps p.tables e below (T53.setTop (mkF m 416 #[.val (.int u0), .val (.int u1), .val (.int u2), .val (.int u3), .val (.int u4), .val (.int u5), .val (.ref b1), .val (.int (j0_46 u0 u1 u2)), .val (.ref b13), .val (.int (1 : Int32)), .val (.int ff), .val (.int ll), .val (.int tt), .val (.int rr), .val (.ref b25), .val (.int (((ff + (1 : Int32)) + (1 : Int32)) + (1 : Int32))), .val (.long (z_2.toInt64)), .second] [])) _
            refine XS.aload X53.here hx rfl (hb hby at_416) rfl rfl ?_
            show Steps p.tables e below (T53.setTop (mkF m 418 #[.val (.int u0), .val (.int u1), .val (.int u2), .val (.int u3), .val (.int u4), .val (.int u5), .val (.ref b1), .val (.int (j0_46 u0 u1 u2)), .val (.ref b13), .val (.int (1 : Int32)), .val (.int ff), .val (.int ll), .val (.int tt), .val (.int rr), .val (.ref b25), .val (.int (((ff + (1 : Int32)) + (1 : Int32)) + (1 : Int32))), .val (.long (z_2.toInt64)), .second] [(.ref b25)])) _
            refine st58.trans ?_
            show Steps p.tables e below (T58.setTop (mkF m 421 #[.val (.int u0), .val (.int u1), .val (.int u2), .val (.int u3), .val (.int u4), .val (.int u5), .val (.ref b1), .val (.int (j0_46 u0 u1 u2)), .val (.ref b13), .val (.int (1 : Int32)), .val (.int ff), .val (.int ll), .val (.int tt), .val (.int rr), .val (.ref b25), .val (.int (((ff + (1 : Int32)) + (1 : Int32)) + (1 : Int32))), .val (.long (z_2.toInt64)), .second] [(.long (z_3.toInt64))])) _
            refine XS.lstore X58.here hx rfl (hb hby at_421) rfl (l' := #[.val (.int u0), .val (.int u1), .val (.int u2), .val (.int u3), .val (.int u4), .val (.int u5), .val (.ref b1), .val (.int (j0_46 u0 u1 u2)), .val (.ref b13), .val (.int (1 : Int32)), .val (.int ff), .val (.int ll), .val (.int tt), .val (.int rr), .val (.ref b25), .val (.int (((ff + (1 : Int32)) + (1 : Int32)) + (1 : Int32))), .val (.long (z_3.toInt64)), .second]) rfl ?_
            show Steps p.tables e below (T58.setTop (mkF m 423 #[.val (.int u0), .val (.int u1), .val (.int u2), .val (.int u3), .val (.int u4), .val (.int u5), .val (.ref b1), .val (.int (j0_46 u0 u1 u2)), .val (.ref b13), .val (.int (1 : Int32)), .val (.int ff), .val (.int ll), .val (.int tt), .val (.int rr), .val (.ref b25), .val (.int (((ff + (1 : Int32)) + (1 : Int32)) + (1 : Int32))), .val (.long (z_3.toInt64)), .second] [])) _
            refine XS.iload X58.here hx rfl (hb hby at_423) rfl ?_
            show Steps p.tables e below (T58.setTop (mkF m 425 #[.val (.int u0), .val (.int u1), .val (.int u2), .val (.int u3), .val (.int u4), .val (.int u5), .val (.ref b1), .val (.int (j0_46 u0 u1 u2)), .val (.ref b13), .val (.int (1 : Int32)), .val (.int ff), .val (.int ll), .val (.int tt), .val (.int rr), .val (.ref b25), .val (.int (((ff + (1 : Int32)) + (1 : Int32)) + (1 : Int32))), .val (.long (z_3.toInt64)), .second] [(.int (1 : Int32))])) _
            refine XS.ifNo X58.here hx rfl (hb hby at_425) rfl ((if0 _ _).trans (feq (by decide : ¬ ((1 : Int32) = (0 : Int32)))).1) ?_
            show Steps p.tables e below (T58.setTop (mkF m 428 #[.val (.int u0), .val (.int u1), .val (.int u2), .val (.int u3), .val (.int u4), .val (.int u5), .val (.ref b1), .val (.int (j0_46 u0 u1 u2)), .val (.ref b13), .val (.int (1 : Int32)), .val (.int ff), .val (.int ll), .val (.int tt), .val (.int rr), .val (.ref b25), .val (.int (((ff + (1 : Int32)) + (1 : Int32)) + (1 : Int32))), .val (.long (z_3.toInt64)), .second] [])) _
            refine XS.lload X58.here hx rfl (hb hby at_428) rfl ?_
            show Steps p.tables e below (T58.setTop (mkF m 430 #[.val (.int u0), .val (.int u1), .val (.int u2), .val (.int u3), .val (.int u4), .val (.int u5), .val (.ref b1), .val (.int (j0_46 u0 u1 u2)), .val (.ref b13), .val (.int (1 : Int32)), .val (.int ff), .val (.int ll), .val (.int tt), .val (.int rr), .val (.ref b25), .val (.int (((ff + (1 : Int32)) + (1 : Int32)) + (1 : Int32))), .val (.long (z_3.toInt64)), .second] [(.long (z_3.toInt64))])) _
            refine XS.aload X58.here hx rfl (hb hby at_430) rfl rfl ?_
            show Steps p.tables e below (T58.setTop (mkF m 432 #[.val (.int u0), .val (.int u1), .val (.int u2), .val (.int u3), .val (.int u4), .val (.int u5), .val (.ref b1), .val (.int (j0_46 u0 u1 u2)), .val (.ref b13), .val (.int (1 : Int32)), .val (.int ff), .val (.int ll), .val (.int tt), .val (.int rr), .val (.ref b25), .val (.int (((ff + (1 : Int32)) + (1 : Int32)) + (1 : Int32))), .val (.long (z_3.toInt64)), .second] [(.ref b1), (.long (z_3.toInt64))])) _
            refine XS.iload X58.here hx rfl (hb hby at_432) rfl ?_
            show Steps p.tables e below (T58.setTop (mkF m 434 #[.val (.int u0), .val (.int u1), .val (.int u2), .val (.int u3), .val (.int u4), .val (.int u5), .val (.ref b1), .val (.int (j0_46 u0 u1 u2)), .val (.ref b13), .val (.int (1 : Int32)), .val (.int ff), .val (.int ll), .val (.int tt), .val (.int rr), .val (.ref b25), .val (.int (((ff + (1 : Int32)) + (1 : Int32)) + (1 : Int32))), .val (.long (z_3.toInt64)), .second] [(.int (((ff + (1 : Int32)) + (1 : Int32)) + (1 : Int32))), (.ref b1), (.long (z_3.toInt64))])) _
            refine X58.baloadBytes hx (j := (((ff + (1 : Int32)) + (1 : Int32)) + (1 : Int32))) (v := (.int z_3)) Ar60.1 (State.isArrayOf_alike hZ.alike Ar60.2.1) Ar60.2.2 hin60 hat60 (g := (mkF m 434 #[.val (.int u0), .val (.int u1), .val (.int u2), .val (.int u3), .val (.int u4), .val (.int u5), .val (.ref b1), .val (.int (j0_46 u0 u1 u2)), .val (.ref b13), .val (.int (1 : Int32)), .val (.int ff), .val (.int ll), .val (.int tt), .val (.int rr), .val (.ref b25), .val (.int (((ff + (1 : Int32)) + (1 : Int32)) + (1 : Int32))), .val (.long (z_3.toInt64)), .second] [(.int (((ff + (1 : Int32)) + (1 : Int32)) + (1 : Int32))), (.ref b1), (.long (z_3.toInt64))])) rfl rfl (hb hby at_434) _ ?_
            show Steps p.tables e below (T58.setTop (mkF m 435 #[.val (.int u0), .val (.int u1), .val (.int u2), .val (.int u3), .val (.int u4), .val (.int u5), .val (.ref b1), .val (.int (j0_46 u0 u1 u2)), .val (.ref b13), .val (.int (1 : Int32)), .val (.int ff), .val (.int ll), .val (.int tt), .val (.int rr), .val (.ref b25), .val (.int (((ff + (1 : Int32)) + (1 : Int32)) + (1 : Int32))), .val (.long (z_3.toInt64)), .second] [(.int z_3), (.long (z_3.toInt64))])) _
            refine XS.i2l X58.here hx rfl (hb hby at_435) rfl ?_
            show Steps p.tables e below (T58.setTop (mkF m 436 #[.val (.int u0), .val (.int u1), .val (.int u2), .val (.int u3), .val (.int u4), .val (.int u5), .val (.ref b1), .val (.int (j0_46 u0 u1 u2)), .val (.ref b13), .val (.int (1 : Int32)), .val (.int ff), .val (.int ll), .val (.int tt), .val (.int rr), .val (.ref b25), .val (.int (((ff + (1 : Int32)) + (1 : Int32)) + (1 : Int32))), .val (.long (z_3.toInt64)), .second] [(.long (z_3.toInt64)), (.long (z_3.toInt64))])) _
            refine XS.lcmp X58.here hx rfl (hb hby at_436) rfl ?_
            show Steps p.tables e below (T58.setTop (mkF m 437 #[.val (.int u0), .val (.int u1), .val (.int u2), .val (.int u3), .val (.int u4), .val (.int u5), .val (.ref b1), .val (.int (j0_46 u0 u1 u2)), .val (.ref b13), .val (.int (1 : Int32)), .val (.int ff), .val (.int ll), .val (.int tt), .val (.int rr), .val (.ref b25), .val (.int (((ff + (1 : Int32)) + (1 : Int32)) + (1 : Int32))), .val (.long (z_3.toInt64)), .second] [(.int (lcmpW (z_3.toInt64) (z_3.toInt64)))])) _
            refine XS.ifNo X58.here hx rfl (hb hby at_437) rfl ((if0 _ _).trans (teq ((lw_eq _ _).mpr rfl)).2) ?_
            show Steps p.tables e below (T58.setTop (mkF m 440 #[.val (.int u0), .val (.int u1), .val (.int u2), .val (.int u3), .val (.int u4), .val (.int u5), .val (.ref b1), .val (.int (j0_46 u0 u1 u2)), .val (.ref b13), .val (.int (1 : Int32)), .val (.int ff), .val (.int ll), .val (.int tt), .val (.int rr), .val (.ref b25), .val (.int (((ff + (1 : Int32)) + (1 : Int32)) + (1 : Int32))), .val (.long (z_3.toInt64)), .second] [])) _
            refine XS.iconst X58.here hx rfl (hb hby at_440) ?_
            show Steps p.tables e below (T58.setTop (mkF m 441 #[.val (.int u0), .val (.int u1), .val (.int u2), .val (.int u3), .val (.int u4), .val (.int u5), .val (.ref b1), .val (.int (j0_46 u0 u1 u2)), .val (.ref b13), .val (.int (1 : Int32)), .val (.int ff), .val (.int ll), .val (.int tt), .val (.int rr), .val (.ref b25), .val (.int (((ff + (1 : Int32)) + (1 : Int32)) + (1 : Int32))), .val (.long (z_3.toInt64)), .second] [(.int (1 : Int32))])) _
            refine XS.goto X58.here hx rfl (pc0 := 441) (pc' := 445) rfl (hb hby at_441) (by decide) (by decide) ?_
            show Steps p.tables e below (T58.setTop (mkF m 445 #[.val (.int u0), .val (.int u1), .val (.int u2), .val (.int u3), .val (.int u4), .val (.int u5), .val (.ref b1), .val (.int (j0_46 u0 u1 u2)), .val (.ref b13), .val (.int (1 : Int32)), .val (.int ff), .val (.int ll), .val (.int tt), .val (.int rr), .val (.ref b25), .val (.int (((ff + (1 : Int32)) + (1 : Int32)) + (1 : Int32))), .val (.long (z_3.toInt64)), .second] [(.int (1 : Int32))])) _
            refine XS.istore X58.here hx rfl (hb hby at_445) rfl (l' := #[.val (.int u0), .val (.int u1), .val (.int u2), .val (.int u3), .val (.int u4), .val (.int u5), .val (.ref b1), .val (.int (j0_46 u0 u1 u2)), .val (.ref b13), .val (.int (1 : Int32)), .val (.int ff), .val (.int ll), .val (.int tt), .val (.int rr), .val (.ref b25), .val (.int (((ff + (1 : Int32)) + (1 : Int32)) + (1 : Int32))), .val (.long (z_3.toInt64)), .second]) rfl ?_
            show Steps p.tables e below (T58.setTop (mkF m 447 #[.val (.int u0), .val (.int u1), .val (.int u2), .val (.int u3), .val (.int u4), .val (.int u5), .val (.ref b1), .val (.int (j0_46 u0 u1 u2)), .val (.ref b13), .val (.int (1 : Int32)), .val (.int ff), .val (.int ll), .val (.int tt), .val (.int rr), .val (.ref b25), .val (.int (((ff + (1 : Int32)) + (1 : Int32)) + (1 : Int32))), .val (.long (z_3.toInt64)), .second] [])) _
            refine XS.iload X58.here hx rfl (hb hby at_447) rfl ?_
            show Steps p.tables e below (T58.setTop (mkF m 449 #[.val (.int u0), .val (.int u1), .val (.int u2), .val (.int u3), .val (.int u4), .val (.int u5), .val (.ref b1), .val (.int (j0_46 u0 u1 u2)), .val (.ref b13), .val (.int (1 : Int32)), .val (.int ff), .val (.int ll), .val (.int tt), .val (.int rr), .val (.ref b25), .val (.int (((ff + (1 : Int32)) + (1 : Int32)) + (1 : Int32))), .val (.long (z_3.toInt64)), .second] [(.int (((ff + (1 : Int32)) + (1 : Int32)) + (1 : Int32)))])) _
            refine XS.iconst X58.here hx rfl (hb hby at_449) ?_
            show Steps p.tables e below (T58.setTop (mkF m 450 #[.val (.int u0), .val (.int u1), .val (.int u2), .val (.int u3), .val (.int u4), .val (.int u5), .val (.ref b1), .val (.int (j0_46 u0 u1 u2)), .val (.ref b13), .val (.int (1 : Int32)), .val (.int ff), .val (.int ll), .val (.int tt), .val (.int rr), .val (.ref b25), .val (.int (((ff + (1 : Int32)) + (1 : Int32)) + (1 : Int32))), .val (.long (z_3.toInt64)), .second] [(.int (1 : Int32)), (.int (((ff + (1 : Int32)) + (1 : Int32)) + (1 : Int32)))])) _
            refine XS.iadd X58.here hx rfl (hb hby at_450) rfl ?_
            show Steps p.tables e below (T58.setTop (mkF m 451 #[.val (.int u0), .val (.int u1), .val (.int u2), .val (.int u3), .val (.int u4), .val (.int u5), .val (.ref b1), .val (.int (j0_46 u0 u1 u2)), .val (.ref b13), .val (.int (1 : Int32)), .val (.int ff), .val (.int ll), .val (.int tt), .val (.int rr), .val (.ref b25), .val (.int (((ff + (1 : Int32)) + (1 : Int32)) + (1 : Int32))), .val (.long (z_3.toInt64)), .second] [(.int ((((ff + (1 : Int32)) + (1 : Int32)) + (1 : Int32)) + (1 : Int32)))])) _
            refine XS.istore X58.here hx rfl (hb hby at_451) rfl (l' := #[.val (.int u0), .val (.int u1), .val (.int u2), .val (.int u3), .val (.int u4), .val (.int u5), .val (.ref b1), .val (.int (j0_46 u0 u1 u2)), .val (.ref b13), .val (.int (1 : Int32)), .val (.int ff), .val (.int ll), .val (.int tt), .val (.int rr), .val (.ref b25), .val (.int ((((ff + (1 : Int32)) + (1 : Int32)) + (1 : Int32)) + (1 : Int32))), .val (.long (z_3.toInt64)), .second]) rfl ?_
            show Steps p.tables e below (T58.setTop (mkF m 453 #[.val (.int u0), .val (.int u1), .val (.int u2), .val (.int u3), .val (.int u4), .val (.int u5), .val (.ref b1), .val (.int (j0_46 u0 u1 u2)), .val (.ref b13), .val (.int (1 : Int32)), .val (.int ff), .val (.int ll), .val (.int tt), .val (.int rr), .val (.ref b25), .val (.int ((((ff + (1 : Int32)) + (1 : Int32)) + (1 : Int32)) + (1 : Int32))), .val (.long (z_3.toInt64)), .second] [])) _
            refine XS.iload X58.here hx rfl (hb hby at_453) rfl ?_
            show Steps p.tables e below (T58.setTop (mkF m 455 #[.val (.int u0), .val (.int u1), .val (.int u2), .val (.int u3), .val (.int u4), .val (.int u5), .val (.ref b1), .val (.int (j0_46 u0 u1 u2)), .val (.ref b13), .val (.int (1 : Int32)), .val (.int ff), .val (.int ll), .val (.int tt), .val (.int rr), .val (.ref b25), .val (.int ((((ff + (1 : Int32)) + (1 : Int32)) + (1 : Int32)) + (1 : Int32))), .val (.long (z_3.toInt64)), .second] [(.int (1 : Int32))])) _
            refine XS.ifNo X58.here hx rfl (hb hby at_455) rfl ((if0 _ _).trans (feq (by decide : ¬ ((1 : Int32) = (0 : Int32)))).1) ?_
            show Steps p.tables e below (T58.setTop (mkF m 458 #[.val (.int u0), .val (.int u1), .val (.int u2), .val (.int u3), .val (.int u4), .val (.int u5), .val (.ref b1), .val (.int (j0_46 u0 u1 u2)), .val (.ref b13), .val (.int (1 : Int32)), .val (.int ff), .val (.int ll), .val (.int tt), .val (.int rr), .val (.ref b25), .val (.int ((((ff + (1 : Int32)) + (1 : Int32)) + (1 : Int32)) + (1 : Int32))), .val (.long (z_3.toInt64)), .second] [])) _
            refine XS.aload X58.here hx rfl (hb hby at_458) rfl rfl ?_
            show Steps p.tables e below (T58.setTop (mkF m 460 #[.val (.int u0), .val (.int u1), .val (.int u2), .val (.int u3), .val (.int u4), .val (.int u5), .val (.ref b1), .val (.int (j0_46 u0 u1 u2)), .val (.ref b13), .val (.int (1 : Int32)), .val (.int ff), .val (.int ll), .val (.int tt), .val (.int rr), .val (.ref b25), .val (.int ((((ff + (1 : Int32)) + (1 : Int32)) + (1 : Int32)) + (1 : Int32))), .val (.long (z_3.toInt64)), .second] [(.ref b25)])) _
            refine st61.trans ?_
            exact k)
          have pre63 : ∀ t, Steps p.tables e below (T61.setTop (mkF m 475 #[.val (.int u0), .val (.int u1), .val (.int u2), .val (.int u3), .val (.int u4), .val (.int u5), .val (.ref b1), .val (.int (j0_46 u0 u1 u2)), .val (.ref b13), .val (.int (1 : Int32)), .val (.int ff), .val (.int ll), .val (.int tt), .val (.int rr), .val (.ref b25), .val (.int ((((ff + (1 : Int32)) + (1 : Int32)) + (1 : Int32)) + (1 : Int32))), .val (.long (z_3.toInt64)), .second] [(.int (j0_463 ff tt)), (.int (f3 ((((ff + (1 : Int32)) + (1 : Int32)) + (1 : Int32)) + (1 : Int32)) tt))])) t → Steps p.tables e below (s₁.setTop (entryFrame m #[(.int u0), (.int u1), (.int u2), (.int u3), (.int u4), (.int u5)] maxLocals)) t := by
            have pre64 : ∀ t, Steps p.tables e below (T61.setTop (mkF m 467 #[.val (.int u0), .val (.int u1), .val (.int u2), .val (.int u3), .val (.int u4), .val (.int u5), .val (.ref b1), .val (.int (j0_46 u0 u1 u2)), .val (.ref b13), .val (.int (1 : Int32)), .val (.int ff), .val (.int ll), .val (.int tt), .val (.int rr), .val (.ref b25), .val (.int ((((ff + (1 : Int32)) + (1 : Int32)) + (1 : Int32)) + (1 : Int32))), .val (.long (z_3.toInt64)), .second] [(.int tt), (.int ((((ff + (1 : Int32)) + (1 : Int32)) + (1 : Int32)) + (1 : Int32))), (.int (f3 ((((ff + (1 : Int32)) + (1 : Int32)) + (1 : Int32)) + (1 : Int32)) tt))])) t → Steps p.tables e below (s₁.setTop (entryFrame m #[(.int u0), (.int u1), (.int u2), (.int u3), (.int u4), (.int u5)] maxLocals)) t := fun t k => pre62 t (by
              show Steps p.tables e below (T61.setTop (mkF m 463 #[.val (.int u0), .val (.int u1), .val (.int u2), .val (.int u3), .val (.int u4), .val (.int u5), .val (.ref b1), .val (.int (j0_46 u0 u1 u2)), .val (.ref b13), .val (.int (1 : Int32)), .val (.int ff), .val (.int ll), .val (.int tt), .val (.int rr), .val (.ref b25), .val (.int ((((ff + (1 : Int32)) + (1 : Int32)) + (1 : Int32)) + (1 : Int32))), .val (.long (z_3.toInt64)), .second] [(.int (f3 ((((ff + (1 : Int32)) + (1 : Int32)) + (1 : Int32)) + (1 : Int32)) tt))])) _
              refine XS.iload X61.here hx rfl (hb hby at_463) rfl ?_
              show Steps p.tables e below (T61.setTop (mkF m 465 #[.val (.int u0), .val (.int u1), .val (.int u2), .val (.int u3), .val (.int u4), .val (.int u5), .val (.ref b1), .val (.int (j0_46 u0 u1 u2)), .val (.ref b13), .val (.int (1 : Int32)), .val (.int ff), .val (.int ll), .val (.int tt), .val (.int rr), .val (.ref b25), .val (.int ((((ff + (1 : Int32)) + (1 : Int32)) + (1 : Int32)) + (1 : Int32))), .val (.long (z_3.toInt64)), .second] [(.int ((((ff + (1 : Int32)) + (1 : Int32)) + (1 : Int32)) + (1 : Int32))), (.int (f3 ((((ff + (1 : Int32)) + (1 : Int32)) + (1 : Int32)) + (1 : Int32)) tt))])) _
              refine XS.iload X61.here hx rfl (hb hby at_465) rfl ?_
              exact k)
            by_cases hc467 : ((((ff + (1 : Int32)) + (1 : Int32)) + (1 : Int32)) + (1 : Int32)) = tt
            · -- pc 467: ((((ff + (1 : Int32)) + (1 : Int32)) + (1 : Int32)) + (1 : Int32)) = tt
              intro t k
              have qS0 : (j0_463 ff tt) = (1 : Int32) := (if_pos hc467).trans (rfl)
              rw [qS0] at k
              refine pre64 t ?_
              show Steps p.tables e below (T61.setTop (mkF m 467 #[.val (.int u0), .val (.int u1), .val (.int u2), .val (.int u3), .val (.int u4), .val (.int u5), .val (.ref b1), .val (.int (j0_46 u0 u1 u2)), .val (.ref b13), .val (.int (1 : Int32)), .val (.int ff), .val (.int ll), .val (.int tt), .val (.int rr), .val (.ref b25), .val (.int ((((ff + (1 : Int32)) + (1 : Int32)) + (1 : Int32)) + (1 : Int32))), .val (.long (z_3.toInt64)), .second] [(.int tt), (.int ((((ff + (1 : Int32)) + (1 : Int32)) + (1 : Int32)) + (1 : Int32))), (.int (f3 ((((ff + (1 : Int32)) + (1 : Int32)) + (1 : Int32)) + (1 : Int32)) tt))])) _
              refine XS.icmpNo X61.here hx rfl (hb hby at_467) rfl (teq hc467).2 ?_
              show Steps p.tables e below (T61.setTop (mkF m 470 #[.val (.int u0), .val (.int u1), .val (.int u2), .val (.int u3), .val (.int u4), .val (.int u5), .val (.ref b1), .val (.int (j0_46 u0 u1 u2)), .val (.ref b13), .val (.int (1 : Int32)), .val (.int ff), .val (.int ll), .val (.int tt), .val (.int rr), .val (.ref b25), .val (.int ((((ff + (1 : Int32)) + (1 : Int32)) + (1 : Int32)) + (1 : Int32))), .val (.long (z_3.toInt64)), .second] [(.int (f3 ((((ff + (1 : Int32)) + (1 : Int32)) + (1 : Int32)) + (1 : Int32)) tt))])) _
              refine XS.iconst X61.here hx rfl (hb hby at_470) ?_
              show Steps p.tables e below (T61.setTop (mkF m 471 #[.val (.int u0), .val (.int u1), .val (.int u2), .val (.int u3), .val (.int u4), .val (.int u5), .val (.ref b1), .val (.int (j0_46 u0 u1 u2)), .val (.ref b13), .val (.int (1 : Int32)), .val (.int ff), .val (.int ll), .val (.int tt), .val (.int rr), .val (.ref b25), .val (.int ((((ff + (1 : Int32)) + (1 : Int32)) + (1 : Int32)) + (1 : Int32))), .val (.long (z_3.toInt64)), .second] [(.int (1 : Int32)), (.int (f3 ((((ff + (1 : Int32)) + (1 : Int32)) + (1 : Int32)) + (1 : Int32)) tt))])) _
              refine XS.goto X61.here hx rfl (pc0 := 471) (pc' := 475) rfl (hb hby at_471) (by decide) (by decide) ?_
              exact k
            · -- pc 467: not ((((ff + (1 : Int32)) + (1 : Int32)) + (1 : Int32)) + (1 : Int32)) = tt
              intro t k
              have qS0 : (j0_463 ff tt) = (0 : Int32) := (if_neg hc467).trans (rfl)
              rw [qS0] at k
              refine pre64 t ?_
              show Steps p.tables e below (T61.setTop (mkF m 467 #[.val (.int u0), .val (.int u1), .val (.int u2), .val (.int u3), .val (.int u4), .val (.int u5), .val (.ref b1), .val (.int (j0_46 u0 u1 u2)), .val (.ref b13), .val (.int (1 : Int32)), .val (.int ff), .val (.int ll), .val (.int tt), .val (.int rr), .val (.ref b25), .val (.int ((((ff + (1 : Int32)) + (1 : Int32)) + (1 : Int32)) + (1 : Int32))), .val (.long (z_3.toInt64)), .second] [(.int tt), (.int ((((ff + (1 : Int32)) + (1 : Int32)) + (1 : Int32)) + (1 : Int32))), (.int (f3 ((((ff + (1 : Int32)) + (1 : Int32)) + (1 : Int32)) + (1 : Int32)) tt))])) _
              refine XS.icmpYes X61.here hx rfl (pc0 := 467) (pc' := 474) rfl (hb hby at_467) rfl (feq hc467).2 (by decide) (by decide) ?_
              show Steps p.tables e below (T61.setTop (mkF m 474 #[.val (.int u0), .val (.int u1), .val (.int u2), .val (.int u3), .val (.int u4), .val (.int u5), .val (.ref b1), .val (.int (j0_46 u0 u1 u2)), .val (.ref b13), .val (.int (1 : Int32)), .val (.int ff), .val (.int ll), .val (.int tt), .val (.int rr), .val (.ref b25), .val (.int ((((ff + (1 : Int32)) + (1 : Int32)) + (1 : Int32)) + (1 : Int32))), .val (.long (z_3.toInt64)), .second] [(.int (f3 ((((ff + (1 : Int32)) + (1 : Int32)) + (1 : Int32)) + (1 : Int32)) tt))])) _
              refine XS.iconst X61.here hx rfl (hb hby at_474) ?_
              exact k
          obtain ⟨fs, hr, hrun, hended, hW, hsame⟩ := X61.leave (v := (some (.int (1 : Int32)))) (fun h => by rw [Bd.returns] at h; cases h)
          refine ⟨_, _, pre63 _ ?_, hrun, hended, _, _, rfl, ?_, ⟨_, rfl⟩, hW, hsame.mono (by decide) (by decide)⟩
          · show Steps p.tables e below (T61.setTop (mkF m 475 #[.val (.int u0), .val (.int u1), .val (.int u2), .val (.int u3), .val (.int u4), .val (.int u5), .val (.ref b1), .val (.int (j0_46 u0 u1 u2)), .val (.ref b13), .val (.int (1 : Int32)), .val (.int ff), .val (.int ll), .val (.int tt), .val (.int rr), .val (.ref b25), .val (.int ((((ff + (1 : Int32)) + (1 : Int32)) + (1 : Int32)) + (1 : Int32))), .val (.long (z_3.toInt64)), .second] [(.int (j0_463 ff tt)), (.int (f3 ((((ff + (1 : Int32)) + (1 : Int32)) + (1 : Int32)) + (1 : Int32)) tt))])) _
            refine XS.icmpNo X61.here hx rfl (hb hby at_475) rfl (teq (rfl : (f3 ((((ff + (1 : Int32)) + (1 : Int32)) + (1 : Int32)) + (1 : Int32)) tt) = (j0_463 ff tt))).2 ?_
            show Steps p.tables e below (T61.setTop (mkF m 478 #[.val (.int u0), .val (.int u1), .val (.int u2), .val (.int u3), .val (.int u4), .val (.int u5), .val (.ref b1), .val (.int (j0_46 u0 u1 u2)), .val (.ref b13), .val (.int (1 : Int32)), .val (.int ff), .val (.int ll), .val (.int tt), .val (.int rr), .val (.ref b25), .val (.int ((((ff + (1 : Int32)) + (1 : Int32)) + (1 : Int32)) + (1 : Int32))), .val (.long (z_3.toInt64)), .second] [])) _
            refine XS.iconst X61.here hx rfl (hb hby at_478) ?_
            show Steps p.tables e below (T61.setTop (mkF m 479 #[.val (.int u0), .val (.int u1), .val (.int u2), .val (.int u3), .val (.int u4), .val (.int u5), .val (.ref b1), .val (.int (j0_46 u0 u1 u2)), .val (.ref b13), .val (.int (1 : Int32)), .val (.int ff), .val (.int ll), .val (.int tt), .val (.int rr), .val (.ref b25), .val (.int ((((ff + (1 : Int32)) + (1 : Int32)) + (1 : Int32)) + (1 : Int32))), .val (.long (z_3.toInt64)), .second] [(.int (1 : Int32))])) _
            refine XS.goto X61.here hx rfl (pc0 := 479) (pc' := 483) rfl (hb hby at_479) (by decide) (by decide) ?_
            show Steps p.tables e below (T61.setTop (mkF m 483 #[.val (.int u0), .val (.int u1), .val (.int u2), .val (.int u3), .val (.int u4), .val (.int u5), .val (.ref b1), .val (.int (j0_46 u0 u1 u2)), .val (.ref b13), .val (.int (1 : Int32)), .val (.int ff), .val (.int ll), .val (.int tt), .val (.int rr), .val (.ref b25), .val (.int ((((ff + (1 : Int32)) + (1 : Int32)) + (1 : Int32)) + (1 : Int32))), .val (.long (z_3.toInt64)), .second] [(.int (1 : Int32))])) _
            refine XS.istore X61.here hx rfl (hb hby at_483) rfl (l' := #[.val (.int u0), .val (.int u1), .val (.int u2), .val (.int u3), .val (.int u4), .val (.int u5), .val (.ref b1), .val (.int (j0_46 u0 u1 u2)), .val (.ref b13), .val (.int (1 : Int32)), .val (.int ff), .val (.int ll), .val (.int tt), .val (.int rr), .val (.ref b25), .val (.int ((((ff + (1 : Int32)) + (1 : Int32)) + (1 : Int32)) + (1 : Int32))), .val (.long (z_3.toInt64)), .second]) rfl ?_
            show Steps p.tables e below (T61.setTop (mkF m 485 #[.val (.int u0), .val (.int u1), .val (.int u2), .val (.int u3), .val (.int u4), .val (.int u5), .val (.ref b1), .val (.int (j0_46 u0 u1 u2)), .val (.ref b13), .val (.int (1 : Int32)), .val (.int ff), .val (.int ll), .val (.int tt), .val (.int rr), .val (.ref b25), .val (.int ((((ff + (1 : Int32)) + (1 : Int32)) + (1 : Int32)) + (1 : Int32))), .val (.long (z_3.toInt64)), .second] [])) _
            refine XS.iload X61.here hx rfl (hb hby at_485) rfl ?_
            show Steps p.tables e below (T61.setTop (mkF m 487 #[.val (.int u0), .val (.int u1), .val (.int u2), .val (.int u3), .val (.int u4), .val (.int u5), .val (.ref b1), .val (.int (j0_46 u0 u1 u2)), .val (.ref b13), .val (.int (1 : Int32)), .val (.int ff), .val (.int ll), .val (.int tt), .val (.int rr), .val (.ref b25), .val (.int ((((ff + (1 : Int32)) + (1 : Int32)) + (1 : Int32)) + (1 : Int32))), .val (.long (z_3.toInt64)), .second] [(.int (1 : Int32))])) _
            exact retN X61 hx (t := .boolean) Bd.returns (by simp) (hb hby at_487) hr
          · show QL n0 _ T61.heap _
            rw [e61]
            exact ⟨rfl, N61⟩
set_option maxRecDepth 65536 in
set_option maxHeartbeats 40000000 in
theorem comes_1 {Post : Tables → Env → Array Value → State → Outcome → State → Prop} (hpost : ∀ tb e args s v u, (limb_1_1.after args s (.returned v) u = true ∧ limb_1_2.after args s (.returned v) u = true ∧ True) → FrameEnd s (.returned v) u (Jvm.fieldLocs frame_1_writes args s ++ Jvm.arrayLocs frame_1_arrays args s ++ Jvm.staticLocs frame_1_statics s) 16 128 → Post tb e args s (.returned v) u) :
    ArmFor flags0 classFile x code maxLocals ret World_1 tables_1 room_1 Calls_1 rest_1 Pre_1 Post := by
  intro l hfl _ _ p e ha hc hk s m args below hf hA hF happ hP
  obtain ⟨hcalls, hrest, hpre⟩ := hP
  obtain ⟨-, -, -, hnamed, -, -, -, hat⟩ := (Spec.applies_iff hf).mp happ
  obtain ⟨hg, hn⟩ := and_e (Cond.before_iff.mp (show (Jvm.Cond.and given_1 narrow_1).before args s = true from hpre))
  obtain ⟨g0, G0⟩ := and_e hg
  obtain ⟨v0, G1⟩ := and_e G0
  obtain ⟨v1, G2⟩ := and_e G1
  obtain ⟨v2, G3⟩ := and_e G2
  obtain ⟨v3, G4⟩ := and_e G3
  obtain ⟨v4, G5⟩ := and_e G4
  have v5 := G5
  obtain ⟨w0, w1, w2, w3, w4, w5, rfl⟩ : ∃ w0 w1 w2 w3 w4 w5 : Value, args = #[w0, w1, w2, w3, w4, w5] := by
    have hs : args.size = 6 := by simpa [Cond.value, given_1] using g0
    obtain ⟨L⟩ := args
    match L, hs with
    | [w0, w1, w2, w3, w4, w5], _ => exact ⟨w0, w1, w2, w3, w4, w5, rfl⟩
  have hw := fun d (hd : d ∈ tables_1) => atoms_spec (ws := Jvm.Cond.code x code maxLocals ret :: tables_1) hat d (List.mem_cons_of_mem _ hd)
  have hfit : Fit s := fun {y c} hc i hi => by
    obtain ⟨ha, rfl⟩ := Array.getElem?_eq_some_iff.mp hc
    have q := List.all_eq_true.mp ((Array.all_eq_true_iff_forall_mem.mp hF) _ (Array.getElem_mem ha)) i (List.mem_range.mpr hi)
    simpa [Array.getElem?_eq_getElem hi] using q
  obtain ⟨i0, ei0⟩ := is_v v0
  obtain rfl : w0 = (.int i0) := Option.some.inj ei0
  obtain ⟨i1, ei1⟩ := is_v v1
  obtain rfl : w1 = (.int i1) := Option.some.inj ei1
  obtain ⟨i2, ei2⟩ := is_v v2
  obtain rfl : w2 = (.int i2) := Option.some.inj ei2
  obtain ⟨i3, ei3⟩ := is_v v3
  obtain rfl : w3 = (.int i3) := Option.some.inj ei3
  obtain ⟨i4, ei4⟩ := is_v v4
  obtain rfl : w4 = (.int i4) := Option.some.inj ei4
  obtain ⟨i5, ei5⟩ := is_v v5
  obtain rfl : w5 = (.int i5) := Option.some.inj ei5
  obtain ⟨n, o, h1, h2, h3, _, L, rfl, ⟨rfl, N⟩, hq⟩ := rm0 l s _ hw tables_1 i0 i1 i2 i3 i4 i5  s.heap s.heap.size (Nat.le_refl _)  p e ha hc hk s m _ below hf ((Spec.applies_iff_loose hf).mp happ).1 ⟨rfl, State.Warmed39.refl s, rfl⟩ trivial
  refine ⟨n, _, h1, h2, h3, hpost _ _ _ _ _ _ ⟨Cond.after_iff.mpr rfl, Cond.after_iff.mpr (eq_i res_at (Term.int_eval (1)) rfl), trivial⟩ ⟨hq.1, hq.2.1, (hq.2.2.sift fun y hy => Or.inr (N y hy)).mono (by decide) (by decide)⟩⟩
theorem main_1_1 : Claimed_1_1 := comes_1 fun _ _ _ _ _ _ h hF => ⟨h.1, hF⟩
theorem main_1_2 : Claimed_1_2 := comes_1 fun _ _ _ _ _ _ h hF => ⟨h.2.1, hF⟩
end Jvm.Pilot.@@N@@
namespace Jvm.Pilot.@@N@@
open Jvm Jvm.ClassFile Sem Op Lib Jvm.Free Jvm.Stand Jvm.Pilot.@@N@@.Jvm.D
/-! MADE BY PROGRAM (witnessworld.py) out of the Statement's table words and the real class files: 9 classes; the members and pool entries that the words name. The judged class is class 1, her method 1. -/
namespace start1
open Jvm.ClassFile
def u (s : String) : CpInfo := .utf8 (stringToUtf16 s)
/-- a pool by its gaps: so many unusable entries, then the entry; so many at the end -/
def gap : Nat → List CpInfo → List CpInfo
  | 0, r => r
  | n + 1, r => .unusable :: gap n r
def poolList (es : List (Nat × CpInfo)) (last : Nat) : List CpInfo := es.foldr (fun e r => gap e.1 (e.2 :: r)) (gap last [])
def pool (es : List (Nat × CpInfo)) (last : Nat) : Array CpInfo := ⟨poolList es last⟩
def fileOf (pool : Array CpInfo) (this : Nat) (attrs : Array Attribute := #[]) (ms : Array MethodInfo := #[]) (fl : Nat := 33) (sup : Nat := 0) (ifs : Array Nat := #[]) (fds : Array FieldInfo := #[]) : ClassFile where
  minorVersion := 0
  majorVersion := 65
  constantPool := pool
  accessFlags := fl
  thisClass := this
  superClass := sup
  interfaces := ifs
  fields := fds
  methods := ms
  attributes := attrs
def plain (name : String) (sup : Option ClassId) : Class where
  name := name
  kind := .ordinary
  loader := none
  accessFlags := 33
  super := sup
  interfaces := #[]
  cf := none
  fields := #[]
  methods := #[]
  instanceTypes := #[]
  staticTypes := #[]
  resolved := #[]
  callSites := []
  init := .initialized
  statics := none
  mirror := none

def pool0 : Array CpInfo := pool [(5, u "<init>"), (0, u "()V"), (1, .class_ 10), (1, u "java/lang/Object")] 113

def k0c0 : Code := { maxStack := 0, maxLocals := 1, code := object_method_1_code, exceptionTable := #[], attributes := #[] }
def k0m0 : Method := { name := "<init>", desc := "()V", sig := { parameters := [], returnType := none }, accessFlags := 1, code := some k0c0 }
/-- java/lang/Object -/
def k0 : Class := { plain "java/lang/Object" none with
  accessFlags := 33
  interfaces := #[]
  cf := some (fileOf pool0 8 #[] #[{ accessFlags := 1, nameIndex := 5, descriptorIndex := 6, attributes := #[] }] 33 0 #[] #[])
  fields := #[]
  methods := #[k0m0]
  instanceTypes := #[]
  staticTypes := #[]
  resolved := Array.replicate 124 none
  statics := none }

def pool1 : Array CpInfo := pool [(2, .class_ 4), (1, u "java/lang/Object"), (0, u "<init>"), (0, u "()V"), (0, .class_ 8), (0, u "com/example/scorpus/scorpus/engine/ByteReader"), (0, .methodref 7 10), (0, .nameAndType 5 11), (0, u "([BII)V"), (0, .methodref 7 13), (0, .nameAndType 14 15), (0, u "atEnd"), (0, u "()Z"), (0, .integer 2147483647), (0, .methodref 7 18), (0, .nameAndType 19 20), (0, u "readNumber"), (0, u "()J"), (0, .class_ 22), (0, u "com/example/scorpus/scorpus/engine/ByteReaderAtEndPinLaw"), (2, u "law"), (0, u "(IIIIII)Z")] 8

def k1m0 : Method := { name := "<init>", desc := "()V", sig := { parameters := [], returnType := none }, accessFlags := 1, code := none }
def k1c1 : Code := { maxStack := 5, maxLocals := 18, code := code, exceptionTable := #[], attributes := #[] }
def k1m1 : Method := { name := "law", desc := "(IIIIII)Z", sig := { parameters := [.int, .int, .int, .int, .int, .int], returnType := some .boolean }, accessFlags := 9, code := some k1c1 }
/-- com/example/scorpus/scorpus/engine/ByteReaderAtEndPinLaw -/
def k1 : Class := { plain "com/example/scorpus/scorpus/engine/ByteReaderAtEndPinLaw" (some 0) with
  accessFlags := 49
  interfaces := #[]
  cf := some (fileOf pool1 21 #[] #[{ accessFlags := 1, nameIndex := 5, descriptorIndex := 6, attributes := #[] }, { accessFlags := 9, nameIndex := 25, descriptorIndex := 26, attributes := #[] }] 49 2 #[] #[])
  fields := #[]
  methods := #[k1m0, k1m1]
  instanceTypes := #[]
  staticTypes := #[]
  resolved := Array.replicate 35 none
  statics := none }

def pool2 : Array CpInfo := pool [(2, .class_ 4), (1, u "com/example/scorpus/scorpus/engine/ByteReader"), (0, u "<init>"), (0, u "([BII)V"), (0, .methodref 8 9), (0, .class_ 10), (0, .nameAndType 5 11), (0, u "java/lang/Object"), (0, u "()V"), (0, .fieldref 2 13), (0, .nameAndType 14 15), (0, u "bytes"), (0, u "[B"), (0, .fieldref 2 17), (0, .nameAndType 18 19), (0, u "position"), (0, u "I"), (0, .fieldref 2 21), (0, .nameAndType 22 19), (0, u "end"), (2, .methodref 2 26), (0, .nameAndType 27 28), (0, u "readByte"), (0, u "()I"), (0, .class_ 30), (0, u "com/example/scorpus/scorpus/engine/ByteReader$DamageException"), (7, u "readNumber"), (0, u "()J"), (29, u "atEnd"), (0, u "()Z")] 5

def k2c0 : Code := { maxStack := 2, maxLocals := 4, code := prog_19_method_2_code, exceptionTable := #[], attributes := #[] }
def k2m0 : Method := { name := "<init>", desc := "([BII)V", sig := { parameters := [(.array .byte), .int, .int], returnType := none }, accessFlags := 0, code := some k2c0 }
def k2c1 : Code := { maxStack := 5, maxLocals := 5, code := prog_19_method_3_code, exceptionTable := #[], attributes := #[] }
def k2m1 : Method := { name := "readNumber", desc := "()J", sig := { parameters := [], returnType := some .long }, accessFlags := 0, code := some k2c1 }
def k2c2 : Code := { maxStack := 2, maxLocals := 1, code := prog_19_method_6_code, exceptionTable := #[], attributes := #[] }
def k2m2 : Method := { name := "atEnd", desc := "()Z", sig := { parameters := [], returnType := some .boolean }, accessFlags := 0, code := some k2c2 }
def k2c3 : Code := { maxStack := 5, maxLocals := 1, code := prog_19_method_7_code, exceptionTable := #[], attributes := #[] }
def k2m3 : Method := { name := "readByte", desc := "()I", sig := { parameters := [], returnType := some .int }, accessFlags := 2, code := some k2c3 }
/-- com/example/scorpus/scorpus/engine/ByteReader -/
def k2 : Class := { plain "com/example/scorpus/scorpus/engine/ByteReader" (some 0) with
  accessFlags := 48
  interfaces := #[]
  cf := some (fileOf pool2 2 #[.nestMembers #[29]] #[{ accessFlags := 0, nameIndex := 5, descriptorIndex := 6, attributes := #[] }, { accessFlags := 0, nameIndex := 38, descriptorIndex := 39, attributes := #[] }, { accessFlags := 0, nameIndex := 69, descriptorIndex := 70, attributes := #[] }, { accessFlags := 2, nameIndex := 27, descriptorIndex := 28, attributes := #[] }] 48 8 #[] #[{ accessFlags := 18, nameIndex := 14, descriptorIndex := 15, attributes := #[] }, { accessFlags := 18, nameIndex := 22, descriptorIndex := 19, attributes := #[] }, { accessFlags := 2, nameIndex := 18, descriptorIndex := 19, attributes := #[] }])
  fields := #[{ name := "bytes", type := (.array .byte), accessFlags := 18, slot := 0, constantValue := 0 }, { name := "end", type := .int, accessFlags := 18, slot := 1, constantValue := 0 }, { name := "position", type := .int, accessFlags := 2, slot := 2, constantValue := 0 }]
  methods := #[k2m0, k2m1, k2m2, k2m3]
  instanceTypes := #[(.array .byte), .int, .int]
  staticTypes := #[]
  resolved := Array.replicate 76 none
  statics := none }

def pool3 : Array CpInfo := pool [(1, u "java/lang/Cloneable"), (0, .class_ 1), (0, u "java/lang/Object"), (0, .class_ 3)] 3

/-- java/lang/Cloneable -/
def k3 : Class := { plain "java/lang/Cloneable" (some 0) with
  accessFlags := 1537
  interfaces := #[]
  cf := some (fileOf pool3 2 #[] #[] 1537 4 #[] #[])
  fields := #[]
  methods := #[]
  instanceTypes := #[]
  staticTypes := #[]
  resolved := Array.replicate 8 none
  statics := none }

def pool4 : Array CpInfo := pool [(1, u "java/io/Serializable"), (0, .class_ 1), (0, u "java/lang/Object"), (0, .class_ 3)] 3

/-- java/io/Serializable -/
def k4 : Class := { plain "java/io/Serializable" (some 0) with
  accessFlags := 1537
  interfaces := #[]
  cf := some (fileOf pool4 2 #[] #[] 1537 4 #[] #[])
  fields := #[]
  methods := #[]
  instanceTypes := #[]
  staticTypes := #[]
  resolved := Array.replicate 8 none
  statics := none }

/-- the primitive byte -/
def k5 : Class := { plain "byte" none with kind := .primitive 'B', accessFlags := 0x411 }
/-- [B -/
def k6 : Class := { plain "[B" (some 0) with kind := .array 5 .byte, interfaces := #[3, 4], accessFlags := 1041 }

/-- the primitive int -/
def k7 : Class := { plain "int" none with kind := .primitive 'I', accessFlags := 0x411 }
/-- [I -/
def k8 : Class := { plain "[I" (some 0) with kind := .array 7 .int, interfaces := #[3, 4], accessFlags := 1041 }

def heap : Heap := #[]
def classes : Array Class := #[k0, k1, k2, k3, k4, k5, k6, k7, k8]
def interned : List (Array UInt16 × Addr) := []
def slotsUsed : Nat := 0
def theMethod : MethodId := ⟨1, 1⟩
def args0 : Array Value := #[.int 1, .int 3, .int 2, .int 4, .int 5, .int 6]
def aboutOver (below : List Frame) : State where
  vm := { classes := classes, interned := interned.toArray }
  heap := heap
  slotsUsed := slotsUsed
  threads := #[{ frames := .invoking theMethod args0 :: below }]
def below0 : List Frame := [.native { method := ⟨0, 0⟩, args := #[] }]
def about1 : State := aboutOver below0
def p0 : Program := .bare "" "" ""
def e0 : Env := launch0.env 0 0 0
theorem w_frames : about1.frames = Frame.invoking theMethod args0 :: below0 := rfl
set_option maxRecDepth 65536 in
theorem w_args : argsFit about1.vm theMethod args0 = true := by decide +kernel
set_option maxRecDepth 65536 in
theorem w_heap : heapFits about1 = true := by decide +kernel
set_option maxRecDepth 65536 in
theorem w_runnable : about1.curStatus? = some .runnable := by decide +kernel
set_option maxRecDepth 65536 in
theorem w_alone : about1.alone = true := by decide +kernel
set_option maxRecDepth 65536 in
theorem w_named : about1.methodNamed? x = some theMethod := by decide +kernel
set_option maxRecDepth 65536 in
theorem w_hears : about1.hears theMethod below0 = true := by decide +kernel
set_option maxRecDepth 65536 in
theorem w_ripe : about1.ripe theMethod args0 below0 = true := by decide +kernel
theorem w_running : about1.status = .running := rfl
set_option maxRecDepth 65536 in
theorem w_room : about1.hasRoom e0.platform room_1 = true :=
  launch0.hasRoom_least _ room_1 (by decide +kernel) (by decide +kernel) (by decide +kernel) (by decide +kernel) (by decide +kernel) (by decide +kernel)
theorem allAtoms_all (ts : List Jvm.Cond) (a : Array Jvm.Value) (st : Jvm.State) : (allAtoms ts).before a st = ts.all (fun c => c.before a st) := by
  induction ts with
  | nil => rfl
  | cons c t ih =>
    show (Jvm.Cond.and c (allAtoms t)).before a st = _
    rw [Jvm.Cond.before_and, ih, List.all_cons]
def words1 : List Jvm.Cond := Jvm.Cond.code x code maxLocals ret :: tables_1
/-- a 'code' word, met by the world's own term for the bytes: nothing is compared byte by byte -/
theorem code_word {y : MethodName} {bytes : ByteArray} {mx : Nat} {rt : Option FieldType} {a : Array Value} {s : State} {m : MethodId} {meth : Method} {c : Code} (h1 : s.methodNamed? y = some m) (h2 : s.vm.method? m = some meth) (h3 : meth.code = some c) (h4 : c.code = bytes)
    (h5 : (c.maxLocals == mx && c.exceptionTable.isEmpty && decide (c.maxStack ≤ mostOperands) && decide (meth.sig.returnType = rt) && !meth.locks && decide (parseMethodDescriptor y.desc = some meth.sig)) = true) : (Jvm.Cond.code y bytes mx rt).before a s = true := by
  simp only [Bool.and_eq_true, beq_iff_eq, Bool.not_eq_true', decide_eq_true_eq] at h5
  obtain ⟨⟨⟨⟨⟨g1, g2⟩, g3⟩, g4⟩, g5⟩, g6⟩ := h5
  simp [Cond.before, Cond.holds, Cond.value, h1, h2, h3, h4, g1, g2, g3, g4, g5, g6]
def isCode : Jvm.Cond → Bool
  | .code _ _ _ _ => true
  | _ => false
theorem all_split {L : List Jvm.Cond} {P : Jvm.Cond → Bool} (h1 : L.all (fun c => isCode c || P c) = true) (h2 : ∀ c ∈ L.filter isCode, P c = true) : L.all P = true := by
  refine List.all_eq_true.mpr fun c hc => ?_
  have h := List.all_eq_true.mp h1 c hc
  rcases Bool.eq_false_or_eq_true (isCode c) with hi | hi
  · exact h2 c (List.mem_filter.mpr ⟨hc, hi⟩)
  · simpa [hi] using h
set_option maxRecDepth 65536 in
theorem w_c0 : (Jvm.Cond.code x code maxLocals ret).before args0 about1 = true := code_word (m := ⟨1, 1⟩) (meth := k1m1) (c := k1c1) (by decide +kernel) rfl rfl rfl (by decide +kernel)
set_option maxRecDepth 65536 in
theorem w_c1 : (Jvm.Cond.code ({ cls := "com/example/scorpus/scorpus/engine/ByteReader", name := "<init>", desc := "([BII)V" } : Jvm.MethodName) prog_19_method_2_code (4 : Nat) (Option.none : Option Jvm.ClassFile.FieldType)).before args0 about1 = true := code_word (m := ⟨2, 0⟩) (meth := k2m0) (c := k2c0) (by decide +kernel) rfl rfl rfl (by decide +kernel)
set_option maxRecDepth 65536 in
theorem w_c2 : (Jvm.Cond.code ({ cls := "java/lang/Object", name := "<init>", desc := "()V" } : Jvm.MethodName) object_method_1_code (1 : Nat) (Option.none : Option Jvm.ClassFile.FieldType)).before args0 about1 = true := code_word (m := ⟨0, 0⟩) (meth := k0m0) (c := k0c0) (by decide +kernel) rfl rfl rfl (by decide +kernel)
set_option maxRecDepth 65536 in
theorem w_c3 : (Jvm.Cond.code ({ cls := "com/example/scorpus/scorpus/engine/ByteReader", name := "atEnd", desc := "()Z" } : Jvm.MethodName) prog_19_method_6_code (1 : Nat) (Option.some Jvm.ClassFile.FieldType.boolean)).before args0 about1 = true := code_word (m := ⟨2, 2⟩) (meth := k2m2) (c := k2c2) (by decide +kernel) rfl rfl rfl (by decide +kernel)
set_option maxRecDepth 65536 in
theorem w_c4 : (Jvm.Cond.code ({ cls := "com/example/scorpus/scorpus/engine/ByteReader", name := "readNumber", desc := "()J" } : Jvm.MethodName) prog_19_method_3_code (5 : Nat) (Option.some Jvm.ClassFile.FieldType.long)).before args0 about1 = true := code_word (m := ⟨2, 1⟩) (meth := k2m1) (c := k2c1) (by decide +kernel) rfl rfl rfl (by decide +kernel)
set_option maxRecDepth 65536 in
theorem w_c5 : (Jvm.Cond.code ({ cls := "com/example/scorpus/scorpus/engine/ByteReader", name := "readByte", desc := "()I" } : Jvm.MethodName) prog_19_method_7_code (1 : Nat) (Option.some Jvm.ClassFile.FieldType.int)).before args0 about1 = true := code_word (m := ⟨2, 3⟩) (meth := k2m3) (c := k2c3) (by decide +kernel) rfl rfl rfl (by decide +kernel)
def codes1 : List Jvm.Cond := [Jvm.Cond.code x code maxLocals ret, Jvm.Cond.code ({ cls := "com/example/scorpus/scorpus/engine/ByteReader", name := "<init>", desc := "([BII)V" } : Jvm.MethodName) prog_19_method_2_code (4 : Nat) (Option.none : Option Jvm.ClassFile.FieldType), Jvm.Cond.code ({ cls := "java/lang/Object", name := "<init>", desc := "()V" } : Jvm.MethodName) object_method_1_code (1 : Nat) (Option.none : Option Jvm.ClassFile.FieldType), Jvm.Cond.code ({ cls := "com/example/scorpus/scorpus/engine/ByteReader", name := "atEnd", desc := "()Z" } : Jvm.MethodName) prog_19_method_6_code (1 : Nat) (Option.some Jvm.ClassFile.FieldType.boolean), Jvm.Cond.code ({ cls := "com/example/scorpus/scorpus/engine/ByteReader", name := "readNumber", desc := "()J" } : Jvm.MethodName) prog_19_method_3_code (5 : Nat) (Option.some Jvm.ClassFile.FieldType.long), Jvm.Cond.code ({ cls := "com/example/scorpus/scorpus/engine/ByteReader", name := "readByte", desc := "()I" } : Jvm.MethodName) prog_19_method_7_code (1 : Nat) (Option.some Jvm.ClassFile.FieldType.int)]
set_option maxRecDepth 65536 in
theorem codes_eq : words1.filter isCode = codes1 := rfl
theorem w_codes : ∀ c ∈ words1.filter isCode, c.before args0 about1 = true := by
  rw [codes_eq]
  intro c hc
  simp only [codes1, List.mem_cons, List.not_mem_nil, or_false] at hc
  rcases hc with rfl | rfl | rfl | rfl | rfl | rfl
  · exact w_c0
  · exact w_c1
  · exact w_c2
  · exact w_c3
  · exact w_c4
  · exact w_c5
set_option maxRecDepth 65536 in
theorem w_t1 : (words1.take 24).all (fun c => isCode c || c.before args0 about1) = true := by decide +kernel
set_option maxRecDepth 65536 in
theorem w_t2 : (words1.drop 24).all (fun c => isCode c || c.before args0 about1) = true := by decide +kernel
theorem w_tables : (allAtoms (Jvm.Cond.code x code maxLocals ret :: tables_1)).before args0 about1 = true := by
  rw [allAtoms_all]
  show words1.all (fun c => c.before args0 about1) = true
  refine all_split ?_ w_codes
  rw [← List.take_append_drop 24 words1, List.all_append, w_t1, w_t2]
  rfl
set_option maxRecDepth 65536 in
theorem w_case : (Jvm.Cond.and given_1 narrow_1).before args0 about1 = true := by decide +kernel
theorem w_applies : (headSpec (Jvm.Cond.code x code maxLocals ret :: tables_1) room_1).applies x e0.platform about1 = true :=
  (Spec.applies_iff w_frames).mpr ⟨w_running, w_runnable, w_alone, w_named, w_hears, w_ripe, w_room, w_tables⟩
theorem atStart : AtStart classFile x code maxLocals ret World_1 tables_1 room_1 Calls_1 rest_1 Pre_1 launch0 p0 e0 about1 theMethod args0 below0 :=
  ⟨lists_1, trivial, launch0.admits_env _ _ _, launch0.least_env, fairChoices_fair.cas, fairChoices_fair.clock, w_frames, w_args, w_heap, w_applies, trivial, trivial, w_case⟩
end start1
theorem witness_1 : WitnessClaimed_1 := ⟨start1.p0, start1.e0, start1.about1, start1.theMethod, start1.args0, start1.below0, start1.atStart⟩
end Jvm.Pilot.@@N@@
