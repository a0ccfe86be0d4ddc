import JvmDerived
import JvmDerived.Pilot.@@N@@Statement
import JvmDerived.Pilot.@@N@@Code
set_option linter.unusedVariables false
set_option linter.unusedSimpArgs false
namespace Jvm.RoadKit
open Sem ClassFile Op Lib Jvm.Stand Jvm.Free Jvm.LawKit
section New
variable {p : Program} {l : Launch} {e : Env} {R : Room} {s : State} {m : MethodId} {args : Array Value} {below : List Frame} {meth : Method} {c : Code} {T : State} {locs : List Loc} {cells slots : Nat}
theorem retI (X : Stand p l e R s m args below meth c T locs cells slots) (hx : p.tables.exec = Jvm.exec) {pc : Nat} {Ls : Array Slot} {z : Int32} {rest : List Value} (hret : meth.sig.returnType = some .int) (hd : decode c.code pc = .ok (.ireturn, 1)) {fs : List Frame}
    (hl : ∀ (f : JFrame) (acts : List Action), f.method = m → f.locked = none → f.entered = [] → (doReturn e (T.setTop f) acts (some (.int z))).1 = T.setFrames fs) : Steps p.tables e below (T.setTop (mkF m pc Ls (.int z :: rest))) (T.setFrames fs) :=
  retOut X hx hret rfl (Or.inl ⟨rfl, Or.inl rfl, z, rfl⟩) hd hl
end New
end Jvm.RoadKit
namespace Jvm.Pilot.@@N@@
open Jvm Jvm.ClassFile Sem Op Lib Jvm.Free Jvm.Stand Jvm.LawKit Jvm.RoadKit Bundle Jvm.Pilot.@@N@@.Jvm.D
def QL (n0 : Nat) (v : Option Value) (h : Heap) (L : List Loc) : Prop := v = some (.int 1) ∧ Fr n0 L
def QP (r : Option Value) (h0 : Heap) (n0 : Nat) (v : Option Value) (h : Heap) (L : List Loc) : Prop := v = r ∧ Fr n0 L ∧ h = h0
theorem own_elem {Z : State} {h : Heap} {a : Addr} {k : ClassId} {ty : FieldType} {n : Int32} {vs : List Value} {d : Value} (F : Arv Z h a k ty n vs d) (ht : ty = .int ∨ ty = .boolean ∨ ty = .byte ∨ ty = .char ∨ ty = .short) {j : Int32} (q : ¬ j < 0 ∧ j < n) :
    ∃ (c : Cell) (z : Int32), Arr Z h a c ty ∧ ¬ (j < 0 ∨ c.slots.size ≤ j.toNatClampNeg) ∧ c.slots[j.toNatClampNeg]? = some (.int z) ∧ fits ty (.int z) = true ∧ vs.getD j.toNatClampNeg d = .int z := by
  obtain ⟨c, A, -, S, N, H, G⟩ := F
  have hin := inb_of S q
  have hlt := Nat.lt_of_not_le fun y => hin (Or.inr y)
  obtain ⟨z, hz⟩ := fit_I (G _ hlt) ht
  exact ⟨c, z, A, hin, by rw [H _ hlt, hz], by rw [← hz]; exact G _ hlt, hz⟩
theorem own_and3 (x : Int32) : ¬ (x &&& (3 : Int32)) < 0 ∧ (x &&& (3 : Int32)) < (4 : Int32) := by
  have h := c_mask x 3 2 (by decide) (by decide)
  simp only [Int32.lt_iff_toInt_lt, show (0 : Int32).toInt = 0 from rfl, show (4 : Int32).toInt = 4 from rfl]
  omega
theorem d1_0 : decode prog_115_method_13_code 0 = .ok (.iload_n 0, 1) := by decide +kernel
theorem d1_1 : decode prog_115_method_13_code 1 = .ok (.bipush 10, 2) := by decide +kernel
theorem d1_3 : decode prog_115_method_13_code 3 = .ok (.if_icmp .eq 23, 3) := by decide +kernel
theorem d1_6 : decode prog_115_method_13_code 6 = .ok (.iload_n 0, 1) := by decide +kernel
theorem d1_7 : decode prog_115_method_13_code 7 = .ok (.bipush 13, 2) := by decide +kernel
theorem d1_9 : decode prog_115_method_13_code 9 = .ok (.if_icmp .eq 17, 3) := by decide +kernel
theorem d1_12 : decode prog_115_method_13_code 12 = .ok (.iload_n 0, 1) := by decide +kernel
theorem d1_13 : decode prog_115_method_13_code 13 = .ok (.sipush 8232, 3) := by decide +kernel
theorem d1_16 : decode prog_115_method_13_code 16 = .ok (.if_icmp .eq 10, 3) := by decide +kernel
theorem d1_19 : decode prog_115_method_13_code 19 = .ok (.iload_n 0, 1) := by decide +kernel
theorem d1_20 : decode prog_115_method_13_code 20 = .ok (.sipush 8233, 3) := by decide +kernel
theorem d1_23 : decode prog_115_method_13_code 23 = .ok (.if_icmp .ne 7, 3) := by decide +kernel
theorem d1_26 : decode prog_115_method_13_code 26 = .ok (.iconst 1, 1) := by decide +kernel
theorem d1_27 : decode prog_115_method_13_code 27 = .ok (.goto 4, 3) := by decide +kernel
theorem d1_30 : decode prog_115_method_13_code 30 = .ok (.iconst 0, 1) := by decide +kernel
theorem d1_31 : decode prog_115_method_13_code 31 = .ok (.ireturn, 1) := by decide +kernel
theorem pn_1 : plainName "com/example/keenflow/keenflow/domain/RegularExpression" = true := by first | (simp [plainName, overriddenIn]; done) | decide +kernel
theorem ef_1 (m : MethodId) (x0 : Int32) : entryFrame m #[(.int x0)] 1 = mkF m 0 #[.val (.int x0)] [] := by first | (simp [entryFrame, mkF, argsToLocals, Value.category]; done) | rfl
def f1 (u0 : Int32) : Int32 := (if u0 = (10 : Int32) then (1 : Int32) else (if u0 = (13 : Int32) then (1 : Int32) else (if u0 = (8232 : Int32) then (1 : Int32) else (if u0 = (8233 : Int32) then (1 : Int32) else (0 : Int32)))))
set_option maxRecDepth 65536 in
set_option maxHeartbeats 40000000 in
theorem rm1 (l : Launch) (Z : State) (a0 : Array Value) (hw : ∀ d ∈ tables_1, d.before a0 Z = true) (ws : List Jvm.Cond) (u0 : Int32) (h0 : Heap) (n0 : Nat) (Z0 : n0 ≤ h0.size) :
    MetFree l (⟨"com/example/keenflow/keenflow/domain/RegularExpression", "isLineTerminator", "(C)Z"⟩ : MethodName) (head1 (Jvm.Cond.code (⟨"com/example/keenflow/keenflow/domain/RegularExpression", "isLineTerminator", "(C)Z"⟩ : MethodName) prog_115_method_13_code 1 (some .boolean) :: ws) ({ frames := 0, cells := 0, slots := 0, locals := 0 } : Room)) (fun a U => a = #[(.int u0)] ∧ Z.Warmed39 U.vm ∧ U.heap = h0) (fun _ _ _ _ _ => True) (fun _ U o U' => ∃ v L, o = .returned v ∧ QP (some (.int (f1 u0))) h0 n0 v U'.heap L ∧ FrameEnd U o U' L 0 0) := by
  refine MetFree.of_bodySF (plainFor_of_name pn_1) hisR ?_
  intro p e s m args below meth c s₁ Bd hml0 hP hK
  obtain ⟨rfl, hZ, hh⟩ := hP
  have hx := Bd.exec
  have hby := Bd.bytes
  have hml : c.maxLocals = 1 := hml0
  have hown : s.vm.findClass "com/example/keenflow/keenflow/domain/RegularExpression" = some m.cls := findClass_of_methodNamed Bd.named
  have hnm := (name_of_methodNamed Bd.named Bd.method).1
  have X0 : Stand p l e ({ frames := 0, cells := 0, slots := 0, locals := 0 } : Room) s m #[(.int u0)] below meth c s₁ [] 0 0 := Stand.of_body Bd
  have e0 : s₁.heap = h0 := by rw [← hh, Bd.state]; rfl
  have N0 := Fr.nil n0
  have pre0 : ∀ t, Steps p.tables e below (s₁.setTop (mkF m 0 #[.val (.int u0)] [])) t → Steps p.tables e below (s₁.setTop (entryFrame m #[(.int u0)] 1)) t := fun t k => castTop (ef_1 m u0) k
  have pre1 : ∀ t, Steps p.tables e below (s₁.setTop (mkF m 3 #[.val (.int u0)] [(.int (10 : Int32)), (.int u0)])) t → Steps p.tables e below (s₁.setTop (entryFrame m #[(.int u0)] 1)) t := fun t k => pre0 t (by
    show Steps p.tables e below (s₁.setTop (mkF m 0 #[.val (.int u0)] [])) _
    refine XS.iloadN X0.here hx rfl (hb hby d1_0) rfl ?_
    show Steps p.tables e below (s₁.setTop (mkF m 1 #[.val (.int u0)] [(.int u0)])) _
    refine XS.bipush X0.here hx rfl (hb hby d1_1) ?_
    exact k)
  by_cases hc3 : u0 = (10 : Int32)
  · -- pc 3: u0 = (10 : Int32)
    obtain ⟨fs, hr, hrun, hended, hW, hsame⟩ := X0.leave (v := (some (.int (1 : Int32)))) (fun h => by rw [Bd.returns] at h; cases h)
    refine ⟨_, _, pre1 _ ?_, hrun, hended, _, _, rfl, ?_, ⟨_, rfl⟩, hW, hsame.mono (by decide) (by decide)⟩
    · show Steps p.tables e below (s₁.setTop (mkF m 3 #[.val (.int u0)] [(.int (10 : Int32)), (.int u0)])) _
      refine XS.icmpYes X0.here hx rfl (pc0 := 3) (pc' := 26) rfl (hb hby d1_3) rfl (teq hc3).1 (by decide) (by decide) ?_
      show Steps p.tables e below (s₁.setTop (mkF m 26 #[.val (.int u0)] [])) _
      refine XS.iconst X0.here hx rfl (hb hby d1_26) ?_
      show Steps p.tables e below (s₁.setTop (mkF m 27 #[.val (.int u0)] [(.int (1 : Int32))])) _
      refine XS.goto X0.here hx rfl (pc0 := 27) (pc' := 31) rfl (hb hby d1_27) (by decide) (by decide) ?_
      show Steps p.tables e below (s₁.setTop (mkF m 31 #[.val (.int u0)] [(.int (1 : Int32))])) _
      exact retN X0 hx (t := .boolean) Bd.returns (by simp) (hb hby d1_31) hr
    · show QP (some (.int (f1 u0))) h0 n0 _ s₁.heap _
      rw [e0]
      exact ⟨congrArg (fun z => some (Value.int z)) (Eq.symm (show (f1 u0) = (1 : Int32) from (if_pos hc3).trans (rfl))), N0, rfl⟩
  · -- pc 3: not u0 = (10 : Int32)
    have pre2 : ∀ t, Steps p.tables e below (s₁.setTop (mkF m 9 #[.val (.int u0)] [(.int (13 : Int32)), (.int u0)])) t → Steps p.tables e below (s₁.setTop (entryFrame m #[(.int u0)] 1)) t := fun t k => pre1 t (by
      show Steps p.tables e below (s₁.setTop (mkF m 3 #[.val (.int u0)] [(.int (10 : Int32)), (.int u0)])) _
      refine XS.icmpNo X0.here hx rfl (hb hby d1_3) rfl (feq hc3).1 ?_
      show Steps p.tables e below (s₁.setTop (mkF m 6 #[.val (.int u0)] [])) _
      refine XS.iloadN X0.here hx rfl (hb hby d1_6) rfl ?_
      show Steps p.tables e below (s₁.setTop (mkF m 7 #[.val (.int u0)] [(.int u0)])) _
      refine XS.bipush X0.here hx rfl (hb hby d1_7) ?_
      exact k)
    by_cases hc9 : u0 = (13 : Int32)
    · -- pc 9: u0 = (13 : Int32)
      obtain ⟨fs, hr, hrun, hended, hW, hsame⟩ := X0.leave (v := (some (.int (1 : Int32)))) (fun h => by rw [Bd.returns] at h; cases h)
      refine ⟨_, _, pre2 _ ?_, hrun, hended, _, _, rfl, ?_, ⟨_, rfl⟩, hW, hsame.mono (by decide) (by decide)⟩
      · show Steps p.tables e below (s₁.setTop (mkF m 9 #[.val (.int u0)] [(.int (13 : Int32)), (.int u0)])) _
        refine XS.icmpYes X0.here hx rfl (pc0 := 9) (pc' := 26) rfl (hb hby d1_9) rfl (teq hc9).1 (by decide) (by decide) ?_
        show Steps p.tables e below (s₁.setTop (mkF m 26 #[.val (.int u0)] [])) _
        refine XS.iconst X0.here hx rfl (hb hby d1_26) ?_
        show Steps p.tables e below (s₁.setTop (mkF m 27 #[.val (.int u0)] [(.int (1 : Int32))])) _
        refine XS.goto X0.here hx rfl (pc0 := 27) (pc' := 31) rfl (hb hby d1_27) (by decide) (by decide) ?_
        show Steps p.tables e below (s₁.setTop (mkF m 31 #[.val (.int u0)] [(.int (1 : Int32))])) _
        exact retN X0 hx (t := .boolean) Bd.returns (by simp) (hb hby d1_31) hr
      · show QP (some (.int (f1 u0))) h0 n0 _ s₁.heap _
        rw [e0]
        exact ⟨congrArg (fun z => some (Value.int z)) (Eq.symm (show (f1 u0) = (1 : Int32) from (if_neg hc3).trans ((if_pos hc9).trans (rfl)))), N0, rfl⟩
    · -- pc 9: not u0 = (13 : Int32)
      have pre3 : ∀ t, Steps p.tables e below (s₁.setTop (mkF m 16 #[.val (.int u0)] [(.int (8232 : Int32)), (.int u0)])) t → Steps p.tables e below (s₁.setTop (entryFrame m #[(.int u0)] 1)) t := fun t k => pre2 t (by
        show Steps p.tables e below (s₁.setTop (mkF m 9 #[.val (.int u0)] [(.int (13 : Int32)), (.int u0)])) _
        refine XS.icmpNo X0.here hx rfl (hb hby d1_9) rfl (feq hc9).1 ?_
        show Steps p.tables e below (s₁.setTop (mkF m 12 #[.val (.int u0)] [])) _
        refine XS.iloadN X0.here hx rfl (hb hby d1_12) rfl ?_
        show Steps p.tables e below (s₁.setTop (mkF m 13 #[.val (.int u0)] [(.int u0)])) _
        refine XS.sipush X0.here hx rfl (hb hby d1_13) ?_
        exact k)
      by_cases hc16 : u0 = (8232 : Int32)
      · -- pc 16: u0 = (8232 : Int32)
        obtain ⟨fs, hr, hrun, hended, hW, hsame⟩ := X0.leave (v := (some (.int (1 : Int32)))) (fun h => by rw [Bd.returns] at h; cases h)
        refine ⟨_, _, pre3 _ ?_, hrun, hended, _, _, rfl, ?_, ⟨_, rfl⟩, hW, hsame.mono (by decide) (by decide)⟩
        · show Steps p.tables e below (s₁.setTop (mkF m 16 #[.val (.int u0)] [(.int (8232 : Int32)), (.int u0)])) _
          refine XS.icmpYes X0.here hx rfl (pc0 := 16) (pc' := 26) rfl (hb hby d1_16) rfl (teq hc16).1 (by decide) (by decide) ?_
          show Steps p.tables e below (s₁.setTop (mkF m 26 #[.val (.int u0)] [])) _
          refine XS.iconst X0.here hx rfl (hb hby d1_26) ?_
          show Steps p.tables e below (s₁.setTop (mkF m 27 #[.val (.int u0)] [(.int (1 : Int32))])) _
          refine XS.goto X0.here hx rfl (pc0 := 27) (pc' := 31) rfl (hb hby d1_27) (by decide) (by decide) ?_
          show Steps p.tables e below (s₁.setTop (mkF m 31 #[.val (.int u0)] [(.int (1 : Int32))])) _
          exact retN X0 hx (t := .boolean) Bd.returns (by simp) (hb hby d1_31) hr
        · show QP (some (.int (f1 u0))) h0 n0 _ s₁.heap _
          rw [e0]
          exact ⟨congrArg (fun z => some (Value.int z)) (Eq.symm (show (f1 u0) = (1 : Int32) from (if_neg hc3).trans ((if_neg hc9).trans ((if_pos hc16).trans (rfl))))), N0, rfl⟩
      · -- pc 16: not u0 = (8232 : Int32)
        have pre4 : ∀ t, Steps p.tables e below (s₁.setTop (mkF m 23 #[.val (.int u0)] [(.int (8233 : Int32)), (.int u0)])) t → Steps p.tables e below (s₁.setTop (entryFrame m #[(.int u0)] 1)) t := fun t k => pre3 t (by
          show Steps p.tables e below (s₁.setTop (mkF m 16 #[.val (.int u0)] [(.int (8232 : Int32)), (.int u0)])) _
          refine XS.icmpNo X0.here hx rfl (hb hby d1_16) rfl (feq hc16).1 ?_
          show Steps p.tables e below (s₁.setTop (mkF m 19 #[.val (.int u0)] [])) _
          refine XS.iloadN X0.here hx rfl (hb hby d1_19) rfl ?_
          show Steps p.tables e below (s₁.setTop (mkF m 20 #[.val (.int u0)] [(.int u0)])) _
          refine XS.sipush X0.here hx rfl (hb hby d1_20) ?_
          exact k)
        by_cases hc23 : u0 = (8233 : Int32)
        · -- pc 23: u0 = (8233 : Int32)
          obtain ⟨fs, hr, hrun, hended, hW, hsame⟩ := X0.leave (v := (some (.int (1 : Int32)))) (fun h => by rw [Bd.returns] at h; cases h)
          refine ⟨_, _, pre4 _ ?_, hrun, hended, _, _, rfl, ?_, ⟨_, rfl⟩, hW, hsame.mono (by decide) (by decide)⟩
          · show Steps p.tables e below (s₁.setTop (mkF m 23 #[.val (.int u0)] [(.int (8233 : Int32)), (.int u0)])) _
            refine XS.icmpNo X0.here hx rfl (hb hby d1_23) rfl (teq hc23).2 ?_
            show Steps p.tables e below (s₁.setTop (mkF m 26 #[.val (.int u0)] [])) _
            refine XS.iconst X0.here hx rfl (hb hby d1_26) ?_
            show Steps p.tables e below (s₁.setTop (mkF m 27 #[.val (.int u0)] [(.int (1 : Int32))])) _
            refine XS.goto X0.here hx rfl (pc0 := 27) (pc' := 31) rfl (hb hby d1_27) (by decide) (by decide) ?_
            show Steps p.tables e below (s₁.setTop (mkF m 31 #[.val (.int u0)] [(.int (1 : Int32))])) _
            exact retN X0 hx (t := .boolean) Bd.returns (by simp) (hb hby d1_31) hr
          · show QP (some (.int (f1 u0))) h0 n0 _ s₁.heap _
            rw [e0]
            exact ⟨congrArg (fun z => some (Value.int z)) (Eq.symm (show (f1 u0) = (1 : Int32) from (if_neg hc3).trans ((if_neg hc9).trans ((if_neg hc16).trans ((if_pos hc23).trans (rfl)))))), N0, rfl⟩
        · -- pc 23: not u0 = (8233 : Int32)
          obtain ⟨fs, hr, hrun, hended, hW, hsame⟩ := X0.leave (v := (some (.int (0 : Int32)))) (fun h => by rw [Bd.returns] at h; cases h)
          refine ⟨_, _, pre4 _ ?_, hrun, hended, _, _, rfl, ?_, ⟨_, rfl⟩, hW, hsame.mono (by decide) (by decide)⟩
          · show Steps p.tables e below (s₁.setTop (mkF m 23 #[.val (.int u0)] [(.int (8233 : Int32)), (.int u0)])) _
            refine XS.icmpYes X0.here hx rfl (pc0 := 23) (pc' := 30) rfl (hb hby d1_23) rfl (feq hc23).2 (by decide) (by decide) ?_
            show Steps p.tables e below (s₁.setTop (mkF m 30 #[.val (.int u0)] [])) _
            refine XS.iconst X0.here hx rfl (hb hby d1_30) ?_
            show Steps p.tables e below (s₁.setTop (mkF m 31 #[.val (.int u0)] [(.int (0 : Int32))])) _
            exact retN X0 hx (t := .boolean) Bd.returns (by simp) (hb hby d1_31) hr
          · show QP (some (.int (f1 u0))) h0 n0 _ s₁.heap _
            rw [e0]
            exact ⟨congrArg (fun z => some (Value.int z)) (Eq.symm (show (f1 u0) = (0 : Int32) from (if_neg hc3).trans ((if_neg hc9).trans ((if_neg hc16).trans ((if_neg hc23).trans (rfl)))))), N0, rfl⟩
theorem pn_0 : plainName "com/example/keenflow/keenflow/domain/RegularExpressionIsLineTerminatorPinLaw" = true := by first | (simp [plainName, overriddenIn]; done) | decide +kernel
theorem ef_0 (m : MethodId) (x0 : Int32) (x1 : Int32) : entryFrame m #[(.int x0), (.int x1)] maxLocals = mkF m 0 #[.val (.int x0), .val (.int x1), .unset, .unset, .unset, .unset] [] := by first | (simp [entryFrame, mkF, argsToLocals, Value.category, maxLocals]; done) | rfl
def j0_64L4 (cc : Int32) : Int32 := (if cc < (8232 : Int32) then (if cc = (10 : Int32) then (1 : Int32) else (if cc = (13 : Int32) then (1 : Int32) else (0 : Int32))) else (if cc < (8234 : Int32) then (1 : Int32) else (0 : Int32)))
theorem pd_0 : parseMethodDescriptor "(C)Z" = some ⟨[.char], some .boolean⟩ := by decide +kernel
theorem own_eq (c : Int32) (h : 0 ≤ c.toInt ∧ c.toInt < 65536) : f1 c = j0_64L4 c := by
  unfold f1 j0_64L4
  simp only [Int32.lt_iff_toInt_lt, ← Int32.toInt_inj, show (10 : Int32).toInt = 10 from rfl, show (13 : Int32).toInt = 13 from rfl, show (8232 : Int32).toInt = 8232 from rfl, show (8233 : Int32).toInt = 8233 from rfl, show (8234 : Int32).toInt = 8234 from rfl]
  repeat' split
  all_goals first | rfl | (exfalso; omega)
set_option maxRecDepth 65536 in
set_option maxHeartbeats 40000000 in
theorem rm0 (l : Launch) (Z : State) (a0 : Array Value) (hw : ∀ d ∈ tables_1, d.before a0 Z = true) (ws : List Jvm.Cond) (u0 : Int32) (u1 : Int32) (h0 : Heap) (n0 : Nat) (Z0 : n0 ≤ h0.size) :
    MetFree l x (head1 (Jvm.Cond.code x code maxLocals ret :: ws) room_1) (fun a U => a = #[(.int u0), (.int u1)] ∧ Z.Warmed39 U.vm ∧ U.heap = h0) (fun _ _ _ _ _ => True) (fun _ U o U' => ∃ v L, o = .returned v ∧ QL n0 v U'.heap L ∧ FrameEnd U o U' L 1 4) := by
  refine MetFree.of_bodySF (plainFor_of_name pn_0) hisR ?_
  intro p e s m args below meth c s₁ Bd hml0 hP hK
  obtain ⟨rfl, hZ, hh⟩ := hP
  have hx := Bd.exec
  have hby := Bd.bytes
  have hml : c.maxLocals = 6 := hml0
  have hown : s.vm.findClass "com/example/keenflow/keenflow/domain/RegularExpressionIsLineTerminatorPinLaw" = some m.cls := findClass_of_methodNamed Bd.named
  have hnm := (name_of_methodNamed Bd.named Bd.method).1
  have X0 : Stand p l e room_1 s m #[(.int u0), (.int u1)] below meth c s₁ [] 0 0 := Stand.of_body Bd
  have e0 : s₁.heap = h0 := by rw [← hh, Bd.state]; rfl
  have N0 := Fr.nil n0
  have pre0 : ∀ t, Steps p.tables e below (s₁.setTop (mkF m 0 #[.val (.int u0), .val (.int u1), .unset, .unset, .unset, .unset] [])) t → Steps p.tables e below (s₁.setTop (entryFrame m #[(.int u0), (.int u1)] maxLocals)) t := fun t k => castTop (ef_0 m u0 u1) k
  have K0 : Keep h0 h0 [] := Keep.refl h0 []
  obtain ⟨T1, h1, k1, X1, e1, E1, A1, st1⟩ := newP X0 hx hZ (hw _ (List.mem_of_getElem? (i := 0) rfl)) e0 (g := (mkF m 1 #[.val (.int u0), .val (.int u1), .unset, .unset, .unset, .unset] [(.int (4 : Int32))])) rfl (hb hby at_1) rfl (by decide) (cap := 4) (by decide) (by decide) (by decide) (by decide)
  obtain ⟨b1, g1⟩ : ∃ z, z = h0.size := ⟨_, rfl⟩
  rw [← g1] at A1 st1
  have g_b1 : n0 ≤ b1 := Nat.le_trans Z0 (Nat.le_of_eq g1.symm)
  have sz_b1 : h0.size ≤ b1 := Nat.le_trans K0.1 (Nat.le_of_eq g1.symm)
  have K1 : Keep h0 h1 [] := K0.ext E1
  have V_b1 : Arv Z h1 b1 k1 .char (4 : Int32) [(.int (0 : Int32)), (.int (0 : Int32)), (.int (0 : Int32)), (.int (0 : Int32))] (.int (0 : Int32)) := (Arv.new A1 (by decide)).pad (pad_rep [] (.int (0 : Int32)) 4)
  obtain ⟨c2, Ar2, q2, S2, N2n, H2, G2⟩ := V_b1
  have hin2 : ¬ ((0 : Int32) < 0 ∨ c2.slots.size ≤ ((0 : Int32)).toNatClampNeg) := inb_of S2 ⟨by decide, by decide⟩
  obtain ⟨T3, h3, X3, e3, W3, st3⟩ := stC X1 hx hZ e1 Ar2 (j := (0 : Int32)) hin2 (g := (mkF m 7 #[.val (.int u0), .val (.int u1), .unset, .unset, .unset, .unset] [(.int (10 : Int32)), (.int (0 : Int32)), (.ref b1), (.ref b1)])) rfl rfl (hb hby at_7)
  have V_b1_3 : Arv Z h3 b1 k1 .char (4 : Int32) [(.int (nar .char (10 : Int32))), (.int (0 : Int32)), (.int (0 : Int32)), (.int (0 : Int32))] (.int (0 : Int32)) := Arv.set Ar2 q2 S2 N2n H2 G2 (fits_nar_char _) W3 0 rfl (Nat.le_of_ble_eq_true rfl)
  have K3 : Keep h0 h3 [] := K1.wr W3 (Or.inr sz_b1)
  have N3 := Fr.snoc X3 N0 g_b1
  obtain ⟨c4, Ar4, q4, S4, N4n, H4, G4⟩ := V_b1_3
  have hin4 : ¬ ((1 : Int32) < 0 ∨ c4.slots.size ≤ ((1 : Int32)).toNatClampNeg) := inb_of S4 ⟨by decide, by decide⟩
  obtain ⟨T5, h5, X5, e5, W5, st5⟩ := stC X3 hx hZ e3 Ar4 (j := (1 : Int32)) hin4 (g := (mkF m 12 #[.val (.int u0), .val (.int u1), .unset, .unset, .unset, .unset] [(.int (13 : Int32)), (.int (1 : Int32)), (.ref b1), (.ref b1)])) rfl rfl (hb hby at_12)
  have V_b1_5 : Arv Z h5 b1 k1 .char (4 : Int32) [(.int (nar .char (10 : Int32))), (.int (nar .char (13 : Int32))), (.int (0 : Int32)), (.int (0 : Int32))] (.int (0 : Int32)) := Arv.set Ar4 q4 S4 N4n H4 G4 (fits_nar_char _) W5 1 rfl (Nat.le_of_ble_eq_true rfl)
  have K5 : Keep h0 h5 [] := K3.wr W5 (Or.inr sz_b1)
  have N5 := Fr.snoc X5 N3 g_b1
  obtain ⟨c6, Ar6, q6, S6, N6n, H6, G6⟩ := V_b1_5
  have hin6 : ¬ ((2 : Int32) < 0 ∨ c6.slots.size ≤ ((2 : Int32)).toNatClampNeg) := inb_of S6 ⟨by decide, by decide⟩
  obtain ⟨T7, h7, X7, e7, W7, st7⟩ := stC X5 hx hZ e5 Ar6 (j := (2 : Int32)) hin6 (g := (mkF m 18 #[.val (.int u0), .val (.int u1), .unset, .unset, .unset, .unset] [(.int (8232 : Int32)), (.int (2 : Int32)), (.ref b1), (.ref b1)])) rfl rfl (hb hby at_18)
  have V_b1_7 : Arv Z h7 b1 k1 .char (4 : Int32) [(.int (nar .char (10 : Int32))), (.int (nar .char (13 : Int32))), (.int (nar .char (8232 : Int32))), (.int (0 : Int32))] (.int (0 : Int32)) := Arv.set Ar6 q6 S6 N6n H6 G6 (fits_nar_char _) W7 2 rfl (Nat.le_of_ble_eq_true rfl)
  have K7 : Keep h0 h7 [] := K5.wr W7 (Or.inr sz_b1)
  have N7 := Fr.snoc X7 N5 g_b1
  obtain ⟨c8, Ar8, q8, S8, N8n, H8, G8⟩ := V_b1_7
  have hin8 : ¬ ((3 : Int32) < 0 ∨ c8.slots.size ≤ ((3 : Int32)).toNatClampNeg) := inb_of S8 ⟨by decide, by decide⟩
  obtain ⟨T9, h9, X9, e9, W9, st9⟩ := stC X7 hx hZ e7 Ar8 (j := (3 : Int32)) hin8 (g := (mkF m 24 #[.val (.int u0), .val (.int u1), .unset, .unset, .unset, .unset] [(.int (8233 : Int32)), (.int (3 : Int32)), (.ref b1), (.ref b1)])) rfl rfl (hb hby at_24)
  have V_b1_9 : Arv Z h9 b1 k1 .char (4 : Int32) [(.int (nar .char (10 : Int32))), (.int (nar .char (13 : Int32))), (.int (nar .char (8232 : Int32))), (.int (nar .char (8233 : Int32)))] (.int (0 : Int32)) := Arv.set Ar8 q8 S8 N8n H8 G8 (fits_nar_char _) W9 3 rfl (Nat.le_of_ble_eq_true rfl)
  have K9 : Keep h0 h9 [] := K7.wr W9 (Or.inr sz_b1)
  have N9 := Fr.snoc X9 N7 g_b1
  have pre10 : ∀ t, Steps p.tables e below (T9.setTop (mkF m 29 #[.val (.int u0), .val (.int u1), .val (.ref b1), .unset, .unset, .unset] [(.int (u1 &&& (1 : Int32)))])) t → Steps p.tables e below (s₁.setTop (entryFrame m #[(.int u0), (.int u1)] maxLocals)) t := fun t k => pre0 t (by
    show Steps p.tables e below (s₁.setTop (mkF m 0 #[.val (.int u0), .val (.int u1), .unset, .unset, .unset, .unset] [])) _
    refine XS.iconst X0.here hx rfl (hb hby at_0) ?_
    show Steps p.tables e below (s₁.setTop (mkF m 1 #[.val (.int u0), .val (.int u1), .unset, .unset, .unset, .unset] [(.int (4 : Int32))])) _
    refine st1 _ ?_
    show Steps p.tables e below (T1.setTop (mkF m 3 #[.val (.int u0), .val (.int u1), .unset, .unset, .unset, .unset] [(.ref b1)])) _
    refine XS.dup X1.here hx rfl (hb hby at_3) rfl rfl ?_
    show Steps p.tables e below (T1.setTop (mkF m 4 #[.val (.int u0), .val (.int u1), .unset, .unset, .unset, .unset] [(.ref b1), (.ref b1)])) _
    refine XS.iconst X1.here hx rfl (hb hby at_4) ?_
    show Steps p.tables e below (T1.setTop (mkF m 5 #[.val (.int u0), .val (.int u1), .unset, .unset, .unset, .unset] [(.int (0 : Int32)), (.ref b1), (.ref b1)])) _
    refine XS.bipush X1.here hx rfl (hb hby at_5) ?_
    show Steps p.tables e below (T1.setTop (mkF m 7 #[.val (.int u0), .val (.int u1), .unset, .unset, .unset, .unset] [(.int (10 : Int32)), (.int (0 : Int32)), (.ref b1), (.ref b1)])) _
    refine st3 _ ?_
    show Steps p.tables e below (T3.setTop (mkF m 8 #[.val (.int u0), .val (.int u1), .unset, .unset, .unset, .unset] [(.ref b1)])) _
    refine XS.dup X3.here hx rfl (hb hby at_8) rfl rfl ?_
    show Steps p.tables e below (T3.setTop (mkF m 9 #[.val (.int u0), .val (.int u1), .unset, .unset, .unset, .unset] [(.ref b1), (.ref b1)])) _
    refine XS.iconst X3.here hx rfl (hb hby at_9) ?_
    show Steps p.tables e below (T3.setTop (mkF m 10 #[.val (.int u0), .val (.int u1), .unset, .unset, .unset, .unset] [(.int (1 : Int32)), (.ref b1), (.ref b1)])) _
    refine XS.bipush X3.here hx rfl (hb hby at_10) ?_
    show Steps p.tables e below (T3.setTop (mkF m 12 #[.val (.int u0), .val (.int u1), .unset, .unset, .unset, .unset] [(.int (13 : Int32)), (.int (1 : Int32)), (.ref b1), (.ref b1)])) _
    refine st5 _ ?_
    show Steps p.tables e below (T5.setTop (mkF m 13 #[.val (.int u0), .val (.int u1), .unset, .unset, .unset, .unset] [(.ref b1)])) _
    refine XS.dup X5.here hx rfl (hb hby at_13) rfl rfl ?_
    show Steps p.tables e below (T5.setTop (mkF m 14 #[.val (.int u0), .val (.int u1), .unset, .unset, .unset, .unset] [(.ref b1), (.ref b1)])) _
    refine XS.iconst X5.here hx rfl (hb hby at_14) ?_
    show Steps p.tables e below (T5.setTop (mkF m 15 #[.val (.int u0), .val (.int u1), .unset, .unset, .unset, .unset] [(.int (2 : Int32)), (.ref b1), (.ref b1)])) _
    refine XS.sipush X5.here hx rfl (hb hby at_15) ?_
    show Steps p.tables e below (T5.setTop (mkF m 18 #[.val (.int u0), .val (.int u1), .unset, .unset, .unset, .unset] [(.int (8232 : Int32)), (.int (2 : Int32)), (.ref b1), (.ref b1)])) _
    refine st7 _ ?_
    show Steps p.tables e below (T7.setTop (mkF m 19 #[.val (.int u0), .val (.int u1), .unset, .unset, .unset, .unset] [(.ref b1)])) _
    refine XS.dup X7.here hx rfl (hb hby at_19) rfl rfl ?_
    show Steps p.tables e below (T7.setTop (mkF m 20 #[.val (.int u0), .val (.int u1), .unset, .unset, .unset, .unset] [(.ref b1), (.ref b1)])) _
    refine XS.iconst X7.here hx rfl (hb hby at_20) ?_
    show Steps p.tables e below (T7.setTop (mkF m 21 #[.val (.int u0), .val (.int u1), .unset, .unset, .unset, .unset] [(.int (3 : Int32)), (.ref b1), (.ref b1)])) _
    refine XS.sipush X7.here hx rfl (hb hby at_21) ?_
    show Steps p.tables e below (T7.setTop (mkF m 24 #[.val (.int u0), .val (.int u1), .unset, .unset, .unset, .unset] [(.int (8233 : Int32)), (.int (3 : Int32)), (.ref b1), (.ref b1)])) _
    refine st9 _ ?_
    show Steps p.tables e below (T9.setTop (mkF m 25 #[.val (.int u0), .val (.int u1), .unset, .unset, .unset, .unset] [(.ref b1)])) _
    refine XS.astoreN X9.here hx rfl (hb hby at_25) rfl rfl (l' := #[.val (.int u0), .val (.int u1), .val (.ref b1), .unset, .unset, .unset]) rfl ?_
    show Steps p.tables e below (T9.setTop (mkF m 26 #[.val (.int u0), .val (.int u1), .val (.ref b1), .unset, .unset, .unset] [])) _
    refine XS.iloadN X9.here hx rfl (hb hby at_26) rfl ?_
    show Steps p.tables e below (T9.setTop (mkF m 27 #[.val (.int u0), .val (.int u1), .val (.ref b1), .unset, .unset, .unset] [(.int u1)])) _
    refine XS.iconst X9.here hx rfl (hb hby at_27) ?_
    show Steps p.tables e below (T9.setTop (mkF m 28 #[.val (.int u0), .val (.int u1), .val (.ref b1), .unset, .unset, .unset] [(.int (1 : Int32)), (.int u1)])) _
    refine XS.iand X9.here hx rfl (hb hby at_28) rfl ?_
    exact k)
  by_cases hc29 : (u1 &&& (1 : Int32)) = (0 : Int32)
  · -- pc 29: (u1 &&& (1 : Int32)) = (0 : Int32)
    have pre11 : ∀ t, Steps p.tables e below (T9.setTop (mkF m 63 #[.val (.int u0), .val (.int u1), .val (.ref b1), .val (.int (u0.toUInt32.toUInt16.toUInt32.toInt32)), .unset, .unset] [])) t → Steps p.tables e below (s₁.setTop (entryFrame m #[(.int u0), (.int u1)] maxLocals)) t := fun t k => pre10 t (by
      show Steps p.tables e below (T9.setTop (mkF m 29 #[.val (.int u0), .val (.int u1), .val (.ref b1), .unset, .unset, .unset] [(.int (u1 &&& (1 : Int32)))])) _
      refine XS.ifYes X9.here hx rfl (pc0 := 29) (pc' := 60) rfl (hb hby at_29) rfl ((if0 _ _).trans (teq hc29).1) (by decide) (by decide) ?_
      show Steps p.tables e below (T9.setTop (mkF m 60 #[.val (.int u0), .val (.int u1), .val (.ref b1), .unset, .unset, .unset] [])) _
      refine XS.iloadN X9.here hx rfl (hb hby at_60) rfl ?_
      show Steps p.tables e below (T9.setTop (mkF m 61 #[.val (.int u0), .val (.int u1), .val (.ref b1), .unset, .unset, .unset] [(.int u0)])) _
      refine XS.i2c X9.here hx rfl (hb hby at_61) rfl ?_
      show Steps p.tables e below (T9.setTop (mkF m 62 #[.val (.int u0), .val (.int u1), .val (.ref b1), .unset, .unset, .unset] [(.int (u0.toUInt32.toUInt16.toUInt32.toInt32))])) _
      refine XS.istoreN X9.here hx rfl (hb hby at_62) rfl (l' := #[.val (.int u0), .val (.int u1), .val (.ref b1), .val (.int (u0.toUInt32.toUInt16.toUInt32.toInt32)), .unset, .unset]) rfl ?_
      exact k)
    obtain ⟨cc, hcc, rcc⟩ : ∃ z : Int32, z = (u0.toUInt32.toUInt16.toUInt32.toInt32) ∧ (0 ≤ z.toInt ∧ z.toInt < 65536) := ⟨_, rfl, (c_i2c _).2⟩
    rw [← hcc] at pre11
    have pre12 : ∀ t, Steps p.tables e below (T9.setTop (mkF m 64 #[.val (.int u0), .val (.int u1), .val (.ref b1), .val (.int cc), .unset, .unset] [(.int cc)])) t → Steps p.tables e below (s₁.setTop (entryFrame m #[(.int u0), (.int u1)] maxLocals)) t := fun t k => pre11 t (by
      show Steps p.tables e below (T9.setTop (mkF m 63 #[.val (.int u0), .val (.int u1), .val (.ref b1), .val (.int cc), .unset, .unset] [])) _
      refine XS.iloadN X9.here hx rfl (hb hby at_63) rfl ?_
      exact k)
    have pre13 : ∀ t, Steps p.tables e below (T9.setTop (mkF m 106 #[.val (.int u0), .val (.int u1), .val (.ref b1), .val (.int cc), .val (.int (j0_64L4 cc)), .unset] [])) t → Steps p.tables e below (s₁.setTop (entryFrame m #[(.int u0), (.int u1)] maxLocals)) t := by
      have pre14 : ∀ t, Steps p.tables e below (T9.setTop (mkF m 67 #[.val (.int u0), .val (.int u1), .val (.ref b1), .val (.int cc), .unset, .unset] [(.int (8232 : Int32)), (.int cc)])) t → Steps p.tables e below (s₁.setTop (entryFrame m #[(.int u0), (.int u1)] maxLocals)) t := fun t k => pre12 t (by
        show Steps p.tables e below (T9.setTop (mkF m 64 #[.val (.int u0), .val (.int u1), .val (.ref b1), .val (.int cc), .unset, .unset] [(.int cc)])) _
        refine XS.sipush X9.here hx rfl (hb hby at_64) ?_
        exact k)
      by_cases hc67 : cc < (8232 : Int32)
      · -- pc 67: cc < (8232 : Int32)
        have pre15 : ∀ t, Steps p.tables e below (T9.setTop (mkF m 73 #[.val (.int u0), .val (.int u1), .val (.ref b1), .val (.int cc), .unset, .unset] [(.int (10 : Int32)), (.int cc)])) t → Steps p.tables e below (s₁.setTop (entryFrame m #[(.int u0), (.int u1)] maxLocals)) t := fun t k => pre14 t (by
          show Steps p.tables e below (T9.setTop (mkF m 67 #[.val (.int u0), .val (.int u1), .val (.ref b1), .val (.int cc), .unset, .unset] [(.int (8232 : Int32)), (.int cc)])) _
          refine XS.icmpNo X9.here hx rfl (hb hby at_67) rfl (tlt hc67).2.1 ?_
          show Steps p.tables e below (T9.setTop (mkF m 70 #[.val (.int u0), .val (.int u1), .val (.ref b1), .val (.int cc), .unset, .unset] [])) _
          refine XS.iloadN X9.here hx rfl (hb hby at_70) rfl ?_
          show Steps p.tables e below (T9.setTop (mkF m 71 #[.val (.int u0), .val (.int u1), .val (.ref b1), .val (.int cc), .unset, .unset] [(.int cc)])) _
          refine XS.bipush X9.here hx rfl (hb hby at_71) ?_
          exact k)
        by_cases hc73 : cc = (10 : Int32)
        · -- pc 73: cc = (10 : Int32)
          intro t k
          have qL4 : (j0_64L4 cc) = (1 : Int32) := (if_pos hc67).trans ((if_pos hc73).trans (rfl))
          rw [qL4] at k
          refine pre15 t ?_
          show Steps p.tables e below (T9.setTop (mkF m 73 #[.val (.int u0), .val (.int u1), .val (.ref b1), .val (.int cc), .unset, .unset] [(.int (10 : Int32)), (.int cc)])) _
          refine XS.icmpYes X9.here hx rfl (pc0 := 73) (pc' := 82) rfl (hb hby at_73) rfl (teq hc73).1 (by decide) (by decide) ?_
          show Steps p.tables e below (T9.setTop (mkF m 82 #[.val (.int u0), .val (.int u1), .val (.ref b1), .val (.int cc), .unset, .unset] [])) _
          refine XS.iconst X9.here hx rfl (hb hby at_82) ?_
          show Steps p.tables e below (T9.setTop (mkF m 83 #[.val (.int u0), .val (.int u1), .val (.ref b1), .val (.int cc), .unset, .unset] [(.int (1 : Int32))])) _
          refine XS.goto X9.here hx rfl (pc0 := 83) (pc' := 87) rfl (hb hby at_83) (by decide) (by decide) ?_
          show Steps p.tables e below (T9.setTop (mkF m 87 #[.val (.int u0), .val (.int u1), .val (.ref b1), .val (.int cc), .unset, .unset] [(.int (1 : Int32))])) _
          refine XS.istore X9.here hx rfl (hb hby at_87) rfl (l' := #[.val (.int u0), .val (.int u1), .val (.ref b1), .val (.int cc), .val (.int (1 : Int32)), .unset]) rfl ?_
          show Steps p.tables e below (T9.setTop (mkF m 89 #[.val (.int u0), .val (.int u1), .val (.ref b1), .val (.int cc), .val (.int (1 : Int32)), .unset] [])) _
          refine XS.goto X9.here hx rfl (pc0 := 89) (pc' := 106) rfl (hb hby at_89) (by decide) (by decide) ?_
          exact k
        · -- pc 73: not cc = (10 : Int32)
          have pre16 : ∀ t, Steps p.tables e below (T9.setTop (mkF m 79 #[.val (.int u0), .val (.int u1), .val (.ref b1), .val (.int cc), .unset, .unset] [(.int (13 : Int32)), (.int cc)])) t → Steps p.tables e below (s₁.setTop (entryFrame m #[(.int u0), (.int u1)] maxLocals)) t := fun t k => pre15 t (by
            show Steps p.tables e below (T9.setTop (mkF m 73 #[.val (.int u0), .val (.int u1), .val (.ref b1), .val (.int cc), .unset, .unset] [(.int (10 : Int32)), (.int cc)])) _
            refine XS.icmpNo X9.here hx rfl (hb hby at_73) rfl (feq hc73).1 ?_
            show Steps p.tables e below (T9.setTop (mkF m 76 #[.val (.int u0), .val (.int u1), .val (.ref b1), .val (.int cc), .unset, .unset] [])) _
            refine XS.iloadN X9.here hx rfl (hb hby at_76) rfl ?_
            show Steps p.tables e below (T9.setTop (mkF m 77 #[.val (.int u0), .val (.int u1), .val (.ref b1), .val (.int cc), .unset, .unset] [(.int cc)])) _
            refine XS.bipush X9.here hx rfl (hb hby at_77) ?_
            exact k)
          by_cases hc79 : cc = (13 : Int32)
          · -- pc 79: cc = (13 : Int32)
            intro t k
            have qL4 : (j0_64L4 cc) = (1 : Int32) := (if_pos hc67).trans ((if_neg hc73).trans ((if_pos hc79).trans (rfl)))
            rw [qL4] at k
            refine pre16 t ?_
            show Steps p.tables e below (T9.setTop (mkF m 79 #[.val (.int u0), .val (.int u1), .val (.ref b1), .val (.int cc), .unset, .unset] [(.int (13 : Int32)), (.int cc)])) _
            refine XS.icmpNo X9.here hx rfl (hb hby at_79) rfl (teq hc79).2 ?_
            show Steps p.tables e below (T9.setTop (mkF m 82 #[.val (.int u0), .val (.int u1), .val (.ref b1), .val (.int cc), .unset, .unset] [])) _
            refine XS.iconst X9.here hx rfl (hb hby at_82) ?_
            show Steps p.tables e below (T9.setTop (mkF m 83 #[.val (.int u0), .val (.int u1), .val (.ref b1), .val (.int cc), .unset, .unset] [(.int (1 : Int32))])) _
            refine XS.goto X9.here hx rfl (pc0 := 83) (pc' := 87) rfl (hb hby at_83) (by decide) (by decide) ?_
            show Steps p.tables e below (T9.setTop (mkF m 87 #[.val (.int u0), .val (.int u1), .val (.ref b1), .val (.int cc), .unset, .unset] [(.int (1 : Int32))])) _
            refine XS.istore X9.here hx rfl (hb hby at_87) rfl (l' := #[.val (.int u0), .val (.int u1), .val (.ref b1), .val (.int cc), .val (.int (1 : Int32)), .unset]) rfl ?_
            show Steps p.tables e below (T9.setTop (mkF m 89 #[.val (.int u0), .val (.int u1), .val (.ref b1), .val (.int cc), .val (.int (1 : Int32)), .unset] [])) _
            refine XS.goto X9.here hx rfl (pc0 := 89) (pc' := 106) rfl (hb hby at_89) (by decide) (by decide) ?_
            exact k
          · -- pc 79: not cc = (13 : Int32)
            intro t k
            have qL4 : (j0_64L4 cc) = (0 : Int32) := (if_pos hc67).trans ((if_neg hc73).trans ((if_neg hc79).trans (rfl)))
            rw [qL4] at k
            refine pre16 t ?_
            show Steps p.tables e below (T9.setTop (mkF m 79 #[.val (.int u0), .val (.int u1), .val (.ref b1), .val (.int cc), .unset, .unset] [(.int (13 : Int32)), (.int cc)])) _
            refine XS.icmpYes X9.here hx rfl (pc0 := 79) (pc' := 86) rfl (hb hby at_79) rfl (feq hc79).2 (by decide) (by decide) ?_
            show Steps p.tables e below (T9.setTop (mkF m 86 #[.val (.int u0), .val (.int u1), .val (.ref b1), .val (.int cc), .unset, .unset] [])) _
            refine XS.iconst X9.here hx rfl (hb hby at_86) ?_
            show Steps p.tables e below (T9.setTop (mkF m 87 #[.val (.int u0), .val (.int u1), .val (.ref b1), .val (.int cc), .unset, .unset] [(.int (0 : Int32))])) _
            refine XS.istore X9.here hx rfl (hb hby at_87) rfl (l' := #[.val (.int u0), .val (.int u1), .val (.ref b1), .val (.int cc), .val (.int (0 : Int32)), .unset]) rfl ?_
            show Steps p.tables e below (T9.setTop (mkF m 89 #[.val (.int u0), .val (.int u1), .val (.ref b1), .val (.int cc), .val (.int (0 : Int32)), .unset] [])) _
            refine XS.goto X9.here hx rfl (pc0 := 89) (pc' := 106) rfl (hb hby at_89) (by decide) (by decide) ?_
            exact k
      · -- pc 67: not cc < (8232 : Int32)
        have pre17 : ∀ t, Steps p.tables e below (T9.setTop (mkF m 96 #[.val (.int u0), .val (.int u1), .val (.ref b1), .val (.int cc), .unset, .unset] [(.int (8234 : Int32)), (.int cc)])) t → Steps p.tables e below (s₁.setTop (entryFrame m #[(.int u0), (.int u1)] maxLocals)) t := fun t k => pre14 t (by
          show Steps p.tables e below (T9.setTop (mkF m 67 #[.val (.int u0), .val (.int u1), .val (.ref b1), .val (.int cc), .unset, .unset] [(.int (8232 : Int32)), (.int cc)])) _
          refine XS.icmpYes X9.here hx rfl (pc0 := 67) (pc' := 92) rfl (hb hby at_67) rfl (flt hc67).2.1 (by decide) (by decide) ?_
          show Steps p.tables e below (T9.setTop (mkF m 92 #[.val (.int u0), .val (.int u1), .val (.ref b1), .val (.int cc), .unset, .unset] [])) _
          refine XS.iloadN X9.here hx rfl (hb hby at_92) rfl ?_
          show Steps p.tables e below (T9.setTop (mkF m 93 #[.val (.int u0), .val (.int u1), .val (.ref b1), .val (.int cc), .unset, .unset] [(.int cc)])) _
          refine XS.sipush X9.here hx rfl (hb hby at_93) ?_
          exact k)
        by_cases hc96 : cc < (8234 : Int32)
        · -- pc 96: cc < (8234 : Int32)
          intro t k
          have qL4 : (j0_64L4 cc) = (1 : Int32) := (if_neg hc67).trans ((if_pos hc96).trans (rfl))
          rw [qL4] at k
          refine pre17 t ?_
          show Steps p.tables e below (T9.setTop (mkF m 96 #[.val (.int u0), .val (.int u1), .val (.ref b1), .val (.int cc), .unset, .unset] [(.int (8234 : Int32)), (.int cc)])) _
          refine XS.icmpNo X9.here hx rfl (hb hby at_96) rfl (tlt hc96).2.1 ?_
          show Steps p.tables e below (T9.setTop (mkF m 99 #[.val (.int u0), .val (.int u1), .val (.ref b1), .val (.int cc), .unset, .unset] [])) _
          refine XS.iconst X9.here hx rfl (hb hby at_99) ?_
          show Steps p.tables e below (T9.setTop (mkF m 100 #[.val (.int u0), .val (.int u1), .val (.ref b1), .val (.int cc), .unset, .unset] [(.int (1 : Int32))])) _
          refine XS.goto X9.here hx rfl (pc0 := 100) (pc' := 104) rfl (hb hby at_100) (by decide) (by decide) ?_
          show Steps p.tables e below (T9.setTop (mkF m 104 #[.val (.int u0), .val (.int u1), .val (.ref b1), .val (.int cc), .unset, .unset] [(.int (1 : Int32))])) _
          refine XS.istore X9.here hx rfl (hb hby at_104) rfl (l' := #[.val (.int u0), .val (.int u1), .val (.ref b1), .val (.int cc), .val (.int (1 : Int32)), .unset]) rfl ?_
          exact k
        · -- pc 96: not cc < (8234 : Int32)
          intro t k
          have qL4 : (j0_64L4 cc) = (0 : Int32) := (if_neg hc67).trans ((if_neg hc96).trans (rfl))
          rw [qL4] at k
          refine pre17 t ?_
          show Steps p.tables e below (T9.setTop (mkF m 96 #[.val (.int u0), .val (.int u1), .val (.ref b1), .val (.int cc), .unset, .unset] [(.int (8234 : Int32)), (.int cc)])) _
          refine XS.icmpYes X9.here hx rfl (pc0 := 96) (pc' := 103) rfl (hb hby at_96) rfl (flt hc96).2.1 (by decide) (by decide) ?_
          show Steps p.tables e below (T9.setTop (mkF m 103 #[.val (.int u0), .val (.int u1), .val (.ref b1), .val (.int cc), .unset, .unset] [])) _
          refine XS.iconst X9.here hx rfl (hb hby at_103) ?_
          show Steps p.tables e below (T9.setTop (mkF m 104 #[.val (.int u0), .val (.int u1), .val (.ref b1), .val (.int cc), .unset, .unset] [(.int (0 : Int32))])) _
          refine XS.istore X9.here hx rfl (hb hby at_104) rfl (l' := #[.val (.int u0), .val (.int u1), .val (.ref b1), .val (.int cc), .val (.int (0 : Int32)), .unset]) rfl ?_
          exact k
    obtain ⟨_, _, ⟨T18, L18, k18, n18⟩, -, X18, ⟨Lc18, hQ18, l18, y18, z18⟩, st18⟩ := Jvm.LawKit.callS X9 hx (y := (⟨"com/example/keenflow/keenflow/domain/RegularExpression", "isLineTerminator", "(C)Z"⟩ : MethodName)) hown (mvT hZ (hw _ (List.mem_of_getElem? (i := 1) rfl))) (mvT hZ (hw _ (List.mem_of_getElem? (i := 2) rfl))) (mvT hZ (hw _ (List.mem_of_getElem? (i := 3) rfl))) (mvT hZ (hw _ (List.mem_of_getElem? (i := 4) rfl))) (by decide) (backOf (W := 0) (rm1 l Z a0 hw [] cc  h9 n0 (Nat.le_trans Z0 K9.1) ) hZ (hw _ (List.mem_of_getElem? (i := 4) rfl)) (hw _ (List.mem_of_getElem? (i := 3) rfl)) (by decide) (by decide)) (g := (mkF m 107 #[.val (.int u0), .val (.int u1), .val (.ref b1), .val (.int cc), .val (.int (j0_64L4 cc)), .unset] [(.int cc)])) rfl (by rw [hml]; rfl) (argsL := [(.int cc)]) (rest := []) (lenOf pd_0 rfl) rfl (by show 2 * 0 + _ ≤ _; exact Nat.le_of_eq rfl) (hb hby at_107) (fun _ _ => ⟨rfl, e9, (by decide : 1 + 0 ≤ _), (by decide : 4 + 0 ≤ _)⟩)
    dsimp only [Pt.U, Pt.locs, Pt.cells, Pt.slots] at X18 l18 y18 z18 st18 hQ18
    subst l18 y18 z18
    obtain ⟨rfl, N18q, e18⟩ := hQ18
    have N18 := Fr.app N9 N18q
    obtain ⟨fs, hr, hrun, hended, hW, hsame⟩ := X18.leave (v := (some (.int (1 : Int32)))) (fun h => by rw [Bd.returns] at h; cases h)
    refine ⟨_, _, pre13 _ ?_, hrun, hended, _, _, rfl, ?_, ⟨_, rfl⟩, hW, hsame.mono (by decide) (by decide)⟩
    · show Steps p.tables e below (T9.setTop (mkF m 106 #[.val (.int u0), .val (.int u1), .val (.ref b1), .val (.int cc), .val (.int (j0_64L4 cc)), .unset] [])) _
      refine XS.iloadN X9.here hx rfl (hb hby at_106) rfl ?_
      show Steps p.tables e below (T9.setTop (mkF m 107 #[.val (.int u0), .val (.int u1), .val (.ref b1), .val (.int cc), .val (.int (j0_64L4 cc)), .unset] [(.int cc)])) _
      refine st18 _ ?_
      show Steps p.tables e below (T18.setTop (mkF m 110 #[.val (.int u0), .val (.int u1), .val (.ref b1), .val (.int cc), .val (.int (j0_64L4 cc)), .unset] [(.int (f1 cc))])) _
      refine XS.iload X18.here hx rfl (hb hby at_110) rfl ?_
      show Steps p.tables e below (T18.setTop (mkF m 112 #[.val (.int u0), .val (.int u1), .val (.ref b1), .val (.int cc), .val (.int (j0_64L4 cc)), .unset] [(.int (j0_64L4 cc)), (.int (f1 cc))])) _
      refine XS.icmpNo X18.here hx rfl (hb hby at_112) rfl (teq (own_eq _ rcc)).2 ?_
      show Steps p.tables e below (T18.setTop (mkF m 115 #[.val (.int u0), .val (.int u1), .val (.ref b1), .val (.int cc), .val (.int (j0_64L4 cc)), .unset] [])) _
      refine XS.iconst X18.here hx rfl (hb hby at_115) ?_
      show Steps p.tables e below (T18.setTop (mkF m 116 #[.val (.int u0), .val (.int u1), .val (.ref b1), .val (.int cc), .val (.int (j0_64L4 cc)), .unset] [(.int (1 : Int32))])) _
      refine XS.goto X18.here hx rfl (pc0 := 116) (pc' := 120) rfl (hb hby at_116) (by decide) (by decide) ?_
      show Steps p.tables e below (T18.setTop (mkF m 120 #[.val (.int u0), .val (.int u1), .val (.ref b1), .val (.int cc), .val (.int (j0_64L4 cc)), .unset] [(.int (1 : Int32))])) _
      exact retN X18 hx (t := .boolean) Bd.returns (by simp) (hb hby at_120) hr
    · show QL n0 _ T18.heap _
      rw [e18]
      exact ⟨rfl, N18⟩
  · -- pc 29: not (u1 &&& (1 : Int32)) = (0 : Int32)
    obtain ⟨c19, z19, Ar19, hin19, hat19, hfit19, hval19⟩ := own_elem V_b1_9 (by simp) (j := (((u0.toUInt32 >>> ((1 : Int32) &&& 31).toUInt32).toInt32) &&& (3 : Int32))) (own_and3 _)
    have pre20 : ∀ t, Steps p.tables e below (T9.setTop (mkF m 63 #[.val (.int u0), .val (.int u1), .val (.ref b1), .val (.int ((z19 + ((((u0.toUInt32 >>> ((3 : Int32) &&& 31).toUInt32).toInt32) &&& (3 : Int32)) - (1 : Int32))).toUInt32.toUInt16.toUInt32.toInt32)), .val (.int z19), .val (.int ((((u0.toUInt32 >>> ((3 : Int32) &&& 31).toUInt32).toInt32) &&& (3 : Int32)) - (1 : Int32)))] [])) t → Steps p.tables e below (s₁.setTop (entryFrame m #[(.int u0), (.int u1)] maxLocals)) t := fun t k => pre10 t (by
      show Steps p.tables e below (T9.setTop (mkF m 29 #[.val (.int u0), .val (.int u1), .val (.ref b1), .unset, .unset, .unset] [(.int (u1 &&& (1 : Int32)))])) _
      refine XS.ifNo X9.here hx rfl (hb hby at_29) rfl ((if0 _ _).trans (feq hc29).1) ?_
      show Steps p.tables e below (T9.setTop (mkF m 32 #[.val (.int u0), .val (.int u1), .val (.ref b1), .unset, .unset, .unset] [])) _
      refine XS.aloadN X9.here hx rfl (hb hby at_32) rfl rfl ?_
      show Steps p.tables e below (T9.setTop (mkF m 33 #[.val (.int u0), .val (.int u1), .val (.ref b1), .unset, .unset, .unset] [(.ref b1)])) _
      refine XS.iloadN X9.here hx rfl (hb hby at_33) rfl ?_
      show Steps p.tables e below (T9.setTop (mkF m 34 #[.val (.int u0), .val (.int u1), .val (.ref b1), .unset, .unset, .unset] [(.int u0), (.ref b1)])) _
      refine XS.iconst X9.here hx rfl (hb hby at_34) ?_
      show Steps p.tables e below (T9.setTop (mkF m 35 #[.val (.int u0), .val (.int u1), .val (.ref b1), .unset, .unset, .unset] [(.int (1 : Int32)), (.int u0), (.ref b1)])) _
      refine XS.iushr X9.here hx rfl (hb hby at_35) rfl ?_
      show Steps p.tables e below (T9.setTop (mkF m 36 #[.val (.int u0), .val (.int u1), .val (.ref b1), .unset, .unset, .unset] [(.int ((u0.toUInt32 >>> ((1 : Int32) &&& 31).toUInt32).toInt32)), (.ref b1)])) _
      refine XS.iconst X9.here hx rfl (hb hby at_36) ?_
      show Steps p.tables e below (T9.setTop (mkF m 37 #[.val (.int u0), .val (.int u1), .val (.ref b1), .unset, .unset, .unset] [(.int (3 : Int32)), (.int ((u0.toUInt32 >>> ((1 : Int32) &&& 31).toUInt32).toInt32)), (.ref b1)])) _
      refine XS.iand X9.here hx rfl (hb hby at_37) rfl ?_
      show Steps p.tables e below (T9.setTop (mkF m 38 #[.val (.int u0), .val (.int u1), .val (.ref b1), .unset, .unset, .unset] [(.int (((u0.toUInt32 >>> ((1 : Int32) &&& 31).toUInt32).toInt32) &&& (3 : Int32))), (.ref b1)])) _
      refine X9.caload hx (j := (((u0.toUInt32 >>> ((1 : Int32) &&& 31).toUInt32).toInt32) &&& (3 : Int32))) (v := (.int z19)) (by rw [e9]; exact Ar19.1) (State.isArrayOf_alike hZ.alike Ar19.2.1) Ar19.2.2 hin19 hat19 (g := (mkF m 38 #[.val (.int u0), .val (.int u1), .val (.ref b1), .unset, .unset, .unset] [(.int (((u0.toUInt32 >>> ((1 : Int32) &&& 31).toUInt32).toInt32) &&& (3 : Int32))), (.ref b1)])) rfl rfl (hb hby at_38) _ ?_
      show Steps p.tables e below (T9.setTop (mkF m 39 #[.val (.int u0), .val (.int u1), .val (.ref b1), .unset, .unset, .unset] [(.int z19)])) _
      refine XS.istore X9.here hx rfl (hb hby at_39) rfl (l' := #[.val (.int u0), .val (.int u1), .val (.ref b1), .unset, .val (.int z19), .unset]) rfl ?_
      show Steps p.tables e below (T9.setTop (mkF m 41 #[.val (.int u0), .val (.int u1), .val (.ref b1), .unset, .val (.int z19), .unset] [])) _
      refine XS.iloadN X9.here hx rfl (hb hby at_41) rfl ?_
      show Steps p.tables e below (T9.setTop (mkF m 42 #[.val (.int u0), .val (.int u1), .val (.ref b1), .unset, .val (.int z19), .unset] [(.int u0)])) _
      refine XS.iconst X9.here hx rfl (hb hby at_42) ?_
      show Steps p.tables e below (T9.setTop (mkF m 43 #[.val (.int u0), .val (.int u1), .val (.ref b1), .unset, .val (.int z19), .unset] [(.int (3 : Int32)), (.int u0)])) _
      refine XS.iushr X9.here hx rfl (hb hby at_43) rfl ?_
      show Steps p.tables e below (T9.setTop (mkF m 44 #[.val (.int u0), .val (.int u1), .val (.ref b1), .unset, .val (.int z19), .unset] [(.int ((u0.toUInt32 >>> ((3 : Int32) &&& 31).toUInt32).toInt32))])) _
      refine XS.iconst X9.here hx rfl (hb hby at_44) ?_
      show Steps p.tables e below (T9.setTop (mkF m 45 #[.val (.int u0), .val (.int u1), .val (.ref b1), .unset, .val (.int z19), .unset] [(.int (3 : Int32)), (.int ((u0.toUInt32 >>> ((3 : Int32) &&& 31).toUInt32).toInt32))])) _
      refine XS.iand X9.here hx rfl (hb hby at_45) rfl ?_
      show Steps p.tables e below (T9.setTop (mkF m 46 #[.val (.int u0), .val (.int u1), .val (.ref b1), .unset, .val (.int z19), .unset] [(.int (((u0.toUInt32 >>> ((3 : Int32) &&& 31).toUInt32).toInt32) &&& (3 : Int32)))])) _
      refine XS.iconst X9.here hx rfl (hb hby at_46) ?_
      show Steps p.tables e below (T9.setTop (mkF m 47 #[.val (.int u0), .val (.int u1), .val (.ref b1), .unset, .val (.int z19), .unset] [(.int (1 : Int32)), (.int (((u0.toUInt32 >>> ((3 : Int32) &&& 31).toUInt32).toInt32) &&& (3 : Int32)))])) _
      refine XS.isub X9.here hx rfl (hb hby at_47) rfl ?_
      show Steps p.tables e below (T9.setTop (mkF m 48 #[.val (.int u0), .val (.int u1), .val (.ref b1), .unset, .val (.int z19), .unset] [(.int ((((u0.toUInt32 >>> ((3 : Int32) &&& 31).toUInt32).toInt32) &&& (3 : Int32)) - (1 : Int32)))])) _
      refine XS.istore X9.here hx rfl (hb hby at_48) rfl (l' := #[.val (.int u0), .val (.int u1), .val (.ref b1), .unset, .val (.int z19), .val (.int ((((u0.toUInt32 >>> ((3 : Int32) &&& 31).toUInt32).toInt32) &&& (3 : Int32)) - (1 : Int32)))]) rfl ?_
      show Steps p.tables e below (T9.setTop (mkF m 50 #[.val (.int u0), .val (.int u1), .val (.ref b1), .unset, .val (.int z19), .val (.int ((((u0.toUInt32 >>> ((3 : Int32) &&& 31).toUInt32).toInt32) &&& (3 : Int32)) - (1 : Int32)))] [])) _
      refine XS.iload X9.here hx rfl (hb hby at_50) rfl ?_
      show Steps p.tables e below (T9.setTop (mkF m 52 #[.val (.int u0), .val (.int u1), .val (.ref b1), .unset, .val (.int z19), .val (.int ((((u0.toUInt32 >>> ((3 : Int32) &&& 31).toUInt32).toInt32) &&& (3 : Int32)) - (1 : Int32)))] [(.int z19)])) _
      refine XS.iload X9.here hx rfl (hb hby at_52) rfl ?_
      show Steps p.tables e below (T9.setTop (mkF m 54 #[.val (.int u0), .val (.int u1), .val (.ref b1), .unset, .val (.int z19), .val (.int ((((u0.toUInt32 >>> ((3 : Int32) &&& 31).toUInt32).toInt32) &&& (3 : Int32)) - (1 : Int32)))] [(.int ((((u0.toUInt32 >>> ((3 : Int32) &&& 31).toUInt32).toInt32) &&& (3 : Int32)) - (1 : Int32))), (.int z19)])) _
      refine XS.iadd X9.here hx rfl (hb hby at_54) rfl ?_
      show Steps p.tables e below (T9.setTop (mkF m 55 #[.val (.int u0), .val (.int u1), .val (.ref b1), .unset, .val (.int z19), .val (.int ((((u0.toUInt32 >>> ((3 : Int32) &&& 31).toUInt32).toInt32) &&& (3 : Int32)) - (1 : Int32)))] [(.int (z19 + ((((u0.toUInt32 >>> ((3 : Int32) &&& 31).toUInt32).toInt32) &&& (3 : Int32)) - (1 : Int32))))])) _
      refine XS.i2c X9.here hx rfl (hb hby at_55) rfl ?_
      show Steps p.tables e below (T9.setTop (mkF m 56 #[.val (.int u0), .val (.int u1), .val (.ref b1), .unset, .val (.int z19), .val (.int ((((u0.toUInt32 >>> ((3 : Int32) &&& 31).toUInt32).toInt32) &&& (3 : Int32)) - (1 : Int32)))] [(.int ((z19 + ((((u0.toUInt32 >>> ((3 : Int32) &&& 31).toUInt32).toInt32) &&& (3 : Int32)) - (1 : Int32))).toUInt32.toUInt16.toUInt32.toInt32))])) _
      refine XS.istoreN X9.here hx rfl (hb hby at_56) rfl (l' := #[.val (.int u0), .val (.int u1), .val (.ref b1), .val (.int ((z19 + ((((u0.toUInt32 >>> ((3 : Int32) &&& 31).toUInt32).toInt32) &&& (3 : Int32)) - (1 : Int32))).toUInt32.toUInt16.toUInt32.toInt32)), .val (.int z19), .val (.int ((((u0.toUInt32 >>> ((3 : Int32) &&& 31).toUInt32).toInt32) &&& (3 : Int32)) - (1 : Int32)))]) rfl ?_
      show Steps p.tables e below (T9.setTop (mkF m 57 #[.val (.int u0), .val (.int u1), .val (.ref b1), .val (.int ((z19 + ((((u0.toUInt32 >>> ((3 : Int32) &&& 31).toUInt32).toInt32) &&& (3 : Int32)) - (1 : Int32))).toUInt32.toUInt16.toUInt32.toInt32)), .val (.int z19), .val (.int ((((u0.toUInt32 >>> ((3 : Int32) &&& 31).toUInt32).toInt32) &&& (3 : Int32)) - (1 : Int32)))] [])) _
      refine XS.goto X9.here hx rfl (pc0 := 57) (pc' := 63) rfl (hb hby at_57) (by decide) (by decide) ?_
      exact k)
    obtain ⟨cc, hcc, rcc⟩ : ∃ z : Int32, z = ((z19 + ((((u0.toUInt32 >>> ((3 : Int32) &&& 31).toUInt32).toInt32) &&& (3 : Int32)) - (1 : Int32))).toUInt32.toUInt16.toUInt32.toInt32) ∧ (0 ≤ z.toInt ∧ z.toInt < 65536) := ⟨_, rfl, (c_i2c _).2⟩
    rw [← hcc] at pre20
    have pre21 : ∀ t, Steps p.tables e below (T9.setTop (mkF m 64 #[.val (.int u0), .val (.int u1), .val (.ref b1), .val (.int cc), .val (.int z19), .val (.int ((((u0.toUInt32 >>> ((3 : Int32) &&& 31).toUInt32).toInt32) &&& (3 : Int32)) - (1 : Int32)))] [(.int cc)])) t → Steps p.tables e below (s₁.setTop (entryFrame m #[(.int u0), (.int u1)] maxLocals)) t := fun t k => pre20 t (by
      show Steps p.tables e below (T9.setTop (mkF m 63 #[.val (.int u0), .val (.int u1), .val (.ref b1), .val (.int cc), .val (.int z19), .val (.int ((((u0.toUInt32 >>> ((3 : Int32) &&& 31).toUInt32).toInt32) &&& (3 : Int32)) - (1 : Int32)))] [])) _
      refine XS.iloadN X9.here hx rfl (hb hby at_63) rfl ?_
      exact k)
    have pre22 : ∀ t, Steps p.tables e below (T9.setTop (mkF m 106 #[.val (.int u0), .val (.int u1), .val (.ref b1), .val (.int cc), .val (.int (j0_64L4 cc)), .val (.int ((((u0.toUInt32 >>> ((3 : Int32) &&& 31).toUInt32).toInt32) &&& (3 : Int32)) - (1 : Int32)))] [])) t → Steps p.tables e below (s₁.setTop (entryFrame m #[(.int u0), (.int u1)] maxLocals)) t := by
      have pre23 : ∀ t, Steps p.tables e below (T9.setTop (mkF m 67 #[.val (.int u0), .val (.int u1), .val (.ref b1), .val (.int cc), .val (.int z19), .val (.int ((((u0.toUInt32 >>> ((3 : Int32) &&& 31).toUInt32).toInt32) &&& (3 : Int32)) - (1 : Int32)))] [(.int (8232 : Int32)), (.int cc)])) t → Steps p.tables e below (s₁.setTop (entryFrame m #[(.int u0), (.int u1)] maxLocals)) t := fun t k => pre21 t (by
        show Steps p.tables e below (T9.setTop (mkF m 64 #[.val (.int u0), .val (.int u1), .val (.ref b1), .val (.int cc), .val (.int z19), .val (.int ((((u0.toUInt32 >>> ((3 : Int32) &&& 31).toUInt32).toInt32) &&& (3 : Int32)) - (1 : Int32)))] [(.int cc)])) _
        refine XS.sipush X9.here hx rfl (hb hby at_64) ?_
        exact k)
      by_cases hc67 : cc < (8232 : Int32)
      · -- pc 67: cc < (8232 : Int32)
        have pre24 : ∀ t, Steps p.tables e below (T9.setTop (mkF m 73 #[.val (.int u0), .val (.int u1), .val (.ref b1), .val (.int cc), .val (.int z19), .val (.int ((((u0.toUInt32 >>> ((3 : Int32) &&& 31).toUInt32).toInt32) &&& (3 : Int32)) - (1 : Int32)))] [(.int (10 : Int32)), (.int cc)])) t → Steps p.tables e below (s₁.setTop (entryFrame m #[(.int u0), (.int u1)] maxLocals)) t := fun t k => pre23 t (by
          show Steps p.tables e below (T9.setTop (mkF m 67 #[.val (.int u0), .val (.int u1), .val (.ref b1), .val (.int cc), .val (.int z19), .val (.int ((((u0.toUInt32 >>> ((3 : Int32) &&& 31).toUInt32).toInt32) &&& (3 : Int32)) - (1 : Int32)))] [(.int (8232 : Int32)), (.int cc)])) _
          refine XS.icmpNo X9.here hx rfl (hb hby at_67) rfl (tlt hc67).2.1 ?_
          show Steps p.tables e below (T9.setTop (mkF m 70 #[.val (.int u0), .val (.int u1), .val (.ref b1), .val (.int cc), .val (.int z19), .val (.int ((((u0.toUInt32 >>> ((3 : Int32) &&& 31).toUInt32).toInt32) &&& (3 : Int32)) - (1 : Int32)))] [])) _
          refine XS.iloadN X9.here hx rfl (hb hby at_70) rfl ?_
          show Steps p.tables e below (T9.setTop (mkF m 71 #[.val (.int u0), .val (.int u1), .val (.ref b1), .val (.int cc), .val (.int z19), .val (.int ((((u0.toUInt32 >>> ((3 : Int32) &&& 31).toUInt32).toInt32) &&& (3 : Int32)) - (1 : Int32)))] [(.int cc)])) _
          refine XS.bipush X9.here hx rfl (hb hby at_71) ?_
          exact k)
        by_cases hc73 : cc = (10 : Int32)
        · -- pc 73: cc = (10 : Int32)
          intro t k
          have qL4 : (j0_64L4 cc) = (1 : Int32) := (if_pos hc67).trans ((if_pos hc73).trans (rfl))
          rw [qL4] at k
          refine pre24 t ?_
          show Steps p.tables e below (T9.setTop (mkF m 73 #[.val (.int u0), .val (.int u1), .val (.ref b1), .val (.int cc), .val (.int z19), .val (.int ((((u0.toUInt32 >>> ((3 : Int32) &&& 31).toUInt32).toInt32) &&& (3 : Int32)) - (1 : Int32)))] [(.int (10 : Int32)), (.int cc)])) _
          refine XS.icmpYes X9.here hx rfl (pc0 := 73) (pc' := 82) rfl (hb hby at_73) rfl (teq hc73).1 (by decide) (by decide) ?_
          show Steps p.tables e below (T9.setTop (mkF m 82 #[.val (.int u0), .val (.int u1), .val (.ref b1), .val (.int cc), .val (.int z19), .val (.int ((((u0.toUInt32 >>> ((3 : Int32) &&& 31).toUInt32).toInt32) &&& (3 : Int32)) - (1 : Int32)))] [])) _
          refine XS.iconst X9.here hx rfl (hb hby at_82) ?_
          show Steps p.tables e below (T9.setTop (mkF m 83 #[.val (.int u0), .val (.int u1), .val (.ref b1), .val (.int cc), .val (.int z19), .val (.int ((((u0.toUInt32 >>> ((3 : Int32) &&& 31).toUInt32).toInt32) &&& (3 : Int32)) - (1 : Int32)))] [(.int (1 : Int32))])) _
          refine XS.goto X9.here hx rfl (pc0 := 83) (pc' := 87) rfl (hb hby at_83) (by decide) (by decide) ?_
          show Steps p.tables e below (T9.setTop (mkF m 87 #[.val (.int u0), .val (.int u1), .val (.ref b1), .val (.int cc), .val (.int z19), .val (.int ((((u0.toUInt32 >>> ((3 : Int32) &&& 31).toUInt32).toInt32) &&& (3 : Int32)) - (1 : Int32)))] [(.int (1 : Int32))])) _
          refine XS.istore X9.here hx rfl (hb hby at_87) rfl (l' := #[.val (.int u0), .val (.int u1), .val (.ref b1), .val (.int cc), .val (.int (1 : Int32)), .val (.int ((((u0.toUInt32 >>> ((3 : Int32) &&& 31).toUInt32).toInt32) &&& (3 : Int32)) - (1 : Int32)))]) rfl ?_
          show Steps p.tables e below (T9.setTop (mkF m 89 #[.val (.int u0), .val (.int u1), .val (.ref b1), .val (.int cc), .val (.int (1 : Int32)), .val (.int ((((u0.toUInt32 >>> ((3 : Int32) &&& 31).toUInt32).toInt32) &&& (3 : Int32)) - (1 : Int32)))] [])) _
          refine XS.goto X9.here hx rfl (pc0 := 89) (pc' := 106) rfl (hb hby at_89) (by decide) (by decide) ?_
          exact k
        · -- pc 73: not cc = (10 : Int32)
          have pre25 : ∀ t, Steps p.tables e below (T9.setTop (mkF m 79 #[.val (.int u0), .val (.int u1), .val (.ref b1), .val (.int cc), .val (.int z19), .val (.int ((((u0.toUInt32 >>> ((3 : Int32) &&& 31).toUInt32).toInt32) &&& (3 : Int32)) - (1 : Int32)))] [(.int (13 : Int32)), (.int cc)])) t → Steps p.tables e below (s₁.setTop (entryFrame m #[(.int u0), (.int u1)] maxLocals)) t := fun t k => pre24 t (by
            show Steps p.tables e below (T9.setTop (mkF m 73 #[.val (.int u0), .val (.int u1), .val (.ref b1), .val (.int cc), .val (.int z19), .val (.int ((((u0.toUInt32 >>> ((3 : Int32) &&& 31).toUInt32).toInt32) &&& (3 : Int32)) - (1 : Int32)))] [(.int (10 : Int32)), (.int cc)])) _
            refine XS.icmpNo X9.here hx rfl (hb hby at_73) rfl (feq hc73).1 ?_
            show Steps p.tables e below (T9.setTop (mkF m 76 #[.val (.int u0), .val (.int u1), .val (.ref b1), .val (.int cc), .val (.int z19), .val (.int ((((u0.toUInt32 >>> ((3 : Int32) &&& 31).toUInt32).toInt32) &&& (3 : Int32)) - (1 : Int32)))] [])) _
            refine XS.iloadN X9.here hx rfl (hb hby at_76) rfl ?_
            show Steps p.tables e below (T9.setTop (mkF m 77 #[.val (.int u0), .val (.int u1), .val (.ref b1), .val (.int cc), .val (.int z19), .val (.int ((((u0.toUInt32 >>> ((3 : Int32) &&& 31).toUInt32).toInt32) &&& (3 : Int32)) - (1 : Int32)))] [(.int cc)])) _
            refine XS.bipush X9.here hx rfl (hb hby at_77) ?_
            exact k)
          by_cases hc79 : cc = (13 : Int32)
          · -- pc 79: cc = (13 : Int32)
            intro t k
            have qL4 : (j0_64L4 cc) = (1 : Int32) := (if_pos hc67).trans ((if_neg hc73).trans ((if_pos hc79).trans (rfl)))
            rw [qL4] at k
            refine pre25 t ?_
            show Steps p.tables e below (T9.setTop (mkF m 79 #[.val (.int u0), .val (.int u1), .val (.ref b1), .val (.int cc), .val (.int z19), .val (.int ((((u0.toUInt32 >>> ((3 : Int32) &&& 31).toUInt32).toInt32) &&& (3 : Int32)) - (1 : Int32)))] [(.int (13 : Int32)), (.int cc)])) _
            refine XS.icmpNo X9.here hx rfl (hb hby at_79) rfl (teq hc79).2 ?_
            show Steps p.tables e below (T9.setTop (mkF m 82 #[.val (.int u0), .val (.int u1), .val (.ref b1), .val (.int cc), .val (.int z19), .val (.int ((((u0.toUInt32 >>> ((3 : Int32) &&& 31).toUInt32).toInt32) &&& (3 : Int32)) - (1 : Int32)))] [])) _
            refine XS.iconst X9.here hx rfl (hb hby at_82) ?_
            show Steps p.tables e below (T9.setTop (mkF m 83 #[.val (.int u0), .val (.int u1), .val (.ref b1), .val (.int cc), .val (.int z19), .val (.int ((((u0.toUInt32 >>> ((3 : Int32) &&& 31).toUInt32).toInt32) &&& (3 : Int32)) - (1 : Int32)))] [(.int (1 : Int32))])) _
            refine XS.goto X9.here hx rfl (pc0 := 83) (pc' := 87) rfl (hb hby at_83) (by decide) (by decide) ?_
            show Steps p.tables e below (T9.setTop (mkF m 87 #[.val (.int u0), .val (.int u1), .val (.ref b1), .val (.int cc), .val (.int z19), .val (.int ((((u0.toUInt32 >>> ((3 : Int32) &&& 31).toUInt32).toInt32) &&& (3 : Int32)) - (1 : Int32)))] [(.int (1 : Int32))])) _
            refine XS.istore X9.here hx rfl (hb hby at_87) rfl (l' := #[.val (.int u0), .val (.int u1), .val (.ref b1), .val (.int cc), .val (.int (1 : Int32)), .val (.int ((((u0.toUInt32 >>> ((3 : Int32) &&& 31).toUInt32).toInt32) &&& (3 : Int32)) - (1 : Int32)))]) rfl ?_
            show Steps p.tables e below (T9.setTop (mkF m 89 #[.val (.int u0), .val (.int u1), .val (.ref b1), .val (.int cc), .val (.int (1 : Int32)), .val (.int ((((u0.toUInt32 >>> ((3 : Int32) &&& 31).toUInt32).toInt32) &&& (3 : Int32)) - (1 : Int32)))] [])) _
            refine XS.goto X9.here hx rfl (pc0 := 89) (pc' := 106) rfl (hb hby at_89) (by decide) (by decide) ?_
            exact k
          · -- pc 79: not cc = (13 : Int32)
            intro t k
            have qL4 : (j0_64L4 cc) = (0 : Int32) := (if_pos hc67).trans ((if_neg hc73).trans ((if_neg hc79).trans (rfl)))
            rw [qL4] at k
            refine pre25 t ?_
            show Steps p.tables e below (T9.setTop (mkF m 79 #[.val (.int u0), .val (.int u1), .val (.ref b1), .val (.int cc), .val (.int z19), .val (.int ((((u0.toUInt32 >>> ((3 : Int32) &&& 31).toUInt32).toInt32) &&& (3 : Int32)) - (1 : Int32)))] [(.int (13 : Int32)), (.int cc)])) _
            refine XS.icmpYes X9.here hx rfl (pc0 := 79) (pc' := 86) rfl (hb hby at_79) rfl (feq hc79).2 (by decide) (by decide) ?_
            show Steps p.tables e below (T9.setTop (mkF m 86 #[.val (.int u0), .val (.int u1), .val (.ref b1), .val (.int cc), .val (.int z19), .val (.int ((((u0.toUInt32 >>> ((3 : Int32) &&& 31).toUInt32).toInt32) &&& (3 : Int32)) - (1 : Int32)))] [])) _
            refine XS.iconst X9.here hx rfl (hb hby at_86) ?_
            show Steps p.tables e below (T9.setTop (mkF m 87 #[.val (.int u0), .val (.int u1), .val (.ref b1), .val (.int cc), .val (.int z19), .val (.int ((((u0.toUInt32 >>> ((3 : Int32) &&& 31).toUInt32).toInt32) &&& (3 : Int32)) - (1 : Int32)))] [(.int (0 : Int32))])) _
            refine XS.istore X9.here hx rfl (hb hby at_87) rfl (l' := #[.val (.int u0), .val (.int u1), .val (.ref b1), .val (.int cc), .val (.int (0 : Int32)), .val (.int ((((u0.toUInt32 >>> ((3 : Int32) &&& 31).toUInt32).toInt32) &&& (3 : Int32)) - (1 : Int32)))]) rfl ?_
            show Steps p.tables e below (T9.setTop (mkF m 89 #[.val (.int u0), .val (.int u1), .val (.ref b1), .val (.int cc), .val (.int (0 : Int32)), .val (.int ((((u0.toUInt32 >>> ((3 : Int32) &&& 31).toUInt32).toInt32) &&& (3 : Int32)) - (1 : Int32)))] [])) _
            refine XS.goto X9.here hx rfl (pc0 := 89) (pc' := 106) rfl (hb hby at_89) (by decide) (by decide) ?_
            exact k
      · -- pc 67: not cc < (8232 : Int32)
        have pre26 : ∀ t, Steps p.tables e below (T9.setTop (mkF m 96 #[.val (.int u0), .val (.int u1), .val (.ref b1), .val (.int cc), .val (.int z19), .val (.int ((((u0.toUInt32 >>> ((3 : Int32) &&& 31).toUInt32).toInt32) &&& (3 : Int32)) - (1 : Int32)))] [(.int (8234 : Int32)), (.int cc)])) t → Steps p.tables e below (s₁.setTop (entryFrame m #[(.int u0), (.int u1)] maxLocals)) t := fun t k => pre23 t (by
          show Steps p.tables e below (T9.setTop (mkF m 67 #[.val (.int u0), .val (.int u1), .val (.ref b1), .val (.int cc), .val (.int z19), .val (.int ((((u0.toUInt32 >>> ((3 : Int32) &&& 31).toUInt32).toInt32) &&& (3 : Int32)) - (1 : Int32)))] [(.int (8232 : Int32)), (.int cc)])) _
          refine XS.icmpYes X9.here hx rfl (pc0 := 67) (pc' := 92) rfl (hb hby at_67) rfl (flt hc67).2.1 (by decide) (by decide) ?_
          show Steps p.tables e below (T9.setTop (mkF m 92 #[.val (.int u0), .val (.int u1), .val (.ref b1), .val (.int cc), .val (.int z19), .val (.int ((((u0.toUInt32 >>> ((3 : Int32) &&& 31).toUInt32).toInt32) &&& (3 : Int32)) - (1 : Int32)))] [])) _
          refine XS.iloadN X9.here hx rfl (hb hby at_92) rfl ?_
          show Steps p.tables e below (T9.setTop (mkF m 93 #[.val (.int u0), .val (.int u1), .val (.ref b1), .val (.int cc), .val (.int z19), .val (.int ((((u0.toUInt32 >>> ((3 : Int32) &&& 31).toUInt32).toInt32) &&& (3 : Int32)) - (1 : Int32)))] [(.int cc)])) _
          refine XS.sipush X9.here hx rfl (hb hby at_93) ?_
          exact k)
        by_cases hc96 : cc < (8234 : Int32)
        · -- pc 96: cc < (8234 : Int32)
          intro t k
          have qL4 : (j0_64L4 cc) = (1 : Int32) := (if_neg hc67).trans ((if_pos hc96).trans (rfl))
          rw [qL4] at k
          refine pre26 t ?_
          show Steps p.tables e below (T9.setTop (mkF m 96 #[.val (.int u0), .val (.int u1), .val (.ref b1), .val (.int cc), .val (.int z19), .val (.int ((((u0.toUInt32 >>> ((3 : Int32) &&& 31).toUInt32).toInt32) &&& (3 : Int32)) - (1 : Int32)))] [(.int (8234 : Int32)), (.int cc)])) _
          refine XS.icmpNo X9.here hx rfl (hb hby at_96) rfl (tlt hc96).2.1 ?_
          show Steps p.tables e below (T9.setTop (mkF m 99 #[.val (.int u0), .val (.int u1), .val (.ref b1), .val (.int cc), .val (.int z19), .val (.int ((((u0.toUInt32 >>> ((3 : Int32) &&& 31).toUInt32).toInt32) &&& (3 : Int32)) - (1 : Int32)))] [])) _
          refine XS.iconst X9.here hx rfl (hb hby at_99) ?_
          show Steps p.tables e below (T9.setTop (mkF m 100 #[.val (.int u0), .val (.int u1), .val (.ref b1), .val (.int cc), .val (.int z19), .val (.int ((((u0.toUInt32 >>> ((3 : Int32) &&& 31).toUInt32).toInt32) &&& (3 : Int32)) - (1 : Int32)))] [(.int (1 : Int32))])) _
          refine XS.goto X9.here hx rfl (pc0 := 100) (pc' := 104) rfl (hb hby at_100) (by decide) (by decide) ?_
          show Steps p.tables e below (T9.setTop (mkF m 104 #[.val (.int u0), .val (.int u1), .val (.ref b1), .val (.int cc), .val (.int z19), .val (.int ((((u0.toUInt32 >>> ((3 : Int32) &&& 31).toUInt32).toInt32) &&& (3 : Int32)) - (1 : Int32)))] [(.int (1 : Int32))])) _
          refine XS.istore X9.here hx rfl (hb hby at_104) rfl (l' := #[.val (.int u0), .val (.int u1), .val (.ref b1), .val (.int cc), .val (.int (1 : Int32)), .val (.int ((((u0.toUInt32 >>> ((3 : Int32) &&& 31).toUInt32).toInt32) &&& (3 : Int32)) - (1 : Int32)))]) rfl ?_
          exact k
        · -- pc 96: not cc < (8234 : Int32)
          intro t k
          have qL4 : (j0_64L4 cc) = (0 : Int32) := (if_neg hc67).trans ((if_neg hc96).trans (rfl))
          rw [qL4] at k
          refine pre26 t ?_
          show Steps p.tables e below (T9.setTop (mkF m 96 #[.val (.int u0), .val (.int u1), .val (.ref b1), .val (.int cc), .val (.int z19), .val (.int ((((u0.toUInt32 >>> ((3 : Int32) &&& 31).toUInt32).toInt32) &&& (3 : Int32)) - (1 : Int32)))] [(.int (8234 : Int32)), (.int cc)])) _
          refine XS.icmpYes X9.here hx rfl (pc0 := 96) (pc' := 103) rfl (hb hby at_96) rfl (flt hc96).2.1 (by decide) (by decide) ?_
          show Steps p.tables e below (T9.setTop (mkF m 103 #[.val (.int u0), .val (.int u1), .val (.ref b1), .val (.int cc), .val (.int z19), .val (.int ((((u0.toUInt32 >>> ((3 : Int32) &&& 31).toUInt32).toInt32) &&& (3 : Int32)) - (1 : Int32)))] [])) _
          refine XS.iconst X9.here hx rfl (hb hby at_103) ?_
          show Steps p.tables e below (T9.setTop (mkF m 104 #[.val (.int u0), .val (.int u1), .val (.ref b1), .val (.int cc), .val (.int z19), .val (.int ((((u0.toUInt32 >>> ((3 : Int32) &&& 31).toUInt32).toInt32) &&& (3 : Int32)) - (1 : Int32)))] [(.int (0 : Int32))])) _
          refine XS.istore X9.here hx rfl (hb hby at_104) rfl (l' := #[.val (.int u0), .val (.int u1), .val (.ref b1), .val (.int cc), .val (.int (0 : Int32)), .val (.int ((((u0.toUInt32 >>> ((3 : Int32) &&& 31).toUInt32).toInt32) &&& (3 : Int32)) - (1 : Int32)))]) rfl ?_
          exact k
    obtain ⟨_, _, ⟨T27, L27, k27, n27⟩, -, X27, ⟨Lc27, hQ27, l27, y27, z27⟩, st27⟩ := Jvm.LawKit.callS X9 hx (y := (⟨"com/example/keenflow/keenflow/domain/RegularExpression", "isLineTerminator", "(C)Z"⟩ : MethodName)) hown (mvT hZ (hw _ (List.mem_of_getElem? (i := 1) rfl))) (mvT hZ (hw _ (List.mem_of_getElem? (i := 2) rfl))) (mvT hZ (hw _ (List.mem_of_getElem? (i := 3) rfl))) (mvT hZ (hw _ (List.mem_of_getElem? (i := 4) rfl))) (by decide) (backOf (W := 0) (rm1 l Z a0 hw [] cc  h9 n0 (Nat.le_trans Z0 K9.1) ) hZ (hw _ (List.mem_of_getElem? (i := 4) rfl)) (hw _ (List.mem_of_getElem? (i := 3) rfl)) (by decide) (by decide)) (g := (mkF m 107 #[.val (.int u0), .val (.int u1), .val (.ref b1), .val (.int cc), .val (.int (j0_64L4 cc)), .val (.int ((((u0.toUInt32 >>> ((3 : Int32) &&& 31).toUInt32).toInt32) &&& (3 : Int32)) - (1 : Int32)))] [(.int cc)])) rfl (by rw [hml]; rfl) (argsL := [(.int cc)]) (rest := []) (lenOf pd_0 rfl) rfl (by show 2 * 0 + _ ≤ _; exact Nat.le_of_eq rfl) (hb hby at_107) (fun _ _ => ⟨rfl, e9, (by decide : 1 + 0 ≤ _), (by decide : 4 + 0 ≤ _)⟩)
    dsimp only [Pt.U, Pt.locs, Pt.cells, Pt.slots] at X27 l27 y27 z27 st27 hQ27
    subst l27 y27 z27
    obtain ⟨rfl, N27q, e27⟩ := hQ27
    have N27 := Fr.app N9 N27q
    obtain ⟨fs, hr, hrun, hended, hW, hsame⟩ := X27.leave (v := (some (.int (1 : Int32)))) (fun h => by rw [Bd.returns] at h; cases h)
    refine ⟨_, _, pre22 _ ?_, hrun, hended, _, _, rfl, ?_, ⟨_, rfl⟩, hW, hsame.mono (by decide) (by decide)⟩
    · show Steps p.tables e below (T9.setTop (mkF m 106 #[.val (.int u0), .val (.int u1), .val (.ref b1), .val (.int cc), .val (.int (j0_64L4 cc)), .val (.int ((((u0.toUInt32 >>> ((3 : Int32) &&& 31).toUInt32).toInt32) &&& (3 : Int32)) - (1 : Int32)))] [])) _
      refine XS.iloadN X9.here hx rfl (hb hby at_106) rfl ?_
      show Steps p.tables e below (T9.setTop (mkF m 107 #[.val (.int u0), .val (.int u1), .val (.ref b1), .val (.int cc), .val (.int (j0_64L4 cc)), .val (.int ((((u0.toUInt32 >>> ((3 : Int32) &&& 31).toUInt32).toInt32) &&& (3 : Int32)) - (1 : Int32)))] [(.int cc)])) _
      refine st27 _ ?_
      show Steps p.tables e below (T27.setTop (mkF m 110 #[.val (.int u0), .val (.int u1), .val (.ref b1), .val (.int cc), .val (.int (j0_64L4 cc)), .val (.int ((((u0.toUInt32 >>> ((3 : Int32) &&& 31).toUInt32).toInt32) &&& (3 : Int32)) - (1 : Int32)))] [(.int (f1 cc))])) _
      refine XS.iload X27.here hx rfl (hb hby at_110) rfl ?_
      show Steps p.tables e below (T27.setTop (mkF m 112 #[.val (.int u0), .val (.int u1), .val (.ref b1), .val (.int cc), .val (.int (j0_64L4 cc)), .val (.int ((((u0.toUInt32 >>> ((3 : Int32) &&& 31).toUInt32).toInt32) &&& (3 : Int32)) - (1 : Int32)))] [(.int (j0_64L4 cc)), (.int (f1 cc))])) _
      refine XS.icmpNo X27.here hx rfl (hb hby at_112) rfl (teq (own_eq _ rcc)).2 ?_
      show Steps p.tables e below (T27.setTop (mkF m 115 #[.val (.int u0), .val (.int u1), .val (.ref b1), .val (.int cc), .val (.int (j0_64L4 cc)), .val (.int ((((u0.toUInt32 >>> ((3 : Int32) &&& 31).toUInt32).toInt32) &&& (3 : Int32)) - (1 : Int32)))] [])) _
      refine XS.iconst X27.here hx rfl (hb hby at_115) ?_
      show Steps p.tables e below (T27.setTop (mkF m 116 #[.val (.int u0), .val (.int u1), .val (.ref b1), .val (.int cc), .val (.int (j0_64L4 cc)), .val (.int ((((u0.toUInt32 >>> ((3 : Int32) &&& 31).toUInt32).toInt32) &&& (3 : Int32)) - (1 : Int32)))] [(.int (1 : Int32))])) _
      refine XS.goto X27.here hx rfl (pc0 := 116) (pc' := 120) rfl (hb hby at_116) (by decide) (by decide) ?_
      show Steps p.tables e below (T27.setTop (mkF m 120 #[.val (.int u0), .val (.int u1), .val (.ref b1), .val (.int cc), .val (.int (j0_64L4 cc)), .val (.int ((((u0.toUInt32 >>> ((3 : Int32) &&& 31).toUInt32).toInt32) &&& (3 : Int32)) - (1 : Int32)))] [(.int (1 : Int32))])) _
      exact retN X27 hx (t := .boolean) Bd.returns (by simp) (hb hby at_120) hr
    · show QL n0 _ T27.heap _
      rw [e27]
      exact ⟨rfl, N27⟩
set_option maxRecDepth 65536 in
set_option maxHeartbeats 40000000 in
theorem comes_1 {Post : Tables → Env → Array Value → State → Outcome → State → Prop} (hpost : ∀ tb e args s v u, (limb_1_1.after args s (.returned v) u = true ∧ limb_1_2.after args s (.returned v) u = true ∧ True) → FrameEnd s (.returned v) u (Jvm.fieldLocs frame_1_writes args s ++ Jvm.arrayLocs frame_1_arrays args s ++ Jvm.staticLocs frame_1_statics s) 16 128 → Post tb e args s (.returned v) u) :
    ArmFor flags0 classFile x code maxLocals ret World_1 tables_1 room_1 Calls_1 rest_1 Pre_1 Post := by
  intro l hfl _ _ p e ha hc hk s m args below hf hA hF happ hP
  obtain ⟨hcalls, hrest, hpre⟩ := hP
  obtain ⟨-, -, -, hnamed, -, -, -, hat⟩ := (Spec.applies_iff hf).mp happ
  obtain ⟨hg, hn⟩ := and_e (Cond.before_iff.mp (show (Jvm.Cond.and given_1 narrow_1).before args s = true from hpre))
  obtain ⟨g0, G0⟩ := and_e hg
  obtain ⟨v0, G1⟩ := and_e G0
  have v1 := G1
  obtain ⟨w0, w1, rfl⟩ : ∃ w0 w1 : Value, args = #[w0, w1] := by
    have hs : args.size = 2 := by simpa [Cond.value, given_1] using g0
    obtain ⟨L⟩ := args
    match L, hs with
    | [w0, w1], _ => exact ⟨w0, w1, rfl⟩
  have hw := fun d (hd : d ∈ tables_1) => atoms_spec (ws := Jvm.Cond.code x code maxLocals ret :: tables_1) hat d (List.mem_cons_of_mem _ hd)
  have hfit : Fit s := fun {y c} hc i hi => by
    obtain ⟨ha, rfl⟩ := Array.getElem?_eq_some_iff.mp hc
    have q := List.all_eq_true.mp ((Array.all_eq_true_iff_forall_mem.mp hF) _ (Array.getElem_mem ha)) i (List.mem_range.mpr hi)
    simpa [Array.getElem?_eq_getElem hi] using q
  obtain ⟨i0, ei0⟩ := is_v v0
  obtain rfl : w0 = (.int i0) := Option.some.inj ei0
  obtain ⟨i1, ei1⟩ := is_v v1
  obtain rfl : w1 = (.int i1) := Option.some.inj ei1
  obtain ⟨n, o, h1, h2, h3, _, L, rfl, ⟨rfl, N⟩, hq⟩ := rm0 l s _ hw tables_1 i0 i1  s.heap s.heap.size (Nat.le_refl _)  p e ha hc hk s m _ below hf ((Spec.applies_iff_loose hf).mp happ).1 ⟨rfl, State.Warmed39.refl s, rfl⟩ trivial
  refine ⟨n, _, h1, h2, h3, hpost _ _ _ _ _ _ ⟨Cond.after_iff.mpr rfl, Cond.after_iff.mpr (eq_i res_at (Term.int_eval (1)) rfl), trivial⟩ ⟨hq.1, hq.2.1, (hq.2.2.sift fun y hy => Or.inr (N y hy)).mono (by decide) (by decide)⟩⟩
theorem main_1_1 : Claimed_1_1 := comes_1 fun _ _ _ _ _ _ h hF => ⟨h.1, hF⟩
theorem main_1_2 : Claimed_1_2 := comes_1 fun _ _ _ _ _ _ h hF => ⟨h.2.1, hF⟩
end Jvm.Pilot.@@N@@
namespace Jvm.Pilot.@@N@@
open Jvm Jvm.ClassFile Sem Op Lib Jvm.Free Jvm.Stand Jvm.Pilot.@@N@@.Jvm.D
/-! MADE BY PROGRAM (witnessworld.py) out of the Statement's table words and the real class files: 11 classes; the members and pool entries that the words name. The judged class is class 1, her method 1. -/
namespace start1
open Jvm.ClassFile
def u (s : String) : CpInfo := .utf8 (stringToUtf16 s)
/-- a pool by its gaps: so many unusable entries, then the entry; so many at the end -/
def gap : Nat → List CpInfo → List CpInfo
  | 0, r => r
  | n + 1, r => .unusable :: gap n r
def poolList (es : List (Nat × CpInfo)) (last : Nat) : List CpInfo := es.foldr (fun e r => gap e.1 (e.2 :: r)) (gap last [])
def pool (es : List (Nat × CpInfo)) (last : Nat) : Array CpInfo := ⟨poolList es last⟩
def fileOf (pool : Array CpInfo) (this : Nat) (attrs : Array Attribute := #[]) (ms : Array MethodInfo := #[]) (fl : Nat := 33) (sup : Nat := 0) (ifs : Array Nat := #[]) (fds : Array FieldInfo := #[]) : ClassFile where
  minorVersion := 0
  majorVersion := 65
  constantPool := pool
  accessFlags := fl
  thisClass := this
  superClass := sup
  interfaces := ifs
  fields := fds
  methods := ms
  attributes := attrs
def plain (name : String) (sup : Option ClassId) : Class where
  name := name
  kind := .ordinary
  loader := none
  accessFlags := 33
  super := sup
  interfaces := #[]
  cf := none
  fields := #[]
  methods := #[]
  instanceTypes := #[]
  staticTypes := #[]
  resolved := #[]
  callSites := []
  init := .initialized
  statics := none
  mirror := none

def pool0 : Array CpInfo := pool [(5, u "<init>"), (0, u "()V"), (1, .class_ 10), (1, u "java/lang/Object")] 113

def k0m0 : Method := { name := "<init>", desc := "()V", sig := { parameters := [], returnType := none }, accessFlags := 1, code := none }
/-- java/lang/Object -/
def k0 : Class := { plain "java/lang/Object" none with
  accessFlags := 33
  interfaces := #[]
  cf := some (fileOf pool0 8 #[] #[{ accessFlags := 1, nameIndex := 5, descriptorIndex := 6, attributes := #[] }] 33 0 #[] #[])
  fields := #[]
  methods := #[k0m0]
  instanceTypes := #[]
  staticTypes := #[]
  resolved := Array.replicate 124 none
  statics := none }

def pool1 : Array CpInfo := pool [(2, .class_ 4), (1, u "java/lang/Object"), (0, u "<init>"), (0, u "()V"), (0, .methodref 8 9), (0, .class_ 10), (0, .nameAndType 11 12), (0, u "com/example/keenflow/keenflow/domain/RegularExpression"), (0, u "isLineTerminator"), (0, u "(C)Z"), (0, .class_ 14), (0, u "com/example/keenflow/keenflow/domain/RegularExpressionIsLineTerminatorPinLaw"), (2, u "law"), (0, u "(II)Z")] 5

def k1m0 : Method := { name := "<init>", desc := "()V", sig := { parameters := [], returnType := none }, accessFlags := 2, code := none }
def k1c1 : Code := { maxStack := 4, maxLocals := 6, code := code, exceptionTable := #[], attributes := #[] }
def k1m1 : Method := { name := "law", desc := "(II)Z", sig := { parameters := [.int, .int], returnType := some .boolean }, accessFlags := 9, code := some k1c1 }
/-- com/example/keenflow/keenflow/domain/RegularExpressionIsLineTerminatorPinLaw -/
def k1 : Class := { plain "com/example/keenflow/keenflow/domain/RegularExpressionIsLineTerminatorPinLaw" (some 0) with
  accessFlags := 49
  interfaces := #[]
  cf := some (fileOf pool1 13 #[] #[{ accessFlags := 2, nameIndex := 5, descriptorIndex := 6, attributes := #[] }, { accessFlags := 9, nameIndex := 17, descriptorIndex := 18, attributes := #[] }] 49 2 #[] #[])
  fields := #[]
  methods := #[k1m0, k1m1]
  instanceTypes := #[]
  staticTypes := #[]
  resolved := Array.replicate 24 none
  statics := none }

def pool2 : Array CpInfo := pool [(2, .class_ 4), (1, u "java/lang/Object"), (3, .class_ 10), (1, u "com/example/keenflow/keenflow/domain/RegularExpression"), (0, u "pattern"), (0, u "Ljava/lang/String;"), (8, u "global"), (0, u "Z"), (2, u "ignoreCase"), (2, u "multiline"), (2, u "groups"), (0, u "I"), (2, u "program"), (0, u "[Lcom/example/keenflow/keenflow/domain/RegularExpression$Op;"), (2, u "sets"), (0, u "[Lcom/example/keenflow/keenflow/domain/RegularExpression$CharSet;"), (2, u "loops"), (13, .class_ 58), (0, u "com/example/keenflow/keenflow/domain/RegularExpression$NotModelled"), (9, .class_ 69), (0, u "com/example/keenflow/keenflow/domain/RegularExpression$SyntaxError"), (3, .class_ 74), (0, u "com/example/keenflow/keenflow/domain/RegularExpression$Parser"), (4, .class_ 80), (0, u "com/example/keenflow/keenflow/domain/RegularExpression$Compiler"), (6, .class_ 89), (1, u "com/example/keenflow/keenflow/domain/RegularExpression$Code"), (10, .class_ 101), (0, u "com/example/keenflow/keenflow/domain/RegularExpression$Op"), (9, .class_ 112), (0, u "com/example/keenflow/keenflow/domain/RegularExpression$CharSet"), (39, .class_ 153), (0, u "com/example/keenflow/keenflow/domain/RegularExpression$Matcher"), (4, .class_ 160), (1, u "com/example/keenflow/keenflow/domain/RegularExpression$CaseFolding"), (8, u "MOST_STEPS"), (2, u "MOST_NESTING"), (1, u "FLAGS"), (0, u "LATER_FLAGS"), (14, u "isLineTerminator"), (0, u "(C)Z"), (4, .class_ 197), (0, u "com/example/keenflow/keenflow/domain/RegularExpression$ClassAtom"), (0, .class_ 199), (0, u "com/example/keenflow/keenflow/domain/RegularExpression$Repeat"), (0, .class_ 201), (0, u "com/example/keenflow/keenflow/domain/RegularExpression$Lookahead"), (0, .class_ 203), (0, u "com/example/keenflow/keenflow/domain/RegularExpression$Group"), (0, .class_ 205), (0, u "com/example/keenflow/keenflow/domain/RegularExpression$Instruction"), (0, .class_ 207), (0, u "com/example/keenflow/keenflow/domain/RegularExpression$Alternation"), (0, .class_ 209), (0, u "com/example/keenflow/keenflow/domain/RegularExpression$Sequence"), (0, .class_ 211), (0, u "com/example/keenflow/keenflow/domain/RegularExpression$Node"), (0, .class_ 213), (0, u "com/example/keenflow/keenflow/domain/RegularExpression$Classes"), (0, .class_ 215), (0, u "com/example/keenflow/keenflow/domain/RegularExpression$Trail"), (0, .class_ 217), (0, u "com/example/keenflow/keenflow/domain/RegularExpression$Matcher$Run"), (0, .class_ 219), (0, u "com/example/keenflow/keenflow/domain/RegularExpression$Match"), (0, .class_ 221), (0, u "com/example/keenflow/keenflow/domain/RegularExpression$TooComplex")] 36

def k2c0 : Code := { maxStack := 2, maxLocals := 1, code := prog_115_method_13_code, exceptionTable := #[], attributes := #[] }
def k2m0 : Method := { name := "isLineTerminator", desc := "(C)Z", sig := { parameters := [.char], returnType := some .boolean }, accessFlags := 8, code := some k2c0 }
/-- com/example/keenflow/keenflow/domain/RegularExpression -/
def k2 : Class := { plain "com/example/keenflow/keenflow/domain/RegularExpression" (some 0) with
  accessFlags := 49
  interfaces := #[]
  cf := some (fileOf pool2 8 #[.nestMembers #[73, 196, 79, 198, 200, 202, 204, 206, 208, 210, 100, 87, 212, 111, 158, 214, 152, 216, 218, 220, 57, 68]] #[{ accessFlags := 8, nameIndex := 190, descriptorIndex := 191, attributes := #[] }] 49 2 #[] #[{ accessFlags := 26, nameIndex := 169, descriptorIndex := 32, attributes := #[] }, { accessFlags := 26, nameIndex := 172, descriptorIndex := 32, attributes := #[] }, { accessFlags := 26, nameIndex := 174, descriptorIndex := 12, attributes := #[] }, { accessFlags := 26, nameIndex := 175, descriptorIndex := 12, attributes := #[] }, { accessFlags := 18, nameIndex := 11, descriptorIndex := 12, attributes := #[] }, { accessFlags := 18, nameIndex := 21, descriptorIndex := 22, attributes := #[] }, { accessFlags := 18, nameIndex := 25, descriptorIndex := 22, attributes := #[] }, { accessFlags := 18, nameIndex := 28, descriptorIndex := 22, attributes := #[] }, { accessFlags := 18, nameIndex := 31, descriptorIndex := 32, attributes := #[] }, { accessFlags := 18, nameIndex := 35, descriptorIndex := 36, attributes := #[] }, { accessFlags := 18, nameIndex := 39, descriptorIndex := 40, attributes := #[] }, { accessFlags := 18, nameIndex := 43, descriptorIndex := 32, attributes := #[] }])
  fields := #[{ name := "MOST_STEPS", type := .int, accessFlags := 26, slot := 0, constantValue := 0 }, { name := "MOST_NESTING", type := .int, accessFlags := 26, slot := 1, constantValue := 0 }, { name := "FLAGS", type := (.object "java/lang/String"), accessFlags := 26, slot := 2, constantValue := 0 }, { name := "LATER_FLAGS", type := (.object "java/lang/String"), accessFlags := 26, slot := 3, constantValue := 0 }, { name := "pattern", type := (.object "java/lang/String"), accessFlags := 18, slot := 0, constantValue := 0 }, { name := "global", type := .boolean, accessFlags := 18, slot := 1, constantValue := 0 }, { name := "ignoreCase", type := .boolean, accessFlags := 18, slot := 2, constantValue := 0 }, { name := "multiline", type := .boolean, accessFlags := 18, slot := 3, constantValue := 0 }, { name := "groups", type := .int, accessFlags := 18, slot := 4, constantValue := 0 }, { name := "program", type := (.array (.object "com/example/keenflow/keenflow/domain/RegularExpression$Op")), accessFlags := 18, slot := 5, constantValue := 0 }, { name := "sets", type := (.array (.object "com/example/keenflow/keenflow/domain/RegularExpression$CharSet")), accessFlags := 18, slot := 6, constantValue := 0 }, { name := "loops", type := .int, accessFlags := 18, slot := 7, constantValue := 0 }]
  methods := #[k2m0]
  instanceTypes := #[(.object "java/lang/String"), .boolean, .boolean, .boolean, .int, (.array (.object "com/example/keenflow/keenflow/domain/RegularExpression$Op")), (.array (.object "com/example/keenflow/keenflow/domain/RegularExpression$CharSet")), .int]
  staticTypes := #[.int, .int, (.object "java/lang/String"), (.object "java/lang/String")]
  resolved := Array.replicate 258 none
  statics := none }

def pool3 : Array CpInfo := pool [(1, u "java/lang/Cloneable"), (0, .class_ 1), (0, u "java/lang/Object"), (0, .class_ 3)] 3

/-- java/lang/Cloneable -/
def k3 : Class := { plain "java/lang/Cloneable" (some 0) with
  accessFlags := 1537
  interfaces := #[]
  cf := some (fileOf pool3 2 #[] #[] 1537 4 #[] #[])
  fields := #[]
  methods := #[]
  instanceTypes := #[]
  staticTypes := #[]
  resolved := Array.replicate 8 none
  statics := none }

def pool4 : Array CpInfo := pool [(1, u "java/io/Serializable"), (0, .class_ 1), (0, u "java/lang/Object"), (0, .class_ 3)] 3

/-- java/io/Serializable -/
def k4 : Class := { plain "java/io/Serializable" (some 0) with
  accessFlags := 1537
  interfaces := #[]
  cf := some (fileOf pool4 2 #[] #[] 1537 4 #[] #[])
  fields := #[]
  methods := #[]
  instanceTypes := #[]
  staticTypes := #[]
  resolved := Array.replicate 8 none
  statics := none }

/-- the primitive byte -/
def k5 : Class := { plain "byte" none with kind := .primitive 'B', accessFlags := 0x411 }
/-- [B -/
def k6 : Class := { plain "[B" (some 0) with kind := .array 5 .byte, interfaces := #[3, 4], accessFlags := 1041 }

/-- the primitive char -/
def k7 : Class := { plain "char" none with kind := .primitive 'C', accessFlags := 0x411 }
/-- [C -/
def k8 : Class := { plain "[C" (some 0) with kind := .array 7 .char, interfaces := #[3, 4], accessFlags := 1041 }

/-- the primitive int -/
def k9 : Class := { plain "int" none with kind := .primitive 'I', accessFlags := 0x411 }
/-- [I -/
def k10 : Class := { plain "[I" (some 0) with kind := .array 9 .int, interfaces := #[3, 4], accessFlags := 1041 }

def heap : Heap := #[]
def classes : Array Class := #[k0, k1, k2, k3, k4, k5, k6, k7, k8, k9, k10]
def interned : List (Array UInt16 × Addr) := []
def slotsUsed : Nat := 0
def theMethod : MethodId := ⟨1, 1⟩
def args0 : Array Value := #[.int 5, .int 7]
def aboutOver (below : List Frame) : State where
  vm := { classes := classes, interned := interned.toArray }
  heap := heap
  slotsUsed := slotsUsed
  threads := #[{ frames := .invoking theMethod args0 :: below }]
def below0 : List Frame := [.native { method := ⟨0, 0⟩, args := #[] }]
def about1 : State := aboutOver below0
def p0 : Program := .bare "" "" ""
def e0 : Env := launch0.env 0 0 0
theorem w_frames : about1.frames = Frame.invoking theMethod args0 :: below0 := rfl
set_option maxRecDepth 65536 in
theorem w_args : argsFit about1.vm theMethod args0 = true := by decide +kernel
set_option maxRecDepth 65536 in
theorem w_heap : heapFits about1 = true := by decide +kernel
set_option maxRecDepth 65536 in
theorem w_runnable : about1.curStatus? = some .runnable := by decide +kernel
set_option maxRecDepth 65536 in
theorem w_alone : about1.alone = true := by decide +kernel
set_option maxRecDepth 65536 in
theorem w_named : about1.methodNamed? x = some theMethod := by decide +kernel
set_option maxRecDepth 65536 in
theorem w_hears : about1.hears theMethod below0 = true := by decide +kernel
set_option maxRecDepth 65536 in
theorem w_ripe : about1.ripe theMethod args0 below0 = true := by decide +kernel
theorem w_running : about1.status = .running := rfl
set_option maxRecDepth 65536 in
theorem w_room : about1.hasRoom e0.platform room_1 = true :=
  launch0.hasRoom_least _ room_1 (by decide +kernel) (by decide +kernel) (by decide +kernel) (by decide +kernel) (by decide +kernel) (by decide +kernel)
theorem allAtoms_all (ts : List Jvm.Cond) (a : Array Jvm.Value) (st : Jvm.State) : (allAtoms ts).before a st = ts.all (fun c => c.before a st) := by
  induction ts with
  | nil => rfl
  | cons c t ih =>
    show (Jvm.Cond.and c (allAtoms t)).before a st = _
    rw [Jvm.Cond.before_and, ih, List.all_cons]
def words1 : List Jvm.Cond := Jvm.Cond.code x code maxLocals ret :: tables_1
/-- a 'code' word, met by the world's own term for the bytes: nothing is compared byte by byte -/
theorem code_word {y : MethodName} {bytes : ByteArray} {mx : Nat} {rt : Option FieldType} {a : Array Value} {s : State} {m : MethodId} {meth : Method} {c : Code} (h1 : s.methodNamed? y = some m) (h2 : s.vm.method? m = some meth) (h3 : meth.code = some c) (h4 : c.code = bytes)
    (h5 : (c.maxLocals == mx && c.exceptionTable.isEmpty && decide (c.maxStack ≤ mostOperands) && decide (meth.sig.returnType = rt) && !meth.locks && decide (parseMethodDescriptor y.desc = some meth.sig)) = true) : (Jvm.Cond.code y bytes mx rt).before a s = true := by
  simp only [Bool.and_eq_true, beq_iff_eq, Bool.not_eq_true', decide_eq_true_eq] at h5
  obtain ⟨⟨⟨⟨⟨g1, g2⟩, g3⟩, g4⟩, g5⟩, g6⟩ := h5
  simp [Cond.before, Cond.holds, Cond.value, h1, h2, h3, h4, g1, g2, g3, g4, g5, g6]
def isCode : Jvm.Cond → Bool
  | .code _ _ _ _ => true
  | _ => false
theorem all_split {L : List Jvm.Cond} {P : Jvm.Cond → Bool} (h1 : L.all (fun c => isCode c || P c) = true) (h2 : ∀ c ∈ L.filter isCode, P c = true) : L.all P = true := by
  refine List.all_eq_true.mpr fun c hc => ?_
  have h := List.all_eq_true.mp h1 c hc
  rcases Bool.eq_false_or_eq_true (isCode c) with hi | hi
  · exact h2 c (List.mem_filter.mpr ⟨hc, hi⟩)
  · simpa [hi] using h
set_option maxRecDepth 65536 in
theorem w_c0 : (Jvm.Cond.code x code maxLocals ret).before args0 about1 = true := code_word (m := ⟨1, 1⟩) (meth := k1m1) (c := k1c1) (by decide +kernel) rfl rfl rfl (by decide +kernel)
set_option maxRecDepth 65536 in
theorem w_c1 : (Jvm.Cond.code ({ cls := "com/example/keenflow/keenflow/domain/RegularExpression", name := "isLineTerminator", desc := "(C)Z" } : Jvm.MethodName) prog_115_method_13_code (1 : Nat) (Option.some Jvm.ClassFile.FieldType.boolean)).before args0 about1 = true := code_word (m := ⟨2, 0⟩) (meth := k2m0) (c := k2c0) (by decide +kernel) rfl rfl rfl (by decide +kernel)
def codes1 : List Jvm.Cond := [Jvm.Cond.code x code maxLocals ret, Jvm.Cond.code ({ cls := "com/example/keenflow/keenflow/domain/RegularExpression", name := "isLineTerminator", desc := "(C)Z" } : Jvm.MethodName) prog_115_method_13_code (1 : Nat) (Option.some Jvm.ClassFile.FieldType.boolean)]
set_option maxRecDepth 65536 in
theorem codes_eq : words1.filter isCode = codes1 := rfl
theorem w_codes : ∀ c ∈ words1.filter isCode, c.before args0 about1 = true := by
  rw [codes_eq]
  intro c hc
  simp only [codes1, List.mem_cons, List.not_mem_nil, or_false] at hc
  rcases hc with rfl | rfl
  · exact w_c0
  · exact w_c1
set_option maxRecDepth 65536 in
theorem w_t1 : words1.all (fun c => isCode c || c.before args0 about1) = true := by decide +kernel
theorem w_tables : (allAtoms (Jvm.Cond.code x code maxLocals ret :: tables_1)).before args0 about1 = true := by
  rw [allAtoms_all]
  show words1.all (fun c => c.before args0 about1) = true
  refine all_split ?_ w_codes
  rw [w_t1]
set_option maxRecDepth 65536 in
theorem w_case : (Jvm.Cond.and given_1 narrow_1).before args0 about1 = true := by decide +kernel
theorem w_applies : (headSpec (Jvm.Cond.code x code maxLocals ret :: tables_1) room_1).applies x e0.platform about1 = true :=
  (Spec.applies_iff w_frames).mpr ⟨w_running, w_runnable, w_alone, w_named, w_hears, w_ripe, w_room, w_tables⟩
theorem atStart : AtStart classFile x code maxLocals ret World_1 tables_1 room_1 Calls_1 rest_1 Pre_1 launch0 p0 e0 about1 theMethod args0 below0 :=
  ⟨lists_1, trivial, launch0.admits_env _ _ _, launch0.least_env, fairChoices_fair.cas, fairChoices_fair.clock, w_frames, w_args, w_heap, w_applies, trivial, trivial, w_case⟩
end start1
theorem witness_1 : WitnessClaimed_1 := ⟨start1.p0, start1.e0, start1.about1, start1.theMethod, start1.args0, start1.below0, start1.atStart⟩
end Jvm.Pilot.@@N@@
