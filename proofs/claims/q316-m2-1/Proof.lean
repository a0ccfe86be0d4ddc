import JvmDerived
import JvmDerived.Pilot.@@N@@Statement
import JvmDerived.Pilot.@@N@@Code
set_option linter.unusedVariables false
set_option linter.unusedSimpArgs false
namespace Jvm.RoadKit
open Sem ClassFile Op Lib Jvm.Stand Jvm.Free Jvm.LawKit
section New
variable {p : Program} {l : Launch} {e : Env} {R : Room} {s : State} {m : MethodId} {args : Array Value} {below : List Frame} {meth : Method} {c : Code} {T : State} {locs : List Loc} {cells slots : Nat}
theorem retI (X : Stand p l e R s m args below meth c T locs cells slots) (hx : p.tables.exec = Jvm.exec) {pc : Nat} {Ls : Array Slot} {z : Int32} {rest : List Value} (hret : meth.sig.returnType = some .int) (hd : decode c.code pc = .ok (.ireturn, 1)) {fs : List Frame}
    (hl : ∀ (f : JFrame) (acts : List Action), f.method = m → f.locked = none → f.entered = [] → (doReturn e (T.setTop f) acts (some (.int z))).1 = T.setFrames fs) : Steps p.tables e below (T.setTop (mkF m pc Ls (.int z :: rest))) (T.setFrames fs) :=
  retOut X hx hret rfl (Or.inl ⟨rfl, Or.inl rfl, z, rfl⟩) hd hl
end New
end Jvm.RoadKit
namespace Jvm.Pilot.@@N@@
open Jvm Jvm.ClassFile Sem Op Lib Jvm.Free Jvm.Stand Jvm.LawKit Jvm.RoadKit Bundle Jvm.Pilot.@@N@@.Jvm.D
def QL (n0 : Nat) (v : Option Value) (h : Heap) (L : List Loc) : Prop := v = some (.int 1) ∧ Fr n0 L
def QP (r : Option Value) (h0 : Heap) (n0 : Nat) (v : Option Value) (h : Heap) (L : List Loc) : Prop := v = r ∧ Fr n0 L ∧ h = h0
theorem own_eqI {args : Array Value} {first s : State} {o : Option Outcome} {idx : List Nat} {a : Term} {k : Int32} (h : (Cond.eq a (.int k)).value args first o s idx = some true) : a.eval args first o idx s = some (.int k) := by
  obtain ⟨x, y, h1, h2, h3, h4⟩ := cmp_v (Or.inl h)
  obtain rfl : Value.int k = y := Option.some.inj h2
  obtain ⟨z, rfl⟩ := h4
  have q : z = k := by simpa [Cond.value, h1, Term.eval] using h
  rw [h1, q]
theorem d1_0 : decode prog_5_method_5_code 0 = .ok (.aload_n 0, 1) := by decide +kernel
theorem d1_1 : decode prog_5_method_5_code 1 = .ok (.getstatic 3, 3) := by decide +kernel
theorem d1_4 : decode prog_5_method_5_code 4 = .ok (.if_acmp .ne 9, 3) := by decide +kernel
theorem d1_7 : decode prog_5_method_5_code 7 = .ok (.getstatic 7, 3) := by decide +kernel
theorem d1_10 : decode prog_5_method_5_code 10 = .ok (.goto 6, 3) := by decide +kernel
theorem d1_13 : decode prog_5_method_5_code 13 = .ok (.getstatic 3, 3) := by decide +kernel
theorem d1_16 : decode prog_5_method_5_code 16 = .ok (.areturn, 1) := by decide +kernel
theorem pn_1 : plainName "com/example/lexigrid/lexigrid/Direction" = true := by first | (simp [plainName, overriddenIn]; done) | decide +kernel
theorem ef_1 (m : MethodId) (x0 : Addr) : entryFrame m #[(.ref x0)] 1 = mkF m 0 #[.val (.ref x0)] [] := by first | (simp [entryFrame, mkF, argsToLocals, Value.category]; done) | rfl
def f1 (r0 : Addr) (a_ACROSS : Addr) (a_DOWN : Addr) : Addr := (if r0 = a_ACROSS then a_DOWN else a_ACROSS)
set_option maxRecDepth 65536 in
set_option maxHeartbeats 40000000 in
theorem rm1 (l : Launch) (Z : State) (a0 : Array Value) (hw : ∀ d ∈ tables_1, d.before a0 Z = true) (ws : List Jvm.Cond) (r0 : Addr) (a_ACROSS : Addr) (a_DOWN : Addr) (h0 : Heap) (n0 : Nat) (Z0 : n0 ≤ h0.size) (S_ACROSS : Sta Z h0 "com/example/lexigrid/lexigrid/Direction" "ACROSS" "Lcom/example/lexigrid/lexigrid/Direction;" (.ref a_ACROSS)) (S_DOWN : Sta Z h0 "com/example/lexigrid/lexigrid/Direction" "DOWN" "Lcom/example/lexigrid/lexigrid/Direction;" (.ref a_DOWN)) :
    MetFree l (⟨"com/example/lexigrid/lexigrid/Direction", "crosswise", "()Lcom/example/lexigrid/lexigrid/Direction;"⟩ : MethodName) (head1 (Jvm.Cond.code (⟨"com/example/lexigrid/lexigrid/Direction", "crosswise", "()Lcom/example/lexigrid/lexigrid/Direction;"⟩ : MethodName) prog_5_method_5_code 1 (some (.object "com/example/lexigrid/lexigrid/Direction")) :: ws) ({ frames := 0, cells := 0, slots := 0, locals := 0 } : Room)) (fun a U => a = #[(.ref r0)] ∧ Z.Warmed39 U.vm ∧ U.heap = h0) (fun _ _ _ _ _ => True) (fun _ U o U' => ∃ v L, o = .returned v ∧ QP (some (.ref (f1 r0 a_ACROSS a_DOWN))) h0 n0 v U'.heap L ∧ FrameEnd U o U' L 0 0) := by
  refine MetFree.of_bodySF (plainFor_of_name pn_1) hisR ?_
  intro p e s m args below meth c s₁ Bd hml0 hP hK
  obtain ⟨rfl, hZ, hh⟩ := hP
  have hx := Bd.exec
  have hby := Bd.bytes
  have hml : c.maxLocals = 1 := hml0
  have hown : s.vm.findClass "com/example/lexigrid/lexigrid/Direction" = some m.cls := findClass_of_methodNamed Bd.named
  have hnm := (name_of_methodNamed Bd.named Bd.method).1
  have X0 : Stand p l e ({ frames := 0, cells := 0, slots := 0, locals := 0 } : Room) s m #[(.ref r0)] below meth c s₁ [] 0 0 := Stand.of_body Bd
  have e0 : s₁.heap = h0 := by rw [← hh, Bd.state]; rfl
  have N0 := Fr.nil n0
  have pre0 : ∀ t, Steps p.tables e below (s₁.setTop (mkF m 0 #[.val (.ref r0)] [])) t → Steps p.tables e below (s₁.setTop (entryFrame m #[(.ref r0)] 1)) t := fun t k => castTop (ef_1 m r0) k
  obtain ⟨T1, X1, e1, st1⟩ := getS2 X0 hx hZ hown (host := "") (Or.inl (hw _ (List.mem_of_getElem? (i := 8) rfl))) Via.refl e0 S_ACROSS (g := (mkF m 1 #[.val (.ref r0)] [(.ref r0)])) rfl (hb hby d1_1)
  have pre2 : ∀ t, Steps p.tables e below (T1.setTop (mkF m 4 #[.val (.ref r0)] [(.ref a_ACROSS), (.ref r0)])) t → Steps p.tables e below (s₁.setTop (entryFrame m #[(.ref r0)] 1)) t := fun t k => pre0 t (by
    show Steps p.tables e below (s₁.setTop (mkF m 0 #[.val (.ref r0)] [])) _
    refine XS.aloadN X0.here hx rfl (hb hby d1_0) rfl rfl ?_
    show Steps p.tables e below (s₁.setTop (mkF m 1 #[.val (.ref r0)] [(.ref r0)])) _
    refine st1 _ ?_
    exact k)
  by_cases hc4 : r0 = a_ACROSS
  · -- pc 4: r0 = a_ACROSS
    obtain ⟨T3, X3, e3, st3⟩ := getS2 X1 hx hZ hown (host := "") (Or.inl (hw _ (List.mem_of_getElem? (i := 9) rfl))) Via.refl e1 S_DOWN (g := (mkF m 7 #[.val (.ref r0)] [])) rfl (hb hby d1_7)
    obtain ⟨fs, hr, hrun, hended, hW, hsame⟩ := X3.leave (v := (some (.ref a_DOWN))) (fun h => by rw [Bd.returns] at h; cases h)
    refine ⟨_, _, pre2 _ ?_, hrun, hended, _, _, rfl, ?_, ⟨_, rfl⟩, hW, hsame.mono (by decide) (by decide)⟩
    · show Steps p.tables e below (T1.setTop (mkF m 4 #[.val (.ref r0)] [(.ref a_ACROSS), (.ref r0)])) _
      refine Jvm.RoadKit.acmp (g := (mkF m 4 #[.val (.ref r0)] [(.ref a_ACROSS), (.ref r0)])) X1 hx rfl rfl rfl (pc0 := 4) (pc' := 7) (same := true) rfl (hb hby d1_4) rfl (decide_eq_true (congrArg Value.ref hc4)) (by decide) (by decide) ?_
      show Steps p.tables e below (T1.setTop (mkF m 7 #[.val (.ref r0)] [])) _
      refine st3 _ ?_
      show Steps p.tables e below (T3.setTop (mkF m 10 #[.val (.ref r0)] [(.ref a_DOWN)])) _
      refine XS.goto X3.here hx rfl (pc0 := 10) (pc' := 16) rfl (hb hby d1_10) (by decide) (by decide) ?_
      show Steps p.tables e below (T3.setTop (mkF m 16 #[.val (.ref r0)] [(.ref a_DOWN)])) _
      exact retOut X3 hx Bd.returns rfl (Or.inr (Or.inr (Or.inr (Or.inr ⟨rfl, rfl, rfl⟩)))) (hb hby d1_16) hr
    · show QP (some (.ref (f1 r0 a_ACROSS a_DOWN))) h0 n0 _ T3.heap _
      rw [e3]
      exact ⟨congrArg (fun z => some (Value.ref z)) (Eq.symm (show (f1 r0 a_ACROSS a_DOWN) = a_DOWN from (if_pos hc4).trans (rfl))), N0, rfl⟩
  · -- pc 4: not r0 = a_ACROSS
    obtain ⟨T4, X4, e4, st4⟩ := getS2 X1 hx hZ hown (host := "") (Or.inl (hw _ (List.mem_of_getElem? (i := 8) rfl))) Via.refl e1 S_ACROSS (g := (mkF m 13 #[.val (.ref r0)] [])) rfl (hb hby d1_13)
    obtain ⟨fs, hr, hrun, hended, hW, hsame⟩ := X4.leave (v := (some (.ref a_ACROSS))) (fun h => by rw [Bd.returns] at h; cases h)
    refine ⟨_, _, pre2 _ ?_, hrun, hended, _, _, rfl, ?_, ⟨_, rfl⟩, hW, hsame.mono (by decide) (by decide)⟩
    · show Steps p.tables e below (T1.setTop (mkF m 4 #[.val (.ref r0)] [(.ref a_ACROSS), (.ref r0)])) _
      refine Jvm.RoadKit.acmp (g := (mkF m 4 #[.val (.ref r0)] [(.ref a_ACROSS), (.ref r0)])) X1 hx rfl rfl rfl (pc0 := 4) (pc' := 13) (same := false) rfl (hb hby d1_4) rfl (decide_eq_false fun q => hc4 (Value.ref.inj q)) (by decide) (by decide) ?_
      show Steps p.tables e below (T1.setTop (mkF m 13 #[.val (.ref r0)] [])) _
      refine st4 _ ?_
      show Steps p.tables e below (T4.setTop (mkF m 16 #[.val (.ref r0)] [(.ref a_ACROSS)])) _
      exact retOut X4 hx Bd.returns rfl (Or.inr (Or.inr (Or.inr (Or.inr ⟨rfl, rfl, rfl⟩)))) (hb hby d1_16) hr
    · show QP (some (.ref (f1 r0 a_ACROSS a_DOWN))) h0 n0 _ T4.heap _
      rw [e4]
      exact ⟨congrArg (fun z => some (Value.ref z)) (Eq.symm (show (f1 r0 a_ACROSS a_DOWN) = a_ACROSS from (if_neg hc4).trans (rfl))), N0, rfl⟩
theorem d2_0 : decode prog_5_method_4_code 0 = .ok (.aload_n 0, 1) := by decide +kernel
theorem d2_1 : decode prog_5_method_4_code 1 = .ok (.getfield 29, 3) := by decide +kernel
theorem d2_4 : decode prog_5_method_4_code 4 = .ok (.ireturn, 1) := by decide +kernel
theorem pn_2 : plainName "com/example/lexigrid/lexigrid/Direction" = true := by first | (simp [plainName, overriddenIn]; done) | decide +kernel
theorem ef_2 (m : MethodId) (x0 : Addr) : entryFrame m #[(.ref x0)] 1 = mkF m 0 #[.val (.ref x0)] [] := by first | (simp [entryFrame, mkF, argsToLocals, Value.category]; done) | rfl
set_option maxRecDepth 65536 in
set_option maxHeartbeats 40000000 in
theorem rm2 (l : Launch) (Z : State) (a0 : Array Value) (hw : ∀ d ∈ tables_1, d.before a0 Z = true) (ws : List Jvm.Cond) (r0 : Addr) (w : Int32) (h0 : Heap) (n0 : Nat) (Z0 : n0 ≤ h0.size) (F_w : Fld Z h0 r0 "com/example/lexigrid/lexigrid/Direction" "symbol" "C" (.int w)) :
    MetFree l (⟨"com/example/lexigrid/lexigrid/Direction", "symbol", "()C"⟩ : MethodName) (head1 (Jvm.Cond.code (⟨"com/example/lexigrid/lexigrid/Direction", "symbol", "()C"⟩ : MethodName) prog_5_method_4_code 1 (some .char) :: ws) ({ frames := 0, cells := 0, slots := 0, locals := 0 } : Room)) (fun a U => a = #[(.ref r0)] ∧ Z.Warmed39 U.vm ∧ U.heap = h0) (fun _ _ _ _ _ => True) (fun _ U o U' => ∃ v L, o = .returned v ∧ QP (some (.int (nar .char w))) h0 n0 v U'.heap L ∧ FrameEnd U o U' L 0 0) := by
  refine MetFree.of_bodySF (plainFor_of_name pn_2) hisR ?_
  intro p e s m args below meth c s₁ Bd hml0 hP hK
  obtain ⟨rfl, hZ, hh⟩ := hP
  have hx := Bd.exec
  have hby := Bd.bytes
  have hml : c.maxLocals = 1 := hml0
  have hown : s.vm.findClass "com/example/lexigrid/lexigrid/Direction" = some m.cls := findClass_of_methodNamed Bd.named
  have hnm := (name_of_methodNamed Bd.named Bd.method).1
  have X0 : Stand p l e ({ frames := 0, cells := 0, slots := 0, locals := 0 } : Room) s m #[(.ref r0)] below meth c s₁ [] 0 0 := Stand.of_body Bd
  have e0 : s₁.heap = h0 := by rw [← hh, Bd.state]; rfl
  have N0 := Fr.nil n0
  have pre0 : ∀ t, Steps p.tables e below (s₁.setTop (mkF m 0 #[.val (.ref r0)] [])) t → Steps p.tables e below (s₁.setTop (entryFrame m #[(.ref r0)] 1)) t := fun t k => castTop (ef_2 m r0) k
  obtain ⟨T1, X1, e1, st1⟩ := getF X0 hx hZ hown (host := "") (Or.inl (hw _ (List.mem_of_getElem? (i := 16) rfl))) Via.refl e0 F_w (g := (mkF m 1 #[.val (.ref r0)] [(.ref r0)])) rfl rfl (hb hby d2_1)
  obtain ⟨fs, hr, hrun, hended, hW, hsame⟩ := X1.leave (v := (some (.int (nar .char w)))) (fun h => by rw [Bd.returns] at h; cases h)
  refine ⟨_, _, pre0 _ ?_, hrun, hended, _, _, rfl, ?_, ⟨_, rfl⟩, hW, hsame.mono (by decide) (by decide)⟩
  · show Steps p.tables e below (s₁.setTop (mkF m 0 #[.val (.ref r0)] [])) _
    refine XS.aloadN X0.here hx rfl (hb hby d2_0) rfl rfl ?_
    show Steps p.tables e below (s₁.setTop (mkF m 1 #[.val (.ref r0)] [(.ref r0)])) _
    refine st1 _ ?_
    show Steps p.tables e below (T1.setTop (mkF m 4 #[.val (.ref r0)] [(.int w)])) _
    exact retN X1 hx (t := .char) Bd.returns (by simp) (hb hby d2_4) hr
  · show QP (some (.int (nar .char w))) h0 n0 _ T1.heap _
    rw [e1]
    exact ⟨rfl, N0, rfl⟩
theorem d3_0 : decode prog_5_method_6_code 0 = .ok (.aload_n 0, 1) := by decide +kernel
theorem d3_1 : decode prog_5_method_6_code 1 = .ok (.getfield 33, 3) := by decide +kernel
theorem d3_4 : decode prog_5_method_6_code 4 = .ok (.ireturn, 1) := by decide +kernel
theorem pn_3 : plainName "com/example/lexigrid/lexigrid/Direction" = true := by first | (simp [plainName, overriddenIn]; done) | decide +kernel
theorem ef_3 (m : MethodId) (x0 : Addr) : entryFrame m #[(.ref x0)] 1 = mkF m 0 #[.val (.ref x0)] [] := by first | (simp [entryFrame, mkF, argsToLocals, Value.category]; done) | rfl
set_option maxRecDepth 65536 in
set_option maxHeartbeats 40000000 in
theorem rm3 (l : Launch) (Z : State) (a0 : Array Value) (hw : ∀ d ∈ tables_1, d.before a0 Z = true) (ws : List Jvm.Cond) (r0 : Addr) (w : Int32) (h0 : Heap) (n0 : Nat) (Z0 : n0 ≤ h0.size) (F_w : Fld Z h0 r0 "com/example/lexigrid/lexigrid/Direction" "rowStep" "I" (.int w)) :
    MetFree l (⟨"com/example/lexigrid/lexigrid/Direction", "rowStep", "()I"⟩ : MethodName) (head1 (Jvm.Cond.code (⟨"com/example/lexigrid/lexigrid/Direction", "rowStep", "()I"⟩ : MethodName) prog_5_method_6_code 1 (some .int) :: ws) ({ frames := 0, cells := 0, slots := 0, locals := 0 } : Room)) (fun a U => a = #[(.ref r0)] ∧ Z.Warmed39 U.vm ∧ U.heap = h0) (fun _ _ _ _ _ => True) (fun _ U o U' => ∃ v L, o = .returned v ∧ QP (some (.int w)) h0 n0 v U'.heap L ∧ FrameEnd U o U' L 0 0) := by
  refine MetFree.of_bodySF (plainFor_of_name pn_3) hisR ?_
  intro p e s m args below meth c s₁ Bd hml0 hP hK
  obtain ⟨rfl, hZ, hh⟩ := hP
  have hx := Bd.exec
  have hby := Bd.bytes
  have hml : c.maxLocals = 1 := hml0
  have hown : s.vm.findClass "com/example/lexigrid/lexigrid/Direction" = some m.cls := findClass_of_methodNamed Bd.named
  have hnm := (name_of_methodNamed Bd.named Bd.method).1
  have X0 : Stand p l e ({ frames := 0, cells := 0, slots := 0, locals := 0 } : Room) s m #[(.ref r0)] below meth c s₁ [] 0 0 := Stand.of_body Bd
  have e0 : s₁.heap = h0 := by rw [← hh, Bd.state]; rfl
  have N0 := Fr.nil n0
  have pre0 : ∀ t, Steps p.tables e below (s₁.setTop (mkF m 0 #[.val (.ref r0)] [])) t → Steps p.tables e below (s₁.setTop (entryFrame m #[(.ref r0)] 1)) t := fun t k => castTop (ef_3 m r0) k
  obtain ⟨T1, X1, e1, st1⟩ := getF X0 hx hZ hown (host := "") (Or.inl (hw _ (List.mem_of_getElem? (i := 23) rfl))) Via.refl e0 F_w (g := (mkF m 1 #[.val (.ref r0)] [(.ref r0)])) rfl rfl (hb hby d3_1)
  obtain ⟨fs, hr, hrun, hended, hW, hsame⟩ := X1.leave (v := (some (.int w))) (fun h => by rw [Bd.returns] at h; cases h)
  refine ⟨_, _, pre0 _ ?_, hrun, hended, _, _, rfl, ?_, ⟨_, rfl⟩, hW, hsame.mono (by decide) (by decide)⟩
  · show Steps p.tables e below (s₁.setTop (mkF m 0 #[.val (.ref r0)] [])) _
    refine XS.aloadN X0.here hx rfl (hb hby d3_0) rfl rfl ?_
    show Steps p.tables e below (s₁.setTop (mkF m 1 #[.val (.ref r0)] [(.ref r0)])) _
    refine st1 _ ?_
    show Steps p.tables e below (T1.setTop (mkF m 4 #[.val (.ref r0)] [(.int w)])) _
    exact retI X1 hx Bd.returns (hb hby d3_4) hr
  · show QP (some (.int w)) h0 n0 _ T1.heap _
    rw [e1]
    exact ⟨rfl, N0, rfl⟩
theorem d4_0 : decode prog_5_method_7_code 0 = .ok (.aload_n 0, 1) := by decide +kernel
theorem d4_1 : decode prog_5_method_7_code 1 = .ok (.getfield 37, 3) := by decide +kernel
theorem d4_4 : decode prog_5_method_7_code 4 = .ok (.ireturn, 1) := by decide +kernel
theorem pn_4 : plainName "com/example/lexigrid/lexigrid/Direction" = true := by first | (simp [plainName, overriddenIn]; done) | decide +kernel
theorem ef_4 (m : MethodId) (x0 : Addr) : entryFrame m #[(.ref x0)] 1 = mkF m 0 #[.val (.ref x0)] [] := by first | (simp [entryFrame, mkF, argsToLocals, Value.category]; done) | rfl
set_option maxRecDepth 65536 in
set_option maxHeartbeats 40000000 in
theorem rm4 (l : Launch) (Z : State) (a0 : Array Value) (hw : ∀ d ∈ tables_1, d.before a0 Z = true) (ws : List Jvm.Cond) (r0 : Addr) (w : Int32) (h0 : Heap) (n0 : Nat) (Z0 : n0 ≤ h0.size) (F_w : Fld Z h0 r0 "com/example/lexigrid/lexigrid/Direction" "colStep" "I" (.int w)) :
    MetFree l (⟨"com/example/lexigrid/lexigrid/Direction", "colStep", "()I"⟩ : MethodName) (head1 (Jvm.Cond.code (⟨"com/example/lexigrid/lexigrid/Direction", "colStep", "()I"⟩ : MethodName) prog_5_method_7_code 1 (some .int) :: ws) ({ frames := 0, cells := 0, slots := 0, locals := 0 } : Room)) (fun a U => a = #[(.ref r0)] ∧ Z.Warmed39 U.vm ∧ U.heap = h0) (fun _ _ _ _ _ => True) (fun _ U o U' => ∃ v L, o = .returned v ∧ QP (some (.int w)) h0 n0 v U'.heap L ∧ FrameEnd U o U' L 0 0) := by
  refine MetFree.of_bodySF (plainFor_of_name pn_4) hisR ?_
  intro p e s m args below meth c s₁ Bd hml0 hP hK
  obtain ⟨rfl, hZ, hh⟩ := hP
  have hx := Bd.exec
  have hby := Bd.bytes
  have hml : c.maxLocals = 1 := hml0
  have hown : s.vm.findClass "com/example/lexigrid/lexigrid/Direction" = some m.cls := findClass_of_methodNamed Bd.named
  have hnm := (name_of_methodNamed Bd.named Bd.method).1
  have X0 : Stand p l e ({ frames := 0, cells := 0, slots := 0, locals := 0 } : Room) s m #[(.ref r0)] below meth c s₁ [] 0 0 := Stand.of_body Bd
  have e0 : s₁.heap = h0 := by rw [← hh, Bd.state]; rfl
  have N0 := Fr.nil n0
  have pre0 : ∀ t, Steps p.tables e below (s₁.setTop (mkF m 0 #[.val (.ref r0)] [])) t → Steps p.tables e below (s₁.setTop (entryFrame m #[(.ref r0)] 1)) t := fun t k => castTop (ef_4 m r0) k
  obtain ⟨T1, X1, e1, st1⟩ := getF X0 hx hZ hown (host := "") (Or.inl (hw _ (List.mem_of_getElem? (i := 30) rfl))) Via.refl e0 F_w (g := (mkF m 1 #[.val (.ref r0)] [(.ref r0)])) rfl rfl (hb hby d4_1)
  obtain ⟨fs, hr, hrun, hended, hW, hsame⟩ := X1.leave (v := (some (.int w))) (fun h => by rw [Bd.returns] at h; cases h)
  refine ⟨_, _, pre0 _ ?_, hrun, hended, _, _, rfl, ?_, ⟨_, rfl⟩, hW, hsame.mono (by decide) (by decide)⟩
  · show Steps p.tables e below (s₁.setTop (mkF m 0 #[.val (.ref r0)] [])) _
    refine XS.aloadN X0.here hx rfl (hb hby d4_0) rfl rfl ?_
    show Steps p.tables e below (s₁.setTop (mkF m 1 #[.val (.ref r0)] [(.ref r0)])) _
    refine st1 _ ?_
    show Steps p.tables e below (T1.setTop (mkF m 4 #[.val (.ref r0)] [(.int w)])) _
    exact retI X1 hx Bd.returns (hb hby d4_4) hr
  · show QP (some (.int w)) h0 n0 _ T1.heap _
    rw [e1]
    exact ⟨rfl, N0, rfl⟩
theorem pn_0 : plainName "com/example/lexigrid/lexigrid/DirectionCrosswisePinLaw" = true := by first | (simp [plainName, overriddenIn]; done) | decide +kernel
theorem ef_0 (m : MethodId) (x0 : Int32) : entryFrame m #[(.int x0)] maxLocals = mkF m 0 #[.val (.int x0), .unset, .unset, .unset] [] := by first | (simp [entryFrame, mkF, argsToLocals, Value.category, maxLocals]; done) | rfl
theorem pd_0 : parseMethodDescriptor "()Lcom/example/lexigrid/lexigrid/Direction;" = some ⟨[], some (.object "com/example/lexigrid/lexigrid/Direction")⟩ := by decide +kernel
theorem pd_1 : parseMethodDescriptor "()C" = some ⟨[], some .char⟩ := by decide +kernel
theorem pd_2 : parseMethodDescriptor "()I" = some ⟨[], some .int⟩ := by decide +kernel
set_option maxRecDepth 65536 in
set_option maxHeartbeats 40000000 in
theorem rm0 (l : Launch) (Z : State) (a0 : Array Value) (hw : ∀ d ∈ tables_1, d.before a0 Z = true) (ws : List Jvm.Cond) (u0 : Int32) (a_ACROSS : Addr) (a_DOWN : Addr) (h0 : Heap) (n0 : Nat) (Z0 : n0 ≤ h0.size) (S_ACROSS : Sta Z h0 "com/example/lexigrid/lexigrid/Direction" "ACROSS" "Lcom/example/lexigrid/lexigrid/Direction;" (.ref a_ACROSS)) (S_DOWN : Sta Z h0 "com/example/lexigrid/lexigrid/Direction" "DOWN" "Lcom/example/lexigrid/lexigrid/Direction;" (.ref a_DOWN)) (E_ACROSS : Exa Z h0 a_ACROSS "com/example/lexigrid/lexigrid/Direction") (F_ACROSS_symbol : Fld Z h0 a_ACROSS "com/example/lexigrid/lexigrid/Direction" "symbol" "C" (.int (45 : Int32))) (F_ACROSS_rowStep : Fld Z h0 a_ACROSS "com/example/lexigrid/lexigrid/Direction" "rowStep" "I" (.int (0 : Int32))) (F_ACROSS_colStep : Fld Z h0 a_ACROSS "com/example/lexigrid/lexigrid/Direction" "colStep" "I" (.int (1 : Int32))) (E_DOWN : Exa Z h0 a_DOWN "com/example/lexigrid/lexigrid/Direction") (F_DOWN_symbol : Fld Z h0 a_DOWN "com/example/lexigrid/lexigrid/Direction" "symbol" "C" (.int (124 : Int32))) (F_DOWN_rowStep : Fld Z h0 a_DOWN "com/example/lexigrid/lexigrid/Direction" "rowStep" "I" (.int (1 : Int32))) (F_DOWN_colStep : Fld Z h0 a_DOWN "com/example/lexigrid/lexigrid/Direction" "colStep" "I" (.int (0 : Int32))) (nAD : a_ACROSS ≠ a_DOWN) :
    MetFree l x (head1 (Jvm.Cond.code x code maxLocals ret :: ws) room_1) (fun a U => a = #[(.int u0)] ∧ Z.Warmed39 U.vm ∧ U.heap = h0) (fun _ _ _ _ _ => True) (fun _ U o U' => ∃ v L, o = .returned v ∧ QL n0 v U'.heap L ∧ FrameEnd U o U' L 0 0) := by
  refine MetFree.of_bodySF (plainFor_of_name pn_0) hisR ?_
  intro p e s m args below meth c s₁ Bd hml0 hP hK
  obtain ⟨rfl, hZ, hh⟩ := hP
  have hx := Bd.exec
  have hby := Bd.bytes
  have hml : c.maxLocals = 4 := hml0
  have hown : s.vm.findClass "com/example/lexigrid/lexigrid/DirectionCrosswisePinLaw" = some m.cls := findClass_of_methodNamed Bd.named
  have hnm := (name_of_methodNamed Bd.named Bd.method).1
  have X0 : Stand p l e room_1 s m #[(.int u0)] below meth c s₁ [] 0 0 := Stand.of_body Bd
  have e0 : s₁.heap = h0 := by rw [← hh, Bd.state]; rfl
  have N0 := Fr.nil n0
  have pre0 : ∀ t, Steps p.tables e below (s₁.setTop (mkF m 0 #[.val (.int u0), .unset, .unset, .unset] [])) t → Steps p.tables e below (s₁.setTop (entryFrame m #[(.int u0)] maxLocals)) t := fun t k => castTop (ef_0 m u0) k
  have pre1 : ∀ t, Steps p.tables e below (s₁.setTop (mkF m 3 #[.val (.int u0), .unset, .unset, .unset] [(.int (u0 &&& (1 : Int32)))])) t → Steps p.tables e below (s₁.setTop (entryFrame m #[(.int u0)] maxLocals)) t := fun t k => pre0 t (by
    show Steps p.tables e below (s₁.setTop (mkF m 0 #[.val (.int u0), .unset, .unset, .unset] [])) _
    refine XS.iloadN X0.here hx rfl (hb hby at_0) rfl ?_
    show Steps p.tables e below (s₁.setTop (mkF m 1 #[.val (.int u0), .unset, .unset, .unset] [(.int u0)])) _
    refine XS.iconst X0.here hx rfl (hb hby at_1) ?_
    show Steps p.tables e below (s₁.setTop (mkF m 2 #[.val (.int u0), .unset, .unset, .unset] [(.int (1 : Int32)), (.int u0)])) _
    refine XS.iand X0.here hx rfl (hb hby at_2) rfl ?_
    exact k)
  by_cases hc3 : (u0 &&& (1 : Int32)) = (0 : Int32)
  · -- pc 3: (u0 &&& (1 : Int32)) = (0 : Int32)
    obtain ⟨T2, X2, e2, st2⟩ := getS2 X0 hx hZ hown (host := "") (Or.inl (hw _ (List.mem_of_getElem? (i := 0) rfl))) Via.refl e0 S_ACROSS (g := (mkF m 12 #[.val (.int u0), .unset, .unset, .unset] [])) rfl (hb hby at_12)
    obtain ⟨cq3, kq3, q3a, q3b, q3c⟩ := isOf hZ e2 E_ACROSS
    obtain ⟨_, _, ⟨T3, L3, k3, n3⟩, -, X3, ⟨Lc3, hQ3, l3, y3, z3⟩, st3⟩ := X2.virtualBack hx (y := (⟨"com/example/lexigrid/lexigrid/Direction", "crosswise", "()Lcom/example/lexigrid/lexigrid/Direction;"⟩ : MethodName)) (z := (⟨"com/example/lexigrid/lexigrid/Direction", "crosswise", "()Lcom/example/lexigrid/lexigrid/Direction;"⟩ : MethodName)) hown (mvT hZ (hw _ (List.mem_of_getElem? (i := 3) rfl))) (mvT hZ (hw _ (List.mem_of_getElem? (i := 4) rfl))) (notFace_of_selects (args := #[]) (mvT hZ (hw _ (List.mem_of_getElem? (i := 6) rfl)))) (mvT hZ (hw _ (List.mem_of_getElem? (i := 6) rfl))) (mvT hZ (hw _ (List.mem_of_getElem? (i := 5) rfl))) (by decide) (backOf (W := 0) (rm1 l Z a0 hw [] a_ACROSS a_ACROSS a_DOWN h0 n0 Z0 S_ACROSS S_DOWN) hZ (hw _ (List.mem_of_getElem? (i := 7) rfl)) (hw _ (List.mem_of_getElem? (i := 1) rfl)) (by decide) (by decide)) q3a q3c (g := (mkF m 17 #[.val (.int u0), .val (.ref a_ACROSS), .unset, .unset] [(.ref a_ACROSS)])) rfl (by rw [hml]; rfl) (Steps.refl _) (argsL := []) (rest := []) (lenOf pd_0 rfl) rfl (by show 2 * 0 + _ ≤ _; exact Nat.le_of_eq rfl) (hb hby at_17) (fun _ _ => ⟨rfl, e2, (by decide : 0 + 0 ≤ _), (by decide : 0 + 0 ≤ _)⟩)
    dsimp only [Pt.U, Pt.locs, Pt.cells, Pt.slots] at X3 l3 y3 z3 st3 hQ3
    subst l3 y3 z3
    have r3 : f1 a_ACROSS a_ACROSS a_DOWN = a_DOWN := if_pos rfl
    rw [r3] at hQ3
    obtain ⟨rfl, N3q, e3⟩ := hQ3
    have N3 := Fr.app N0 N3q
    obtain ⟨cq4, kq4, q4a, q4b, q4c⟩ := isOf hZ e3 E_ACROSS
    obtain ⟨_, _, ⟨T4, L4, k4, n4⟩, -, X4, ⟨Lc4, hQ4, l4, y4, z4⟩, st4⟩ := X3.virtualBack hx (y := (⟨"com/example/lexigrid/lexigrid/Direction", "symbol", "()C"⟩ : MethodName)) (z := (⟨"com/example/lexigrid/lexigrid/Direction", "symbol", "()C"⟩ : MethodName)) hown (mvT hZ (hw _ (List.mem_of_getElem? (i := 11) rfl))) (mvT hZ (hw _ (List.mem_of_getElem? (i := 12) rfl))) (notFace_of_selects (args := #[]) (mvT hZ (hw _ (List.mem_of_getElem? (i := 14) rfl)))) (mvT hZ (hw _ (List.mem_of_getElem? (i := 14) rfl))) (mvT hZ (hw _ (List.mem_of_getElem? (i := 13) rfl))) (by decide) (backOf (W := 0) (rm2 l Z a0 hw [] a_ACROSS (45 : Int32) h0 n0 Z0 F_ACROSS_symbol) hZ (hw _ (List.mem_of_getElem? (i := 15) rfl)) (hw _ (List.mem_of_getElem? (i := 1) rfl)) (by decide) (by decide)) q4a q4c (g := (mkF m 28 #[.val (.int u0), .val (.ref a_ACROSS), .val (.ref a_DOWN), .unset] [(.ref a_ACROSS)])) rfl (by rw [hml]; rfl) (Steps.refl _) (argsL := []) (rest := []) (lenOf pd_1 rfl) rfl (by show 2 * 0 + _ ≤ _; exact Nat.le_of_eq rfl) (hb hby at_28) (fun _ _ => ⟨rfl, e3, (by decide : 0 + 0 ≤ _), (by decide : 0 + 0 ≤ _)⟩)
    dsimp only [Pt.U, Pt.locs, Pt.cells, Pt.slots] at X4 l4 y4 z4 st4 hQ4
    subst l4 y4 z4
    obtain ⟨rfl, N4q, e4⟩ := hQ4
    have N4 := Fr.app N3 N4q
    obtain ⟨cq5, kq5, q5a, q5b, q5c⟩ := isOf hZ e4 E_DOWN
    obtain ⟨_, _, ⟨T5, L5, k5, n5⟩, -, X5, ⟨Lc5, hQ5, l5, y5, z5⟩, st5⟩ := X4.virtualBack hx (y := (⟨"com/example/lexigrid/lexigrid/Direction", "symbol", "()C"⟩ : MethodName)) (z := (⟨"com/example/lexigrid/lexigrid/Direction", "symbol", "()C"⟩ : MethodName)) hown (mvT hZ (hw _ (List.mem_of_getElem? (i := 11) rfl))) (mvT hZ (hw _ (List.mem_of_getElem? (i := 12) rfl))) (notFace_of_selects (args := #[]) (mvT hZ (hw _ (List.mem_of_getElem? (i := 14) rfl)))) (mvT hZ (hw _ (List.mem_of_getElem? (i := 14) rfl))) (mvT hZ (hw _ (List.mem_of_getElem? (i := 13) rfl))) (by decide) (backOf (W := 0) (rm2 l Z a0 hw [] a_DOWN (124 : Int32) h0 n0 Z0 F_DOWN_symbol) hZ (hw _ (List.mem_of_getElem? (i := 15) rfl)) (hw _ (List.mem_of_getElem? (i := 1) rfl)) (by decide) (by decide)) q5a q5c (g := (mkF m 50 #[.val (.int u0), .val (.ref a_ACROSS), .val (.ref a_DOWN), .val (.int (124 : Int32))] [(.ref a_DOWN)])) rfl (by rw [hml]; rfl) (Steps.refl _) (argsL := []) (rest := []) (lenOf pd_1 rfl) rfl (by show 2 * 0 + _ ≤ _; exact Nat.le_of_eq rfl) (hb hby at_50) (fun _ _ => ⟨rfl, e4, (by decide : 0 + 0 ≤ _), (by decide : 0 + 0 ≤ _)⟩)
    dsimp only [Pt.U, Pt.locs, Pt.cells, Pt.slots] at X5 l5 y5 z5 st5 hQ5
    subst l5 y5 z5
    obtain ⟨rfl, N5q, e5⟩ := hQ5
    have N5 := Fr.app N4 N5q
    obtain ⟨cq6, kq6, q6a, q6b, q6c⟩ := isOf hZ e5 E_DOWN
    obtain ⟨_, _, ⟨T6, L6, k6, n6⟩, -, X6, ⟨Lc6, hQ6, l6, y6, z6⟩, st6⟩ := X5.virtualBack hx (y := (⟨"com/example/lexigrid/lexigrid/Direction", "rowStep", "()I"⟩ : MethodName)) (z := (⟨"com/example/lexigrid/lexigrid/Direction", "rowStep", "()I"⟩ : MethodName)) hown (mvT hZ (hw _ (List.mem_of_getElem? (i := 18) rfl))) (mvT hZ (hw _ (List.mem_of_getElem? (i := 19) rfl))) (notFace_of_selects (args := #[]) (mvT hZ (hw _ (List.mem_of_getElem? (i := 21) rfl)))) (mvT hZ (hw _ (List.mem_of_getElem? (i := 21) rfl))) (mvT hZ (hw _ (List.mem_of_getElem? (i := 20) rfl))) (by decide) (backOf (W := 0) (rm3 l Z a0 hw [] a_DOWN (1 : Int32) h0 n0 Z0 F_DOWN_rowStep) hZ (hw _ (List.mem_of_getElem? (i := 22) rfl)) (hw _ (List.mem_of_getElem? (i := 1) rfl)) (by decide) (by decide)) q6a q6c (g := (mkF m 58 #[.val (.int u0), .val (.ref a_ACROSS), .val (.ref a_DOWN), .val (.int (124 : Int32))] [(.ref a_DOWN)])) rfl (by rw [hml]; rfl) (Steps.refl _) (argsL := []) (rest := []) (lenOf pd_2 rfl) rfl (by show 2 * 0 + _ ≤ _; exact Nat.le_of_eq rfl) (hb hby at_58) (fun _ _ => ⟨rfl, e5, (by decide : 0 + 0 ≤ _), (by decide : 0 + 0 ≤ _)⟩)
    dsimp only [Pt.U, Pt.locs, Pt.cells, Pt.slots] at X6 l6 y6 z6 st6 hQ6
    subst l6 y6 z6
    obtain ⟨rfl, N6q, e6⟩ := hQ6
    have N6 := Fr.app N5 N6q
    obtain ⟨cq7, kq7, q7a, q7b, q7c⟩ := isOf hZ e6 E_ACROSS
    obtain ⟨_, _, ⟨T7, L7, k7, n7⟩, -, X7, ⟨Lc7, hQ7, l7, y7, z7⟩, st7⟩ := X6.virtualBack hx (y := (⟨"com/example/lexigrid/lexigrid/Direction", "colStep", "()I"⟩ : MethodName)) (z := (⟨"com/example/lexigrid/lexigrid/Direction", "colStep", "()I"⟩ : MethodName)) hown (mvT hZ (hw _ (List.mem_of_getElem? (i := 25) rfl))) (mvT hZ (hw _ (List.mem_of_getElem? (i := 26) rfl))) (notFace_of_selects (args := #[]) (mvT hZ (hw _ (List.mem_of_getElem? (i := 28) rfl)))) (mvT hZ (hw _ (List.mem_of_getElem? (i := 28) rfl))) (mvT hZ (hw _ (List.mem_of_getElem? (i := 27) rfl))) (by decide) (backOf (W := 1) (rm4 l Z a0 hw [] a_ACROSS (1 : Int32) h0 n0 Z0 F_ACROSS_colStep) hZ (hw _ (List.mem_of_getElem? (i := 29) rfl)) (hw _ (List.mem_of_getElem? (i := 1) rfl)) (by decide) (by decide)) q7a q7c (g := (mkF m 62 #[.val (.int u0), .val (.ref a_ACROSS), .val (.ref a_DOWN), .val (.int (124 : Int32))] [(.ref a_ACROSS), (.int (1 : Int32))])) rfl (by rw [hml]; rfl) (Steps.refl _) (argsL := []) (rest := [(.int (1 : Int32))]) (lenOf pd_2 rfl) rfl (by show 2 * 0 + _ ≤ _; exact Nat.le_of_eq rfl) (hb hby at_62) (fun _ _ => ⟨rfl, e6, (by decide : 0 + 0 ≤ _), (by decide : 0 + 0 ≤ _)⟩)
    dsimp only [Pt.U, Pt.locs, Pt.cells, Pt.slots] at X7 l7 y7 z7 st7 hQ7
    subst l7 y7 z7
    obtain ⟨rfl, N7q, e7⟩ := hQ7
    have N7 := Fr.app N6 N7q
    obtain ⟨cq8, kq8, q8a, q8b, q8c⟩ := isOf hZ e7 E_DOWN
    obtain ⟨_, _, ⟨T8, L8, k8, n8⟩, -, X8, ⟨Lc8, hQ8, l8, y8, z8⟩, st8⟩ := X7.virtualBack hx (y := (⟨"com/example/lexigrid/lexigrid/Direction", "colStep", "()I"⟩ : MethodName)) (z := (⟨"com/example/lexigrid/lexigrid/Direction", "colStep", "()I"⟩ : MethodName)) hown (mvT hZ (hw _ (List.mem_of_getElem? (i := 25) rfl))) (mvT hZ (hw _ (List.mem_of_getElem? (i := 26) rfl))) (notFace_of_selects (args := #[]) (mvT hZ (hw _ (List.mem_of_getElem? (i := 28) rfl)))) (mvT hZ (hw _ (List.mem_of_getElem? (i := 28) rfl))) (mvT hZ (hw _ (List.mem_of_getElem? (i := 27) rfl))) (by decide) (backOf (W := 0) (rm4 l Z a0 hw [] a_DOWN (0 : Int32) h0 n0 Z0 F_DOWN_colStep) hZ (hw _ (List.mem_of_getElem? (i := 29) rfl)) (hw _ (List.mem_of_getElem? (i := 1) rfl)) (by decide) (by decide)) q8a q8c (g := (mkF m 69 #[.val (.int u0), .val (.ref a_ACROSS), .val (.ref a_DOWN), .val (.int (124 : Int32))] [(.ref a_DOWN)])) rfl (by rw [hml]; rfl) (Steps.refl _) (argsL := []) (rest := []) (lenOf pd_2 rfl) rfl (by show 2 * 0 + _ ≤ _; exact Nat.le_of_eq rfl) (hb hby at_69) (fun _ _ => ⟨rfl, e7, (by decide : 0 + 0 ≤ _), (by decide : 0 + 0 ≤ _)⟩)
    dsimp only [Pt.U, Pt.locs, Pt.cells, Pt.slots] at X8 l8 y8 z8 st8 hQ8
    subst l8 y8 z8
    obtain ⟨rfl, N8q, e8⟩ := hQ8
    have N8 := Fr.app N7 N8q
    obtain ⟨cq9, kq9, q9a, q9b, q9c⟩ := isOf hZ e8 E_ACROSS
    obtain ⟨_, _, ⟨T9, L9, k9, n9⟩, -, X9, ⟨Lc9, hQ9, l9, y9, z9⟩, st9⟩ := X8.virtualBack hx (y := (⟨"com/example/lexigrid/lexigrid/Direction", "rowStep", "()I"⟩ : MethodName)) (z := (⟨"com/example/lexigrid/lexigrid/Direction", "rowStep", "()I"⟩ : MethodName)) hown (mvT hZ (hw _ (List.mem_of_getElem? (i := 18) rfl))) (mvT hZ (hw _ (List.mem_of_getElem? (i := 19) rfl))) (notFace_of_selects (args := #[]) (mvT hZ (hw _ (List.mem_of_getElem? (i := 21) rfl)))) (mvT hZ (hw _ (List.mem_of_getElem? (i := 21) rfl))) (mvT hZ (hw _ (List.mem_of_getElem? (i := 20) rfl))) (by decide) (backOf (W := 1) (rm3 l Z a0 hw [] a_ACROSS (0 : Int32) h0 n0 Z0 F_ACROSS_rowStep) hZ (hw _ (List.mem_of_getElem? (i := 22) rfl)) (hw _ (List.mem_of_getElem? (i := 1) rfl)) (by decide) (by decide)) q9a q9c (g := (mkF m 73 #[.val (.int u0), .val (.ref a_ACROSS), .val (.ref a_DOWN), .val (.int (124 : Int32))] [(.ref a_ACROSS), (.int (0 : Int32))])) rfl (by rw [hml]; rfl) (Steps.refl _) (argsL := []) (rest := [(.int (0 : Int32))]) (lenOf pd_2 rfl) rfl (by show 2 * 0 + _ ≤ _; exact Nat.le_of_eq rfl) (hb hby at_73) (fun _ _ => ⟨rfl, e8, (by decide : 0 + 0 ≤ _), (by decide : 0 + 0 ≤ _)⟩)
    dsimp only [Pt.U, Pt.locs, Pt.cells, Pt.slots] at X9 l9 y9 z9 st9 hQ9
    subst l9 y9 z9
    obtain ⟨rfl, N9q, e9⟩ := hQ9
    have N9 := Fr.app N8 N9q
    obtain ⟨cq10, kq10, q10a, q10b, q10c⟩ := isOf hZ e9 E_DOWN
    obtain ⟨_, _, ⟨T10, L10, k10, n10⟩, -, X10, ⟨Lc10, hQ10, l10, y10, z10⟩, st10⟩ := X9.virtualBack hx (y := (⟨"com/example/lexigrid/lexigrid/Direction", "crosswise", "()Lcom/example/lexigrid/lexigrid/Direction;"⟩ : MethodName)) (z := (⟨"com/example/lexigrid/lexigrid/Direction", "crosswise", "()Lcom/example/lexigrid/lexigrid/Direction;"⟩ : MethodName)) hown (mvT hZ (hw _ (List.mem_of_getElem? (i := 3) rfl))) (mvT hZ (hw _ (List.mem_of_getElem? (i := 4) rfl))) (notFace_of_selects (args := #[]) (mvT hZ (hw _ (List.mem_of_getElem? (i := 6) rfl)))) (mvT hZ (hw _ (List.mem_of_getElem? (i := 6) rfl))) (mvT hZ (hw _ (List.mem_of_getElem? (i := 5) rfl))) (by decide) (backOf (W := 0) (rm1 l Z a0 hw [] a_DOWN a_ACROSS a_DOWN h0 n0 Z0 S_ACROSS S_DOWN) hZ (hw _ (List.mem_of_getElem? (i := 7) rfl)) (hw _ (List.mem_of_getElem? (i := 1) rfl)) (by decide) (by decide)) q10a q10c (g := (mkF m 80 #[.val (.int u0), .val (.ref a_ACROSS), .val (.ref a_DOWN), .val (.int (124 : Int32))] [(.ref a_DOWN)])) rfl (by rw [hml]; rfl) (Steps.refl _) (argsL := []) (rest := []) (lenOf pd_0 rfl) rfl (by show 2 * 0 + _ ≤ _; exact Nat.le_of_eq rfl) (hb hby at_80) (fun _ _ => ⟨rfl, e9, (by decide : 0 + 0 ≤ _), (by decide : 0 + 0 ≤ _)⟩)
    dsimp only [Pt.U, Pt.locs, Pt.cells, Pt.slots] at X10 l10 y10 z10 st10 hQ10
    subst l10 y10 z10
    have r10 : f1 a_DOWN a_ACROSS a_DOWN = a_ACROSS := if_neg (Ne.symm nAD)
    rw [r10] at hQ10
    obtain ⟨rfl, N10q, e10⟩ := hQ10
    have N10 := Fr.app N9 N10q
    obtain ⟨fs, hr, hrun, hended, hW, hsame⟩ := X10.leave (v := (some (.int (1 : Int32)))) (fun h => by rw [Bd.returns] at h; cases h)
    refine ⟨_, _, pre1 _ ?_, hrun, hended, _, _, rfl, ?_, ⟨_, rfl⟩, hW, hsame.mono (by decide) (by decide)⟩
    · show Steps p.tables e below (s₁.setTop (mkF m 3 #[.val (.int u0), .unset, .unset, .unset] [(.int (u0 &&& (1 : Int32)))])) _
      refine XS.ifYes X0.here hx rfl (pc0 := 3) (pc' := 12) rfl (hb hby at_3) rfl ((if0 _ _).trans (teq hc3).1) (by decide) (by decide) ?_
      show Steps p.tables e below (s₁.setTop (mkF m 12 #[.val (.int u0), .unset, .unset, .unset] [])) _
      refine st2 _ ?_
      show Steps p.tables e below (T2.setTop (mkF m 15 #[.val (.int u0), .unset, .unset, .unset] [(.ref a_ACROSS)])) _
      refine XS.astoreN X2.here hx rfl (hb hby at_15) rfl rfl (l' := #[.val (.int u0), .val (.ref a_ACROSS), .unset, .unset]) rfl ?_
      show Steps p.tables e below (T2.setTop (mkF m 16 #[.val (.int u0), .val (.ref a_ACROSS), .unset, .unset] [])) _
      refine XS.aloadN X2.here hx rfl (hb hby at_16) rfl rfl ?_
      show Steps p.tables e below (T2.setTop (mkF m 17 #[.val (.int u0), .val (.ref a_ACROSS), .unset, .unset] [(.ref a_ACROSS)])) _
      refine st3.trans ?_
      show Steps p.tables e below (T3.setTop (mkF m 20 #[.val (.int u0), .val (.ref a_ACROSS), .unset, .unset] [(.ref a_DOWN)])) _
      refine XS.astoreN X3.here hx rfl (hb hby at_20) rfl rfl (l' := #[.val (.int u0), .val (.ref a_ACROSS), .val (.ref a_DOWN), .unset]) rfl ?_
      show Steps p.tables e below (T3.setTop (mkF m 21 #[.val (.int u0), .val (.ref a_ACROSS), .val (.ref a_DOWN), .unset] [])) _
      refine XS.aloadN X3.here hx rfl (hb hby at_21) rfl rfl ?_
      show Steps p.tables e below (T3.setTop (mkF m 22 #[.val (.int u0), .val (.ref a_ACROSS), .val (.ref a_DOWN), .unset] [(.ref a_DOWN)])) _
      refine XS.ifnonnullYes X3.here hx rfl (pc0 := 22) (pc' := 27) rfl (hb hby at_22) rfl (by decide) (by decide) ?_
      show Steps p.tables e below (T3.setTop (mkF m 27 #[.val (.int u0), .val (.ref a_ACROSS), .val (.ref a_DOWN), .unset] [])) _
      refine XS.aloadN X3.here hx rfl (hb hby at_27) rfl rfl ?_
      show Steps p.tables e below (T3.setTop (mkF m 28 #[.val (.int u0), .val (.ref a_ACROSS), .val (.ref a_DOWN), .unset] [(.ref a_ACROSS)])) _
      refine st4.trans ?_
      show Steps p.tables e below (T4.setTop (mkF m 31 #[.val (.int u0), .val (.ref a_ACROSS), .val (.ref a_DOWN), .unset] [(.int (nar .char (45 : Int32)))])) _
      refine XS.bipush X4.here hx rfl (hb hby at_31) ?_
      show Steps p.tables e below (T4.setTop (mkF m 33 #[.val (.int u0), .val (.ref a_ACROSS), .val (.ref a_DOWN), .unset] [(.int (45 : Int32)), (.int (nar .char (45 : Int32)))])) _
      refine XS.icmpNo X4.here hx rfl (hb hby at_33) rfl (teq (by decide)).2 ?_
      show Steps p.tables e below (T4.setTop (mkF m 36 #[.val (.int u0), .val (.ref a_ACROSS), .val (.ref a_DOWN), .unset] [])) _
      refine XS.bipush X4.here hx rfl (hb hby at_36) ?_
      show Steps p.tables e below (T4.setTop (mkF m 38 #[.val (.int u0), .val (.ref a_ACROSS), .val (.ref a_DOWN), .unset] [(.int (124 : Int32))])) _
      refine XS.goto X4.here hx rfl (pc0 := 38) (pc' := 43) rfl (hb hby at_38) (by decide) (by decide) ?_
      show Steps p.tables e below (T4.setTop (mkF m 43 #[.val (.int u0), .val (.ref a_ACROSS), .val (.ref a_DOWN), .unset] [(.int (124 : Int32))])) _
      refine XS.istoreN X4.here hx rfl (hb hby at_43) rfl (l' := #[.val (.int u0), .val (.ref a_ACROSS), .val (.ref a_DOWN), .val (.int (124 : Int32))]) rfl ?_
      show Steps p.tables e below (T4.setTop (mkF m 44 #[.val (.int u0), .val (.ref a_ACROSS), .val (.ref a_DOWN), .val (.int (124 : Int32))] [])) _
      refine XS.aloadN X4.here hx rfl (hb hby at_44) rfl rfl ?_
      show Steps p.tables e below (T4.setTop (mkF m 45 #[.val (.int u0), .val (.ref a_ACROSS), .val (.ref a_DOWN), .val (.int (124 : Int32))] [(.ref a_DOWN)])) _
      refine XS.aloadN X4.here hx rfl (hb hby at_45) rfl rfl ?_
      show Steps p.tables e below (T4.setTop (mkF m 46 #[.val (.int u0), .val (.ref a_ACROSS), .val (.ref a_DOWN), .val (.int (124 : Int32))] [(.ref a_ACROSS), (.ref a_DOWN)])) _
      refine Jvm.RoadKit.acmp (g := (mkF m 46 #[.val (.int u0), .val (.ref a_ACROSS), .val (.ref a_DOWN), .val (.int (124 : Int32))] [(.ref a_ACROSS), (.ref a_DOWN)])) X4 hx rfl rfl rfl (pc0 := 46) (pc' := 49) (same := false) rfl (hb hby at_46) rfl (decide_eq_false fun q => (Ne.symm nAD) (Value.ref.inj q)) (by decide) (by decide) ?_
      show Steps p.tables e below (T4.setTop (mkF m 49 #[.val (.int u0), .val (.ref a_ACROSS), .val (.ref a_DOWN), .val (.int (124 : Int32))] [])) _
      refine XS.aloadN X4.here hx rfl (hb hby at_49) rfl rfl ?_
      show Steps p.tables e below (T4.setTop (mkF m 50 #[.val (.int u0), .val (.ref a_ACROSS), .val (.ref a_DOWN), .val (.int (124 : Int32))] [(.ref a_DOWN)])) _
      refine st5.trans ?_
      show Steps p.tables e below (T5.setTop (mkF m 53 #[.val (.int u0), .val (.ref a_ACROSS), .val (.ref a_DOWN), .val (.int (124 : Int32))] [(.int (nar .char (124 : Int32)))])) _
      refine XS.iloadN X5.here hx rfl (hb hby at_53) rfl ?_
      show Steps p.tables e below (T5.setTop (mkF m 54 #[.val (.int u0), .val (.ref a_ACROSS), .val (.ref a_DOWN), .val (.int (124 : Int32))] [(.int (124 : Int32)), (.int (nar .char (124 : Int32)))])) _
      refine XS.icmpNo X5.here hx rfl (hb hby at_54) rfl (teq (by decide)).2 ?_
      show Steps p.tables e below (T5.setTop (mkF m 57 #[.val (.int u0), .val (.ref a_ACROSS), .val (.ref a_DOWN), .val (.int (124 : Int32))] [])) _
      refine XS.aloadN X5.here hx rfl (hb hby at_57) rfl rfl ?_
      show Steps p.tables e below (T5.setTop (mkF m 58 #[.val (.int u0), .val (.ref a_ACROSS), .val (.ref a_DOWN), .val (.int (124 : Int32))] [(.ref a_DOWN)])) _
      refine st6.trans ?_
      show Steps p.tables e below (T6.setTop (mkF m 61 #[.val (.int u0), .val (.ref a_ACROSS), .val (.ref a_DOWN), .val (.int (124 : Int32))] [(.int (1 : Int32))])) _
      refine XS.aloadN X6.here hx rfl (hb hby at_61) rfl rfl ?_
      show Steps p.tables e below (T6.setTop (mkF m 62 #[.val (.int u0), .val (.ref a_ACROSS), .val (.ref a_DOWN), .val (.int (124 : Int32))] [(.ref a_ACROSS), (.int (1 : Int32))])) _
      refine st7.trans ?_
      show Steps p.tables e below (T7.setTop (mkF m 65 #[.val (.int u0), .val (.ref a_ACROSS), .val (.ref a_DOWN), .val (.int (124 : Int32))] [(.int (1 : Int32)), (.int (1 : Int32))])) _
      refine XS.icmpNo X7.here hx rfl (hb hby at_65) rfl (teq (by decide)).2 ?_
      show Steps p.tables e below (T7.setTop (mkF m 68 #[.val (.int u0), .val (.ref a_ACROSS), .val (.ref a_DOWN), .val (.int (124 : Int32))] [])) _
      refine XS.aloadN X7.here hx rfl (hb hby at_68) rfl rfl ?_
      show Steps p.tables e below (T7.setTop (mkF m 69 #[.val (.int u0), .val (.ref a_ACROSS), .val (.ref a_DOWN), .val (.int (124 : Int32))] [(.ref a_DOWN)])) _
      refine st8.trans ?_
      show Steps p.tables e below (T8.setTop (mkF m 72 #[.val (.int u0), .val (.ref a_ACROSS), .val (.ref a_DOWN), .val (.int (124 : Int32))] [(.int (0 : Int32))])) _
      refine XS.aloadN X8.here hx rfl (hb hby at_72) rfl rfl ?_
      show Steps p.tables e below (T8.setTop (mkF m 73 #[.val (.int u0), .val (.ref a_ACROSS), .val (.ref a_DOWN), .val (.int (124 : Int32))] [(.ref a_ACROSS), (.int (0 : Int32))])) _
      refine st9.trans ?_
      show Steps p.tables e below (T9.setTop (mkF m 76 #[.val (.int u0), .val (.ref a_ACROSS), .val (.ref a_DOWN), .val (.int (124 : Int32))] [(.int (0 : Int32)), (.int (0 : Int32))])) _
      refine XS.icmpNo X9.here hx rfl (hb hby at_76) rfl (teq (by decide)).2 ?_
      show Steps p.tables e below (T9.setTop (mkF m 79 #[.val (.int u0), .val (.ref a_ACROSS), .val (.ref a_DOWN), .val (.int (124 : Int32))] [])) _
      refine XS.aloadN X9.here hx rfl (hb hby at_79) rfl rfl ?_
      show Steps p.tables e below (T9.setTop (mkF m 80 #[.val (.int u0), .val (.ref a_ACROSS), .val (.ref a_DOWN), .val (.int (124 : Int32))] [(.ref a_DOWN)])) _
      refine st10.trans ?_
      show Steps p.tables e below (T10.setTop (mkF m 83 #[.val (.int u0), .val (.ref a_ACROSS), .val (.ref a_DOWN), .val (.int (124 : Int32))] [(.ref a_ACROSS)])) _
      refine XS.aloadN X10.here hx rfl (hb hby at_83) rfl rfl ?_
      show Steps p.tables e below (T10.setTop (mkF m 84 #[.val (.int u0), .val (.ref a_ACROSS), .val (.ref a_DOWN), .val (.int (124 : Int32))] [(.ref a_ACROSS), (.ref a_ACROSS)])) _
      refine Jvm.RoadKit.acmp (g := (mkF m 84 #[.val (.int u0), .val (.ref a_ACROSS), .val (.ref a_DOWN), .val (.int (124 : Int32))] [(.ref a_ACROSS), (.ref a_ACROSS)])) X10 hx rfl rfl rfl (pc0 := 84) (pc' := 87) (same := true) rfl (hb hby at_84) rfl (decide_eq_true (congrArg Value.ref rfl)) (by decide) (by decide) ?_
      show Steps p.tables e below (T10.setTop (mkF m 87 #[.val (.int u0), .val (.ref a_ACROSS), .val (.ref a_DOWN), .val (.int (124 : Int32))] [])) _
      refine XS.iconst X10.here hx rfl (hb hby at_87) ?_
      show Steps p.tables e below (T10.setTop (mkF m 88 #[.val (.int u0), .val (.ref a_ACROSS), .val (.ref a_DOWN), .val (.int (124 : Int32))] [(.int (1 : Int32))])) _
      refine XS.goto X10.here hx rfl (pc0 := 88) (pc' := 92) rfl (hb hby at_88) (by decide) (by decide) ?_
      show Steps p.tables e below (T10.setTop (mkF m 92 #[.val (.int u0), .val (.ref a_ACROSS), .val (.ref a_DOWN), .val (.int (124 : Int32))] [(.int (1 : Int32))])) _
      exact retN X10 hx (t := .boolean) Bd.returns (by simp) (hb hby at_92) hr
    · show QL n0 _ T10.heap _
      rw [e10]
      exact ⟨rfl, N10⟩
  · -- pc 3: not (u0 &&& (1 : Int32)) = (0 : Int32)
    obtain ⟨T11, X11, e11, st11⟩ := getS2 X0 hx hZ hown (host := "") (Or.inl (hw _ (List.mem_of_getElem? (i := 32) rfl))) Via.refl e0 S_DOWN (g := (mkF m 6 #[.val (.int u0), .unset, .unset, .unset] [])) rfl (hb hby at_6)
    obtain ⟨cq12, kq12, q12a, q12b, q12c⟩ := isOf hZ e11 E_DOWN
    obtain ⟨_, _, ⟨T12, L12, k12, n12⟩, -, X12, ⟨Lc12, hQ12, l12, y12, z12⟩, st12⟩ := X11.virtualBack hx (y := (⟨"com/example/lexigrid/lexigrid/Direction", "crosswise", "()Lcom/example/lexigrid/lexigrid/Direction;"⟩ : MethodName)) (z := (⟨"com/example/lexigrid/lexigrid/Direction", "crosswise", "()Lcom/example/lexigrid/lexigrid/Direction;"⟩ : MethodName)) hown (mvT hZ (hw _ (List.mem_of_getElem? (i := 3) rfl))) (mvT hZ (hw _ (List.mem_of_getElem? (i := 4) rfl))) (notFace_of_selects (args := #[]) (mvT hZ (hw _ (List.mem_of_getElem? (i := 6) rfl)))) (mvT hZ (hw _ (List.mem_of_getElem? (i := 6) rfl))) (mvT hZ (hw _ (List.mem_of_getElem? (i := 5) rfl))) (by decide) (backOf (W := 0) (rm1 l Z a0 hw [] a_DOWN a_ACROSS a_DOWN h0 n0 Z0 S_ACROSS S_DOWN) hZ (hw _ (List.mem_of_getElem? (i := 7) rfl)) (hw _ (List.mem_of_getElem? (i := 1) rfl)) (by decide) (by decide)) q12a q12c (g := (mkF m 17 #[.val (.int u0), .val (.ref a_DOWN), .unset, .unset] [(.ref a_DOWN)])) rfl (by rw [hml]; rfl) (Steps.refl _) (argsL := []) (rest := []) (lenOf pd_0 rfl) rfl (by show 2 * 0 + _ ≤ _; exact Nat.le_of_eq rfl) (hb hby at_17) (fun _ _ => ⟨rfl, e11, (by decide : 0 + 0 ≤ _), (by decide : 0 + 0 ≤ _)⟩)
    dsimp only [Pt.U, Pt.locs, Pt.cells, Pt.slots] at X12 l12 y12 z12 st12 hQ12
    subst l12 y12 z12
    have r12 : f1 a_DOWN a_ACROSS a_DOWN = a_ACROSS := if_neg (Ne.symm nAD)
    rw [r12] at hQ12
    obtain ⟨rfl, N12q, e12⟩ := hQ12
    have N12 := Fr.app N0 N12q
    obtain ⟨cq13, kq13, q13a, q13b, q13c⟩ := isOf hZ e12 E_DOWN
    obtain ⟨_, _, ⟨T13, L13, k13, n13⟩, -, X13, ⟨Lc13, hQ13, l13, y13, z13⟩, st13⟩ := X12.virtualBack hx (y := (⟨"com/example/lexigrid/lexigrid/Direction", "symbol", "()C"⟩ : MethodName)) (z := (⟨"com/example/lexigrid/lexigrid/Direction", "symbol", "()C"⟩ : MethodName)) hown (mvT hZ (hw _ (List.mem_of_getElem? (i := 11) rfl))) (mvT hZ (hw _ (List.mem_of_getElem? (i := 12) rfl))) (notFace_of_selects (args := #[]) (mvT hZ (hw _ (List.mem_of_getElem? (i := 14) rfl)))) (mvT hZ (hw _ (List.mem_of_getElem? (i := 14) rfl))) (mvT hZ (hw _ (List.mem_of_getElem? (i := 13) rfl))) (by decide) (backOf (W := 0) (rm2 l Z a0 hw [] a_DOWN (124 : Int32) h0 n0 Z0 F_DOWN_symbol) hZ (hw _ (List.mem_of_getElem? (i := 15) rfl)) (hw _ (List.mem_of_getElem? (i := 1) rfl)) (by decide) (by decide)) q13a q13c (g := (mkF m 28 #[.val (.int u0), .val (.ref a_DOWN), .val (.ref a_ACROSS), .unset] [(.ref a_DOWN)])) rfl (by rw [hml]; rfl) (Steps.refl _) (argsL := []) (rest := []) (lenOf pd_1 rfl) rfl (by show 2 * 0 + _ ≤ _; exact Nat.le_of_eq rfl) (hb hby at_28) (fun _ _ => ⟨rfl, e12, (by decide : 0 + 0 ≤ _), (by decide : 0 + 0 ≤ _)⟩)
    dsimp only [Pt.U, Pt.locs, Pt.cells, Pt.slots] at X13 l13 y13 z13 st13 hQ13
    subst l13 y13 z13
    obtain ⟨rfl, N13q, e13⟩ := hQ13
    have N13 := Fr.app N12 N13q
    obtain ⟨cq14, kq14, q14a, q14b, q14c⟩ := isOf hZ e13 E_ACROSS
    obtain ⟨_, _, ⟨T14, L14, k14, n14⟩, -, X14, ⟨Lc14, hQ14, l14, y14, z14⟩, st14⟩ := X13.virtualBack hx (y := (⟨"com/example/lexigrid/lexigrid/Direction", "symbol", "()C"⟩ : MethodName)) (z := (⟨"com/example/lexigrid/lexigrid/Direction", "symbol", "()C"⟩ : MethodName)) hown (mvT hZ (hw _ (List.mem_of_getElem? (i := 11) rfl))) (mvT hZ (hw _ (List.mem_of_getElem? (i := 12) rfl))) (notFace_of_selects (args := #[]) (mvT hZ (hw _ (List.mem_of_getElem? (i := 14) rfl)))) (mvT hZ (hw _ (List.mem_of_getElem? (i := 14) rfl))) (mvT hZ (hw _ (List.mem_of_getElem? (i := 13) rfl))) (by decide) (backOf (W := 0) (rm2 l Z a0 hw [] a_ACROSS (45 : Int32) h0 n0 Z0 F_ACROSS_symbol) hZ (hw _ (List.mem_of_getElem? (i := 15) rfl)) (hw _ (List.mem_of_getElem? (i := 1) rfl)) (by decide) (by decide)) q14a q14c (g := (mkF m 50 #[.val (.int u0), .val (.ref a_DOWN), .val (.ref a_ACROSS), .val (.int (45 : Int32))] [(.ref a_ACROSS)])) rfl (by rw [hml]; rfl) (Steps.refl _) (argsL := []) (rest := []) (lenOf pd_1 rfl) rfl (by show 2 * 0 + _ ≤ _; exact Nat.le_of_eq rfl) (hb hby at_50) (fun _ _ => ⟨rfl, e13, (by decide : 0 + 0 ≤ _), (by decide : 0 + 0 ≤ _)⟩)
    dsimp only [Pt.U, Pt.locs, Pt.cells, Pt.slots] at X14 l14 y14 z14 st14 hQ14
    subst l14 y14 z14
    obtain ⟨rfl, N14q, e14⟩ := hQ14
    have N14 := Fr.app N13 N14q
    obtain ⟨cq15, kq15, q15a, q15b, q15c⟩ := isOf hZ e14 E_ACROSS
    obtain ⟨_, _, ⟨T15, L15, k15, n15⟩, -, X15, ⟨Lc15, hQ15, l15, y15, z15⟩, st15⟩ := X14.virtualBack hx (y := (⟨"com/example/lexigrid/lexigrid/Direction", "rowStep", "()I"⟩ : MethodName)) (z := (⟨"com/example/lexigrid/lexigrid/Direction", "rowStep", "()I"⟩ : MethodName)) hown (mvT hZ (hw _ (List.mem_of_getElem? (i := 18) rfl))) (mvT hZ (hw _ (List.mem_of_getElem? (i := 19) rfl))) (notFace_of_selects (args := #[]) (mvT hZ (hw _ (List.mem_of_getElem? (i := 21) rfl)))) (mvT hZ (hw _ (List.mem_of_getElem? (i := 21) rfl))) (mvT hZ (hw _ (List.mem_of_getElem? (i := 20) rfl))) (by decide) (backOf (W := 0) (rm3 l Z a0 hw [] a_ACROSS (0 : Int32) h0 n0 Z0 F_ACROSS_rowStep) hZ (hw _ (List.mem_of_getElem? (i := 22) rfl)) (hw _ (List.mem_of_getElem? (i := 1) rfl)) (by decide) (by decide)) q15a q15c (g := (mkF m 58 #[.val (.int u0), .val (.ref a_DOWN), .val (.ref a_ACROSS), .val (.int (45 : Int32))] [(.ref a_ACROSS)])) rfl (by rw [hml]; rfl) (Steps.refl _) (argsL := []) (rest := []) (lenOf pd_2 rfl) rfl (by show 2 * 0 + _ ≤ _; exact Nat.le_of_eq rfl) (hb hby at_58) (fun _ _ => ⟨rfl, e14, (by decide : 0 + 0 ≤ _), (by decide : 0 + 0 ≤ _)⟩)
    dsimp only [Pt.U, Pt.locs, Pt.cells, Pt.slots] at X15 l15 y15 z15 st15 hQ15
    subst l15 y15 z15
    obtain ⟨rfl, N15q, e15⟩ := hQ15
    have N15 := Fr.app N14 N15q
    obtain ⟨cq16, kq16, q16a, q16b, q16c⟩ := isOf hZ e15 E_DOWN
    obtain ⟨_, _, ⟨T16, L16, k16, n16⟩, -, X16, ⟨Lc16, hQ16, l16, y16, z16⟩, st16⟩ := X15.virtualBack hx (y := (⟨"com/example/lexigrid/lexigrid/Direction", "colStep", "()I"⟩ : MethodName)) (z := (⟨"com/example/lexigrid/lexigrid/Direction", "colStep", "()I"⟩ : MethodName)) hown (mvT hZ (hw _ (List.mem_of_getElem? (i := 25) rfl))) (mvT hZ (hw _ (List.mem_of_getElem? (i := 26) rfl))) (notFace_of_selects (args := #[]) (mvT hZ (hw _ (List.mem_of_getElem? (i := 28) rfl)))) (mvT hZ (hw _ (List.mem_of_getElem? (i := 28) rfl))) (mvT hZ (hw _ (List.mem_of_getElem? (i := 27) rfl))) (by decide) (backOf (W := 1) (rm4 l Z a0 hw [] a_DOWN (0 : Int32) h0 n0 Z0 F_DOWN_colStep) hZ (hw _ (List.mem_of_getElem? (i := 29) rfl)) (hw _ (List.mem_of_getElem? (i := 1) rfl)) (by decide) (by decide)) q16a q16c (g := (mkF m 62 #[.val (.int u0), .val (.ref a_DOWN), .val (.ref a_ACROSS), .val (.int (45 : Int32))] [(.ref a_DOWN), (.int (0 : Int32))])) rfl (by rw [hml]; rfl) (Steps.refl _) (argsL := []) (rest := [(.int (0 : Int32))]) (lenOf pd_2 rfl) rfl (by show 2 * 0 + _ ≤ _; exact Nat.le_of_eq rfl) (hb hby at_62) (fun _ _ => ⟨rfl, e15, (by decide : 0 + 0 ≤ _), (by decide : 0 + 0 ≤ _)⟩)
    dsimp only [Pt.U, Pt.locs, Pt.cells, Pt.slots] at X16 l16 y16 z16 st16 hQ16
    subst l16 y16 z16
    obtain ⟨rfl, N16q, e16⟩ := hQ16
    have N16 := Fr.app N15 N16q
    obtain ⟨cq17, kq17, q17a, q17b, q17c⟩ := isOf hZ e16 E_ACROSS
    obtain ⟨_, _, ⟨T17, L17, k17, n17⟩, -, X17, ⟨Lc17, hQ17, l17, y17, z17⟩, st17⟩ := X16.virtualBack hx (y := (⟨"com/example/lexigrid/lexigrid/Direction", "colStep", "()I"⟩ : MethodName)) (z := (⟨"com/example/lexigrid/lexigrid/Direction", "colStep", "()I"⟩ : MethodName)) hown (mvT hZ (hw _ (List.mem_of_getElem? (i := 25) rfl))) (mvT hZ (hw _ (List.mem_of_getElem? (i := 26) rfl))) (notFace_of_selects (args := #[]) (mvT hZ (hw _ (List.mem_of_getElem? (i := 28) rfl)))) (mvT hZ (hw _ (List.mem_of_getElem? (i := 28) rfl))) (mvT hZ (hw _ (List.mem_of_getElem? (i := 27) rfl))) (by decide) (backOf (W := 0) (rm4 l Z a0 hw [] a_ACROSS (1 : Int32) h0 n0 Z0 F_ACROSS_colStep) hZ (hw _ (List.mem_of_getElem? (i := 29) rfl)) (hw _ (List.mem_of_getElem? (i := 1) rfl)) (by decide) (by decide)) q17a q17c (g := (mkF m 69 #[.val (.int u0), .val (.ref a_DOWN), .val (.ref a_ACROSS), .val (.int (45 : Int32))] [(.ref a_ACROSS)])) rfl (by rw [hml]; rfl) (Steps.refl _) (argsL := []) (rest := []) (lenOf pd_2 rfl) rfl (by show 2 * 0 + _ ≤ _; exact Nat.le_of_eq rfl) (hb hby at_69) (fun _ _ => ⟨rfl, e16, (by decide : 0 + 0 ≤ _), (by decide : 0 + 0 ≤ _)⟩)
    dsimp only [Pt.U, Pt.locs, Pt.cells, Pt.slots] at X17 l17 y17 z17 st17 hQ17
    subst l17 y17 z17
    obtain ⟨rfl, N17q, e17⟩ := hQ17
    have N17 := Fr.app N16 N17q
    obtain ⟨cq18, kq18, q18a, q18b, q18c⟩ := isOf hZ e17 E_DOWN
    obtain ⟨_, _, ⟨T18, L18, k18, n18⟩, -, X18, ⟨Lc18, hQ18, l18, y18, z18⟩, st18⟩ := X17.virtualBack hx (y := (⟨"com/example/lexigrid/lexigrid/Direction", "rowStep", "()I"⟩ : MethodName)) (z := (⟨"com/example/lexigrid/lexigrid/Direction", "rowStep", "()I"⟩ : MethodName)) hown (mvT hZ (hw _ (List.mem_of_getElem? (i := 18) rfl))) (mvT hZ (hw _ (List.mem_of_getElem? (i := 19) rfl))) (notFace_of_selects (args := #[]) (mvT hZ (hw _ (List.mem_of_getElem? (i := 21) rfl)))) (mvT hZ (hw _ (List.mem_of_getElem? (i := 21) rfl))) (mvT hZ (hw _ (List.mem_of_getElem? (i := 20) rfl))) (by decide) (backOf (W := 1) (rm3 l Z a0 hw [] a_DOWN (1 : Int32) h0 n0 Z0 F_DOWN_rowStep) hZ (hw _ (List.mem_of_getElem? (i := 22) rfl)) (hw _ (List.mem_of_getElem? (i := 1) rfl)) (by decide) (by decide)) q18a q18c (g := (mkF m 73 #[.val (.int u0), .val (.ref a_DOWN), .val (.ref a_ACROSS), .val (.int (45 : Int32))] [(.ref a_DOWN), (.int (1 : Int32))])) rfl (by rw [hml]; rfl) (Steps.refl _) (argsL := []) (rest := [(.int (1 : Int32))]) (lenOf pd_2 rfl) rfl (by show 2 * 0 + _ ≤ _; exact Nat.le_of_eq rfl) (hb hby at_73) (fun _ _ => ⟨rfl, e17, (by decide : 0 + 0 ≤ _), (by decide : 0 + 0 ≤ _)⟩)
    dsimp only [Pt.U, Pt.locs, Pt.cells, Pt.slots] at X18 l18 y18 z18 st18 hQ18
    subst l18 y18 z18
    obtain ⟨rfl, N18q, e18⟩ := hQ18
    have N18 := Fr.app N17 N18q
    obtain ⟨cq19, kq19, q19a, q19b, q19c⟩ := isOf hZ e18 E_ACROSS
    obtain ⟨_, _, ⟨T19, L19, k19, n19⟩, -, X19, ⟨Lc19, hQ19, l19, y19, z19⟩, st19⟩ := X18.virtualBack hx (y := (⟨"com/example/lexigrid/lexigrid/Direction", "crosswise", "()Lcom/example/lexigrid/lexigrid/Direction;"⟩ : MethodName)) (z := (⟨"com/example/lexigrid/lexigrid/Direction", "crosswise", "()Lcom/example/lexigrid/lexigrid/Direction;"⟩ : MethodName)) hown (mvT hZ (hw _ (List.mem_of_getElem? (i := 3) rfl))) (mvT hZ (hw _ (List.mem_of_getElem? (i := 4) rfl))) (notFace_of_selects (args := #[]) (mvT hZ (hw _ (List.mem_of_getElem? (i := 6) rfl)))) (mvT hZ (hw _ (List.mem_of_getElem? (i := 6) rfl))) (mvT hZ (hw _ (List.mem_of_getElem? (i := 5) rfl))) (by decide) (backOf (W := 0) (rm1 l Z a0 hw [] a_ACROSS a_ACROSS a_DOWN h0 n0 Z0 S_ACROSS S_DOWN) hZ (hw _ (List.mem_of_getElem? (i := 7) rfl)) (hw _ (List.mem_of_getElem? (i := 1) rfl)) (by decide) (by decide)) q19a q19c (g := (mkF m 80 #[.val (.int u0), .val (.ref a_DOWN), .val (.ref a_ACROSS), .val (.int (45 : Int32))] [(.ref a_ACROSS)])) rfl (by rw [hml]; rfl) (Steps.refl _) (argsL := []) (rest := []) (lenOf pd_0 rfl) rfl (by show 2 * 0 + _ ≤ _; exact Nat.le_of_eq rfl) (hb hby at_80) (fun _ _ => ⟨rfl, e18, (by decide : 0 + 0 ≤ _), (by decide : 0 + 0 ≤ _)⟩)
    dsimp only [Pt.U, Pt.locs, Pt.cells, Pt.slots] at X19 l19 y19 z19 st19 hQ19
    subst l19 y19 z19
    have r19 : f1 a_ACROSS a_ACROSS a_DOWN = a_DOWN := if_pos rfl
    rw [r19] at hQ19
    obtain ⟨rfl, N19q, e19⟩ := hQ19
    have N19 := Fr.app N18 N19q
    obtain ⟨fs, hr, hrun, hended, hW, hsame⟩ := X19.leave (v := (some (.int (1 : Int32)))) (fun h => by rw [Bd.returns] at h; cases h)
    refine ⟨_, _, pre1 _ ?_, hrun, hended, _, _, rfl, ?_, ⟨_, rfl⟩, hW, hsame.mono (by decide) (by decide)⟩
    · show Steps p.tables e below (s₁.setTop (mkF m 3 #[.val (.int u0), .unset, .unset, .unset] [(.int (u0 &&& (1 : Int32)))])) _
      refine XS.ifNo X0.here hx rfl (hb hby at_3) rfl ((if0 _ _).trans (feq hc3).1) ?_
      show Steps p.tables e below (s₁.setTop (mkF m 6 #[.val (.int u0), .unset, .unset, .unset] [])) _
      refine st11 _ ?_
      show Steps p.tables e below (T11.setTop (mkF m 9 #[.val (.int u0), .unset, .unset, .unset] [(.ref a_DOWN)])) _
      refine XS.goto X11.here hx rfl (pc0 := 9) (pc' := 15) rfl (hb hby at_9) (by decide) (by decide) ?_
      show Steps p.tables e below (T11.setTop (mkF m 15 #[.val (.int u0), .unset, .unset, .unset] [(.ref a_DOWN)])) _
      refine XS.astoreN X11.here hx rfl (hb hby at_15) rfl rfl (l' := #[.val (.int u0), .val (.ref a_DOWN), .unset, .unset]) rfl ?_
      show Steps p.tables e below (T11.setTop (mkF m 16 #[.val (.int u0), .val (.ref a_DOWN), .unset, .unset] [])) _
      refine XS.aloadN X11.here hx rfl (hb hby at_16) rfl rfl ?_
      show Steps p.tables e below (T11.setTop (mkF m 17 #[.val (.int u0), .val (.ref a_DOWN), .unset, .unset] [(.ref a_DOWN)])) _
      refine st12.trans ?_
      show Steps p.tables e below (T12.setTop (mkF m 20 #[.val (.int u0), .val (.ref a_DOWN), .unset, .unset] [(.ref a_ACROSS)])) _
      refine XS.astoreN X12.here hx rfl (hb hby at_20) rfl rfl (l' := #[.val (.int u0), .val (.ref a_DOWN), .val (.ref a_ACROSS), .unset]) rfl ?_
      show Steps p.tables e below (T12.setTop (mkF m 21 #[.val (.int u0), .val (.ref a_DOWN), .val (.ref a_ACROSS), .unset] [])) _
      refine XS.aloadN X12.here hx rfl (hb hby at_21) rfl rfl ?_
      show Steps p.tables e below (T12.setTop (mkF m 22 #[.val (.int u0), .val (.ref a_DOWN), .val (.ref a_ACROSS), .unset] [(.ref a_ACROSS)])) _
      refine XS.ifnonnullYes X12.here hx rfl (pc0 := 22) (pc' := 27) rfl (hb hby at_22) rfl (by decide) (by decide) ?_
      show Steps p.tables e below (T12.setTop (mkF m 27 #[.val (.int u0), .val (.ref a_DOWN), .val (.ref a_ACROSS), .unset] [])) _
      refine XS.aloadN X12.here hx rfl (hb hby at_27) rfl rfl ?_
      show Steps p.tables e below (T12.setTop (mkF m 28 #[.val (.int u0), .val (.ref a_DOWN), .val (.ref a_ACROSS), .unset] [(.ref a_DOWN)])) _
      refine st13.trans ?_
      show Steps p.tables e below (T13.setTop (mkF m 31 #[.val (.int u0), .val (.ref a_DOWN), .val (.ref a_ACROSS), .unset] [(.int (nar .char (124 : Int32)))])) _
      refine XS.bipush X13.here hx rfl (hb hby at_31) ?_
      show Steps p.tables e below (T13.setTop (mkF m 33 #[.val (.int u0), .val (.ref a_DOWN), .val (.ref a_ACROSS), .unset] [(.int (45 : Int32)), (.int (nar .char (124 : Int32)))])) _
      refine XS.icmpYes X13.here hx rfl (pc0 := 33) (pc' := 41) rfl (hb hby at_33) rfl (feq (by decide)).2 (by decide) (by decide) ?_
      show Steps p.tables e below (T13.setTop (mkF m 41 #[.val (.int u0), .val (.ref a_DOWN), .val (.ref a_ACROSS), .unset] [])) _
      refine XS.bipush X13.here hx rfl (hb hby at_41) ?_
      show Steps p.tables e below (T13.setTop (mkF m 43 #[.val (.int u0), .val (.ref a_DOWN), .val (.ref a_ACROSS), .unset] [(.int (45 : Int32))])) _
      refine XS.istoreN X13.here hx rfl (hb hby at_43) rfl (l' := #[.val (.int u0), .val (.ref a_DOWN), .val (.ref a_ACROSS), .val (.int (45 : Int32))]) rfl ?_
      show Steps p.tables e below (T13.setTop (mkF m 44 #[.val (.int u0), .val (.ref a_DOWN), .val (.ref a_ACROSS), .val (.int (45 : Int32))] [])) _
      refine XS.aloadN X13.here hx rfl (hb hby at_44) rfl rfl ?_
      show Steps p.tables e below (T13.setTop (mkF m 45 #[.val (.int u0), .val (.ref a_DOWN), .val (.ref a_ACROSS), .val (.int (45 : Int32))] [(.ref a_ACROSS)])) _
      refine XS.aloadN X13.here hx rfl (hb hby at_45) rfl rfl ?_
      show Steps p.tables e below (T13.setTop (mkF m 46 #[.val (.int u0), .val (.ref a_DOWN), .val (.ref a_ACROSS), .val (.int (45 : Int32))] [(.ref a_DOWN), (.ref a_ACROSS)])) _
      refine Jvm.RoadKit.acmp (g := (mkF m 46 #[.val (.int u0), .val (.ref a_DOWN), .val (.ref a_ACROSS), .val (.int (45 : Int32))] [(.ref a_DOWN), (.ref a_ACROSS)])) X13 hx rfl rfl rfl (pc0 := 46) (pc' := 49) (same := false) rfl (hb hby at_46) rfl (decide_eq_false fun q => nAD (Value.ref.inj q)) (by decide) (by decide) ?_
      show Steps p.tables e below (T13.setTop (mkF m 49 #[.val (.int u0), .val (.ref a_DOWN), .val (.ref a_ACROSS), .val (.int (45 : Int32))] [])) _
      refine XS.aloadN X13.here hx rfl (hb hby at_49) rfl rfl ?_
      show Steps p.tables e below (T13.setTop (mkF m 50 #[.val (.int u0), .val (.ref a_DOWN), .val (.ref a_ACROSS), .val (.int (45 : Int32))] [(.ref a_ACROSS)])) _
      refine st14.trans ?_
      show Steps p.tables e below (T14.setTop (mkF m 53 #[.val (.int u0), .val (.ref a_DOWN), .val (.ref a_ACROSS), .val (.int (45 : Int32))] [(.int (nar .char (45 : Int32)))])) _
      refine XS.iloadN X14.here hx rfl (hb hby at_53) rfl ?_
      show Steps p.tables e below (T14.setTop (mkF m 54 #[.val (.int u0), .val (.ref a_DOWN), .val (.ref a_ACROSS), .val (.int (45 : Int32))] [(.int (45 : Int32)), (.int (nar .char (45 : Int32)))])) _
      refine XS.icmpNo X14.here hx rfl (hb hby at_54) rfl (teq (by decide)).2 ?_
      show Steps p.tables e below (T14.setTop (mkF m 57 #[.val (.int u0), .val (.ref a_DOWN), .val (.ref a_ACROSS), .val (.int (45 : Int32))] [])) _
      refine XS.aloadN X14.here hx rfl (hb hby at_57) rfl rfl ?_
      show Steps p.tables e below (T14.setTop (mkF m 58 #[.val (.int u0), .val (.ref a_DOWN), .val (.ref a_ACROSS), .val (.int (45 : Int32))] [(.ref a_ACROSS)])) _
      refine st15.trans ?_
      show Steps p.tables e below (T15.setTop (mkF m 61 #[.val (.int u0), .val (.ref a_DOWN), .val (.ref a_ACROSS), .val (.int (45 : Int32))] [(.int (0 : Int32))])) _
      refine XS.aloadN X15.here hx rfl (hb hby at_61) rfl rfl ?_
      show Steps p.tables e below (T15.setTop (mkF m 62 #[.val (.int u0), .val (.ref a_DOWN), .val (.ref a_ACROSS), .val (.int (45 : Int32))] [(.ref a_DOWN), (.int (0 : Int32))])) _
      refine st16.trans ?_
      show Steps p.tables e below (T16.setTop (mkF m 65 #[.val (.int u0), .val (.ref a_DOWN), .val (.ref a_ACROSS), .val (.int (45 : Int32))] [(.int (0 : Int32)), (.int (0 : Int32))])) _
      refine XS.icmpNo X16.here hx rfl (hb hby at_65) rfl (teq (by decide)).2 ?_
      show Steps p.tables e below (T16.setTop (mkF m 68 #[.val (.int u0), .val (.ref a_DOWN), .val (.ref a_ACROSS), .val (.int (45 : Int32))] [])) _
      refine XS.aloadN X16.here hx rfl (hb hby at_68) rfl rfl ?_
      show Steps p.tables e below (T16.setTop (mkF m 69 #[.val (.int u0), .val (.ref a_DOWN), .val (.ref a_ACROSS), .val (.int (45 : Int32))] [(.ref a_ACROSS)])) _
      refine st17.trans ?_
      show Steps p.tables e below (T17.setTop (mkF m 72 #[.val (.int u0), .val (.ref a_DOWN), .val (.ref a_ACROSS), .val (.int (45 : Int32))] [(.int (1 : Int32))])) _
      refine XS.aloadN X17.here hx rfl (hb hby at_72) rfl rfl ?_
      show Steps p.tables e below (T17.setTop (mkF m 73 #[.val (.int u0), .val (.ref a_DOWN), .val (.ref a_ACROSS), .val (.int (45 : Int32))] [(.ref a_DOWN), (.int (1 : Int32))])) _
      refine st18.trans ?_
      show Steps p.tables e below (T18.setTop (mkF m 76 #[.val (.int u0), .val (.ref a_DOWN), .val (.ref a_ACROSS), .val (.int (45 : Int32))] [(.int (1 : Int32)), (.int (1 : Int32))])) _
      refine XS.icmpNo X18.here hx rfl (hb hby at_76) rfl (teq (by decide)).2 ?_
      show Steps p.tables e below (T18.setTop (mkF m 79 #[.val (.int u0), .val (.ref a_DOWN), .val (.ref a_ACROSS), .val (.int (45 : Int32))] [])) _
      refine XS.aloadN X18.here hx rfl (hb hby at_79) rfl rfl ?_
      show Steps p.tables e below (T18.setTop (mkF m 80 #[.val (.int u0), .val (.ref a_DOWN), .val (.ref a_ACROSS), .val (.int (45 : Int32))] [(.ref a_ACROSS)])) _
      refine st19.trans ?_
      show Steps p.tables e below (T19.setTop (mkF m 83 #[.val (.int u0), .val (.ref a_DOWN), .val (.ref a_ACROSS), .val (.int (45 : Int32))] [(.ref a_DOWN)])) _
      refine XS.aloadN X19.here hx rfl (hb hby at_83) rfl rfl ?_
      show Steps p.tables e below (T19.setTop (mkF m 84 #[.val (.int u0), .val (.ref a_DOWN), .val (.ref a_ACROSS), .val (.int (45 : Int32))] [(.ref a_DOWN), (.ref a_DOWN)])) _
      refine Jvm.RoadKit.acmp (g := (mkF m 84 #[.val (.int u0), .val (.ref a_DOWN), .val (.ref a_ACROSS), .val (.int (45 : Int32))] [(.ref a_DOWN), (.ref a_DOWN)])) X19 hx rfl rfl rfl (pc0 := 84) (pc' := 87) (same := true) rfl (hb hby at_84) rfl (decide_eq_true (congrArg Value.ref rfl)) (by decide) (by decide) ?_
      show Steps p.tables e below (T19.setTop (mkF m 87 #[.val (.int u0), .val (.ref a_DOWN), .val (.ref a_ACROSS), .val (.int (45 : Int32))] [])) _
      refine XS.iconst X19.here hx rfl (hb hby at_87) ?_
      show Steps p.tables e below (T19.setTop (mkF m 88 #[.val (.int u0), .val (.ref a_DOWN), .val (.ref a_ACROSS), .val (.int (45 : Int32))] [(.int (1 : Int32))])) _
      refine XS.goto X19.here hx rfl (pc0 := 88) (pc' := 92) rfl (hb hby at_88) (by decide) (by decide) ?_
      show Steps p.tables e below (T19.setTop (mkF m 92 #[.val (.int u0), .val (.ref a_DOWN), .val (.ref a_ACROSS), .val (.int (45 : Int32))] [(.int (1 : Int32))])) _
      exact retN X19 hx (t := .boolean) Bd.returns (by simp) (hb hby at_92) hr
    · show QL n0 _ T19.heap _
      rw [e19]
      exact ⟨rfl, N19⟩
set_option maxRecDepth 65536 in
set_option maxHeartbeats 40000000 in
theorem comes_1 {Post : Tables → Env → Array Value → State → Outcome → State → Prop} (hpost : ∀ tb e args s v u, (limb_1_1.after args s (.returned v) u = true ∧ limb_1_2.after args s (.returned v) u = true ∧ True) → FrameEnd s (.returned v) u (Jvm.fieldLocs frame_1_writes args s ++ Jvm.arrayLocs frame_1_arrays args s ++ Jvm.staticLocs frame_1_statics s) 0 0 → Post tb e args s (.returned v) u) :
    ArmFor flags0 classFile x code maxLocals ret World_1 tables_1 room_1 Calls_1 rest_1 Pre_1 Post := by
  intro l hfl _ _ p e ha hc hk s m args below hf hA hF happ hP
  obtain ⟨hcalls, hrest, hpre⟩ := hP
  obtain ⟨-, -, -, hnamed, -, -, -, hat⟩ := (Spec.applies_iff hf).mp happ
  obtain ⟨hg, hn⟩ := and_e (Cond.before_iff.mp (show (Jvm.Cond.and given_1 narrow_1).before args s = true from hpre))
  obtain ⟨g0, G0⟩ := and_e hg
  have v0 := G0
  obtain ⟨w0, rfl⟩ : ∃ w0 : Value, args = #[w0] := by
    have hs : args.size = 1 := by simpa [Cond.value, given_1] using g0
    obtain ⟨L⟩ := args
    match L, hs with
    | [w0], _ => exact ⟨w0, rfl⟩
  have hw := fun d (hd : d ∈ tables_1) => atoms_spec (ws := Jvm.Cond.code x code maxLocals ret :: tables_1) hat d (List.mem_cons_of_mem _ hd)
  have hfit : Fit s := fun {y c} hc i hi => by
    obtain ⟨ha, rfl⟩ := Array.getElem?_eq_some_iff.mp hc
    have q := List.all_eq_true.mp ((Array.all_eq_true_iff_forall_mem.mp hF) _ (Array.getElem_mem ha)) i (List.mem_range.mpr hi)
    simpa [Array.getElem?_eq_getElem hi] using q
  obtain ⟨i0, ei0⟩ := is_v v0
  obtain rfl : w0 = (.int i0) := Option.some.inj ei0
  obtain ⟨m0, M1⟩ := and_e hn
  obtain ⟨m1, M2⟩ := and_e M1
  obtain ⟨m2, M3⟩ := and_e M2
  obtain ⟨m3, M4⟩ := and_e M3
  obtain ⟨m4, M5⟩ := and_e M4
  obtain ⟨m5, M6⟩ := and_e M5
  obtain ⟨m6, M7⟩ := and_e M6
  obtain ⟨m7, M8⟩ := and_e M7
  obtain ⟨m8, M9⟩ := and_e M8
  have m9 := M9
  obtain ⟨a_ACROSS, ev_ACROSS⟩ := exa_v m0
  have E_ACROSS := Exa.start ev_ACROSS m0
  have S_ACROSS := Sta.start ev_ACROSS (Or.inr ⟨(hw _ (List.mem_of_getElem? (i := 1) rfl)), (hw _ (List.mem_of_getElem? (i := 2) rfl))⟩)
  obtain ⟨a_DOWN, ev_DOWN⟩ := exa_v m1
  have E_DOWN := Exa.start ev_DOWN m1
  have S_DOWN := Sta.start ev_DOWN (Or.inr ⟨(hw _ (List.mem_of_getElem? (i := 1) rfl)), (hw _ (List.mem_of_getElem? (i := 10) rfl))⟩)
  have F_ACROSS_symbol := Fld.start ((fld_at ev_ACROSS).symm.trans (own_eqI m2))
  have F_DOWN_ordinal := Fld.start ((fld_at ev_DOWN).symm.trans (own_eqI m3))
  have F_ACROSS_ordinal := Fld.start ((fld_at ev_ACROSS).symm.trans (own_eqI m4))
  have F_DOWN_symbol := Fld.start ((fld_at ev_DOWN).symm.trans (own_eqI m5))
  have F_DOWN_rowStep := Fld.start ((fld_at ev_DOWN).symm.trans (own_eqI m6))
  have F_ACROSS_colStep := Fld.start ((fld_at ev_ACROSS).symm.trans (own_eqI m7))
  have F_DOWN_colStep := Fld.start ((fld_at ev_DOWN).symm.trans (own_eqI m8))
  have F_ACROSS_rowStep := Fld.start ((fld_at ev_ACROSS).symm.trans (own_eqI m9))
  obtain ⟨n, o, h1, h2, h3, _, L, rfl, ⟨rfl, N⟩, hq⟩ := rm0 l s _ hw tables_1 i0 a_ACROSS a_DOWN s.heap s.heap.size (Nat.le_refl _) S_ACROSS S_DOWN E_ACROSS F_ACROSS_symbol F_ACROSS_rowStep F_ACROSS_colStep E_DOWN F_DOWN_symbol F_DOWN_rowStep F_DOWN_colStep (F_ACROSS_ordinal.ne F_DOWN_ordinal (by decide)) p e ha hc hk s m _ below hf ((Spec.applies_iff_loose hf).mp happ).1 ⟨rfl, State.Warmed39.refl s, rfl⟩ trivial
  refine ⟨n, _, h1, h2, h3, hpost _ _ _ _ _ _ ⟨Cond.after_iff.mpr rfl, Cond.after_iff.mpr (eq_i res_at (Term.int_eval (1)) rfl), trivial⟩ ⟨hq.1, hq.2.1, (hq.2.2.sift fun y hy => Or.inr (N y hy)).mono (by decide) (by decide)⟩⟩
theorem main_1_1 : Claimed_1_1 := comes_1 fun _ _ _ _ _ _ h hF => ⟨h.1, hF⟩
theorem main_1_2 : Claimed_1_2 := comes_1 fun _ _ _ _ _ _ h hF => ⟨h.2.1, hF⟩
end Jvm.Pilot.@@N@@
namespace Jvm.Pilot.@@N@@
open Jvm Jvm.ClassFile Sem Op Lib Jvm.Free Jvm.Stand Jvm.Pilot.@@N@@.Jvm.D
/-! MADE BY PROGRAM (witnessworld.py) out of the Statement's table words and the real class files: 12 classes; the members and pool entries that the words name. The judged class is class 1, her method 1. -/
namespace start1
open Jvm.ClassFile
def u (s : String) : CpInfo := .utf8 (stringToUtf16 s)
/-- a pool by its gaps: so many unusable entries, then the entry; so many at the end -/
def gap : Nat → List CpInfo → List CpInfo
  | 0, r => r
  | n + 1, r => .unusable :: gap n r
def poolList (es : List (Nat × CpInfo)) (last : Nat) : List CpInfo := es.foldr (fun e r => gap e.1 (e.2 :: r)) (gap last [])
def pool (es : List (Nat × CpInfo)) (last : Nat) : Array CpInfo := ⟨poolList es last⟩
def fileOf (pool : Array CpInfo) (this : Nat) (attrs : Array Attribute := #[]) (ms : Array MethodInfo := #[]) (fl : Nat := 33) (sup : Nat := 0) (ifs : Array Nat := #[]) (fds : Array FieldInfo := #[]) : ClassFile where
  minorVersion := 0
  majorVersion := 65
  constantPool := pool
  accessFlags := fl
  thisClass := this
  superClass := sup
  interfaces := ifs
  fields := fds
  methods := ms
  attributes := attrs
def plain (name : String) (sup : Option ClassId) : Class where
  name := name
  kind := .ordinary
  loader := none
  accessFlags := 33
  super := sup
  interfaces := #[]
  cf := none
  fields := #[]
  methods := #[]
  instanceTypes := #[]
  staticTypes := #[]
  resolved := #[]
  callSites := []
  init := .initialized
  statics := none
  mirror := none

def pool0 : Array CpInfo := pool [(5, u "<init>"), (0, u "()V"), (1, .class_ 10), (1, u "java/lang/Object")] 113

def k0m0 : Method := { name := "<init>", desc := "()V", sig := { parameters := [], returnType := none }, accessFlags := 1, code := none }
/-- java/lang/Object -/
def k0 : Class := { plain "java/lang/Object" none with
  accessFlags := 33
  interfaces := #[]
  cf := some (fileOf pool0 8 #[] #[{ accessFlags := 1, nameIndex := 5, descriptorIndex := 6, attributes := #[] }] 33 0 #[] #[])
  fields := #[]
  methods := #[k0m0]
  instanceTypes := #[]
  staticTypes := #[]
  resolved := Array.replicate 124 none
  statics := none }

def pool1 : Array CpInfo := pool [(2, .class_ 4), (1, u "java/lang/Object"), (0, u "<init>"), (0, u "()V"), (0, .fieldref 8 9), (0, .class_ 10), (0, .nameAndType 11 12), (0, u "com/example/lexigrid/lexigrid/Direction"), (0, u "DOWN"), (0, u "Lcom/example/lexigrid/lexigrid/Direction;"), (0, .fieldref 8 14), (0, .nameAndType 15 12), (0, u "ACROSS"), (0, .methodref 8 17), (0, .nameAndType 18 19), (0, u "crosswise"), (0, u "()Lcom/example/lexigrid/lexigrid/Direction;"), (0, .methodref 8 21), (0, .nameAndType 22 23), (0, u "symbol"), (0, u "()C"), (0, .methodref 8 25), (0, .nameAndType 26 27), (0, u "rowStep"), (0, u "()I"), (0, .methodref 8 29), (0, .nameAndType 30 27), (0, u "colStep"), (0, .class_ 32), (0, u "com/example/lexigrid/lexigrid/DirectionCrosswisePinLaw"), (2, u "law"), (0, u "(I)Z")] 3

def k1m0 : Method := { name := "<init>", desc := "()V", sig := { parameters := [], returnType := none }, accessFlags := 1, code := none }
def k1c1 : Code := { maxStack := 2, maxLocals := 4, code := code, exceptionTable := #[], attributes := #[] }
def k1m1 : Method := { name := "law", desc := "(I)Z", sig := { parameters := [.int], returnType := some .boolean }, accessFlags := 9, code := some k1c1 }
/-- com/example/lexigrid/lexigrid/DirectionCrosswisePinLaw -/
def k1 : Class := { plain "com/example/lexigrid/lexigrid/DirectionCrosswisePinLaw" (some 0) with
  accessFlags := 49
  interfaces := #[]
  cf := some (fileOf pool1 31 #[] #[{ accessFlags := 1, nameIndex := 5, descriptorIndex := 6, attributes := #[] }, { accessFlags := 9, nameIndex := 35, descriptorIndex := 36, attributes := #[] }] 49 2 #[] #[])
  fields := #[]
  methods := #[k1m0, k1m1]
  instanceTypes := #[]
  staticTypes := #[]
  resolved := Array.replicate 40 none
  statics := none }

def pool2 : Array CpInfo := pool [(1, .class_ 2), (0, u "java/lang/constant/Constable"), (0, .class_ 4), (0, u "java/lang/Object")] 6

/-- java/lang/constant/Constable -/
def k2 : Class := { plain "java/lang/constant/Constable" (some 0) with
  accessFlags := 1537
  interfaces := #[]
  cf := some (fileOf pool2 1 #[] #[] 1537 3 #[] #[])
  fields := #[]
  methods := #[]
  instanceTypes := #[]
  staticTypes := #[]
  resolved := Array.replicate 11 none
  statics := none }

def pool3 : Array CpInfo := pool [(1, .class_ 2), (0, u "java/lang/Comparable"), (0, .class_ 4), (0, u "java/lang/Object")] 7

/-- java/lang/Comparable -/
def k3 : Class := { plain "java/lang/Comparable" (some 0) with
  accessFlags := 1537
  interfaces := #[]
  cf := some (fileOf pool3 1 #[] #[] 1537 3 #[] #[])
  fields := #[]
  methods := #[]
  instanceTypes := #[]
  staticTypes := #[]
  resolved := Array.replicate 12 none
  statics := none }

def pool4 : Array CpInfo := pool [(1, .class_ 2), (0, u "java/io/Serializable"), (0, .class_ 4), (0, u "java/lang/Object")] 2

/-- java/io/Serializable -/
def k4 : Class := { plain "java/io/Serializable" (some 0) with
  accessFlags := 1537
  interfaces := #[]
  cf := some (fileOf pool4 1 #[] #[] 1537 3 #[] #[])
  fields := #[]
  methods := #[]
  instanceTypes := #[]
  staticTypes := #[]
  resolved := Array.replicate 7 none
  statics := none }

def pool5 : Array CpInfo := pool [(2, .class_ 4), (1, u "java/lang/Enum"), (0, u "name"), (0, u "Ljava/lang/String;"), (2, u "ordinal"), (0, u "I"), (1, .class_ 14), (1, u "java/lang/Object"), (4, u "hash"), (86, .class_ 108), (1, u "java/lang/Enum$EnumDesc"), (2, .class_ 112), (0, u "java/lang/constant/Constable"), (0, .class_ 114), (0, u "java/lang/Comparable"), (0, .class_ 116), (0, u "java/io/Serializable")] 87

/-- java/lang/Enum -/
def k5 : Class := { plain "java/lang/Enum" (some 0) with
  accessFlags := 1057
  interfaces := #[2, 3, 4]
  cf := some (fileOf pool5 2 #[.nestMembers #[106]] #[] 1057 12 #[111, 113, 115] #[{ accessFlags := 18, nameIndex := 5, descriptorIndex := 6, attributes := #[] }, { accessFlags := 18, nameIndex := 9, descriptorIndex := 10, attributes := #[] }, { accessFlags := 2, nameIndex := 19, descriptorIndex := 10, attributes := #[] }])
  fields := #[{ name := "name", type := (.object "java/lang/String"), accessFlags := 18, slot := 0, constantValue := 0 }, { name := "ordinal", type := .int, accessFlags := 18, slot := 1, constantValue := 0 }, { name := "hash", type := .int, accessFlags := 2, slot := 2, constantValue := 0 }]
  methods := #[]
  instanceTypes := #[(.object "java/lang/String"), .int, .int]
  staticTypes := #[]
  resolved := Array.replicate 204 none
  statics := none }

def pool6 : Array CpInfo := pool [(1, .class_ 2), (0, u "com/example/lexigrid/lexigrid/Direction"), (0, .fieldref 1 4), (0, .nameAndType 5 6), (0, u "ACROSS"), (0, u "Lcom/example/lexigrid/lexigrid/Direction;"), (0, .fieldref 1 8), (0, .nameAndType 9 6), (0, u "DOWN"), (2, u "$VALUES"), (0, u "[Lcom/example/lexigrid/lexigrid/Direction;"), (6, .class_ 22), (1, u "java/lang/Enum"), (6, .fieldref 1 30), (0, .nameAndType 31 32), (0, u "symbol"), (0, u "C"), (0, .fieldref 1 34), (0, .nameAndType 35 36), (0, u "rowStep"), (0, u "I"), (0, .fieldref 1 38), (0, .nameAndType 39 36), (0, u "colStep"), (16, u "()C"), (0, u "crosswise"), (0, u "()Lcom/example/lexigrid/lexigrid/Direction;"), (1, u "()I")] 5

def k6c0 : Code := { maxStack := 1, maxLocals := 1, code := prog_5_method_4_code, exceptionTable := #[], attributes := #[] }
def k6m0 : Method := { name := "symbol", desc := "()C", sig := { parameters := [], returnType := some .char }, accessFlags := 1, code := some k6c0 }
def k6c1 : Code := { maxStack := 2, maxLocals := 1, code := prog_5_method_5_code, exceptionTable := #[], attributes := #[] }
def k6m1 : Method := { name := "crosswise", desc := "()Lcom/example/lexigrid/lexigrid/Direction;", sig := { parameters := [], returnType := some (.object "com/example/lexigrid/lexigrid/Direction") }, accessFlags := 1, code := some k6c1 }
def k6c2 : Code := { maxStack := 1, maxLocals := 1, code := prog_5_method_6_code, exceptionTable := #[], attributes := #[] }
def k6m2 : Method := { name := "rowStep", desc := "()I", sig := { parameters := [], returnType := some .int }, accessFlags := 0, code := some k6c2 }
def k6c3 : Code := { maxStack := 1, maxLocals := 1, code := prog_5_method_7_code, exceptionTable := #[], attributes := #[] }
def k6m3 : Method := { name := "colStep", desc := "()I", sig := { parameters := [], returnType := some .int }, accessFlags := 0, code := some k6c3 }
/-- com/example/lexigrid/lexigrid/Direction -/
def k6 : Class := { plain "com/example/lexigrid/lexigrid/Direction" (some 5) with
  accessFlags := 16433
  interfaces := #[]
  cf := some (fileOf pool6 1 #[] #[{ accessFlags := 1, nameIndex := 31, descriptorIndex := 56, attributes := #[] }, { accessFlags := 1, nameIndex := 57, descriptorIndex := 58, attributes := #[] }, { accessFlags := 0, nameIndex := 35, descriptorIndex := 60, attributes := #[] }, { accessFlags := 0, nameIndex := 39, descriptorIndex := 60, attributes := #[] }] 16433 20 #[] #[{ accessFlags := 16409, nameIndex := 5, descriptorIndex := 6, attributes := #[] }, { accessFlags := 16409, nameIndex := 9, descriptorIndex := 6, attributes := #[] }, { accessFlags := 18, nameIndex := 31, descriptorIndex := 32, attributes := #[] }, { accessFlags := 18, nameIndex := 35, descriptorIndex := 36, attributes := #[] }, { accessFlags := 18, nameIndex := 39, descriptorIndex := 36, attributes := #[] }, { accessFlags := 4122, nameIndex := 12, descriptorIndex := 13, attributes := #[] }])
  fields := #[{ name := "ACROSS", type := (.object "com/example/lexigrid/lexigrid/Direction"), accessFlags := 16409, slot := 0, constantValue := 0 }, { name := "DOWN", type := (.object "com/example/lexigrid/lexigrid/Direction"), accessFlags := 16409, slot := 1, constantValue := 0 }, { name := "symbol", type := .char, accessFlags := 18, slot := 3, constantValue := 0 }, { name := "rowStep", type := .int, accessFlags := 18, slot := 4, constantValue := 0 }, { name := "colStep", type := .int, accessFlags := 18, slot := 5, constantValue := 0 }, { name := "$VALUES", type := (.array (.object "com/example/lexigrid/lexigrid/Direction")), accessFlags := 4122, slot := 2, constantValue := 0 }]
  methods := #[k6m0, k6m1, k6m2, k6m3]
  instanceTypes := #[(.object "java/lang/String"), .int, .int, .char, .int, .int]
  staticTypes := #[(.object "com/example/lexigrid/lexigrid/Direction"), (.object "com/example/lexigrid/lexigrid/Direction"), (.array (.object "com/example/lexigrid/lexigrid/Direction"))]
  resolved := Array.replicate 66 none
  statics := some 0 }

def pool7 : Array CpInfo := pool [(1, u "java/lang/Cloneable"), (0, .class_ 1), (0, u "java/lang/Object"), (0, .class_ 3)] 3

/-- java/lang/Cloneable -/
def k7 : Class := { plain "java/lang/Cloneable" (some 0) with
  accessFlags := 1537
  interfaces := #[]
  cf := some (fileOf pool7 2 #[] #[] 1537 4 #[] #[])
  fields := #[]
  methods := #[]
  instanceTypes := #[]
  staticTypes := #[]
  resolved := Array.replicate 8 none
  statics := none }

/-- the primitive byte -/
def k8 : Class := { plain "byte" none with kind := .primitive 'B', accessFlags := 0x411 }
/-- [B -/
def k9 : Class := { plain "[B" (some 0) with kind := .array 8 .byte, interfaces := #[7, 4], accessFlags := 1041 }

/-- the primitive int -/
def k10 : Class := { plain "int" none with kind := .primitive 'I', accessFlags := 0x411 }
/-- [I -/
def k11 : Class := { plain "[I" (some 0) with kind := .array 10 .int, interfaces := #[7, 4], accessFlags := 1041 }

def heap : Heap := #[{ cls := 6, slots := #[.ref 1, .ref 2, .null], vm := .statics 6 },
  { cls := 6, slots := #[.null, .int 0, .int 0, .int 45, .int 0, .int 1], vm := .none },
  { cls := 6, slots := #[.null, .int 1, .int 0, .int 124, .int 1, .int 0], vm := .none }]
def classes : Array Class := #[k0, k1, k2, k3, k4, k5, k6, k7, k8, k9, k10, k11]
def interned : List (Array UInt16 × Addr) := []
def slotsUsed : Nat := 15
def theMethod : MethodId := ⟨1, 1⟩
def args0 : Array Value := #[.int 5]
def aboutOver (below : List Frame) : State where
  vm := { classes := classes, interned := interned.toArray }
  heap := heap
  slotsUsed := slotsUsed
  threads := #[{ frames := .invoking theMethod args0 :: below }]
def below0 : List Frame := [.native { method := ⟨0, 0⟩, args := #[] }]
def about1 : State := aboutOver below0
def p0 : Program := .bare "" "" ""
def e0 : Env := launch0.env 0 0 0
theorem w_frames : about1.frames = Frame.invoking theMethod args0 :: below0 := rfl
set_option maxRecDepth 65536 in
theorem w_args : argsFit about1.vm theMethod args0 = true := by decide +kernel
set_option maxRecDepth 65536 in
theorem w_heap : heapFits about1 = true := by decide +kernel
set_option maxRecDepth 65536 in
theorem w_runnable : about1.curStatus? = some .runnable := by decide +kernel
set_option maxRecDepth 65536 in
theorem w_alone : about1.alone = true := by decide +kernel
set_option maxRecDepth 65536 in
theorem w_named : about1.methodNamed? x = some theMethod := by decide +kernel
set_option maxRecDepth 65536 in
theorem w_hears : about1.hears theMethod below0 = true := by decide +kernel
set_option maxRecDepth 65536 in
theorem w_ripe : about1.ripe theMethod args0 below0 = true := by decide +kernel
theorem w_running : about1.status = .running := rfl
set_option maxRecDepth 65536 in
theorem w_room : about1.hasRoom e0.platform room_1 = true :=
  launch0.hasRoom_least _ room_1 (by decide +kernel) (by decide +kernel) (by decide +kernel) (by decide +kernel) (by decide +kernel) (by decide +kernel)
theorem allAtoms_all (ts : List Jvm.Cond) (a : Array Jvm.Value) (st : Jvm.State) : (allAtoms ts).before a st = ts.all (fun c => c.before a st) := by
  induction ts with
  | nil => rfl
  | cons c t ih =>
    show (Jvm.Cond.and c (allAtoms t)).before a st = _
    rw [Jvm.Cond.before_and, ih, List.all_cons]
def words1 : List Jvm.Cond := Jvm.Cond.code x code maxLocals ret :: tables_1
/-- a 'code' word, met by the world's own term for the bytes: nothing is compared byte by byte -/
theorem code_word {y : MethodName} {bytes : ByteArray} {mx : Nat} {rt : Option FieldType} {a : Array Value} {s : State} {m : MethodId} {meth : Method} {c : Code} (h1 : s.methodNamed? y = some m) (h2 : s.vm.method? m = some meth) (h3 : meth.code = some c) (h4 : c.code = bytes)
    (h5 : (c.maxLocals == mx && c.exceptionTable.isEmpty && decide (c.maxStack ≤ mostOperands) && decide (meth.sig.returnType = rt) && !meth.locks && decide (parseMethodDescriptor y.desc = some meth.sig)) = true) : (Jvm.Cond.code y bytes mx rt).before a s = true := by
  simp only [Bool.and_eq_true, beq_iff_eq, Bool.not_eq_true', decide_eq_true_eq] at h5
  obtain ⟨⟨⟨⟨⟨g1, g2⟩, g3⟩, g4⟩, g5⟩, g6⟩ := h5
  simp [Cond.before, Cond.holds, Cond.value, h1, h2, h3, h4, g1, g2, g3, g4, g5, g6]
def isCode : Jvm.Cond → Bool
  | .code _ _ _ _ => true
  | _ => false
theorem all_split {L : List Jvm.Cond} {P : Jvm.Cond → Bool} (h1 : L.all (fun c => isCode c || P c) = true) (h2 : ∀ c ∈ L.filter isCode, P c = true) : L.all P = true := by
  refine List.all_eq_true.mpr fun c hc => ?_
  have h := List.all_eq_true.mp h1 c hc
  rcases Bool.eq_false_or_eq_true (isCode c) with hi | hi
  · exact h2 c (List.mem_filter.mpr ⟨hc, hi⟩)
  · simpa [hi] using h
set_option maxRecDepth 65536 in
theorem w_c0 : (Jvm.Cond.code x code maxLocals ret).before args0 about1 = true := code_word (m := ⟨1, 1⟩) (meth := k1m1) (c := k1c1) (by decide +kernel) rfl rfl rfl (by decide +kernel)
set_option maxRecDepth 65536 in
theorem w_c1 : (Jvm.Cond.code ({ cls := "com/example/lexigrid/lexigrid/Direction", name := "crosswise", desc := "()Lcom/example/lexigrid/lexigrid/Direction;" } : Jvm.MethodName) prog_5_method_5_code (1 : Nat) (Option.some (Jvm.ClassFile.FieldType.object "com/example/lexigrid/lexigrid/Direction"))).before args0 about1 = true := code_word (m := ⟨6, 1⟩) (meth := k6m1) (c := k6c1) (by decide +kernel) rfl rfl rfl (by decide +kernel)
set_option maxRecDepth 65536 in
theorem w_c2 : (Jvm.Cond.code ({ cls := "com/example/lexigrid/lexigrid/Direction", name := "symbol", desc := "()C" } : Jvm.MethodName) prog_5_method_4_code (1 : Nat) (Option.some Jvm.ClassFile.FieldType.char)).before args0 about1 = true := code_word (m := ⟨6, 0⟩) (meth := k6m0) (c := k6c0) (by decide +kernel) rfl rfl rfl (by decide +kernel)
set_option maxRecDepth 65536 in
theorem w_c3 : (Jvm.Cond.code ({ cls := "com/example/lexigrid/lexigrid/Direction", name := "rowStep", desc := "()I" } : Jvm.MethodName) prog_5_method_6_code (1 : Nat) (Option.some Jvm.ClassFile.FieldType.int)).before args0 about1 = true := code_word (m := ⟨6, 2⟩) (meth := k6m2) (c := k6c2) (by decide +kernel) rfl rfl rfl (by decide +kernel)
set_option maxRecDepth 65536 in
theorem w_c4 : (Jvm.Cond.code ({ cls := "com/example/lexigrid/lexigrid/Direction", name := "colStep", desc := "()I" } : Jvm.MethodName) prog_5_method_7_code (1 : Nat) (Option.some Jvm.ClassFile.FieldType.int)).before args0 about1 = true := code_word (m := ⟨6, 3⟩) (meth := k6m3) (c := k6c3) (by decide +kernel) rfl rfl rfl (by decide +kernel)
def codes1 : List Jvm.Cond := [Jvm.Cond.code x code maxLocals ret, Jvm.Cond.code ({ cls := "com/example/lexigrid/lexigrid/Direction", name := "crosswise", desc := "()Lcom/example/lexigrid/lexigrid/Direction;" } : Jvm.MethodName) prog_5_method_5_code (1 : Nat) (Option.some (Jvm.ClassFile.FieldType.object "com/example/lexigrid/lexigrid/Direction")), Jvm.Cond.code ({ cls := "com/example/lexigrid/lexigrid/Direction", name := "symbol", desc := "()C" } : Jvm.MethodName) prog_5_method_4_code (1 : Nat) (Option.some Jvm.ClassFile.FieldType.char), Jvm.Cond.code ({ cls := "com/example/lexigrid/lexigrid/Direction", name := "rowStep", desc := "()I" } : Jvm.MethodName) prog_5_method_6_code (1 : Nat) (Option.some Jvm.ClassFile.FieldType.int), Jvm.Cond.code ({ cls := "com/example/lexigrid/lexigrid/Direction", name := "colStep", desc := "()I" } : Jvm.MethodName) prog_5_method_7_code (1 : Nat) (Option.some Jvm.ClassFile.FieldType.int)]
set_option maxRecDepth 65536 in
theorem codes_eq : words1.filter isCode = codes1 := rfl
theorem w_codes : ∀ c ∈ words1.filter isCode, c.before args0 about1 = true := by
  rw [codes_eq]
  intro c hc
  simp only [codes1, List.mem_cons, List.not_mem_nil, or_false] at hc
  rcases hc with rfl | rfl | rfl | rfl | rfl
  · exact w_c0
  · exact w_c1
  · exact w_c2
  · exact w_c3
  · exact w_c4
set_option maxRecDepth 65536 in
theorem w_t1 : (words1.take 24).all (fun c => isCode c || c.before args0 about1) = true := by decide +kernel
set_option maxRecDepth 65536 in
theorem w_t2 : (words1.drop 24).all (fun c => isCode c || c.before args0 about1) = true := by decide +kernel
theorem w_tables : (allAtoms (Jvm.Cond.code x code maxLocals ret :: tables_1)).before args0 about1 = true := by
  rw [allAtoms_all]
  show words1.all (fun c => c.before args0 about1) = true
  refine all_split ?_ w_codes
  rw [← List.take_append_drop 24 words1, List.all_append, w_t1, w_t2]
  rfl
set_option maxRecDepth 65536 in
theorem w_case : (Jvm.Cond.and given_1 narrow_1).before args0 about1 = true := by decide +kernel
theorem w_applies : (headSpec (Jvm.Cond.code x code maxLocals ret :: tables_1) room_1).applies x e0.platform about1 = true :=
  (Spec.applies_iff w_frames).mpr ⟨w_running, w_runnable, w_alone, w_named, w_hears, w_ripe, w_room, w_tables⟩
theorem atStart : AtStart classFile x code maxLocals ret World_1 tables_1 room_1 Calls_1 rest_1 Pre_1 launch0 p0 e0 about1 theMethod args0 below0 :=
  ⟨lists_1, trivial, launch0.admits_env _ _ _, launch0.least_env, fairChoices_fair.cas, fairChoices_fair.clock, w_frames, w_args, w_heap, w_applies, trivial, trivial, w_case⟩
end start1
theorem witness_1 : WitnessClaimed_1 := ⟨start1.p0, start1.e0, start1.about1, start1.theMethod, start1.args0, start1.below0, start1.atStart⟩
end Jvm.Pilot.@@N@@
