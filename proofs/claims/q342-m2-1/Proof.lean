import JvmDerived
import JvmDerived.Pilot.@@N@@Statement
import JvmDerived.Pilot.@@N@@Code
set_option linter.unusedVariables false
set_option linter.unusedSimpArgs false
namespace Jvm.RoadKit
open Sem ClassFile Op Lib Jvm.Stand Jvm.Free Jvm.LawKit
section New
variable {p : Program} {l : Launch} {e : Env} {R : Room} {s : State} {m : MethodId} {args : Array Value} {below : List Frame} {meth : Method} {c : Code} {T : State} {locs : List Loc} {cells slots : Nat}
theorem retI (X : Stand p l e R s m args below meth c T locs cells slots) (hx : p.tables.exec = Jvm.exec) {pc : Nat} {Ls : Array Slot} {z : Int32} {rest : List Value} (hret : meth.sig.returnType = some .int) (hd : decode c.code pc = .ok (.ireturn, 1)) {fs : List Frame}
    (hl : ∀ (f : JFrame) (acts : List Action), f.method = m → f.locked = none → f.entered = [] → (doReturn e (T.setTop f) acts (some (.int z))).1 = T.setFrames fs) : Steps p.tables e below (T.setTop (mkF m pc Ls (.int z :: rest))) (T.setFrames fs) :=
  retOut X hx hret rfl (Or.inl ⟨rfl, Or.inl rfl, z, rfl⟩) hd hl
end New
end Jvm.RoadKit
namespace Jvm.Pilot.@@N@@
open Jvm Jvm.ClassFile Sem Op Lib Jvm.Free Jvm.Stand Jvm.LawKit Jvm.RoadKit Bundle Jvm.Pilot.@@N@@.Jvm.D
def QL (n0 : Nat) (v : Option Value) (h : Heap) (L : List Loc) : Prop := v = some (.int 1) ∧ Fr n0 L
def QP (r : Option Value) (h0 : Heap) (n0 : Nat) (v : Option Value) (h : Heap) (L : List Loc) : Prop := v = r ∧ Fr n0 L ∧ h = h0
theorem own_eqI {args : Array Value} {first s : State} {o : Option Outcome} {idx : List Nat} {a : Term} {k : Int32} (h : (Cond.eq a (.int k)).value args first o s idx = some true) : a.eval args first o idx s = some (.int k) := by
  obtain ⟨x, y, h1, h2, h3, h4⟩ := cmp_v (Or.inl h)
  obtain rfl : Value.int k = y := Option.some.inj h2
  obtain ⟨z, rfl⟩ := h4
  have q : z = k := by simpa [Cond.value, h1, Term.eval] using h
  rw [h1, q]
theorem d1_0 : decode prog_37_method_5_code 0 = .ok (.aload_n 0, 1) := by decide +kernel
theorem d1_1 : decode prog_37_method_5_code 1 = .ok (.getstatic 3, 3) := by decide +kernel
theorem d1_4 : decode prog_37_method_5_code 4 = .ok (.if_acmp .eq 14, 3) := by decide +kernel
theorem d1_7 : decode prog_37_method_5_code 7 = .ok (.iload_n 1, 1) := by decide +kernel
theorem d1_8 : decode prog_37_method_5_code 8 = .ok (.ifCond .eq 14, 3) := by decide +kernel
theorem d1_11 : decode prog_37_method_5_code 11 = .ok (.aload_n 0, 1) := by decide +kernel
theorem d1_12 : decode prog_37_method_5_code 12 = .ok (.getstatic 10, 3) := by decide +kernel
theorem d1_15 : decode prog_37_method_5_code 15 = .ok (.if_acmp .ne 7, 3) := by decide +kernel
theorem d1_18 : decode prog_37_method_5_code 18 = .ok (.iconst 1, 1) := by decide +kernel
theorem d1_19 : decode prog_37_method_5_code 19 = .ok (.goto 4, 3) := by decide +kernel
theorem d1_22 : decode prog_37_method_5_code 22 = .ok (.iconst 0, 1) := by decide +kernel
theorem d1_23 : decode prog_37_method_5_code 23 = .ok (.ireturn, 1) := by decide +kernel
theorem pn_1 : plainName "com/example/libltl/libltl/KripkeStructure$Truth" = true := by first | (simp [plainName, overriddenIn]; done) | decide +kernel
theorem ef_1 (m : MethodId) (x0 : Addr) (x1 : Int32) : entryFrame m #[(.ref x0), (.int x1)] 2 = mkF m 0 #[.val (.ref x0), .val (.int x1)] [] := by first | (simp [entryFrame, mkF, argsToLocals, Value.category]; done) | rfl
def f1 (r0 : Addr) (u1 : Int32) (aT : Addr) (aU : Addr) : Int32 := (if r0 = aT then (1 : Int32) else (if u1 = (0 : Int32) then (0 : Int32) else (if r0 = aU then (1 : Int32) else (0 : Int32))))
set_option maxRecDepth 65536 in
set_option maxHeartbeats 40000000 in
theorem rm1 (l : Launch) (Z : State) (a0 : Array Value) (hw : ∀ d ∈ tables_1, d.before a0 Z = true) (ws : List Jvm.Cond) (r0 : Addr) (u1 : Int32) (aT : Addr) (aU : Addr) (h0 : Heap) (n0 : Nat) (Z0 : n0 ≤ h0.size) (S_TRUE : Sta Z h0 "com/example/libltl/libltl/KripkeStructure$Truth" "TRUE" "Lcom/example/libltl/libltl/KripkeStructure$Truth;" (.ref aT)) (S_UNKNOWN : Sta Z h0 "com/example/libltl/libltl/KripkeStructure$Truth" "UNKNOWN" "Lcom/example/libltl/libltl/KripkeStructure$Truth;" (.ref aU)) :
    MetFree l (⟨"com/example/libltl/libltl/KripkeStructure$Truth", "holds", "(Z)Z"⟩ : MethodName) (head1 (Jvm.Cond.code (⟨"com/example/libltl/libltl/KripkeStructure$Truth", "holds", "(Z)Z"⟩ : MethodName) prog_37_method_5_code 2 (some .boolean) :: ws) ({ frames := 0, cells := 0, slots := 0, locals := 0 } : Room)) (fun a U => a = #[(.ref r0), (.int u1)] ∧ Z.Warmed39 U.vm ∧ U.heap = h0) (fun _ _ _ _ _ => True) (fun _ U o U' => ∃ v L, o = .returned v ∧ QP (some (.int (f1 r0 u1 aT aU))) h0 n0 v U'.heap L ∧ FrameEnd U o U' L 0 0) := by
  refine MetFree.of_bodySF (plainFor_of_name pn_1) hisR ?_
  intro p e s m args below meth c s₁ Bd hml0 hP hK
  obtain ⟨rfl, hZ, hh⟩ := hP
  have hx := Bd.exec
  have hby := Bd.bytes
  have hml : c.maxLocals = 2 := hml0
  have hown : s.vm.findClass "com/example/libltl/libltl/KripkeStructure$Truth" = some m.cls := findClass_of_methodNamed Bd.named
  have hnm := (name_of_methodNamed Bd.named Bd.method).1
  have X0 : Stand p l e ({ frames := 0, cells := 0, slots := 0, locals := 0 } : Room) s m #[(.ref r0), (.int u1)] below meth c s₁ [] 0 0 := Stand.of_body Bd
  have e0 : s₁.heap = h0 := by rw [← hh, Bd.state]; rfl
  have N0 := Fr.nil n0
  have pre0 : ∀ t, Steps p.tables e below (s₁.setTop (mkF m 0 #[.val (.ref r0), .val (.int u1)] [])) t → Steps p.tables e below (s₁.setTop (entryFrame m #[(.ref r0), (.int u1)] 2)) t := fun t k => castTop (ef_1 m r0 u1) k
  obtain ⟨T1, X1, e1, st1⟩ := getS2 X0 hx hZ hown (host := "") (Or.inl (hw _ (List.mem_of_getElem? (i := 9) rfl))) Via.refl e0 S_TRUE (g := (mkF m 1 #[.val (.ref r0), .val (.int u1)] [(.ref r0)])) rfl (hb hby d1_1)
  have pre2 : ∀ t, Steps p.tables e below (T1.setTop (mkF m 4 #[.val (.ref r0), .val (.int u1)] [(.ref aT), (.ref r0)])) t → Steps p.tables e below (s₁.setTop (entryFrame m #[(.ref r0), (.int u1)] 2)) t := fun t k => pre0 t (by
    show Steps p.tables e below (s₁.setTop (mkF m 0 #[.val (.ref r0), .val (.int u1)] [])) _
    refine XS.aloadN X0.here hx rfl (hb hby d1_0) rfl rfl ?_
    show Steps p.tables e below (s₁.setTop (mkF m 1 #[.val (.ref r0), .val (.int u1)] [(.ref r0)])) _
    refine st1 _ ?_
    exact k)
  by_cases hc4 : r0 = aT
  · -- pc 4: r0 = aT
    obtain ⟨fs, hr, hrun, hended, hW, hsame⟩ := X1.leave (v := (some (.int (1 : Int32)))) (fun h => by rw [Bd.returns] at h; cases h)
    refine ⟨_, _, pre2 _ ?_, hrun, hended, _, _, rfl, ?_, ⟨_, rfl⟩, hW, hsame.mono (by decide) (by decide)⟩
    · show Steps p.tables e below (T1.setTop (mkF m 4 #[.val (.ref r0), .val (.int u1)] [(.ref aT), (.ref r0)])) _
      refine Jvm.RoadKit.acmp (g := (mkF m 4 #[.val (.ref r0), .val (.int u1)] [(.ref aT), (.ref r0)])) X1 hx rfl rfl rfl (pc0 := 4) (pc' := 18) (same := true) rfl (hb hby d1_4) rfl (decide_eq_true (congrArg Value.ref hc4)) (by decide) (by decide) ?_
      show Steps p.tables e below (T1.setTop (mkF m 18 #[.val (.ref r0), .val (.int u1)] [])) _
      refine XS.iconst X1.here hx rfl (hb hby d1_18) ?_
      show Steps p.tables e below (T1.setTop (mkF m 19 #[.val (.ref r0), .val (.int u1)] [(.int (1 : Int32))])) _
      refine XS.goto X1.here hx rfl (pc0 := 19) (pc' := 23) rfl (hb hby d1_19) (by decide) (by decide) ?_
      show Steps p.tables e below (T1.setTop (mkF m 23 #[.val (.ref r0), .val (.int u1)] [(.int (1 : Int32))])) _
      exact retN X1 hx (t := .boolean) Bd.returns (by simp) (hb hby d1_23) hr
    · show QP (some (.int (f1 r0 u1 aT aU))) h0 n0 _ T1.heap _
      rw [e1]
      exact ⟨congrArg (fun z => some (Value.int z)) (Eq.symm (show (f1 r0 u1 aT aU) = (1 : Int32) from (if_pos hc4).trans (rfl))), N0, rfl⟩
  · -- pc 4: not r0 = aT
    have pre3 : ∀ t, Steps p.tables e below (T1.setTop (mkF m 8 #[.val (.ref r0), .val (.int u1)] [(.int u1)])) t → Steps p.tables e below (s₁.setTop (entryFrame m #[(.ref r0), (.int u1)] 2)) t := fun t k => pre2 t (by
      show Steps p.tables e below (T1.setTop (mkF m 4 #[.val (.ref r0), .val (.int u1)] [(.ref aT), (.ref r0)])) _
      refine Jvm.RoadKit.acmp (g := (mkF m 4 #[.val (.ref r0), .val (.int u1)] [(.ref aT), (.ref r0)])) X1 hx rfl rfl rfl (pc0 := 4) (pc' := 7) (same := false) rfl (hb hby d1_4) rfl (decide_eq_false fun q => hc4 (Value.ref.inj q)) (by decide) (by decide) ?_
      show Steps p.tables e below (T1.setTop (mkF m 7 #[.val (.ref r0), .val (.int u1)] [])) _
      refine XS.iloadN X1.here hx rfl (hb hby d1_7) rfl ?_
      exact k)
    by_cases hc8 : u1 = (0 : Int32)
    · -- pc 8: u1 = (0 : Int32)
      obtain ⟨fs, hr, hrun, hended, hW, hsame⟩ := X1.leave (v := (some (.int (0 : Int32)))) (fun h => by rw [Bd.returns] at h; cases h)
      refine ⟨_, _, pre3 _ ?_, hrun, hended, _, _, rfl, ?_, ⟨_, rfl⟩, hW, hsame.mono (by decide) (by decide)⟩
      · show Steps p.tables e below (T1.setTop (mkF m 8 #[.val (.ref r0), .val (.int u1)] [(.int u1)])) _
        refine XS.ifYes X1.here hx rfl (pc0 := 8) (pc' := 22) rfl (hb hby d1_8) rfl ((if0 _ _).trans (teq hc8).1) (by decide) (by decide) ?_
        show Steps p.tables e below (T1.setTop (mkF m 22 #[.val (.ref r0), .val (.int u1)] [])) _
        refine XS.iconst X1.here hx rfl (hb hby d1_22) ?_
        show Steps p.tables e below (T1.setTop (mkF m 23 #[.val (.ref r0), .val (.int u1)] [(.int (0 : Int32))])) _
        exact retN X1 hx (t := .boolean) Bd.returns (by simp) (hb hby d1_23) hr
      · show QP (some (.int (f1 r0 u1 aT aU))) h0 n0 _ T1.heap _
        rw [e1]
        exact ⟨congrArg (fun z => some (Value.int z)) (Eq.symm (show (f1 r0 u1 aT aU) = (0 : Int32) from (if_neg hc4).trans ((if_pos hc8).trans (rfl)))), N0, rfl⟩
    · -- pc 8: not u1 = (0 : Int32)
      obtain ⟨T4, X4, e4, st4⟩ := getS2 X1 hx hZ hown (host := "") (Or.inl (hw _ (List.mem_of_getElem? (i := 12) rfl))) Via.refl e1 S_UNKNOWN (g := (mkF m 12 #[.val (.ref r0), .val (.int u1)] [(.ref r0)])) rfl (hb hby d1_12)
      have pre5 : ∀ t, Steps p.tables e below (T4.setTop (mkF m 15 #[.val (.ref r0), .val (.int u1)] [(.ref aU), (.ref r0)])) t → Steps p.tables e below (s₁.setTop (entryFrame m #[(.ref r0), (.int u1)] 2)) t := fun t k => pre3 t (by
        show Steps p.tables e below (T1.setTop (mkF m 8 #[.val (.ref r0), .val (.int u1)] [(.int u1)])) _
        refine XS.ifNo X1.here hx rfl (hb hby d1_8) rfl ((if0 _ _).trans (feq hc8).1) ?_
        show Steps p.tables e below (T1.setTop (mkF m 11 #[.val (.ref r0), .val (.int u1)] [])) _
        refine XS.aloadN X1.here hx rfl (hb hby d1_11) rfl rfl ?_
        show Steps p.tables e below (T1.setTop (mkF m 12 #[.val (.ref r0), .val (.int u1)] [(.ref r0)])) _
        refine st4 _ ?_
        exact k)
      by_cases hc15 : r0 = aU
      · -- pc 15: r0 = aU
        obtain ⟨fs, hr, hrun, hended, hW, hsame⟩ := X4.leave (v := (some (.int (1 : Int32)))) (fun h => by rw [Bd.returns] at h; cases h)
        refine ⟨_, _, pre5 _ ?_, hrun, hended, _, _, rfl, ?_, ⟨_, rfl⟩, hW, hsame.mono (by decide) (by decide)⟩
        · show Steps p.tables e below (T4.setTop (mkF m 15 #[.val (.ref r0), .val (.int u1)] [(.ref aU), (.ref r0)])) _
          refine Jvm.RoadKit.acmp (g := (mkF m 15 #[.val (.ref r0), .val (.int u1)] [(.ref aU), (.ref r0)])) X4 hx rfl rfl rfl (pc0 := 15) (pc' := 18) (same := true) rfl (hb hby d1_15) rfl (decide_eq_true (congrArg Value.ref hc15)) (by decide) (by decide) ?_
          show Steps p.tables e below (T4.setTop (mkF m 18 #[.val (.ref r0), .val (.int u1)] [])) _
          refine XS.iconst X4.here hx rfl (hb hby d1_18) ?_
          show Steps p.tables e below (T4.setTop (mkF m 19 #[.val (.ref r0), .val (.int u1)] [(.int (1 : Int32))])) _
          refine XS.goto X4.here hx rfl (pc0 := 19) (pc' := 23) rfl (hb hby d1_19) (by decide) (by decide) ?_
          show Steps p.tables e below (T4.setTop (mkF m 23 #[.val (.ref r0), .val (.int u1)] [(.int (1 : Int32))])) _
          exact retN X4 hx (t := .boolean) Bd.returns (by simp) (hb hby d1_23) hr
        · show QP (some (.int (f1 r0 u1 aT aU))) h0 n0 _ T4.heap _
          rw [e4]
          exact ⟨congrArg (fun z => some (Value.int z)) (Eq.symm (show (f1 r0 u1 aT aU) = (1 : Int32) from (if_neg hc4).trans ((if_neg hc8).trans ((if_pos hc15).trans (rfl))))), N0, rfl⟩
      · -- pc 15: not r0 = aU
        obtain ⟨fs, hr, hrun, hended, hW, hsame⟩ := X4.leave (v := (some (.int (0 : Int32)))) (fun h => by rw [Bd.returns] at h; cases h)
        refine ⟨_, _, pre5 _ ?_, hrun, hended, _, _, rfl, ?_, ⟨_, rfl⟩, hW, hsame.mono (by decide) (by decide)⟩
        · show Steps p.tables e below (T4.setTop (mkF m 15 #[.val (.ref r0), .val (.int u1)] [(.ref aU), (.ref r0)])) _
          refine Jvm.RoadKit.acmp (g := (mkF m 15 #[.val (.ref r0), .val (.int u1)] [(.ref aU), (.ref r0)])) X4 hx rfl rfl rfl (pc0 := 15) (pc' := 22) (same := false) rfl (hb hby d1_15) rfl (decide_eq_false fun q => hc15 (Value.ref.inj q)) (by decide) (by decide) ?_
          show Steps p.tables e below (T4.setTop (mkF m 22 #[.val (.ref r0), .val (.int u1)] [])) _
          refine XS.iconst X4.here hx rfl (hb hby d1_22) ?_
          show Steps p.tables e below (T4.setTop (mkF m 23 #[.val (.ref r0), .val (.int u1)] [(.int (0 : Int32))])) _
          exact retN X4 hx (t := .boolean) Bd.returns (by simp) (hb hby d1_23) hr
        · show QP (some (.int (f1 r0 u1 aT aU))) h0 n0 _ T4.heap _
          rw [e4]
          exact ⟨congrArg (fun z => some (Value.int z)) (Eq.symm (show (f1 r0 u1 aT aU) = (0 : Int32) from (if_neg hc4).trans ((if_neg hc8).trans ((if_neg hc15).trans (rfl))))), N0, rfl⟩
theorem pn_0 : plainName "com/example/libltl/libltl/TruthHoldsPinLaw" = true := by first | (simp [plainName, overriddenIn]; done) | decide +kernel
theorem ef_0 (m : MethodId) (x0 : Int32) (x1 : Int32) : entryFrame m #[(.int x0), (.int x1)] maxLocals = mkF m 0 #[.val (.int x0), .val (.int x1), .unset, .unset, .unset, .unset] [] := by first | (simp [entryFrame, mkF, argsToLocals, Value.category, maxLocals]; done) | rfl
def j0_7 (u1 : Int32) : Int32 := (if (u1 &&& (1 : Int32)) = (0 : Int32) then (0 : Int32) else (1 : Int32))
theorem pd_0 : parseMethodDescriptor "(Z)Z" = some ⟨[.boolean], some .boolean⟩ := by decide +kernel
theorem own_T (a u : Addr) (o : Int32) : f1 a o a u = 1 := if_pos rfl
theorem own_F {aT aF aU : Addr} (h1 : aT ≠ aF) (h2 : aF ≠ aU) (o : Int32) : f1 aF o aT aU = 0 := by
  unfold f1
  rw [if_neg (Ne.symm h1), if_neg h2]
  split <;> rfl
theorem own_U {aT aU : Addr} (h1 : aT ≠ aU) (o : Int32) (h : o = 0 ∨ o = 1) : f1 aU o aT aU = o := by
  unfold f1
  rw [if_neg (Ne.symm h1), if_pos rfl]
  rcases h with rfl | rfl <;> rfl
theorem own_01 (u : Int32) : j0_7 u = 0 ∨ j0_7 u = 1 := by
  unfold j0_7
  split
  · exact Or.inl rfl
  · exact Or.inr rfl
set_option maxRecDepth 65536 in
set_option maxHeartbeats 40000000 in
theorem rm0 (l : Launch) (Z : State) (a0 : Array Value) (hw : ∀ d ∈ tables_1, d.before a0 Z = true) (ws : List Jvm.Cond) (u0 : Int32) (u1 : Int32) (aT : Addr) (aF : Addr) (aU : Addr) (h0 : Heap) (n0 : Nat) (Z0 : n0 ≤ h0.size) (S_TRUE : Sta Z h0 "com/example/libltl/libltl/KripkeStructure$Truth" "TRUE" "Lcom/example/libltl/libltl/KripkeStructure$Truth;" (.ref aT)) (S_FALSE : Sta Z h0 "com/example/libltl/libltl/KripkeStructure$Truth" "FALSE" "Lcom/example/libltl/libltl/KripkeStructure$Truth;" (.ref aF)) (S_UNKNOWN : Sta Z h0 "com/example/libltl/libltl/KripkeStructure$Truth" "UNKNOWN" "Lcom/example/libltl/libltl/KripkeStructure$Truth;" (.ref aU)) (E_TRUE : Exa Z h0 aT "com/example/libltl/libltl/KripkeStructure$Truth") (E_FALSE : Exa Z h0 aF "com/example/libltl/libltl/KripkeStructure$Truth") (E_UNKNOWN : Exa Z h0 aU "com/example/libltl/libltl/KripkeStructure$Truth") (nTF : aT ≠ aF) (nTU : aT ≠ aU) (nFU : aF ≠ aU) :
    MetFree l x (head1 (Jvm.Cond.code x code maxLocals ret :: ws) room_1) (fun a U => a = #[(.int u0), (.int u1)] ∧ Z.Warmed39 U.vm ∧ U.heap = h0) (fun _ _ _ _ _ => True) (fun _ U o U' => ∃ v L, o = .returned v ∧ QL n0 v U'.heap L ∧ FrameEnd U o U' L 0 0) := by
  refine MetFree.of_bodySF (plainFor_of_name pn_0) hisR ?_
  intro p e s m args below meth c s₁ Bd hml0 hP hK
  obtain ⟨rfl, hZ, hh⟩ := hP
  have hx := Bd.exec
  have hby := Bd.bytes
  have hml : c.maxLocals = 6 := hml0
  have hown : s.vm.findClass "com/example/libltl/libltl/TruthHoldsPinLaw" = some m.cls := findClass_of_methodNamed Bd.named
  have hnm := (name_of_methodNamed Bd.named Bd.method).1
  have X0 : Stand p l e room_1 s m #[(.int u0), (.int u1)] below meth c s₁ [] 0 0 := Stand.of_body Bd
  have e0 : s₁.heap = h0 := by rw [← hh, Bd.state]; rfl
  have N0 := Fr.nil n0
  have pre0 : ∀ t, Steps p.tables e below (s₁.setTop (mkF m 0 #[.val (.int u0), .val (.int u1), .unset, .unset, .unset, .unset] [])) t → Steps p.tables e below (s₁.setTop (entryFrame m #[(.int u0), (.int u1)] maxLocals)) t := fun t k => castTop (ef_0 m u0 u1) k
  have pre1 : ∀ t, Steps p.tables e below (s₁.setTop (mkF m 7 #[.val (.int u0), .val (.int u1), .val (.int ((u0 &&& (2147483647 : Int32)) % (3 : Int32))), .unset, .unset, .unset] [])) t → Steps p.tables e below (s₁.setTop (entryFrame m #[(.int u0), (.int u1)] maxLocals)) t := fun t k => pre0 t (by
    show Steps p.tables e below (s₁.setTop (mkF m 0 #[.val (.int u0), .val (.int u1), .unset, .unset, .unset, .unset] [])) _
    refine XS.iloadN X0.here hx rfl (hb hby at_0) rfl ?_
    show Steps p.tables e below (s₁.setTop (mkF m 1 #[.val (.int u0), .val (.int u1), .unset, .unset, .unset, .unset] [(.int u0)])) _
    refine X0.ldcInt hx hown (mvT hZ (hw _ (List.mem_of_getElem? (i := 0) rfl))) (g := (mkF m 1 #[.val (.int u0), .val (.int u1), .unset, .unset, .unset, .unset] [(.int u0)])) rfl (hb hby at_1) _ ?_
    show Steps p.tables e below (s₁.setTop (mkF m 3 #[.val (.int u0), .val (.int u1), .unset, .unset, .unset, .unset] [(.int (2147483647 : Int32)), (.int u0)])) _
    refine XS.iand X0.here hx rfl (hb hby at_3) rfl ?_
    show Steps p.tables e below (s₁.setTop (mkF m 4 #[.val (.int u0), .val (.int u1), .unset, .unset, .unset, .unset] [(.int (u0 &&& (2147483647 : Int32)))])) _
    refine XS.iconst X0.here hx rfl (hb hby at_4) ?_
    show Steps p.tables e below (s₁.setTop (mkF m 5 #[.val (.int u0), .val (.int u1), .unset, .unset, .unset, .unset] [(.int (3 : Int32)), (.int (u0 &&& (2147483647 : Int32)))])) _
    refine iremM X0 hx rfl (hb hby at_5) rfl (by decide) ?_
    show Steps p.tables e below (s₁.setTop (mkF m 6 #[.val (.int u0), .val (.int u1), .unset, .unset, .unset, .unset] [(.int ((u0 &&& (2147483647 : Int32)) % (3 : Int32)))])) _
    refine XS.istoreN X0.here hx rfl (hb hby at_6) rfl (l' := #[.val (.int u0), .val (.int u1), .val (.int ((u0 &&& (2147483647 : Int32)) % (3 : Int32))), .unset, .unset, .unset]) rfl ?_
    exact k)
  have pre2 : ∀ t, Steps p.tables e below (s₁.setTop (mkF m 18 #[.val (.int u0), .val (.int u1), .val (.int ((u0 &&& (2147483647 : Int32)) % (3 : Int32))), .unset, .unset, .unset] [(.int (j0_7 u1))])) t → Steps p.tables e below (s₁.setTop (entryFrame m #[(.int u0), (.int u1)] maxLocals)) t := by
    have pre3 : ∀ t, Steps p.tables e below (s₁.setTop (mkF m 10 #[.val (.int u0), .val (.int u1), .val (.int ((u0 &&& (2147483647 : Int32)) % (3 : Int32))), .unset, .unset, .unset] [(.int (u1 &&& (1 : Int32)))])) t → Steps p.tables e below (s₁.setTop (entryFrame m #[(.int u0), (.int u1)] maxLocals)) t := fun t k => pre1 t (by
      show Steps p.tables e below (s₁.setTop (mkF m 7 #[.val (.int u0), .val (.int u1), .val (.int ((u0 &&& (2147483647 : Int32)) % (3 : Int32))), .unset, .unset, .unset] [])) _
      refine XS.iloadN X0.here hx rfl (hb hby at_7) rfl ?_
      show Steps p.tables e below (s₁.setTop (mkF m 8 #[.val (.int u0), .val (.int u1), .val (.int ((u0 &&& (2147483647 : Int32)) % (3 : Int32))), .unset, .unset, .unset] [(.int u1)])) _
      refine XS.iconst X0.here hx rfl (hb hby at_8) ?_
      show Steps p.tables e below (s₁.setTop (mkF m 9 #[.val (.int u0), .val (.int u1), .val (.int ((u0 &&& (2147483647 : Int32)) % (3 : Int32))), .unset, .unset, .unset] [(.int (1 : Int32)), (.int u1)])) _
      refine XS.iand X0.here hx rfl (hb hby at_9) rfl ?_
      exact k)
    by_cases hc10 : (u1 &&& (1 : Int32)) = (0 : Int32)
    · -- pc 10: (u1 &&& (1 : Int32)) = (0 : Int32)
      intro t k
      have qS0 : (j0_7 u1) = (0 : Int32) := (if_pos hc10).trans (rfl)
      rw [qS0] at k
      refine pre3 t ?_
      show Steps p.tables e below (s₁.setTop (mkF m 10 #[.val (.int u0), .val (.int u1), .val (.int ((u0 &&& (2147483647 : Int32)) % (3 : Int32))), .unset, .unset, .unset] [(.int (u1 &&& (1 : Int32)))])) _
      refine XS.ifYes X0.here hx rfl (pc0 := 10) (pc' := 17) rfl (hb hby at_10) rfl ((if0 _ _).trans (teq hc10).1) (by decide) (by decide) ?_
      show Steps p.tables e below (s₁.setTop (mkF m 17 #[.val (.int u0), .val (.int u1), .val (.int ((u0 &&& (2147483647 : Int32)) % (3 : Int32))), .unset, .unset, .unset] [])) _
      refine XS.iconst X0.here hx rfl (hb hby at_17) ?_
      exact k
    · -- pc 10: not (u1 &&& (1 : Int32)) = (0 : Int32)
      intro t k
      have qS0 : (j0_7 u1) = (1 : Int32) := (if_neg hc10).trans (rfl)
      rw [qS0] at k
      refine pre3 t ?_
      show Steps p.tables e below (s₁.setTop (mkF m 10 #[.val (.int u0), .val (.int u1), .val (.int ((u0 &&& (2147483647 : Int32)) % (3 : Int32))), .unset, .unset, .unset] [(.int (u1 &&& (1 : Int32)))])) _
      refine XS.ifNo X0.here hx rfl (hb hby at_10) rfl ((if0 _ _).trans (feq hc10).1) ?_
      show Steps p.tables e below (s₁.setTop (mkF m 13 #[.val (.int u0), .val (.int u1), .val (.int ((u0 &&& (2147483647 : Int32)) % (3 : Int32))), .unset, .unset, .unset] [])) _
      refine XS.iconst X0.here hx rfl (hb hby at_13) ?_
      show Steps p.tables e below (s₁.setTop (mkF m 14 #[.val (.int u0), .val (.int u1), .val (.int ((u0 &&& (2147483647 : Int32)) % (3 : Int32))), .unset, .unset, .unset] [(.int (1 : Int32))])) _
      refine XS.goto X0.here hx rfl (pc0 := 14) (pc' := 18) rfl (hb hby at_14) (by decide) (by decide) ?_
      exact k
  have pre4 : ∀ t, Steps p.tables e below (s₁.setTop (mkF m 20 #[.val (.int u0), .val (.int u1), .val (.int ((u0 &&& (2147483647 : Int32)) % (3 : Int32))), .val (.int (j0_7 u1)), .unset, .unset] [(.int ((u0 &&& (2147483647 : Int32)) % (3 : Int32)))])) t → Steps p.tables e below (s₁.setTop (entryFrame m #[(.int u0), (.int u1)] maxLocals)) t := fun t k => pre2 t (by
    show Steps p.tables e below (s₁.setTop (mkF m 18 #[.val (.int u0), .val (.int u1), .val (.int ((u0 &&& (2147483647 : Int32)) % (3 : Int32))), .unset, .unset, .unset] [(.int (j0_7 u1))])) _
    refine XS.istoreN X0.here hx rfl (hb hby at_18) rfl (l' := #[.val (.int u0), .val (.int u1), .val (.int ((u0 &&& (2147483647 : Int32)) % (3 : Int32))), .val (.int (j0_7 u1)), .unset, .unset]) rfl ?_
    show Steps p.tables e below (s₁.setTop (mkF m 19 #[.val (.int u0), .val (.int u1), .val (.int ((u0 &&& (2147483647 : Int32)) % (3 : Int32))), .val (.int (j0_7 u1)), .unset, .unset] [])) _
    refine XS.iloadN X0.here hx rfl (hb hby at_19) rfl ?_
    exact k)
  by_cases hc20 : ((u0 &&& (2147483647 : Int32)) % (3 : Int32)) = (0 : Int32)
  · -- pc 20: ((u0 &&& (2147483647 : Int32)) % (3 : Int32)) = (0 : Int32)
    obtain ⟨T5, X5, e5, st5⟩ := getS2 X0 hx hZ hown (host := "") (Or.inl (hw _ (List.mem_of_getElem? (i := 1) rfl))) Via.refl e0 S_TRUE (g := (mkF m 23 #[.val (.int u0), .val (.int u1), .val (.int ((u0 &&& (2147483647 : Int32)) % (3 : Int32))), .val (.int (j0_7 u1)), .unset, .unset] [])) rfl (hb hby at_23)
    obtain ⟨cq6, kq6, q6a, q6b, q6c⟩ := isOf hZ e5 E_TRUE
    obtain ⟨_, _, ⟨T6, L6, k6, n6⟩, -, X6, ⟨Lc6, hQ6, l6, y6, z6⟩, st6⟩ := X5.virtualBack hx (y := (⟨"com/example/libltl/libltl/KripkeStructure$Truth", "holds", "(Z)Z"⟩ : MethodName)) (z := (⟨"com/example/libltl/libltl/KripkeStructure$Truth", "holds", "(Z)Z"⟩ : MethodName)) hown (mvT hZ (hw _ (List.mem_of_getElem? (i := 4) rfl))) (mvT hZ (hw _ (List.mem_of_getElem? (i := 5) rfl))) (notFace_of_selects (args := #[]) (mvT hZ (hw _ (List.mem_of_getElem? (i := 7) rfl)))) (mvT hZ (hw _ (List.mem_of_getElem? (i := 7) rfl))) (mvT hZ (hw _ (List.mem_of_getElem? (i := 6) rfl))) (by decide) (backOf (W := 0) (rm1 l Z a0 hw [] aT (j0_7 u1) aT aU h0 n0 Z0 S_TRUE S_UNKNOWN) hZ (hw _ (List.mem_of_getElem? (i := 8) rfl)) (hw _ (List.mem_of_getElem? (i := 2) rfl)) (by decide) (by decide)) q6a q6c (g := (mkF m 61 #[.val (.int u0), .val (.int u1), .val (.int ((u0 &&& (2147483647 : Int32)) % (3 : Int32))), .val (.int (j0_7 u1)), .val (.ref aT), .val (.int (1 : Int32))] [(.int (j0_7 u1)), (.ref aT)])) rfl (by rw [hml]; rfl) (Steps.refl _) (argsL := [(.int (j0_7 u1))]) (rest := []) (lenOf pd_0 rfl) rfl (by show 2 * 0 + _ ≤ _; exact Nat.le_of_eq rfl) (hb hby at_61) (fun _ _ => ⟨rfl, e5, (by decide : 0 + 0 ≤ _), (by decide : 0 + 0 ≤ _)⟩)
    dsimp only [Pt.U, Pt.locs, Pt.cells, Pt.slots] at X6 l6 y6 z6 st6 hQ6
    subst l6 y6 z6
    obtain ⟨rfl, N6q, e6⟩ := hQ6
    have N6 := Fr.app N0 N6q
    obtain ⟨fs, hr, hrun, hended, hW, hsame⟩ := X6.leave (v := (some (.int (1 : Int32)))) (fun h => by rw [Bd.returns] at h; cases h)
    refine ⟨_, _, pre4 _ ?_, hrun, hended, _, _, rfl, ?_, ⟨_, rfl⟩, hW, hsame.mono (by decide) (by decide)⟩
    · show Steps p.tables e below (s₁.setTop (mkF m 20 #[.val (.int u0), .val (.int u1), .val (.int ((u0 &&& (2147483647 : Int32)) % (3 : Int32))), .val (.int (j0_7 u1)), .unset, .unset] [(.int ((u0 &&& (2147483647 : Int32)) % (3 : Int32)))])) _
      refine XS.ifNo X0.here hx rfl (hb hby at_20) rfl ((if0 _ _).trans (teq hc20).2) ?_
      show Steps p.tables e below (s₁.setTop (mkF m 23 #[.val (.int u0), .val (.int u1), .val (.int ((u0 &&& (2147483647 : Int32)) % (3 : Int32))), .val (.int (j0_7 u1)), .unset, .unset] [])) _
      refine st5 _ ?_
      show Steps p.tables e below (T5.setTop (mkF m 26 #[.val (.int u0), .val (.int u1), .val (.int ((u0 &&& (2147483647 : Int32)) % (3 : Int32))), .val (.int (j0_7 u1)), .unset, .unset] [(.ref aT)])) _
      refine XS.astore X5.here hx rfl (hb hby at_26) rfl rfl (l' := #[.val (.int u0), .val (.int u1), .val (.int ((u0 &&& (2147483647 : Int32)) % (3 : Int32))), .val (.int (j0_7 u1)), .val (.ref aT), .unset]) rfl ?_
      show Steps p.tables e below (T5.setTop (mkF m 28 #[.val (.int u0), .val (.int u1), .val (.int ((u0 &&& (2147483647 : Int32)) % (3 : Int32))), .val (.int (j0_7 u1)), .val (.ref aT), .unset] [])) _
      refine XS.iconst X5.here hx rfl (hb hby at_28) ?_
      show Steps p.tables e below (T5.setTop (mkF m 29 #[.val (.int u0), .val (.int u1), .val (.int ((u0 &&& (2147483647 : Int32)) % (3 : Int32))), .val (.int (j0_7 u1)), .val (.ref aT), .unset] [(.int (1 : Int32))])) _
      refine XS.istore X5.here hx rfl (hb hby at_29) rfl (l' := #[.val (.int u0), .val (.int u1), .val (.int ((u0 &&& (2147483647 : Int32)) % (3 : Int32))), .val (.int (j0_7 u1)), .val (.ref aT), .val (.int (1 : Int32))]) rfl ?_
      show Steps p.tables e below (T5.setTop (mkF m 31 #[.val (.int u0), .val (.int u1), .val (.int ((u0 &&& (2147483647 : Int32)) % (3 : Int32))), .val (.int (j0_7 u1)), .val (.ref aT), .val (.int (1 : Int32))] [])) _
      refine XS.goto X5.here hx rfl (pc0 := 31) (pc' := 58) rfl (hb hby at_31) (by decide) (by decide) ?_
      show Steps p.tables e below (T5.setTop (mkF m 58 #[.val (.int u0), .val (.int u1), .val (.int ((u0 &&& (2147483647 : Int32)) % (3 : Int32))), .val (.int (j0_7 u1)), .val (.ref aT), .val (.int (1 : Int32))] [])) _
      refine XS.aload X5.here hx rfl (hb hby at_58) rfl rfl ?_
      show Steps p.tables e below (T5.setTop (mkF m 60 #[.val (.int u0), .val (.int u1), .val (.int ((u0 &&& (2147483647 : Int32)) % (3 : Int32))), .val (.int (j0_7 u1)), .val (.ref aT), .val (.int (1 : Int32))] [(.ref aT)])) _
      refine XS.iloadN X5.here hx rfl (hb hby at_60) rfl ?_
      show Steps p.tables e below (T5.setTop (mkF m 61 #[.val (.int u0), .val (.int u1), .val (.int ((u0 &&& (2147483647 : Int32)) % (3 : Int32))), .val (.int (j0_7 u1)), .val (.ref aT), .val (.int (1 : Int32))] [(.int (j0_7 u1)), (.ref aT)])) _
      refine st6.trans ?_
      show Steps p.tables e below (T6.setTop (mkF m 64 #[.val (.int u0), .val (.int u1), .val (.int ((u0 &&& (2147483647 : Int32)) % (3 : Int32))), .val (.int (j0_7 u1)), .val (.ref aT), .val (.int (1 : Int32))] [(.int (f1 aT (j0_7 u1) aT aU))])) _
      refine XS.iload X6.here hx rfl (hb hby at_64) rfl ?_
      show Steps p.tables e below (T6.setTop (mkF m 66 #[.val (.int u0), .val (.int u1), .val (.int ((u0 &&& (2147483647 : Int32)) % (3 : Int32))), .val (.int (j0_7 u1)), .val (.ref aT), .val (.int (1 : Int32))] [(.int (1 : Int32)), (.int (f1 aT (j0_7 u1) aT aU))])) _
      refine XS.icmpNo X6.here hx rfl (hb hby at_66) rfl (teq (own_T _ _ _)).2 ?_
      show Steps p.tables e below (T6.setTop (mkF m 69 #[.val (.int u0), .val (.int u1), .val (.int ((u0 &&& (2147483647 : Int32)) % (3 : Int32))), .val (.int (j0_7 u1)), .val (.ref aT), .val (.int (1 : Int32))] [])) _
      refine XS.iconst X6.here hx rfl (hb hby at_69) ?_
      show Steps p.tables e below (T6.setTop (mkF m 70 #[.val (.int u0), .val (.int u1), .val (.int ((u0 &&& (2147483647 : Int32)) % (3 : Int32))), .val (.int (j0_7 u1)), .val (.ref aT), .val (.int (1 : Int32))] [(.int (1 : Int32))])) _
      refine XS.goto X6.here hx rfl (pc0 := 70) (pc' := 74) rfl (hb hby at_70) (by decide) (by decide) ?_
      show Steps p.tables e below (T6.setTop (mkF m 74 #[.val (.int u0), .val (.int u1), .val (.int ((u0 &&& (2147483647 : Int32)) % (3 : Int32))), .val (.int (j0_7 u1)), .val (.ref aT), .val (.int (1 : Int32))] [(.int (1 : Int32))])) _
      exact retN X6 hx (t := .boolean) Bd.returns (by simp) (hb hby at_74) hr
    · show QL n0 _ T6.heap _
      rw [e6]
      exact ⟨rfl, N6⟩
  · -- pc 20: not ((u0 &&& (2147483647 : Int32)) % (3 : Int32)) = (0 : Int32)
    have pre7 : ∀ t, Steps p.tables e below (s₁.setTop (mkF m 36 #[.val (.int u0), .val (.int u1), .val (.int ((u0 &&& (2147483647 : Int32)) % (3 : Int32))), .val (.int (j0_7 u1)), .unset, .unset] [(.int (1 : Int32)), (.int ((u0 &&& (2147483647 : Int32)) % (3 : Int32)))])) t → Steps p.tables e below (s₁.setTop (entryFrame m #[(.int u0), (.int u1)] maxLocals)) t := fun t k => pre4 t (by
      show Steps p.tables e below (s₁.setTop (mkF m 20 #[.val (.int u0), .val (.int u1), .val (.int ((u0 &&& (2147483647 : Int32)) % (3 : Int32))), .val (.int (j0_7 u1)), .unset, .unset] [(.int ((u0 &&& (2147483647 : Int32)) % (3 : Int32)))])) _
      refine XS.ifYes X0.here hx rfl (pc0 := 20) (pc' := 34) rfl (hb hby at_20) rfl ((if0 _ _).trans (feq hc20).2) (by decide) (by decide) ?_
      show Steps p.tables e below (s₁.setTop (mkF m 34 #[.val (.int u0), .val (.int u1), .val (.int ((u0 &&& (2147483647 : Int32)) % (3 : Int32))), .val (.int (j0_7 u1)), .unset, .unset] [])) _
      refine XS.iloadN X0.here hx rfl (hb hby at_34) rfl ?_
      show Steps p.tables e below (s₁.setTop (mkF m 35 #[.val (.int u0), .val (.int u1), .val (.int ((u0 &&& (2147483647 : Int32)) % (3 : Int32))), .val (.int (j0_7 u1)), .unset, .unset] [(.int ((u0 &&& (2147483647 : Int32)) % (3 : Int32)))])) _
      refine XS.iconst X0.here hx rfl (hb hby at_35) ?_
      exact k)
    by_cases hc36 : ((u0 &&& (2147483647 : Int32)) % (3 : Int32)) = (1 : Int32)
    · -- pc 36: ((u0 &&& (2147483647 : Int32)) % (3 : Int32)) = (1 : Int32)
      obtain ⟨T8, X8, e8, st8⟩ := getS2 X0 hx hZ hown (host := "") (Or.inl (hw _ (List.mem_of_getElem? (i := 13) rfl))) Via.refl e0 S_FALSE (g := (mkF m 39 #[.val (.int u0), .val (.int u1), .val (.int ((u0 &&& (2147483647 : Int32)) % (3 : Int32))), .val (.int (j0_7 u1)), .unset, .unset] [])) rfl (hb hby at_39)
      obtain ⟨cq9, kq9, q9a, q9b, q9c⟩ := isOf hZ e8 E_FALSE
      obtain ⟨_, _, ⟨T9, L9, k9, n9⟩, -, X9, ⟨Lc9, hQ9, l9, y9, z9⟩, st9⟩ := X8.virtualBack hx (y := (⟨"com/example/libltl/libltl/KripkeStructure$Truth", "holds", "(Z)Z"⟩ : MethodName)) (z := (⟨"com/example/libltl/libltl/KripkeStructure$Truth", "holds", "(Z)Z"⟩ : MethodName)) hown (mvT hZ (hw _ (List.mem_of_getElem? (i := 4) rfl))) (mvT hZ (hw _ (List.mem_of_getElem? (i := 5) rfl))) (notFace_of_selects (args := #[]) (mvT hZ (hw _ (List.mem_of_getElem? (i := 7) rfl)))) (mvT hZ (hw _ (List.mem_of_getElem? (i := 7) rfl))) (mvT hZ (hw _ (List.mem_of_getElem? (i := 6) rfl))) (by decide) (backOf (W := 0) (rm1 l Z a0 hw [] aF (j0_7 u1) aT aU h0 n0 Z0 S_TRUE S_UNKNOWN) hZ (hw _ (List.mem_of_getElem? (i := 8) rfl)) (hw _ (List.mem_of_getElem? (i := 2) rfl)) (by decide) (by decide)) q9a q9c (g := (mkF m 61 #[.val (.int u0), .val (.int u1), .val (.int ((u0 &&& (2147483647 : Int32)) % (3 : Int32))), .val (.int (j0_7 u1)), .val (.ref aF), .val (.int (0 : Int32))] [(.int (j0_7 u1)), (.ref aF)])) rfl (by rw [hml]; rfl) (Steps.refl _) (argsL := [(.int (j0_7 u1))]) (rest := []) (lenOf pd_0 rfl) rfl (by show 2 * 0 + _ ≤ _; exact Nat.le_of_eq rfl) (hb hby at_61) (fun _ _ => ⟨rfl, e8, (by decide : 0 + 0 ≤ _), (by decide : 0 + 0 ≤ _)⟩)
      dsimp only [Pt.U, Pt.locs, Pt.cells, Pt.slots] at X9 l9 y9 z9 st9 hQ9
      subst l9 y9 z9
      obtain ⟨rfl, N9q, e9⟩ := hQ9
      have N9 := Fr.app N0 N9q
      obtain ⟨fs, hr, hrun, hended, hW, hsame⟩ := X9.leave (v := (some (.int (1 : Int32)))) (fun h => by rw [Bd.returns] at h; cases h)
      refine ⟨_, _, pre7 _ ?_, hrun, hended, _, _, rfl, ?_, ⟨_, rfl⟩, hW, hsame.mono (by decide) (by decide)⟩
      · show Steps p.tables e below (s₁.setTop (mkF m 36 #[.val (.int u0), .val (.int u1), .val (.int ((u0 &&& (2147483647 : Int32)) % (3 : Int32))), .val (.int (j0_7 u1)), .unset, .unset] [(.int (1 : Int32)), (.int ((u0 &&& (2147483647 : Int32)) % (3 : Int32)))])) _
        refine XS.icmpNo X0.here hx rfl (hb hby at_36) rfl (teq hc36).2 ?_
        show Steps p.tables e below (s₁.setTop (mkF m 39 #[.val (.int u0), .val (.int u1), .val (.int ((u0 &&& (2147483647 : Int32)) % (3 : Int32))), .val (.int (j0_7 u1)), .unset, .unset] [])) _
        refine st8 _ ?_
        show Steps p.tables e below (T8.setTop (mkF m 42 #[.val (.int u0), .val (.int u1), .val (.int ((u0 &&& (2147483647 : Int32)) % (3 : Int32))), .val (.int (j0_7 u1)), .unset, .unset] [(.ref aF)])) _
        refine XS.astore X8.here hx rfl (hb hby at_42) rfl rfl (l' := #[.val (.int u0), .val (.int u1), .val (.int ((u0 &&& (2147483647 : Int32)) % (3 : Int32))), .val (.int (j0_7 u1)), .val (.ref aF), .unset]) rfl ?_
        show Steps p.tables e below (T8.setTop (mkF m 44 #[.val (.int u0), .val (.int u1), .val (.int ((u0 &&& (2147483647 : Int32)) % (3 : Int32))), .val (.int (j0_7 u1)), .val (.ref aF), .unset] [])) _
        refine XS.iconst X8.here hx rfl (hb hby at_44) ?_
        show Steps p.tables e below (T8.setTop (mkF m 45 #[.val (.int u0), .val (.int u1), .val (.int ((u0 &&& (2147483647 : Int32)) % (3 : Int32))), .val (.int (j0_7 u1)), .val (.ref aF), .unset] [(.int (0 : Int32))])) _
        refine XS.istore X8.here hx rfl (hb hby at_45) rfl (l' := #[.val (.int u0), .val (.int u1), .val (.int ((u0 &&& (2147483647 : Int32)) % (3 : Int32))), .val (.int (j0_7 u1)), .val (.ref aF), .val (.int (0 : Int32))]) rfl ?_
        show Steps p.tables e below (T8.setTop (mkF m 47 #[.val (.int u0), .val (.int u1), .val (.int ((u0 &&& (2147483647 : Int32)) % (3 : Int32))), .val (.int (j0_7 u1)), .val (.ref aF), .val (.int (0 : Int32))] [])) _
        refine XS.goto X8.here hx rfl (pc0 := 47) (pc' := 58) rfl (hb hby at_47) (by decide) (by decide) ?_
        show Steps p.tables e below (T8.setTop (mkF m 58 #[.val (.int u0), .val (.int u1), .val (.int ((u0 &&& (2147483647 : Int32)) % (3 : Int32))), .val (.int (j0_7 u1)), .val (.ref aF), .val (.int (0 : Int32))] [])) _
        refine XS.aload X8.here hx rfl (hb hby at_58) rfl rfl ?_
        show Steps p.tables e below (T8.setTop (mkF m 60 #[.val (.int u0), .val (.int u1), .val (.int ((u0 &&& (2147483647 : Int32)) % (3 : Int32))), .val (.int (j0_7 u1)), .val (.ref aF), .val (.int (0 : Int32))] [(.ref aF)])) _
        refine XS.iloadN X8.here hx rfl (hb hby at_60) rfl ?_
        show Steps p.tables e below (T8.setTop (mkF m 61 #[.val (.int u0), .val (.int u1), .val (.int ((u0 &&& (2147483647 : Int32)) % (3 : Int32))), .val (.int (j0_7 u1)), .val (.ref aF), .val (.int (0 : Int32))] [(.int (j0_7 u1)), (.ref aF)])) _
        refine st9.trans ?_
        show Steps p.tables e below (T9.setTop (mkF m 64 #[.val (.int u0), .val (.int u1), .val (.int ((u0 &&& (2147483647 : Int32)) % (3 : Int32))), .val (.int (j0_7 u1)), .val (.ref aF), .val (.int (0 : Int32))] [(.int (f1 aF (j0_7 u1) aT aU))])) _
        refine XS.iload X9.here hx rfl (hb hby at_64) rfl ?_
        show Steps p.tables e below (T9.setTop (mkF m 66 #[.val (.int u0), .val (.int u1), .val (.int ((u0 &&& (2147483647 : Int32)) % (3 : Int32))), .val (.int (j0_7 u1)), .val (.ref aF), .val (.int (0 : Int32))] [(.int (0 : Int32)), (.int (f1 aF (j0_7 u1) aT aU))])) _
        refine XS.icmpNo X9.here hx rfl (hb hby at_66) rfl (teq (own_F nTF nFU _)).2 ?_
        show Steps p.tables e below (T9.setTop (mkF m 69 #[.val (.int u0), .val (.int u1), .val (.int ((u0 &&& (2147483647 : Int32)) % (3 : Int32))), .val (.int (j0_7 u1)), .val (.ref aF), .val (.int (0 : Int32))] [])) _
        refine XS.iconst X9.here hx rfl (hb hby at_69) ?_
        show Steps p.tables e below (T9.setTop (mkF m 70 #[.val (.int u0), .val (.int u1), .val (.int ((u0 &&& (2147483647 : Int32)) % (3 : Int32))), .val (.int (j0_7 u1)), .val (.ref aF), .val (.int (0 : Int32))] [(.int (1 : Int32))])) _
        refine XS.goto X9.here hx rfl (pc0 := 70) (pc' := 74) rfl (hb hby at_70) (by decide) (by decide) ?_
        show Steps p.tables e below (T9.setTop (mkF m 74 #[.val (.int u0), .val (.int u1), .val (.int ((u0 &&& (2147483647 : Int32)) % (3 : Int32))), .val (.int (j0_7 u1)), .val (.ref aF), .val (.int (0 : Int32))] [(.int (1 : Int32))])) _
        exact retN X9 hx (t := .boolean) Bd.returns (by simp) (hb hby at_74) hr
      · show QL n0 _ T9.heap _
        rw [e9]
        exact ⟨rfl, N9⟩
    · -- pc 36: not ((u0 &&& (2147483647 : Int32)) % (3 : Int32)) = (1 : Int32)
      obtain ⟨T10, X10, e10, st10⟩ := getS2 X0 hx hZ hown (host := "") (Or.inl (hw _ (List.mem_of_getElem? (i := 10) rfl))) Via.refl e0 S_UNKNOWN (g := (mkF m 50 #[.val (.int u0), .val (.int u1), .val (.int ((u0 &&& (2147483647 : Int32)) % (3 : Int32))), .val (.int (j0_7 u1)), .unset, .unset] [])) rfl (hb hby at_50)
      obtain ⟨cq11, kq11, q11a, q11b, q11c⟩ := isOf hZ e10 E_UNKNOWN
      obtain ⟨_, _, ⟨T11, L11, k11, n11⟩, -, X11, ⟨Lc11, hQ11, l11, y11, z11⟩, st11⟩ := X10.virtualBack hx (y := (⟨"com/example/libltl/libltl/KripkeStructure$Truth", "holds", "(Z)Z"⟩ : MethodName)) (z := (⟨"com/example/libltl/libltl/KripkeStructure$Truth", "holds", "(Z)Z"⟩ : MethodName)) hown (mvT hZ (hw _ (List.mem_of_getElem? (i := 4) rfl))) (mvT hZ (hw _ (List.mem_of_getElem? (i := 5) rfl))) (notFace_of_selects (args := #[]) (mvT hZ (hw _ (List.mem_of_getElem? (i := 7) rfl)))) (mvT hZ (hw _ (List.mem_of_getElem? (i := 7) rfl))) (mvT hZ (hw _ (List.mem_of_getElem? (i := 6) rfl))) (by decide) (backOf (W := 0) (rm1 l Z a0 hw [] aU (j0_7 u1) aT aU h0 n0 Z0 S_TRUE S_UNKNOWN) hZ (hw _ (List.mem_of_getElem? (i := 8) rfl)) (hw _ (List.mem_of_getElem? (i := 2) rfl)) (by decide) (by decide)) q11a q11c (g := (mkF m 61 #[.val (.int u0), .val (.int u1), .val (.int ((u0 &&& (2147483647 : Int32)) % (3 : Int32))), .val (.int (j0_7 u1)), .val (.ref aU), .val (.int (j0_7 u1))] [(.int (j0_7 u1)), (.ref aU)])) rfl (by rw [hml]; rfl) (Steps.refl _) (argsL := [(.int (j0_7 u1))]) (rest := []) (lenOf pd_0 rfl) rfl (by show 2 * 0 + _ ≤ _; exact Nat.le_of_eq rfl) (hb hby at_61) (fun _ _ => ⟨rfl, e10, (by decide : 0 + 0 ≤ _), (by decide : 0 + 0 ≤ _)⟩)
      dsimp only [Pt.U, Pt.locs, Pt.cells, Pt.slots] at X11 l11 y11 z11 st11 hQ11
      subst l11 y11 z11
      obtain ⟨rfl, N11q, e11⟩ := hQ11
      have N11 := Fr.app N0 N11q
      obtain ⟨fs, hr, hrun, hended, hW, hsame⟩ := X11.leave (v := (some (.int (1 : Int32)))) (fun h => by rw [Bd.returns] at h; cases h)
      refine ⟨_, _, pre7 _ ?_, hrun, hended, _, _, rfl, ?_, ⟨_, rfl⟩, hW, hsame.mono (by decide) (by decide)⟩
      · show Steps p.tables e below (s₁.setTop (mkF m 36 #[.val (.int u0), .val (.int u1), .val (.int ((u0 &&& (2147483647 : Int32)) % (3 : Int32))), .val (.int (j0_7 u1)), .unset, .unset] [(.int (1 : Int32)), (.int ((u0 &&& (2147483647 : Int32)) % (3 : Int32)))])) _
        refine XS.icmpYes X0.here hx rfl (pc0 := 36) (pc' := 50) rfl (hb hby at_36) rfl (feq hc36).2 (by decide) (by decide) ?_
        show Steps p.tables e below (s₁.setTop (mkF m 50 #[.val (.int u0), .val (.int u1), .val (.int ((u0 &&& (2147483647 : Int32)) % (3 : Int32))), .val (.int (j0_7 u1)), .unset, .unset] [])) _
        refine st10 _ ?_
        show Steps p.tables e below (T10.setTop (mkF m 53 #[.val (.int u0), .val (.int u1), .val (.int ((u0 &&& (2147483647 : Int32)) % (3 : Int32))), .val (.int (j0_7 u1)), .unset, .unset] [(.ref aU)])) _
        refine XS.astore X10.here hx rfl (hb hby at_53) rfl rfl (l' := #[.val (.int u0), .val (.int u1), .val (.int ((u0 &&& (2147483647 : Int32)) % (3 : Int32))), .val (.int (j0_7 u1)), .val (.ref aU), .unset]) rfl ?_
        show Steps p.tables e below (T10.setTop (mkF m 55 #[.val (.int u0), .val (.int u1), .val (.int ((u0 &&& (2147483647 : Int32)) % (3 : Int32))), .val (.int (j0_7 u1)), .val (.ref aU), .unset] [])) _
        refine XS.iloadN X10.here hx rfl (hb hby at_55) rfl ?_
        show Steps p.tables e below (T10.setTop (mkF m 56 #[.val (.int u0), .val (.int u1), .val (.int ((u0 &&& (2147483647 : Int32)) % (3 : Int32))), .val (.int (j0_7 u1)), .val (.ref aU), .unset] [(.int (j0_7 u1))])) _
        refine XS.istore X10.here hx rfl (hb hby at_56) rfl (l' := #[.val (.int u0), .val (.int u1), .val (.int ((u0 &&& (2147483647 : Int32)) % (3 : Int32))), .val (.int (j0_7 u1)), .val (.ref aU), .val (.int (j0_7 u1))]) rfl ?_
        show Steps p.tables e below (T10.setTop (mkF m 58 #[.val (.int u0), .val (.int u1), .val (.int ((u0 &&& (2147483647 : Int32)) % (3 : Int32))), .val (.int (j0_7 u1)), .val (.ref aU), .val (.int (j0_7 u1))] [])) _
        refine XS.aload X10.here hx rfl (hb hby at_58) rfl rfl ?_
        show Steps p.tables e below (T10.setTop (mkF m 60 #[.val (.int u0), .val (.int u1), .val (.int ((u0 &&& (2147483647 : Int32)) % (3 : Int32))), .val (.int (j0_7 u1)), .val (.ref aU), .val (.int (j0_7 u1))] [(.ref aU)])) _
        refine XS.iloadN X10.here hx rfl (hb hby at_60) rfl ?_
        show Steps p.tables e below (T10.setTop (mkF m 61 #[.val (.int u0), .val (.int u1), .val (.int ((u0 &&& (2147483647 : Int32)) % (3 : Int32))), .val (.int (j0_7 u1)), .val (.ref aU), .val (.int (j0_7 u1))] [(.int (j0_7 u1)), (.ref aU)])) _
        refine st11.trans ?_
        show Steps p.tables e below (T11.setTop (mkF m 64 #[.val (.int u0), .val (.int u1), .val (.int ((u0 &&& (2147483647 : Int32)) % (3 : Int32))), .val (.int (j0_7 u1)), .val (.ref aU), .val (.int (j0_7 u1))] [(.int (f1 aU (j0_7 u1) aT aU))])) _
        refine XS.iload X11.here hx rfl (hb hby at_64) rfl ?_
        show Steps p.tables e below (T11.setTop (mkF m 66 #[.val (.int u0), .val (.int u1), .val (.int ((u0 &&& (2147483647 : Int32)) % (3 : Int32))), .val (.int (j0_7 u1)), .val (.ref aU), .val (.int (j0_7 u1))] [(.int (j0_7 u1)), (.int (f1 aU (j0_7 u1) aT aU))])) _
        refine XS.icmpNo X11.here hx rfl (hb hby at_66) rfl (teq (own_U nTU _ (own_01 _))).2 ?_
        show Steps p.tables e below (T11.setTop (mkF m 69 #[.val (.int u0), .val (.int u1), .val (.int ((u0 &&& (2147483647 : Int32)) % (3 : Int32))), .val (.int (j0_7 u1)), .val (.ref aU), .val (.int (j0_7 u1))] [])) _
        refine XS.iconst X11.here hx rfl (hb hby at_69) ?_
        show Steps p.tables e below (T11.setTop (mkF m 70 #[.val (.int u0), .val (.int u1), .val (.int ((u0 &&& (2147483647 : Int32)) % (3 : Int32))), .val (.int (j0_7 u1)), .val (.ref aU), .val (.int (j0_7 u1))] [(.int (1 : Int32))])) _
        refine XS.goto X11.here hx rfl (pc0 := 70) (pc' := 74) rfl (hb hby at_70) (by decide) (by decide) ?_
        show Steps p.tables e below (T11.setTop (mkF m 74 #[.val (.int u0), .val (.int u1), .val (.int ((u0 &&& (2147483647 : Int32)) % (3 : Int32))), .val (.int (j0_7 u1)), .val (.ref aU), .val (.int (j0_7 u1))] [(.int (1 : Int32))])) _
        exact retN X11 hx (t := .boolean) Bd.returns (by simp) (hb hby at_74) hr
      · show QL n0 _ T11.heap _
        rw [e11]
        exact ⟨rfl, N11⟩
set_option maxRecDepth 65536 in
set_option maxHeartbeats 40000000 in
theorem comes_1 {Post : Tables → Env → Array Value → State → Outcome → State → Prop} (hpost : ∀ tb e args s v u, (limb_1_1.after args s (.returned v) u = true ∧ limb_1_2.after args s (.returned v) u = true ∧ True) → FrameEnd s (.returned v) u (Jvm.fieldLocs frame_1_writes args s ++ Jvm.arrayLocs frame_1_arrays args s ++ Jvm.staticLocs frame_1_statics s) 0 0 → Post tb e args s (.returned v) u) :
    ArmFor flags0 classFile x code maxLocals ret World_1 tables_1 room_1 Calls_1 rest_1 Pre_1 Post := by
  intro l hfl _ _ p e ha hc hk s m args below hf hA hF happ hP
  obtain ⟨hcalls, hrest, hpre⟩ := hP
  obtain ⟨-, -, -, hnamed, -, -, -, hat⟩ := (Spec.applies_iff hf).mp happ
  obtain ⟨hg, hn⟩ := and_e (Cond.before_iff.mp (show (Jvm.Cond.and given_1 narrow_1).before args s = true from hpre))
  obtain ⟨g0, G0⟩ := and_e hg
  obtain ⟨v0, G1⟩ := and_e G0
  have v1 := G1
  obtain ⟨w0, w1, rfl⟩ : ∃ w0 w1 : Value, args = #[w0, w1] := by
    have hs : args.size = 2 := by simpa [Cond.value, given_1] using g0
    obtain ⟨L⟩ := args
    match L, hs with
    | [w0, w1], _ => exact ⟨w0, w1, rfl⟩
  have hw := fun d (hd : d ∈ tables_1) => atoms_spec (ws := Jvm.Cond.code x code maxLocals ret :: tables_1) hat d (List.mem_cons_of_mem _ hd)
  have hfit : Fit s := fun {y c} hc i hi => by
    obtain ⟨ha, rfl⟩ := Array.getElem?_eq_some_iff.mp hc
    have q := List.all_eq_true.mp ((Array.all_eq_true_iff_forall_mem.mp hF) _ (Array.getElem_mem ha)) i (List.mem_range.mpr hi)
    simpa [Array.getElem?_eq_getElem hi] using q
  obtain ⟨i0, ei0⟩ := is_v v0
  obtain rfl : w0 = (.int i0) := Option.some.inj ei0
  obtain ⟨i1, ei1⟩ := is_v v1
  obtain rfl : w1 = (.int i1) := Option.some.inj ei1
  obtain ⟨m0, M1⟩ := and_e hn
  obtain ⟨m1, M2⟩ := and_e M1
  obtain ⟨m2, M3⟩ := and_e M2
  obtain ⟨m3, M4⟩ := and_e M3
  obtain ⟨m4, M5⟩ := and_e M4
  have m5 := M5
  obtain ⟨a_TRUE, ev_TRUE⟩ := exa_v m0
  have E_TRUE := Exa.start ev_TRUE m0
  have S_TRUE := Sta.start ev_TRUE (Or.inr ⟨(hw _ (List.mem_of_getElem? (i := 2) rfl)), (hw _ (List.mem_of_getElem? (i := 3) rfl))⟩)
  obtain ⟨a_UNKNOWN, ev_UNKNOWN⟩ := exa_v m1
  have E_UNKNOWN := Exa.start ev_UNKNOWN m1
  have S_UNKNOWN := Sta.start ev_UNKNOWN (Or.inr ⟨(hw _ (List.mem_of_getElem? (i := 2) rfl)), (hw _ (List.mem_of_getElem? (i := 11) rfl))⟩)
  obtain ⟨a_FALSE, ev_FALSE⟩ := exa_v m4
  have E_FALSE := Exa.start ev_FALSE m4
  have S_FALSE := Sta.start ev_FALSE (Or.inr ⟨(hw _ (List.mem_of_getElem? (i := 2) rfl)), (hw _ (List.mem_of_getElem? (i := 14) rfl))⟩)
  have F_UNKNOWN_ordinal := Fld.start ((fld_at ev_UNKNOWN).symm.trans (own_eqI m2))
  have F_TRUE_ordinal := Fld.start ((fld_at ev_TRUE).symm.trans (own_eqI m3))
  have F_FALSE_ordinal := Fld.start ((fld_at ev_FALSE).symm.trans (own_eqI m5))
  obtain ⟨n, o, h1, h2, h3, _, L, rfl, ⟨rfl, N⟩, hq⟩ := rm0 l s _ hw tables_1 i0 i1 a_TRUE a_FALSE a_UNKNOWN s.heap s.heap.size (Nat.le_refl _) S_TRUE S_FALSE S_UNKNOWN E_TRUE E_FALSE E_UNKNOWN (F_TRUE_ordinal.ne F_FALSE_ordinal (by decide)) (F_TRUE_ordinal.ne F_UNKNOWN_ordinal (by decide)) (F_FALSE_ordinal.ne F_UNKNOWN_ordinal (by decide)) p e ha hc hk s m _ below hf ((Spec.applies_iff_loose hf).mp happ).1 ⟨rfl, State.Warmed39.refl s, rfl⟩ trivial
  refine ⟨n, _, h1, h2, h3, hpost _ _ _ _ _ _ ⟨Cond.after_iff.mpr rfl, Cond.after_iff.mpr (eq_i res_at (Term.int_eval (1)) rfl), trivial⟩ ⟨hq.1, hq.2.1, (hq.2.2.sift fun y hy => Or.inr (N y hy)).mono (by decide) (by decide)⟩⟩
theorem main_1_1 : Claimed_1_1 := comes_1 fun _ _ _ _ _ _ h hF => ⟨h.1, hF⟩
theorem main_1_2 : Claimed_1_2 := comes_1 fun _ _ _ _ _ _ h hF => ⟨h.2.1, hF⟩
end Jvm.Pilot.@@N@@
namespace Jvm.Pilot.@@N@@
open Jvm Jvm.ClassFile Sem Op Lib Jvm.Free Jvm.Stand Jvm.Pilot.@@N@@.Jvm.D
/-! MADE BY PROGRAM (witnessworld.py) out of the Statement's table words and the real class files: 12 classes; the members and pool entries that the words name. The judged class is class 1, her method 1. -/
namespace start1
open Jvm.ClassFile
def u (s : String) : CpInfo := .utf8 (stringToUtf16 s)
/-- a pool by its gaps: so many unusable entries, then the entry; so many at the end -/
def gap : Nat → List CpInfo → List CpInfo
  | 0, r => r
  | n + 1, r => .unusable :: gap n r
def poolList (es : List (Nat × CpInfo)) (last : Nat) : List CpInfo := es.foldr (fun e r => gap e.1 (e.2 :: r)) (gap last [])
def pool (es : List (Nat × CpInfo)) (last : Nat) : Array CpInfo := ⟨poolList es last⟩
def fileOf (pool : Array CpInfo) (this : Nat) (attrs : Array Attribute := #[]) (ms : Array MethodInfo := #[]) (fl : Nat := 33) (sup : Nat := 0) (ifs : Array Nat := #[]) (fds : Array FieldInfo := #[]) : ClassFile where
  minorVersion := 0
  majorVersion := 65
  constantPool := pool
  accessFlags := fl
  thisClass := this
  superClass := sup
  interfaces := ifs
  fields := fds
  methods := ms
  attributes := attrs
def plain (name : String) (sup : Option ClassId) : Class where
  name := name
  kind := .ordinary
  loader := none
  accessFlags := 33
  super := sup
  interfaces := #[]
  cf := none
  fields := #[]
  methods := #[]
  instanceTypes := #[]
  staticTypes := #[]
  resolved := #[]
  callSites := []
  init := .initialized
  statics := none
  mirror := none

def pool0 : Array CpInfo := pool [(5, u "<init>"), (0, u "()V"), (1, .class_ 10), (1, u "java/lang/Object")] 113

def k0m0 : Method := { name := "<init>", desc := "()V", sig := { parameters := [], returnType := none }, accessFlags := 1, code := none }
/-- java/lang/Object -/
def k0 : Class := { plain "java/lang/Object" none with
  accessFlags := 33
  interfaces := #[]
  cf := some (fileOf pool0 8 #[] #[{ accessFlags := 1, nameIndex := 5, descriptorIndex := 6, attributes := #[] }] 33 0 #[] #[])
  fields := #[]
  methods := #[k0m0]
  instanceTypes := #[]
  staticTypes := #[]
  resolved := Array.replicate 124 none
  statics := none }

def pool1 : Array CpInfo := pool [(2, .class_ 4), (1, u "java/lang/Object"), (0, u "<init>"), (0, u "()V"), (0, .integer 2147483647), (0, .fieldref 9 10), (0, .class_ 11), (0, .nameAndType 12 13), (0, u "com/example/libltl/libltl/KripkeStructure$Truth"), (0, u "TRUE"), (0, u "Lcom/example/libltl/libltl/KripkeStructure$Truth;"), (0, .fieldref 9 15), (0, .nameAndType 16 13), (0, u "FALSE"), (0, .fieldref 9 18), (0, .nameAndType 19 13), (0, u "UNKNOWN"), (0, .methodref 9 21), (0, .nameAndType 22 23), (0, u "holds"), (0, u "(Z)Z"), (0, .class_ 25), (0, u "com/example/libltl/libltl/TruthHoldsPinLaw"), (2, u "law"), (0, u "(II)Z")] 7

def k1m0 : Method := { name := "<init>", desc := "()V", sig := { parameters := [], returnType := none }, accessFlags := 1, code := none }
def k1c1 : Code := { maxStack := 2, maxLocals := 6, code := code, exceptionTable := #[], attributes := #[] }
def k1m1 : Method := { name := "law", desc := "(II)Z", sig := { parameters := [.int, .int], returnType := some .boolean }, accessFlags := 9, code := some k1c1 }
/-- com/example/libltl/libltl/TruthHoldsPinLaw -/
def k1 : Class := { plain "com/example/libltl/libltl/TruthHoldsPinLaw" (some 0) with
  accessFlags := 49
  interfaces := #[]
  cf := some (fileOf pool1 24 #[] #[{ accessFlags := 1, nameIndex := 5, descriptorIndex := 6, attributes := #[] }, { accessFlags := 9, nameIndex := 28, descriptorIndex := 29, attributes := #[] }] 49 2 #[] #[])
  fields := #[]
  methods := #[k1m0, k1m1]
  instanceTypes := #[]
  staticTypes := #[]
  resolved := Array.replicate 37 none
  statics := none }

def pool2 : Array CpInfo := pool [(1, .class_ 2), (0, u "java/lang/constant/Constable"), (0, .class_ 4), (0, u "java/lang/Object")] 6

/-- java/lang/constant/Constable -/
def k2 : Class := { plain "java/lang/constant/Constable" (some 0) with
  accessFlags := 1537
  interfaces := #[]
  cf := some (fileOf pool2 1 #[] #[] 1537 3 #[] #[])
  fields := #[]
  methods := #[]
  instanceTypes := #[]
  staticTypes := #[]
  resolved := Array.replicate 11 none
  statics := none }

def pool3 : Array CpInfo := pool [(1, .class_ 2), (0, u "java/lang/Comparable"), (0, .class_ 4), (0, u "java/lang/Object")] 7

/-- java/lang/Comparable -/
def k3 : Class := { plain "java/lang/Comparable" (some 0) with
  accessFlags := 1537
  interfaces := #[]
  cf := some (fileOf pool3 1 #[] #[] 1537 3 #[] #[])
  fields := #[]
  methods := #[]
  instanceTypes := #[]
  staticTypes := #[]
  resolved := Array.replicate 12 none
  statics := none }

def pool4 : Array CpInfo := pool [(1, .class_ 2), (0, u "java/io/Serializable"), (0, .class_ 4), (0, u "java/lang/Object")] 2

/-- java/io/Serializable -/
def k4 : Class := { plain "java/io/Serializable" (some 0) with
  accessFlags := 1537
  interfaces := #[]
  cf := some (fileOf pool4 1 #[] #[] 1537 3 #[] #[])
  fields := #[]
  methods := #[]
  instanceTypes := #[]
  staticTypes := #[]
  resolved := Array.replicate 7 none
  statics := none }

def pool5 : Array CpInfo := pool [(2, .class_ 4), (1, u "java/lang/Enum"), (0, u "name"), (0, u "Ljava/lang/String;"), (2, u "ordinal"), (0, u "I"), (1, .class_ 14), (1, u "java/lang/Object"), (4, u "hash"), (86, .class_ 108), (1, u "java/lang/Enum$EnumDesc"), (2, .class_ 112), (0, u "java/lang/constant/Constable"), (0, .class_ 114), (0, u "java/lang/Comparable"), (0, .class_ 116), (0, u "java/io/Serializable")] 87

/-- java/lang/Enum -/
def k5 : Class := { plain "java/lang/Enum" (some 0) with
  accessFlags := 1057
  interfaces := #[2, 3, 4]
  cf := some (fileOf pool5 2 #[.nestMembers #[106]] #[] 1057 12 #[111, 113, 115] #[{ accessFlags := 18, nameIndex := 5, descriptorIndex := 6, attributes := #[] }, { accessFlags := 18, nameIndex := 9, descriptorIndex := 10, attributes := #[] }, { accessFlags := 2, nameIndex := 19, descriptorIndex := 10, attributes := #[] }])
  fields := #[{ name := "name", type := (.object "java/lang/String"), accessFlags := 18, slot := 0, constantValue := 0 }, { name := "ordinal", type := .int, accessFlags := 18, slot := 1, constantValue := 0 }, { name := "hash", type := .int, accessFlags := 2, slot := 2, constantValue := 0 }]
  methods := #[]
  instanceTypes := #[(.object "java/lang/String"), .int, .int]
  staticTypes := #[]
  resolved := Array.replicate 204 none
  statics := none }

def pool6 : Array CpInfo := pool [(1, .class_ 2), (0, u "com/example/libltl/libltl/KripkeStructure$Truth"), (0, .fieldref 1 4), (0, .nameAndType 5 6), (0, u "TRUE"), (0, u "Lcom/example/libltl/libltl/KripkeStructure$Truth;"), (2, u "FALSE"), (0, .fieldref 1 11), (0, .nameAndType 12 6), (0, u "UNKNOWN"), (2, u "$VALUES"), (0, u "[Lcom/example/libltl/libltl/KripkeStructure$Truth;"), (6, .class_ 25), (1, u "java/lang/Enum"), (8, u "text"), (0, u "Ljava/lang/String;"), (35, u "holds"), (0, u "(Z)Z"), (8, .class_ 82), (0, u "com/example/libltl/libltl/KripkeStructure")] 2

def k6c0 : Code := { maxStack := 2, maxLocals := 2, code := prog_37_method_5_code, exceptionTable := #[], attributes := #[] }
def k6m0 : Method := { name := "holds", desc := "(Z)Z", sig := { parameters := [.boolean], returnType := some .boolean }, accessFlags := 0, code := some k6c0 }
/-- com/example/libltl/libltl/KripkeStructure$Truth -/
def k6 : Class := { plain "com/example/libltl/libltl/KripkeStructure$Truth" (some 5) with
  accessFlags := 16433
  interfaces := #[]
  cf := some (fileOf pool6 1 #[.nestHost 81] #[{ accessFlags := 0, nameIndex := 71, descriptorIndex := 72, attributes := #[] }] 16433 23 #[] #[{ accessFlags := 16409, nameIndex := 5, descriptorIndex := 6, attributes := #[] }, { accessFlags := 16409, nameIndex := 9, descriptorIndex := 6, attributes := #[] }, { accessFlags := 16409, nameIndex := 12, descriptorIndex := 6, attributes := #[] }, { accessFlags := 18, nameIndex := 34, descriptorIndex := 35, attributes := #[] }, { accessFlags := 4122, nameIndex := 15, descriptorIndex := 16, attributes := #[] }])
  fields := #[{ name := "TRUE", type := (.object "com/example/libltl/libltl/KripkeStructure$Truth"), accessFlags := 16409, slot := 0, constantValue := 0 }, { name := "FALSE", type := (.object "com/example/libltl/libltl/KripkeStructure$Truth"), accessFlags := 16409, slot := 1, constantValue := 0 }, { name := "UNKNOWN", type := (.object "com/example/libltl/libltl/KripkeStructure$Truth"), accessFlags := 16409, slot := 2, constantValue := 0 }, { name := "text", type := (.object "java/lang/String"), accessFlags := 18, slot := 3, constantValue := 0 }, { name := "$VALUES", type := (.array (.object "com/example/libltl/libltl/KripkeStructure$Truth")), accessFlags := 4122, slot := 3, constantValue := 0 }]
  methods := #[k6m0]
  instanceTypes := #[(.object "java/lang/String"), .int, .int, (.object "java/lang/String")]
  staticTypes := #[(.object "com/example/libltl/libltl/KripkeStructure$Truth"), (.object "com/example/libltl/libltl/KripkeStructure$Truth"), (.object "com/example/libltl/libltl/KripkeStructure$Truth"), (.array (.object "com/example/libltl/libltl/KripkeStructure$Truth"))]
  resolved := Array.replicate 85 none
  statics := some 0 }

def pool7 : Array CpInfo := pool [(1, u "java/lang/Cloneable"), (0, .class_ 1), (0, u "java/lang/Object"), (0, .class_ 3)] 3

/-- java/lang/Cloneable -/
def k7 : Class := { plain "java/lang/Cloneable" (some 0) with
  accessFlags := 1537
  interfaces := #[]
  cf := some (fileOf pool7 2 #[] #[] 1537 4 #[] #[])
  fields := #[]
  methods := #[]
  instanceTypes := #[]
  staticTypes := #[]
  resolved := Array.replicate 8 none
  statics := none }

/-- the primitive byte -/
def k8 : Class := { plain "byte" none with kind := .primitive 'B', accessFlags := 0x411 }
/-- [B -/
def k9 : Class := { plain "[B" (some 0) with kind := .array 8 .byte, interfaces := #[7, 4], accessFlags := 1041 }

/-- the primitive int -/
def k10 : Class := { plain "int" none with kind := .primitive 'I', accessFlags := 0x411 }
/-- [I -/
def k11 : Class := { plain "[I" (some 0) with kind := .array 10 .int, interfaces := #[7, 4], accessFlags := 1041 }

def heap : Heap := #[{ cls := 6, slots := #[.ref 1, .ref 2, .ref 3, .null], vm := .statics 6 },
  { cls := 6, slots := #[.null, .int 0, .int 0, .null], vm := .none },
  { cls := 6, slots := #[.null, .int 1, .int 0, .null], vm := .none },
  { cls := 6, slots := #[.null, .int 2, .int 0, .null], vm := .none }]
def classes : Array Class := #[k0, k1, k2, k3, k4, k5, k6, k7, k8, k9, k10, k11]
def interned : List (Array UInt16 × Addr) := []
def slotsUsed : Nat := 16
def theMethod : MethodId := ⟨1, 1⟩
def args0 : Array Value := #[.int 5, .int 1]
def aboutOver (below : List Frame) : State where
  vm := { classes := classes, interned := interned.toArray }
  heap := heap
  slotsUsed := slotsUsed
  threads := #[{ frames := .invoking theMethod args0 :: below }]
def below0 : List Frame := [.native { method := ⟨0, 0⟩, args := #[] }]
def about1 : State := aboutOver below0
def p0 : Program := .bare "" "" ""
def e0 : Env := launch0.env 0 0 0
theorem w_frames : about1.frames = Frame.invoking theMethod args0 :: below0 := rfl
set_option maxRecDepth 65536 in
theorem w_args : argsFit about1.vm theMethod args0 = true := by decide +kernel
set_option maxRecDepth 65536 in
theorem w_heap : heapFits about1 = true := by decide +kernel
set_option maxRecDepth 65536 in
theorem w_runnable : about1.curStatus? = some .runnable := by decide +kernel
set_option maxRecDepth 65536 in
theorem w_alone : about1.alone = true := by decide +kernel
set_option maxRecDepth 65536 in
theorem w_named : about1.methodNamed? x = some theMethod := by decide +kernel
set_option maxRecDepth 65536 in
theorem w_hears : about1.hears theMethod below0 = true := by decide +kernel
set_option maxRecDepth 65536 in
theorem w_ripe : about1.ripe theMethod args0 below0 = true := by decide +kernel
theorem w_running : about1.status = .running := rfl
set_option maxRecDepth 65536 in
theorem w_room : about1.hasRoom e0.platform room_1 = true :=
  launch0.hasRoom_least _ room_1 (by decide +kernel) (by decide +kernel) (by decide +kernel) (by decide +kernel) (by decide +kernel) (by decide +kernel)
theorem allAtoms_all (ts : List Jvm.Cond) (a : Array Jvm.Value) (st : Jvm.State) : (allAtoms ts).before a st = ts.all (fun c => c.before a st) := by
  induction ts with
  | nil => rfl
  | cons c t ih =>
    show (Jvm.Cond.and c (allAtoms t)).before a st = _
    rw [Jvm.Cond.before_and, ih, List.all_cons]
def words1 : List Jvm.Cond := Jvm.Cond.code x code maxLocals ret :: tables_1
/-- a 'code' word, met by the world's own term for the bytes: nothing is compared byte by byte -/
theorem code_word {y : MethodName} {bytes : ByteArray} {mx : Nat} {rt : Option FieldType} {a : Array Value} {s : State} {m : MethodId} {meth : Method} {c : Code} (h1 : s.methodNamed? y = some m) (h2 : s.vm.method? m = some meth) (h3 : meth.code = some c) (h4 : c.code = bytes)
    (h5 : (c.maxLocals == mx && c.exceptionTable.isEmpty && decide (c.maxStack ≤ mostOperands) && decide (meth.sig.returnType = rt) && !meth.locks && decide (parseMethodDescriptor y.desc = some meth.sig)) = true) : (Jvm.Cond.code y bytes mx rt).before a s = true := by
  simp only [Bool.and_eq_true, beq_iff_eq, Bool.not_eq_true', decide_eq_true_eq] at h5
  obtain ⟨⟨⟨⟨⟨g1, g2⟩, g3⟩, g4⟩, g5⟩, g6⟩ := h5
  simp [Cond.before, Cond.holds, Cond.value, h1, h2, h3, h4, g1, g2, g3, g4, g5, g6]
def isCode : Jvm.Cond → Bool
  | .code _ _ _ _ => true
  | _ => false
theorem all_split {L : List Jvm.Cond} {P : Jvm.Cond → Bool} (h1 : L.all (fun c => isCode c || P c) = true) (h2 : ∀ c ∈ L.filter isCode, P c = true) : L.all P = true := by
  refine List.all_eq_true.mpr fun c hc => ?_
  have h := List.all_eq_true.mp h1 c hc
  rcases Bool.eq_false_or_eq_true (isCode c) with hi | hi
  · exact h2 c (List.mem_filter.mpr ⟨hc, hi⟩)
  · simpa [hi] using h
set_option maxRecDepth 65536 in
theorem w_c0 : (Jvm.Cond.code x code maxLocals ret).before args0 about1 = true := code_word (m := ⟨1, 1⟩) (meth := k1m1) (c := k1c1) (by decide +kernel) rfl rfl rfl (by decide +kernel)
set_option maxRecDepth 65536 in
theorem w_c1 : (Jvm.Cond.code ({ cls := "com/example/libltl/libltl/KripkeStructure$Truth", name := "holds", desc := "(Z)Z" } : Jvm.MethodName) prog_37_method_5_code (2 : Nat) (Option.some Jvm.ClassFile.FieldType.boolean)).before args0 about1 = true := code_word (m := ⟨6, 0⟩) (meth := k6m0) (c := k6c0) (by decide +kernel) rfl rfl rfl (by decide +kernel)
def codes1 : List Jvm.Cond := [Jvm.Cond.code x code maxLocals ret, Jvm.Cond.code ({ cls := "com/example/libltl/libltl/KripkeStructure$Truth", name := "holds", desc := "(Z)Z" } : Jvm.MethodName) prog_37_method_5_code (2 : Nat) (Option.some Jvm.ClassFile.FieldType.boolean)]
set_option maxRecDepth 65536 in
theorem codes_eq : words1.filter isCode = codes1 := rfl
theorem w_codes : ∀ c ∈ words1.filter isCode, c.before args0 about1 = true := by
  rw [codes_eq]
  intro c hc
  simp only [codes1, List.mem_cons, List.not_mem_nil, or_false] at hc
  rcases hc with rfl | rfl
  · exact w_c0
  · exact w_c1
set_option maxRecDepth 65536 in
theorem w_t1 : words1.all (fun c => isCode c || c.before args0 about1) = true := by decide +kernel
theorem w_tables : (allAtoms (Jvm.Cond.code x code maxLocals ret :: tables_1)).before args0 about1 = true := by
  rw [allAtoms_all]
  show words1.all (fun c => c.before args0 about1) = true
  refine all_split ?_ w_codes
  rw [w_t1]
set_option maxRecDepth 65536 in
theorem w_case : (Jvm.Cond.and given_1 narrow_1).before args0 about1 = true := by decide +kernel
theorem w_applies : (headSpec (Jvm.Cond.code x code maxLocals ret :: tables_1) room_1).applies x e0.platform about1 = true :=
  (Spec.applies_iff w_frames).mpr ⟨w_running, w_runnable, w_alone, w_named, w_hears, w_ripe, w_room, w_tables⟩
theorem atStart : AtStart classFile x code maxLocals ret World_1 tables_1 room_1 Calls_1 rest_1 Pre_1 launch0 p0 e0 about1 theMethod args0 below0 :=
  ⟨lists_1, trivial, launch0.admits_env _ _ _, launch0.least_env, fairChoices_fair.cas, fairChoices_fair.clock, w_frames, w_args, w_heap, w_applies, trivial, trivial, w_case⟩
end start1
theorem witness_1 : WitnessClaimed_1 := ⟨start1.p0, start1.e0, start1.about1, start1.theMethod, start1.args0, start1.below0, start1.atStart⟩
end Jvm.Pilot.@@N@@
