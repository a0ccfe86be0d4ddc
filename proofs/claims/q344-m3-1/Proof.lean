import JvmDerived
import JvmDerived.Pilot.@@N@@Statement
import JvmDerived.Pilot.@@N@@Code
set_option linter.unusedVariables false
set_option linter.unusedSimpArgs false
namespace Jvm.RoadKit
open Sem ClassFile Op Lib Jvm.Stand Jvm.Free Jvm.LawKit
section New
variable {p : Program} {l : Launch} {e : Env} {R : Room} {s : State} {m : MethodId} {args : Array Value} {below : List Frame} {meth : Method} {c : Code} {T : State} {locs : List Loc} {cells slots : Nat}
theorem retI (X : Stand p l e R s m args below meth c T locs cells slots) (hx : p.tables.exec = Jvm.exec) {pc : Nat} {Ls : Array Slot} {z : Int32} {rest : List Value} (hret : meth.sig.returnType = some .int) (hd : decode c.code pc = .ok (.ireturn, 1)) {fs : List Frame}
    (hl : ∀ (f : JFrame) (acts : List Action), f.method = m → f.locked = none → f.entered = [] → (doReturn e (T.setTop f) acts (some (.int z))).1 = T.setFrames fs) : Steps p.tables e below (T.setTop (mkF m pc Ls (.int z :: rest))) (T.setFrames fs) :=
  retOut X hx hret rfl (Or.inl ⟨rfl, Or.inl rfl, z, rfl⟩) hd hl
end New
end Jvm.RoadKit
namespace Jvm.Pilot.@@N@@
open Jvm Jvm.ClassFile Sem Op Lib Jvm.Free Jvm.Stand Jvm.LawKit Jvm.RoadKit Bundle Jvm.Pilot.@@N@@.Jvm.D
def QL (n0 : Nat) (v : Option Value) (h : Heap) (L : List Loc) : Prop := v = some (.int 1) ∧ Fr n0 L
def QP (r : Option Value) (h0 : Heap) (n0 : Nat) (v : Option Value) (h : Heap) (L : List Loc) : Prop := v = r ∧ Fr n0 L ∧ h = h0
theorem own_eqI {args : Array Value} {first s : State} {o : Option Outcome} {idx : List Nat} {a : Term} {k : Int32} (h : (Cond.eq a (.int k)).value args first o s idx = some true) : a.eval args first o idx s = some (.int k) := by
  obtain ⟨x, y, h1, h2, h3, h4⟩ := cmp_v (Or.inl h)
  obtain rfl : Value.int k = y := Option.some.inj h2
  obtain ⟨z, rfl⟩ := h4
  have q : z = k := by simpa [Cond.value, h1, Term.eval] using h
  rw [h1, q]
def QV (Z : State) (aV aP : Addr) (kA : ClassId) (h0 : Heap) (n0 : Nat) (v : Option Value) (h : Heap) (L : List Loc) : Prop := ∃ b : Addr, v = some (.ref b) ∧ Fr n0 L ∧ Keep h0 h [] ∧ Arv Z h b kA (.object "com/example/sendlimitd/sendlimitd/core/UserLocker$Verdict") (2 : Int32) [(.ref aV), (.ref aP)] .null
theorem d2_0 : decode prog_55_method_1_code 0 = .ok (.getstatic 10, 3) := by decide +kernel
theorem d2_3 : decode prog_55_method_1_code 3 = .ok (.invokevirtual 14, 3) := by decide +kernel
theorem d2_6 : decode prog_55_method_1_code 6 = .ok (.checkcast 15, 3) := by decide +kernel
theorem d2_9 : decode prog_55_method_1_code 9 = .ok (.areturn, 1) := by decide +kernel
theorem pn_2 : plainName "com/example/sendlimitd/sendlimitd/core/UserLocker$Verdict" = true := by first | (simp [plainName, overriddenIn]; done) | decide +kernel
theorem ef_2 (m : MethodId)  : entryFrame m #[] 0 = mkF m 0 #[] [] := by first | (simp [entryFrame, mkF, argsToLocals, Value.category]; done) | rfl
set_option maxRecDepth 65536 in
set_option maxHeartbeats 40000000 in
theorem rm2 (l : Launch) (Z : State) (a0 : Array Value) (hw : ∀ d ∈ tables_1, d.before a0 Z = true) (ws : List Jvm.Cond) (aA : Addr) (aV : Addr) (aP : Addr) (kA : ClassId) (h0 : Heap) (n0 : Nat) (Z0 : n0 ≤ h0.size) (S_VALUES : Sta Z h0 "com/example/sendlimitd/sendlimitd/core/UserLocker$Verdict" "$VALUES" "[Lcom/example/sendlimitd/sendlimitd/core/UserLocker$Verdict;" (.ref aA)) (V_A : Arv Z h0 aA kA (.object "com/example/sendlimitd/sendlimitd/core/UserLocker$Verdict") (2 : Int32) [(.ref aV), (.ref aP)] .null) (E_A : Exa Z h0 aA "[Lcom/example/sendlimitd/sendlimitd/core/UserLocker$Verdict;") :
    MetFree l (⟨"com/example/sendlimitd/sendlimitd/core/UserLocker$Verdict", "values", "()[Lcom/example/sendlimitd/sendlimitd/core/UserLocker$Verdict;"⟩ : MethodName) (head1 (Jvm.Cond.code (⟨"com/example/sendlimitd/sendlimitd/core/UserLocker$Verdict", "values", "()[Lcom/example/sendlimitd/sendlimitd/core/UserLocker$Verdict;"⟩ : MethodName) prog_55_method_1_code 0 (some (.array (.object "com/example/sendlimitd/sendlimitd/core/UserLocker$Verdict"))) :: ws) ({ frames := 1, cells := 1, slots := 2, locals := 14 } : Room)) (fun a U => a = #[] ∧ Z.Warmed39 U.vm ∧ U.heap = h0) (fun _ _ _ _ _ => True) (fun _ U o U' => ∃ v L, o = .returned v ∧ QV Z aV aP kA h0 n0 v U'.heap L ∧ FrameEnd U o U' L 1 2) := by
  refine MetFree.of_bodySF (plainFor_of_name pn_2) hisR ?_
  intro p e s m args below meth c s₁ Bd hml0 hP hK
  obtain ⟨rfl, hZ, hh⟩ := hP
  have hx := Bd.exec
  have hby := Bd.bytes
  have hml : c.maxLocals = 0 := hml0
  have hown : s.vm.findClass "com/example/sendlimitd/sendlimitd/core/UserLocker$Verdict" = some m.cls := findClass_of_methodNamed Bd.named
  have hnm := (name_of_methodNamed Bd.named Bd.method).1
  have X0 : Stand p l e ({ frames := 1, cells := 1, slots := 2, locals := 14 } : Room) s m #[] below meth c s₁ [] 0 0 := Stand.of_body Bd
  have e0 : s₁.heap = h0 := by rw [← hh, Bd.state]; rfl
  have N0 := Fr.nil n0
  have pre0 : ∀ t, Steps p.tables e below (s₁.setTop (mkF m 0 #[] [])) t → Steps p.tables e below (s₁.setTop (entryFrame m #[] 0)) t := fun t k => castTop (ef_2 m ) k
  have K0 : Keep h0 h0 [] := Keep.refl h0 []
  obtain ⟨T1, X1, e1, st1⟩ := getS2 X0 hx hZ hown (host := "") (Or.inl (hw _ (List.mem_of_getElem? (i := 7) rfl))) Via.refl e0 S_VALUES (g := (mkF m 0 #[] [])) rfl (hb hby d2_0)
  obtain ⟨T2, h2, X2, e2, E2, V2, A2, st2⟩ := cloneH X1 hx hZ hown (hw _ (List.mem_of_getElem? (i := 9) rfl)) (hw _ (List.mem_of_getElem? (i := 10) rfl)) (hw _ (List.mem_of_getElem? (i := 14) rfl)) (hw _ (List.mem_of_getElem? (i := 12) rfl)) (hw _ (List.mem_of_getElem? (i := 13) rfl)) (hw _ (List.mem_of_getElem? (i := 15) rfl)) e1 V_A.arh E_A (g := (mkF m 3 #[] [(.ref aA)])) rfl (by rw [hml]; rfl) rfl (hb hby d2_3) (by decide) (W := 0) (by show 2 * 0 + _ ≤ _; exact Nat.le_of_eq rfl) (by decide) (cap := 2) (by decide) (by decide) (by decide)
  obtain ⟨b2, g2⟩ : ∃ z, z = h0.size := ⟨_, rfl⟩
  rw [← g2] at A2 V2 st2
  have g_b2 : n0 ≤ b2 := Nat.le_trans Z0 (Nat.le_of_eq g2.symm)
  have sz_b2 : h0.size ≤ b2 := Nat.le_trans K0.1 (Nat.le_of_eq g2.symm)
  have ne_aA_b2 : aA ≠ b2 := Nat.ne_of_lt (Nat.lt_of_lt_of_le V_A.lt (Nat.le_of_eq g2.symm))
  have S_VALUES_3 := S_VALUES.ext E2
  have V_A_4 := V_A.ext E2
  have E_A_5 := E_A.ext E2
  have K2 : Keep h0 h2 [] := K0.ext E2
  obtain ⟨T6, X6, e6, st6⟩ := castY X2 hx hZ hown (hw _ (List.mem_of_getElem? (i := 19) rfl)) e2 (Ins.self A2) (g := (mkF m 6 #[] [(.ref b2)])) rfl rfl (hb hby d2_6)
  obtain ⟨fs, hr, hrun, hended, hW, hsame⟩ := X6.leave (v := (some (.ref b2))) (fun h => by rw [Bd.returns] at h; cases h)
  refine ⟨_, _, pre0 _ ?_, hrun, hended, _, _, rfl, ?_, ⟨_, rfl⟩, hW, hsame.mono (by decide) (by decide)⟩
  · show Steps p.tables e below (s₁.setTop (mkF m 0 #[] [])) _
    refine st1 _ ?_
    show Steps p.tables e below (T1.setTop (mkF m 3 #[] [(.ref aA)])) _
    refine st2 _ ?_
    show Steps p.tables e below (T2.setTop (mkF m 6 #[] [(.ref b2)])) _
    refine st6 _ ?_
    show Steps p.tables e below (T6.setTop (mkF m 9 #[] [(.ref b2)])) _
    exact retOut X6 hx Bd.returns rfl (Or.inr (Or.inr (Or.inr (Or.inr ⟨rfl, rfl, rfl⟩)))) (hb hby d2_9) hr
  · show QV Z aV aP kA h0 n0 _ T6.heap _
    rw [e6]
    exact ⟨_, rfl, N0, K2, V2⟩
def own_of (u : Int32) (aV aP : Addr) : Addr := if (1 : Int32) = u then aV else aP
def QF (u : Int32) (aV aP : Addr) (h0 : Heap) (n0 : Nat) (v : Option Value) (h : Heap) (L : List Loc) : Prop := v = some (.ref (own_of u aV aP)) ∧ Fr n0 L ∧ Keep h0 h []
theorem d1_0 : decode prog_55_method_6_code 0 = .ok (.invokestatic 55, 3) := by decide +kernel
theorem d1_3 : decode prog_55_method_6_code 3 = .ok (.astore_n 1, 1) := by decide +kernel
theorem d1_4 : decode prog_55_method_6_code 4 = .ok (.aload_n 1, 1) := by decide +kernel
theorem d1_5 : decode prog_55_method_6_code 5 = .ok (.arraylength, 1) := by decide +kernel
theorem d1_6 : decode prog_55_method_6_code 6 = .ok (.istore_n 2, 1) := by decide +kernel
theorem d1_7 : decode prog_55_method_6_code 7 = .ok (.iconst 0, 1) := by decide +kernel
theorem d1_8 : decode prog_55_method_6_code 8 = .ok (.istore_n 3, 1) := by decide +kernel
theorem d1_9 : decode prog_55_method_6_code 9 = .ok (.iload_n 3, 1) := by decide +kernel
theorem d1_10 : decode prog_55_method_6_code 10 = .ok (.iload_n 2, 1) := by decide +kernel
theorem d1_11 : decode prog_55_method_6_code 11 = .ok (.if_icmp .ge 26, 3) := by decide +kernel
theorem d1_14 : decode prog_55_method_6_code 14 = .ok (.aload_n 1, 1) := by decide +kernel
theorem d1_15 : decode prog_55_method_6_code 15 = .ok (.iload_n 3, 1) := by decide +kernel
theorem d1_16 : decode prog_55_method_6_code 16 = .ok (.aaload, 1) := by decide +kernel
theorem d1_17 : decode prog_55_method_6_code 17 = .ok (.astore 4, 2) := by decide +kernel
theorem d1_19 : decode prog_55_method_6_code 19 = .ok (.aload 4, 2) := by decide +kernel
theorem d1_21 : decode prog_55_method_6_code 21 = .ok (.getfield 29, 3) := by decide +kernel
theorem d1_24 : decode prog_55_method_6_code 24 = .ok (.iload_n 0, 1) := by decide +kernel
theorem d1_25 : decode prog_55_method_6_code 25 = .ok (.if_icmp .ne 6, 3) := by decide +kernel
theorem d1_28 : decode prog_55_method_6_code 28 = .ok (.aload 4, 2) := by decide +kernel
theorem d1_30 : decode prog_55_method_6_code 30 = .ok (.areturn, 1) := by decide +kernel
theorem d1_31 : decode prog_55_method_6_code 31 = .ok (.iinc 3 1, 3) := by decide +kernel
theorem d1_34 : decode prog_55_method_6_code 34 = .ok (.goto (-25), 3) := by decide +kernel
theorem pn_1 : plainName "com/example/sendlimitd/sendlimitd/core/UserLocker$Verdict" = true := by first | (simp [plainName, overriddenIn]; done) | decide +kernel
theorem ef_1 (m : MethodId) (x0 : Int32) : entryFrame m #[(.int x0)] 5 = mkF m 0 #[.val (.int x0), .unset, .unset, .unset, .unset] [] := by first | (simp [entryFrame, mkF, argsToLocals, Value.category]; done) | rfl
theorem pd_0 : parseMethodDescriptor "()[Lcom/example/sendlimitd/sendlimitd/core/UserLocker$Verdict;" = some ⟨[], some (.array (.object "com/example/sendlimitd/sendlimitd/core/UserLocker$Verdict"))⟩ := by decide +kernel
set_option maxRecDepth 65536 in
set_option maxHeartbeats 40000000 in
theorem rm1 (l : Launch) (Z : State) (a0 : Array Value) (hw : ∀ d ∈ tables_1, d.before a0 Z = true) (ws : List Jvm.Cond) (u0 : Int32) (aA : Addr) (aV : Addr) (aP : Addr) (kA : ClassId) (h0 : Heap) (n0 : Nat) (Z0 : n0 ≤ h0.size) (S_VALUES : Sta Z h0 "com/example/sendlimitd/sendlimitd/core/UserLocker$Verdict" "$VALUES" "[Lcom/example/sendlimitd/sendlimitd/core/UserLocker$Verdict;" (.ref aA)) (V_A : Arv Z h0 aA kA (.object "com/example/sendlimitd/sendlimitd/core/UserLocker$Verdict") (2 : Int32) [(.ref aV), (.ref aP)] .null) (E_A : Exa Z h0 aA "[Lcom/example/sendlimitd/sendlimitd/core/UserLocker$Verdict;") (F_VIRUS : Fld Z h0 aV "com/example/sendlimitd/sendlimitd/core/UserLocker$Verdict" "code" "I" (.int (1 : Int32))) (F_PHISHING : Fld Z h0 aP "com/example/sendlimitd/sendlimitd/core/UserLocker$Verdict" "code" "I" (.int (2 : Int32))) (hu : u0 = 1 ∨ u0 = 2) :
    MetFree l (⟨"com/example/sendlimitd/sendlimitd/core/UserLocker$Verdict", "ofCode", "(I)Lcom/example/sendlimitd/sendlimitd/core/UserLocker$Verdict;"⟩ : MethodName) (head1 (Jvm.Cond.code (⟨"com/example/sendlimitd/sendlimitd/core/UserLocker$Verdict", "ofCode", "(I)Lcom/example/sendlimitd/sendlimitd/core/UserLocker$Verdict;"⟩ : MethodName) prog_55_method_6_code 5 (some (.object "com/example/sendlimitd/sendlimitd/core/UserLocker$Verdict")) :: ws) ({ frames := 2, cells := 1, slots := 2, locals := 25 } : Room)) (fun a U => a = #[(.int u0)] ∧ Z.Warmed39 U.vm ∧ U.heap = h0) (fun _ _ _ _ _ => True) (fun _ U o U' => ∃ v L, o = .returned v ∧ QF u0 aV aP h0 n0 v U'.heap L ∧ FrameEnd U o U' L 1 2) := by
  refine MetFree.of_bodySF (plainFor_of_name pn_1) hisR ?_
  intro p e s m args below meth c s₁ Bd hml0 hP hK
  obtain ⟨rfl, hZ, hh⟩ := hP
  have hx := Bd.exec
  have hby := Bd.bytes
  have hml : c.maxLocals = 5 := hml0
  have hown : s.vm.findClass "com/example/sendlimitd/sendlimitd/core/UserLocker$Verdict" = some m.cls := findClass_of_methodNamed Bd.named
  have hnm := (name_of_methodNamed Bd.named Bd.method).1
  have X0 : Stand p l e ({ frames := 2, cells := 1, slots := 2, locals := 25 } : Room) s m #[(.int u0)] below meth c s₁ [] 0 0 := Stand.of_body Bd
  have e0 : s₁.heap = h0 := by rw [← hh, Bd.state]; rfl
  have N0 := Fr.nil n0
  have pre0 : ∀ t, Steps p.tables e below (s₁.setTop (mkF m 0 #[.val (.int u0), .unset, .unset, .unset, .unset] [])) t → Steps p.tables e below (s₁.setTop (entryFrame m #[(.int u0)] 5)) t := fun t k => castTop (ef_1 m u0) k
  have K0 : Keep h0 h0 [] := Keep.refl h0 []
  obtain ⟨_, _, ⟨T1, L1, k1, n1⟩, -, X1, ⟨Lc1, hQ1, l1, y1, z1⟩, st1⟩ := Jvm.LawKit.callS X0 hx (y := (⟨"com/example/sendlimitd/sendlimitd/core/UserLocker$Verdict", "values", "()[Lcom/example/sendlimitd/sendlimitd/core/UserLocker$Verdict;"⟩ : MethodName)) hown (mvT hZ (hw _ (List.mem_of_getElem? (i := 4) rfl))) (mvT hZ (hw _ (List.mem_of_getElem? (i := 5) rfl))) (mvT hZ (hw _ (List.mem_of_getElem? (i := 2) rfl))) (mvT hZ (hw _ (List.mem_of_getElem? (i := 6) rfl))) (by decide) (backOf (W := 0) (rm2 l Z a0 hw []  aA aV aP kA h0 n0 Z0 S_VALUES V_A E_A) hZ (hw _ (List.mem_of_getElem? (i := 6) rfl)) (hw _ (List.mem_of_getElem? (i := 2) rfl)) (by decide) (by decide)) (g := (mkF m 0 #[.val (.int u0), .unset, .unset, .unset, .unset] [])) rfl (by rw [hml]; rfl) (argsL := []) (rest := []) (lenOf pd_0 rfl) rfl (by show 2 * 0 + _ ≤ _; exact Nat.le_of_eq rfl) (hb hby d1_0) (fun _ _ => ⟨rfl, e0, (by decide : 0 + 1 ≤ _), (by decide : 0 + 2 ≤ _)⟩)
  dsimp only [Pt.U, Pt.locs, Pt.cells, Pt.slots] at X1 l1 y1 z1 st1 hQ1
  subst l1 y1 z1
  obtain ⟨b1, rfl, N1q, K1q, V_b1⟩ := hQ1
  have N1 := Fr.app N0 N1q
  have K1 : Keep h0 T1.heap [] := K0.trans K1q all0
  have V_A_2 := V_A.keep K1q nin0
  have E_A_3 := E_A.keep K1q
  have F_VIRUS_4 := F_VIRUS.keep K1q nin0
  have F_PHISHING_5 := F_PHISHING.keep K1q nin0
  obtain ⟨c6, Ar6, -, S6, N6n, -, -⟩ := id V_b1
  obtain ⟨c7, Ar7, q7, S7, N7n, H7, G7⟩ := id V_b1
  have hin7 : ¬ ((0 : Int32) < 0 ∨ c7.slots.size ≤ ((0 : Int32)).toNatClampNeg) := inb_of S7 ⟨by decide, by decide⟩
  have hat7 : c7.slots[((0 : Int32)).toNatClampNeg]? = some (.ref aV) := H7.at hin7 rfl
  obtain ⟨T8, X8, e8, st8⟩ := getF X1 hx hZ hown (host := "") (Or.inl (hw _ (List.mem_of_getElem? (i := 21) rfl))) Via.refl rfl F_VIRUS_4 (g := (mkF m 21 #[.val (.int u0), .val (.ref b1), .val (.int (2 : Int32)), .val (.int (0 : Int32)), .val (.ref aV)] [(.ref aV)])) rfl rfl (hb hby d1_21)
  have pre9 : ∀ t, Steps p.tables e below (T8.setTop (mkF m 25 #[.val (.int u0), .val (.ref b1), .val (.int (2 : Int32)), .val (.int (0 : Int32)), .val (.ref aV)] [(.int u0), (.int (1 : Int32))])) t → Steps p.tables e below (s₁.setTop (entryFrame m #[(.int u0)] 5)) t := fun t k => pre0 t (by
    show Steps p.tables e below (s₁.setTop (mkF m 0 #[.val (.int u0), .unset, .unset, .unset, .unset] [])) _
    refine st1 _ ?_
    show Steps p.tables e below (T1.setTop (mkF m 3 #[.val (.int u0), .unset, .unset, .unset, .unset] [(.ref b1)])) _
    refine XS.astoreN X1.here hx rfl (hb hby d1_3) rfl rfl (l' := #[.val (.int u0), .val (.ref b1), .unset, .unset, .unset]) rfl ?_
    show Steps p.tables e below (T1.setTop (mkF m 4 #[.val (.int u0), .val (.ref b1), .unset, .unset, .unset] [])) _
    refine XS.aloadN X1.here hx rfl (hb hby d1_4) rfl rfl ?_
    show Steps p.tables e below (T1.setTop (mkF m 5 #[.val (.int u0), .val (.ref b1), .unset, .unset, .unset] [(.ref b1)])) _
    refine X1.arraylength hx Ar6.1 (State.isArrayOf_alike hZ.alike Ar6.2.1) (g := (mkF m 5 #[.val (.int u0), .val (.ref b1), .unset, .unset, .unset] [(.ref b1)])) rfl rfl (hb hby d1_5) _ ?_
    rw [len_of S6 N6n]
    show Steps p.tables e below (T1.setTop (mkF m 6 #[.val (.int u0), .val (.ref b1), .unset, .unset, .unset] [(.int (2 : Int32))])) _
    refine XS.istoreN X1.here hx rfl (hb hby d1_6) rfl (l' := #[.val (.int u0), .val (.ref b1), .val (.int (2 : Int32)), .unset, .unset]) rfl ?_
    show Steps p.tables e below (T1.setTop (mkF m 7 #[.val (.int u0), .val (.ref b1), .val (.int (2 : Int32)), .unset, .unset] [])) _
    refine XS.iconst X1.here hx rfl (hb hby d1_7) ?_
    show Steps p.tables e below (T1.setTop (mkF m 8 #[.val (.int u0), .val (.ref b1), .val (.int (2 : Int32)), .unset, .unset] [(.int (0 : Int32))])) _
    refine XS.istoreN X1.here hx rfl (hb hby d1_8) rfl (l' := #[.val (.int u0), .val (.ref b1), .val (.int (2 : Int32)), .val (.int (0 : Int32)), .unset]) rfl ?_
    show Steps p.tables e below (T1.setTop (mkF m 9 #[.val (.int u0), .val (.ref b1), .val (.int (2 : Int32)), .val (.int (0 : Int32)), .unset] [])) _
    refine XS.iloadN X1.here hx rfl (hb hby d1_9) rfl ?_
    show Steps p.tables e below (T1.setTop (mkF m 10 #[.val (.int u0), .val (.ref b1), .val (.int (2 : Int32)), .val (.int (0 : Int32)), .unset] [(.int (0 : Int32))])) _
    refine XS.iloadN X1.here hx rfl (hb hby d1_10) rfl ?_
    show Steps p.tables e below (T1.setTop (mkF m 11 #[.val (.int u0), .val (.ref b1), .val (.int (2 : Int32)), .val (.int (0 : Int32)), .unset] [(.int (2 : Int32)), (.int (0 : Int32))])) _
    refine XS.icmpNo X1.here hx rfl (hb hby d1_11) rfl (tlt (by decide)).2.1 ?_
    show Steps p.tables e below (T1.setTop (mkF m 14 #[.val (.int u0), .val (.ref b1), .val (.int (2 : Int32)), .val (.int (0 : Int32)), .unset] [])) _
    refine XS.aloadN X1.here hx rfl (hb hby d1_14) rfl rfl ?_
    show Steps p.tables e below (T1.setTop (mkF m 15 #[.val (.int u0), .val (.ref b1), .val (.int (2 : Int32)), .val (.int (0 : Int32)), .unset] [(.ref b1)])) _
    refine XS.iloadN X1.here hx rfl (hb hby d1_15) rfl ?_
    show Steps p.tables e below (T1.setTop (mkF m 16 #[.val (.int u0), .val (.ref b1), .val (.int (2 : Int32)), .val (.int (0 : Int32)), .unset] [(.int (0 : Int32)), (.ref b1)])) _
    refine X1.aaload hx (j := (0 : Int32)) (v := (.ref aV)) Ar7.1 (State.isArrayOf_alike hZ.alike Ar7.2.1) rfl Ar7.2.2 hin7 hat7 (g := (mkF m 16 #[.val (.int u0), .val (.ref b1), .val (.int (2 : Int32)), .val (.int (0 : Int32)), .unset] [(.int (0 : Int32)), (.ref b1)])) rfl rfl (hb hby d1_16) _ ?_
    show Steps p.tables e below (T1.setTop (mkF m 17 #[.val (.int u0), .val (.ref b1), .val (.int (2 : Int32)), .val (.int (0 : Int32)), .unset] [(.ref aV)])) _
    refine XS.astore X1.here hx rfl (hb hby d1_17) rfl rfl (l' := #[.val (.int u0), .val (.ref b1), .val (.int (2 : Int32)), .val (.int (0 : Int32)), .val (.ref aV)]) rfl ?_
    show Steps p.tables e below (T1.setTop (mkF m 19 #[.val (.int u0), .val (.ref b1), .val (.int (2 : Int32)), .val (.int (0 : Int32)), .val (.ref aV)] [])) _
    refine XS.aload X1.here hx rfl (hb hby d1_19) rfl rfl ?_
    show Steps p.tables e below (T1.setTop (mkF m 21 #[.val (.int u0), .val (.ref b1), .val (.int (2 : Int32)), .val (.int (0 : Int32)), .val (.ref aV)] [(.ref aV)])) _
    refine st8 _ ?_
    show Steps p.tables e below (T8.setTop (mkF m 24 #[.val (.int u0), .val (.ref b1), .val (.int (2 : Int32)), .val (.int (0 : Int32)), .val (.ref aV)] [(.int (1 : Int32))])) _
    refine XS.iloadN X8.here hx rfl (hb hby d1_24) rfl ?_
    exact k)
  by_cases hc25 : (1 : Int32) = u0
  · -- pc 25: (1 : Int32) = u0
    obtain ⟨fs, hr, hrun, hended, hW, hsame⟩ := X8.leave (v := (some (.ref aV))) (fun h => by rw [Bd.returns] at h; cases h)
    refine ⟨_, _, pre9 _ ?_, hrun, hended, _, _, rfl, ?_, ⟨_, rfl⟩, hW, hsame.mono (by decide) (by decide)⟩
    · show Steps p.tables e below (T8.setTop (mkF m 25 #[.val (.int u0), .val (.ref b1), .val (.int (2 : Int32)), .val (.int (0 : Int32)), .val (.ref aV)] [(.int u0), (.int (1 : Int32))])) _
      refine XS.icmpNo X8.here hx rfl (hb hby d1_25) rfl (teq hc25).2 ?_
      show Steps p.tables e below (T8.setTop (mkF m 28 #[.val (.int u0), .val (.ref b1), .val (.int (2 : Int32)), .val (.int (0 : Int32)), .val (.ref aV)] [])) _
      refine XS.aload X8.here hx rfl (hb hby d1_28) rfl rfl ?_
      show Steps p.tables e below (T8.setTop (mkF m 30 #[.val (.int u0), .val (.ref b1), .val (.int (2 : Int32)), .val (.int (0 : Int32)), .val (.ref aV)] [(.ref aV)])) _
      exact retOut X8 hx Bd.returns rfl (Or.inr (Or.inr (Or.inr (Or.inr ⟨rfl, rfl, rfl⟩)))) (hb hby d1_30) hr
    · show QF u0 aV aP h0 n0 _ T8.heap _
      rw [e8]
      exact ⟨congrArg (fun z => some (Value.ref z)) (Eq.symm (show own_of u0 aV aP = aV from (if_pos hc25))), N1, K1⟩
  · -- pc 25: not (1 : Int32) = u0
    obtain ⟨c10, Ar10, q10, S10, N10n, H10, G10⟩ := id V_b1
    have hin10 : ¬ (((0 : Int32) + (1 : Int32)) < 0 ∨ c10.slots.size ≤ (((0 : Int32) + (1 : Int32))).toNatClampNeg) := inb_of S10 ⟨by decide, by decide⟩
    have hat10 : c10.slots[(((0 : Int32) + (1 : Int32))).toNatClampNeg]? = some (.ref aP) := H10.at hin10 rfl
    obtain ⟨T11, X11, e11, st11⟩ := getF X8 hx hZ hown (host := "") (Or.inl (hw _ (List.mem_of_getElem? (i := 21) rfl))) Via.refl e8 F_PHISHING_5 (g := (mkF m 21 #[.val (.int u0), .val (.ref b1), .val (.int (2 : Int32)), .val (.int ((0 : Int32) + (1 : Int32))), .val (.ref aP)] [(.ref aP)])) rfl rfl (hb hby d1_21)
    obtain ⟨fs, hr, hrun, hended, hW, hsame⟩ := X11.leave (v := (some (.ref aP))) (fun h => by rw [Bd.returns] at h; cases h)
    refine ⟨_, _, pre9 _ ?_, hrun, hended, _, _, rfl, ?_, ⟨_, rfl⟩, hW, hsame.mono (by decide) (by decide)⟩
    · show Steps p.tables e below (T8.setTop (mkF m 25 #[.val (.int u0), .val (.ref b1), .val (.int (2 : Int32)), .val (.int (0 : Int32)), .val (.ref aV)] [(.int u0), (.int (1 : Int32))])) _
      refine XS.icmpYes X8.here hx rfl (pc0 := 25) (pc' := 31) rfl (hb hby d1_25) rfl (feq hc25).2 (by decide) (by decide) ?_
      show Steps p.tables e below (T8.setTop (mkF m 31 #[.val (.int u0), .val (.ref b1), .val (.int (2 : Int32)), .val (.int (0 : Int32)), .val (.ref aV)] [])) _
      refine XS.iinc X8.here hx rfl (hb hby d1_31) rfl (l' := #[.val (.int u0), .val (.ref b1), .val (.int (2 : Int32)), .val (.int ((0 : Int32) + (1 : Int32))), .val (.ref aV)]) rfl ?_
      show Steps p.tables e below (T8.setTop (mkF m 34 #[.val (.int u0), .val (.ref b1), .val (.int (2 : Int32)), .val (.int ((0 : Int32) + (1 : Int32))), .val (.ref aV)] [])) _
      refine XS.goto X8.here hx rfl (pc0 := 34) (pc' := 9) rfl (hb hby d1_34) (by decide) (by decide) ?_
      show Steps p.tables e below (T8.setTop (mkF m 9 #[.val (.int u0), .val (.ref b1), .val (.int (2 : Int32)), .val (.int ((0 : Int32) + (1 : Int32))), .val (.ref aV)] [])) _
      refine XS.iloadN X8.here hx rfl (hb hby d1_9) rfl ?_
      show Steps p.tables e below (T8.setTop (mkF m 10 #[.val (.int u0), .val (.ref b1), .val (.int (2 : Int32)), .val (.int ((0 : Int32) + (1 : Int32))), .val (.ref aV)] [(.int ((0 : Int32) + (1 : Int32)))])) _
      refine XS.iloadN X8.here hx rfl (hb hby d1_10) rfl ?_
      show Steps p.tables e below (T8.setTop (mkF m 11 #[.val (.int u0), .val (.ref b1), .val (.int (2 : Int32)), .val (.int ((0 : Int32) + (1 : Int32))), .val (.ref aV)] [(.int (2 : Int32)), (.int ((0 : Int32) + (1 : Int32)))])) _
      refine XS.icmpNo X8.here hx rfl (hb hby d1_11) rfl (tlt (by decide)).2.1 ?_
      show Steps p.tables e below (T8.setTop (mkF m 14 #[.val (.int u0), .val (.ref b1), .val (.int (2 : Int32)), .val (.int ((0 : Int32) + (1 : Int32))), .val (.ref aV)] [])) _
      refine XS.aloadN X8.here hx rfl (hb hby d1_14) rfl rfl ?_
      show Steps p.tables e below (T8.setTop (mkF m 15 #[.val (.int u0), .val (.ref b1), .val (.int (2 : Int32)), .val (.int ((0 : Int32) + (1 : Int32))), .val (.ref aV)] [(.ref b1)])) _
      refine XS.iloadN X8.here hx rfl (hb hby d1_15) rfl ?_
      show Steps p.tables e below (T8.setTop (mkF m 16 #[.val (.int u0), .val (.ref b1), .val (.int (2 : Int32)), .val (.int ((0 : Int32) + (1 : Int32))), .val (.ref aV)] [(.int ((0 : Int32) + (1 : Int32))), (.ref b1)])) _
      refine X8.aaload hx (j := ((0 : Int32) + (1 : Int32))) (v := (.ref aP)) (by rw [e8]; exact Ar10.1) (State.isArrayOf_alike hZ.alike Ar10.2.1) rfl Ar10.2.2 hin10 hat10 (g := (mkF m 16 #[.val (.int u0), .val (.ref b1), .val (.int (2 : Int32)), .val (.int ((0 : Int32) + (1 : Int32))), .val (.ref aV)] [(.int ((0 : Int32) + (1 : Int32))), (.ref b1)])) rfl rfl (hb hby d1_16) _ ?_
      show Steps p.tables e below (T8.setTop (mkF m 17 #[.val (.int u0), .val (.ref b1), .val (.int (2 : Int32)), .val (.int ((0 : Int32) + (1 : Int32))), .val (.ref aV)] [(.ref aP)])) _
      refine XS.astore X8.here hx rfl (hb hby d1_17) rfl rfl (l' := #[.val (.int u0), .val (.ref b1), .val (.int (2 : Int32)), .val (.int ((0 : Int32) + (1 : Int32))), .val (.ref aP)]) rfl ?_
      show Steps p.tables e below (T8.setTop (mkF m 19 #[.val (.int u0), .val (.ref b1), .val (.int (2 : Int32)), .val (.int ((0 : Int32) + (1 : Int32))), .val (.ref aP)] [])) _
      refine XS.aload X8.here hx rfl (hb hby d1_19) rfl rfl ?_
      show Steps p.tables e below (T8.setTop (mkF m 21 #[.val (.int u0), .val (.ref b1), .val (.int (2 : Int32)), .val (.int ((0 : Int32) + (1 : Int32))), .val (.ref aP)] [(.ref aP)])) _
      refine st11 _ ?_
      show Steps p.tables e below (T11.setTop (mkF m 24 #[.val (.int u0), .val (.ref b1), .val (.int (2 : Int32)), .val (.int ((0 : Int32) + (1 : Int32))), .val (.ref aP)] [(.int (2 : Int32))])) _
      refine XS.iloadN X11.here hx rfl (hb hby d1_24) rfl ?_
      show Steps p.tables e below (T11.setTop (mkF m 25 #[.val (.int u0), .val (.ref b1), .val (.int (2 : Int32)), .val (.int ((0 : Int32) + (1 : Int32))), .val (.ref aP)] [(.int u0), (.int (2 : Int32))])) _
      refine XS.icmpNo X11.here hx rfl (hb hby d1_25) rfl (teq (hu.resolve_left fun h => hc25 h.symm).symm).2 ?_
      show Steps p.tables e below (T11.setTop (mkF m 28 #[.val (.int u0), .val (.ref b1), .val (.int (2 : Int32)), .val (.int ((0 : Int32) + (1 : Int32))), .val (.ref aP)] [])) _
      refine XS.aload X11.here hx rfl (hb hby d1_28) rfl rfl ?_
      show Steps p.tables e below (T11.setTop (mkF m 30 #[.val (.int u0), .val (.ref b1), .val (.int (2 : Int32)), .val (.int ((0 : Int32) + (1 : Int32))), .val (.ref aP)] [(.ref aP)])) _
      exact retOut X11 hx Bd.returns rfl (Or.inr (Or.inr (Or.inr (Or.inr ⟨rfl, rfl, rfl⟩)))) (hb hby d1_30) hr
    · show QF u0 aV aP h0 n0 _ T11.heap _
      rw [e11]
      exact ⟨congrArg (fun z => some (Value.ref z)) (Eq.symm (show own_of u0 aV aP = aP from (if_neg hc25))), N1, K1⟩
theorem own_12 (x : Int32) : (1 : Int32) + (x &&& 1) = 1 ∨ (1 : Int32) + (x &&& 1) = 2 := by
  rcases and_one x with h | h <;> rw [h]
  · exact Or.inl rfl
  · exact Or.inr rfl
theorem own_eqR {args : Array Value} {first s : State} {o : Option Outcome} {idx : List Nat} {a b : Term} {r : Addr} (h : (Cond.eq a b).value args first o s idx = some true) (hb : b.eval args first o idx s = some (.ref r)) : a.eval args first o idx s = some (.ref r) := by
  obtain ⟨x, y, h1, h2, h3, h4⟩ := cmp_v (Or.inl h)
  obtain rfl : y = Value.ref r := Option.some.inj (h2.symm.trans hb)
  have hx : x.isRef = true := h4.2
  have q := gotT (eq_R h1 h2 hx rfl) h
  rw [h1, q]
theorem own_len {args : Array Value} {s : State} {t : Term} {a : Addr} {cl : Cell} {n : Int32} (ht : t.eval args s none [] s = some (.ref a)) (hc : s.heap[a]? = some cl) (h : (Term.length t).eval args s none [] s = some (.int n)) : cl.slots.size < 2 ^ 31 ∧ cl.slots.size.toInt32 = n := by
  obtain ⟨a', cell, e1, e2, e3⟩ := Term.length_spec h
  obtain rfl : a' = a := Value.ref.inj (Option.some.inj (e1.symm.trans ht))
  have e4 : cell = cl := by
    have e5 := e2
    simp only [State.arrayAt?, hc, Option.bind_eq_bind, Option.bind_some, Option.bind_eq_some_iff] at e5
    obtain ⟨k, -, e5⟩ := e5
    split at e5
    · cases e5
    · split at e5
      · exact (Option.some.inj e5).symm
      · cases e5
  subst e4
  refine ⟨?_, (Value.int.inj e3).symm⟩
  by_cases hs : cell.slots.size < 2 ^ 31
  · exact hs
  · simp [Term.eval, ht, e2, hs] at h
theorem pn_0 : plainName "com/example/sendlimitd/sendlimitd/core/VerdictOfCodePinLaw" = true := by first | (simp [plainName, overriddenIn]; done) | decide +kernel
theorem ef_0 (m : MethodId) (x0 : Int32) : entryFrame m #[(.int x0)] maxLocals = mkF m 0 #[.val (.int x0), .unset, .unset] [] := by first | (simp [entryFrame, mkF, argsToLocals, Value.category, maxLocals]; done) | rfl
theorem pd_1 : parseMethodDescriptor "(I)Lcom/example/sendlimitd/sendlimitd/core/UserLocker$Verdict;" = some ⟨[.int], some (.object "com/example/sendlimitd/sendlimitd/core/UserLocker$Verdict")⟩ := by decide +kernel
set_option maxRecDepth 65536 in
set_option maxHeartbeats 40000000 in
theorem rm0 (l : Launch) (Z : State) (a0 : Array Value) (hw : ∀ d ∈ tables_1, d.before a0 Z = true) (ws : List Jvm.Cond) (u0 : Int32) (aA : Addr) (aV : Addr) (aP : Addr) (kA : ClassId) (h0 : Heap) (n0 : Nat) (Z0 : n0 ≤ h0.size) (S_VALUES : Sta Z h0 "com/example/sendlimitd/sendlimitd/core/UserLocker$Verdict" "$VALUES" "[Lcom/example/sendlimitd/sendlimitd/core/UserLocker$Verdict;" (.ref aA)) (V_A : Arv Z h0 aA kA (.object "com/example/sendlimitd/sendlimitd/core/UserLocker$Verdict") (2 : Int32) [(.ref aV), (.ref aP)] .null) (E_A : Exa Z h0 aA "[Lcom/example/sendlimitd/sendlimitd/core/UserLocker$Verdict;") (F_VIRUS : Fld Z h0 aV "com/example/sendlimitd/sendlimitd/core/UserLocker$Verdict" "code" "I" (.int (1 : Int32))) (F_PHISHING : Fld Z h0 aP "com/example/sendlimitd/sendlimitd/core/UserLocker$Verdict" "code" "I" (.int (2 : Int32))) (S_VIRUS : Sta Z Z.heap "com/example/sendlimitd/sendlimitd/core/UserLocker$Verdict" "VIRUS" "Lcom/example/sendlimitd/sendlimitd/core/UserLocker$Verdict;" (.ref aV)) (S_PHISHING : Sta Z Z.heap "com/example/sendlimitd/sendlimitd/core/UserLocker$Verdict" "PHISHING" "Lcom/example/sendlimitd/sendlimitd/core/UserLocker$Verdict;" (.ref aP)) (O0 : Old Z n0 h0) :
    MetFree l x (head1 (Jvm.Cond.code x code maxLocals ret :: ws) room_1) (fun a U => a = #[(.int u0)] ∧ Z.Warmed39 U.vm ∧ U.heap = h0) (fun _ _ _ _ _ => True) (fun _ U o U' => ∃ v L, o = .returned v ∧ QL n0 v U'.heap L ∧ FrameEnd U o U' L 1 2) := by
  refine MetFree.of_bodySF (plainFor_of_name pn_0) hisR ?_
  intro p e s m args below meth c s₁ Bd hml0 hP hK
  obtain ⟨rfl, hZ, hh⟩ := hP
  have hx := Bd.exec
  have hby := Bd.bytes
  have hml : c.maxLocals = 3 := hml0
  have hown : s.vm.findClass "com/example/sendlimitd/sendlimitd/core/VerdictOfCodePinLaw" = some m.cls := findClass_of_methodNamed Bd.named
  have hnm := (name_of_methodNamed Bd.named Bd.method).1
  have X0 : Stand p l e room_1 s m #[(.int u0)] below meth c s₁ [] 0 0 := Stand.of_body Bd
  have e0 : s₁.heap = h0 := by rw [← hh, Bd.state]; rfl
  have N0 := Fr.nil n0
  have pre0 : ∀ t, Steps p.tables e below (s₁.setTop (mkF m 0 #[.val (.int u0), .unset, .unset] [])) t → Steps p.tables e below (s₁.setTop (entryFrame m #[(.int u0)] maxLocals)) t := fun t k => castTop (ef_0 m u0) k
  have K0 : Keep h0 h0 [] := Keep.refl h0 []
  obtain ⟨_, _, ⟨T1, L1, k1, n1⟩, -, X1, ⟨Lc1, hQ1, l1, y1, z1⟩, st1⟩ := Jvm.LawKit.callS X0 hx (y := (⟨"com/example/sendlimitd/sendlimitd/core/UserLocker$Verdict", "ofCode", "(I)Lcom/example/sendlimitd/sendlimitd/core/UserLocker$Verdict;"⟩ : MethodName)) hown (mvT hZ (hw _ (List.mem_of_getElem? (i := 0) rfl))) (mvT hZ (hw _ (List.mem_of_getElem? (i := 1) rfl))) (mvT hZ (hw _ (List.mem_of_getElem? (i := 2) rfl))) (mvT hZ (hw _ (List.mem_of_getElem? (i := 3) rfl))) (by decide) (backOf (W := 0) (rm1 l Z a0 hw [] ((1 : Int32) + (u0 &&& (1 : Int32))) aA aV aP kA h0 n0 Z0 S_VALUES V_A E_A F_VIRUS F_PHISHING (own_12 _)) hZ (hw _ (List.mem_of_getElem? (i := 3) rfl)) (hw _ (List.mem_of_getElem? (i := 2) rfl)) (by decide) (by decide)) (g := (mkF m 7 #[.val (.int u0), .val (.int ((1 : Int32) + (u0 &&& (1 : Int32)))), .unset] [(.int ((1 : Int32) + (u0 &&& (1 : Int32))))])) rfl (by rw [hml]; rfl) (argsL := [(.int ((1 : Int32) + (u0 &&& (1 : Int32))))]) (rest := []) (lenOf pd_1 rfl) rfl (by show 2 * 0 + _ ≤ _; exact Nat.le_of_eq rfl) (hb hby at_7) (fun _ _ => ⟨rfl, e0, (by decide : 0 + 1 ≤ _), (by decide : 0 + 2 ≤ _)⟩)
  dsimp only [Pt.U, Pt.locs, Pt.cells, Pt.slots] at X1 l1 y1 z1 st1 hQ1
  subst l1 y1 z1
  obtain ⟨rfl, N1q, K1q⟩ := hQ1
  have N1 := Fr.app N0 N1q
  have K1 : Keep h0 T1.heap [] := K0.trans K1q all0
  have O1 := O0.keep K1 all0
  have SV1 := S_VIRUS.ext O1.2
  have SP1 := S_PHISHING.ext O1.2
  have pre2 : ∀ t, Steps p.tables e below (T1.setTop (mkF m 13 #[.val (.int u0), .val (.int ((1 : Int32) + (u0 &&& (1 : Int32)))), .val (.ref (own_of ((1 : Int32) + (u0 &&& (1 : Int32))) aV aP))] [(.int (1 : Int32)), (.int ((1 : Int32) + (u0 &&& (1 : Int32))))])) t → Steps p.tables e below (s₁.setTop (entryFrame m #[(.int u0)] maxLocals)) t := fun t k => pre0 t (by
    show Steps p.tables e below (s₁.setTop (mkF m 0 #[.val (.int u0), .unset, .unset] [])) _
    refine XS.iconst X0.here hx rfl (hb hby at_0) ?_
    show Steps p.tables e below (s₁.setTop (mkF m 1 #[.val (.int u0), .unset, .unset] [(.int (1 : Int32))])) _
    refine XS.iloadN X0.here hx rfl (hb hby at_1) rfl ?_
    show Steps p.tables e below (s₁.setTop (mkF m 2 #[.val (.int u0), .unset, .unset] [(.int u0), (.int (1 : Int32))])) _
    refine XS.iconst X0.here hx rfl (hb hby at_2) ?_
    show Steps p.tables e below (s₁.setTop (mkF m 3 #[.val (.int u0), .unset, .unset] [(.int (1 : Int32)), (.int u0), (.int (1 : Int32))])) _
    refine XS.iand X0.here hx rfl (hb hby at_3) rfl ?_
    show Steps p.tables e below (s₁.setTop (mkF m 4 #[.val (.int u0), .unset, .unset] [(.int (u0 &&& (1 : Int32))), (.int (1 : Int32))])) _
    refine XS.iadd X0.here hx rfl (hb hby at_4) rfl ?_
    show Steps p.tables e below (s₁.setTop (mkF m 5 #[.val (.int u0), .unset, .unset] [(.int ((1 : Int32) + (u0 &&& (1 : Int32))))])) _
    refine XS.istoreN X0.here hx rfl (hb hby at_5) rfl (l' := #[.val (.int u0), .val (.int ((1 : Int32) + (u0 &&& (1 : Int32)))), .unset]) rfl ?_
    show Steps p.tables e below (s₁.setTop (mkF m 6 #[.val (.int u0), .val (.int ((1 : Int32) + (u0 &&& (1 : Int32)))), .unset] [])) _
    refine XS.iloadN X0.here hx rfl (hb hby at_6) rfl ?_
    show Steps p.tables e below (s₁.setTop (mkF m 7 #[.val (.int u0), .val (.int ((1 : Int32) + (u0 &&& (1 : Int32)))), .unset] [(.int ((1 : Int32) + (u0 &&& (1 : Int32))))])) _
    refine st1 _ ?_
    show Steps p.tables e below (T1.setTop (mkF m 10 #[.val (.int u0), .val (.int ((1 : Int32) + (u0 &&& (1 : Int32)))), .unset] [(.ref (own_of ((1 : Int32) + (u0 &&& (1 : Int32))) aV aP))])) _
    refine XS.astoreN X1.here hx rfl (hb hby at_10) rfl rfl (l' := #[.val (.int u0), .val (.int ((1 : Int32) + (u0 &&& (1 : Int32)))), .val (.ref (own_of ((1 : Int32) + (u0 &&& (1 : Int32))) aV aP))]) rfl ?_
    show Steps p.tables e below (T1.setTop (mkF m 11 #[.val (.int u0), .val (.int ((1 : Int32) + (u0 &&& (1 : Int32)))), .val (.ref (own_of ((1 : Int32) + (u0 &&& (1 : Int32))) aV aP))] [])) _
    refine XS.iloadN X1.here hx rfl (hb hby at_11) rfl ?_
    show Steps p.tables e below (T1.setTop (mkF m 12 #[.val (.int u0), .val (.int ((1 : Int32) + (u0 &&& (1 : Int32)))), .val (.ref (own_of ((1 : Int32) + (u0 &&& (1 : Int32))) aV aP))] [(.int ((1 : Int32) + (u0 &&& (1 : Int32))))])) _
    refine XS.iconst X1.here hx rfl (hb hby at_12) ?_
    exact k)
  by_cases hc13 : ((1 : Int32) + (u0 &&& (1 : Int32))) = (1 : Int32)
  · -- pc 13: ((1 : Int32) + (u0 &&& (1 : Int32))) = (1 : Int32)
    obtain ⟨T3, X3, e3, st3⟩ := getS2 X1 hx hZ hown (host := "") (Or.inl (hw _ (List.mem_of_getElem? (i := 23) rfl))) Via.refl rfl SV1 (g := (mkF m 17 #[.val (.int u0), .val (.int ((1 : Int32) + (u0 &&& (1 : Int32)))), .val (.ref (own_of ((1 : Int32) + (u0 &&& (1 : Int32))) aV aP))] [(.ref (own_of ((1 : Int32) + (u0 &&& (1 : Int32))) aV aP))])) rfl (hb hby at_17)
    obtain ⟨fs, hr, hrun, hended, hW, hsame⟩ := X3.leave (v := (some (.int (1 : Int32)))) (fun h => by rw [Bd.returns] at h; cases h)
    refine ⟨_, _, pre2 _ ?_, hrun, hended, _, _, rfl, ?_, ⟨_, rfl⟩, hW, hsame.mono (by decide) (by decide)⟩
    · show Steps p.tables e below (T1.setTop (mkF m 13 #[.val (.int u0), .val (.int ((1 : Int32) + (u0 &&& (1 : Int32)))), .val (.ref (own_of ((1 : Int32) + (u0 &&& (1 : Int32))) aV aP))] [(.int (1 : Int32)), (.int ((1 : Int32) + (u0 &&& (1 : Int32))))])) _
      refine XS.icmpNo X1.here hx rfl (hb hby at_13) rfl (teq hc13).2 ?_
      show Steps p.tables e below (T1.setTop (mkF m 16 #[.val (.int u0), .val (.int ((1 : Int32) + (u0 &&& (1 : Int32)))), .val (.ref (own_of ((1 : Int32) + (u0 &&& (1 : Int32))) aV aP))] [])) _
      refine XS.aloadN X1.here hx rfl (hb hby at_16) rfl rfl ?_
      show Steps p.tables e below (T1.setTop (mkF m 17 #[.val (.int u0), .val (.int ((1 : Int32) + (u0 &&& (1 : Int32)))), .val (.ref (own_of ((1 : Int32) + (u0 &&& (1 : Int32))) aV aP))] [(.ref (own_of ((1 : Int32) + (u0 &&& (1 : Int32))) aV aP))])) _
      refine st3 _ ?_
      show Steps p.tables e below (T3.setTop (mkF m 20 #[.val (.int u0), .val (.int ((1 : Int32) + (u0 &&& (1 : Int32)))), .val (.ref (own_of ((1 : Int32) + (u0 &&& (1 : Int32))) aV aP))] [(.ref aV), (.ref (own_of ((1 : Int32) + (u0 &&& (1 : Int32))) aV aP))])) _
      refine Jvm.RoadKit.acmp (g := (mkF m 20 #[.val (.int u0), .val (.int ((1 : Int32) + (u0 &&& (1 : Int32)))), .val (.ref (own_of ((1 : Int32) + (u0 &&& (1 : Int32))) aV aP))] [(.ref aV), (.ref (own_of ((1 : Int32) + (u0 &&& (1 : Int32))) aV aP))])) X3 hx rfl rfl rfl (pc0 := 20) (pc' := 23) (same := true) rfl (hb hby at_20) rfl (decide_eq_true (congrArg Value.ref (if_pos hc13.symm))) (by decide) (by decide) ?_
      show Steps p.tables e below (T3.setTop (mkF m 23 #[.val (.int u0), .val (.int ((1 : Int32) + (u0 &&& (1 : Int32)))), .val (.ref (own_of ((1 : Int32) + (u0 &&& (1 : Int32))) aV aP))] [])) _
      refine XS.iconst X3.here hx rfl (hb hby at_23) ?_
      show Steps p.tables e below (T3.setTop (mkF m 24 #[.val (.int u0), .val (.int ((1 : Int32) + (u0 &&& (1 : Int32)))), .val (.ref (own_of ((1 : Int32) + (u0 &&& (1 : Int32))) aV aP))] [(.int (1 : Int32))])) _
      refine XS.goto X3.here hx rfl (pc0 := 24) (pc' := 28) rfl (hb hby at_24) (by decide) (by decide) ?_
      show Steps p.tables e below (T3.setTop (mkF m 28 #[.val (.int u0), .val (.int ((1 : Int32) + (u0 &&& (1 : Int32)))), .val (.ref (own_of ((1 : Int32) + (u0 &&& (1 : Int32))) aV aP))] [(.int (1 : Int32))])) _
      exact retN X3 hx (t := .boolean) Bd.returns (by simp) (hb hby at_28) hr
    · show QL n0 _ T3.heap _
      rw [e3]
      exact ⟨rfl, N1⟩
  · -- pc 13: not ((1 : Int32) + (u0 &&& (1 : Int32))) = (1 : Int32)
    obtain ⟨T4, X4, e4, st4⟩ := getS2 X1 hx hZ hown (host := "") (Or.inl (hw _ (List.mem_of_getElem? (i := 24) rfl))) Via.refl rfl SP1 (g := (mkF m 30 #[.val (.int u0), .val (.int ((1 : Int32) + (u0 &&& (1 : Int32)))), .val (.ref (own_of ((1 : Int32) + (u0 &&& (1 : Int32))) aV aP))] [(.ref (own_of ((1 : Int32) + (u0 &&& (1 : Int32))) aV aP))])) rfl (hb hby at_30)
    obtain ⟨fs, hr, hrun, hended, hW, hsame⟩ := X4.leave (v := (some (.int (1 : Int32)))) (fun h => by rw [Bd.returns] at h; cases h)
    refine ⟨_, _, pre2 _ ?_, hrun, hended, _, _, rfl, ?_, ⟨_, rfl⟩, hW, hsame.mono (by decide) (by decide)⟩
    · show Steps p.tables e below (T1.setTop (mkF m 13 #[.val (.int u0), .val (.int ((1 : Int32) + (u0 &&& (1 : Int32)))), .val (.ref (own_of ((1 : Int32) + (u0 &&& (1 : Int32))) aV aP))] [(.int (1 : Int32)), (.int ((1 : Int32) + (u0 &&& (1 : Int32))))])) _
      refine XS.icmpYes X1.here hx rfl (pc0 := 13) (pc' := 29) rfl (hb hby at_13) rfl (feq hc13).2 (by decide) (by decide) ?_
      show Steps p.tables e below (T1.setTop (mkF m 29 #[.val (.int u0), .val (.int ((1 : Int32) + (u0 &&& (1 : Int32)))), .val (.ref (own_of ((1 : Int32) + (u0 &&& (1 : Int32))) aV aP))] [])) _
      refine XS.aloadN X1.here hx rfl (hb hby at_29) rfl rfl ?_
      show Steps p.tables e below (T1.setTop (mkF m 30 #[.val (.int u0), .val (.int ((1 : Int32) + (u0 &&& (1 : Int32)))), .val (.ref (own_of ((1 : Int32) + (u0 &&& (1 : Int32))) aV aP))] [(.ref (own_of ((1 : Int32) + (u0 &&& (1 : Int32))) aV aP))])) _
      refine st4 _ ?_
      show Steps p.tables e below (T4.setTop (mkF m 33 #[.val (.int u0), .val (.int ((1 : Int32) + (u0 &&& (1 : Int32)))), .val (.ref (own_of ((1 : Int32) + (u0 &&& (1 : Int32))) aV aP))] [(.ref aP), (.ref (own_of ((1 : Int32) + (u0 &&& (1 : Int32))) aV aP))])) _
      refine Jvm.RoadKit.acmp (g := (mkF m 33 #[.val (.int u0), .val (.int ((1 : Int32) + (u0 &&& (1 : Int32)))), .val (.ref (own_of ((1 : Int32) + (u0 &&& (1 : Int32))) aV aP))] [(.ref aP), (.ref (own_of ((1 : Int32) + (u0 &&& (1 : Int32))) aV aP))])) X4 hx rfl rfl rfl (pc0 := 33) (pc' := 36) (same := true) rfl (hb hby at_33) rfl (decide_eq_true (congrArg Value.ref (if_neg fun h => hc13 h.symm))) (by decide) (by decide) ?_
      show Steps p.tables e below (T4.setTop (mkF m 36 #[.val (.int u0), .val (.int ((1 : Int32) + (u0 &&& (1 : Int32)))), .val (.ref (own_of ((1 : Int32) + (u0 &&& (1 : Int32))) aV aP))] [])) _
      refine XS.iconst X4.here hx rfl (hb hby at_36) ?_
      show Steps p.tables e below (T4.setTop (mkF m 37 #[.val (.int u0), .val (.int ((1 : Int32) + (u0 &&& (1 : Int32)))), .val (.ref (own_of ((1 : Int32) + (u0 &&& (1 : Int32))) aV aP))] [(.int (1 : Int32))])) _
      refine XS.goto X4.here hx rfl (pc0 := 37) (pc' := 41) rfl (hb hby at_37) (by decide) (by decide) ?_
      show Steps p.tables e below (T4.setTop (mkF m 41 #[.val (.int u0), .val (.int ((1 : Int32) + (u0 &&& (1 : Int32)))), .val (.ref (own_of ((1 : Int32) + (u0 &&& (1 : Int32))) aV aP))] [(.int (1 : Int32))])) _
      exact retN X4 hx (t := .boolean) Bd.returns (by simp) (hb hby at_41) hr
    · show QL n0 _ T4.heap _
      rw [e4]
      exact ⟨rfl, N1⟩
set_option maxRecDepth 65536 in
set_option maxHeartbeats 40000000 in
theorem comes_1 {Post : Tables → Env → Array Value → State → Outcome → State → Prop} (hpost : ∀ tb e args s v u, (limb_1_1.after args s (.returned v) u = true ∧ limb_1_2.after args s (.returned v) u = true ∧ True) → FrameEnd s (.returned v) u (Jvm.fieldLocs frame_1_writes args s ++ Jvm.arrayLocs frame_1_arrays args s ++ Jvm.staticLocs frame_1_statics s) 16 128 → Post tb e args s (.returned v) u) :
    ArmFor flags0 classFile x code maxLocals ret World_1 tables_1 room_1 Calls_1 rest_1 Pre_1 Post := by
  intro l hfl _ _ p e ha hc hk s m args below hf hA hF happ hP
  obtain ⟨hcalls, hrest, hpre⟩ := hP
  obtain ⟨-, -, -, hnamed, -, -, -, hat⟩ := (Spec.applies_iff hf).mp happ
  obtain ⟨hg, hn⟩ := and_e (Cond.before_iff.mp (show (Jvm.Cond.and given_1 narrow_1).before args s = true from hpre))
  obtain ⟨g0, G0⟩ := and_e hg
  have v0 := G0
  obtain ⟨w0, rfl⟩ : ∃ w0 : Value, args = #[w0] := by
    have hs : args.size = 1 := by simpa [Cond.value, given_1] using g0
    obtain ⟨L⟩ := args
    match L, hs with
    | [w0], _ => exact ⟨w0, rfl⟩
  have hw := fun d (hd : d ∈ tables_1) => atoms_spec (ws := Jvm.Cond.code x code maxLocals ret :: tables_1) hat d (List.mem_cons_of_mem _ hd)
  have hfit : Fit s := fun {y c} hc i hi => by
    obtain ⟨ha, rfl⟩ := Array.getElem?_eq_some_iff.mp hc
    have q := List.all_eq_true.mp ((Array.all_eq_true_iff_forall_mem.mp hF) _ (Array.getElem_mem ha)) i (List.mem_range.mpr hi)
    simpa [Array.getElem?_eq_getElem hi] using q
  obtain ⟨i0, ei0⟩ := is_v v0
  obtain rfl : w0 = (.int i0) := Option.some.inj ei0
  obtain ⟨m0, M1⟩ := and_e hn
  obtain ⟨m1, M2⟩ := and_e M1
  obtain ⟨m2, M3⟩ := and_e M2
  obtain ⟨m3, M4⟩ := and_e M3
  obtain ⟨m4, M5⟩ := and_e M4
  obtain ⟨m5, M6⟩ := and_e M5
  obtain ⟨m6, M7⟩ := and_e M6
  obtain ⟨m7, M8⟩ := and_e M7
  have m8 := M8
  obtain ⟨aA, evA⟩ := exa_v m1
  have E_A := Exa.start evA m1
  have S_VALUES := Sta.start evA (Or.inl (hw _ (List.mem_of_getElem? (i := 18) rfl)))
  obtain ⟨aV, evV⟩ := exa_v m3
  have S_V := Sta.start evV (Or.inr ⟨(hw _ (List.mem_of_getElem? (i := 2) rfl)), (hw _ (List.mem_of_getElem? (i := 16) rfl))⟩)
  obtain ⟨aP, evP⟩ := exa_v m5
  have S_P := Sta.start evP (Or.inr ⟨(hw _ (List.mem_of_getElem? (i := 2) rfl)), (hw _ (List.mem_of_getElem? (i := 17) rfl))⟩)
  have F_V := Fld.start ((fld_at evV).symm.trans (own_eqI m7))
  have F_P := Fld.start ((fld_at evP).symm.trans (own_eqI m8))
  obtain ⟨cA, AA⟩ := Arr.start evA m0
  obtain ⟨l1, l2⟩ := own_len evA AA.1 (own_eqI m2)
  have x0 := (elem_in (own_eqR m4 evV) evA (Term.int_eval 0) AA.1).2
  have x1 := (elem_in (own_eqR m6 evP) evA (Term.int_eval 1) AA.1).2
  have V_A := Arv.start (dv := .null) (vs := [(.ref aV), (.ref aP)]) hfit AA l1 l2 (by decide) rfl ⟨x0, x1, trivial⟩
  obtain ⟨n, o, h1, h2, h3, _, L, rfl, ⟨rfl, N⟩, hq⟩ := rm0 l s _ hw tables_1 i0 aA aV aP cA.cls s.heap s.heap.size (Nat.le_refl _) S_VALUES V_A E_A F_V F_P S_V S_P (Old.start s) p e ha hc hk s m _ below hf ((Spec.applies_iff_loose hf).mp happ).1 ⟨rfl, State.Warmed39.refl s, rfl⟩ trivial
  refine ⟨n, _, h1, h2, h3, hpost _ _ _ _ _ _ ⟨Cond.after_iff.mpr rfl, Cond.after_iff.mpr (eq_i res_at (Term.int_eval (1)) rfl), trivial⟩ ⟨hq.1, hq.2.1, (hq.2.2.sift fun y hy => Or.inr (N y hy)).mono (by decide) (by decide)⟩⟩
theorem main_1_1 : Claimed_1_1 := comes_1 fun _ _ _ _ _ _ h hF => ⟨h.1, hF⟩
theorem main_1_2 : Claimed_1_2 := comes_1 fun _ _ _ _ _ _ h hF => ⟨h.2.1, hF⟩
end Jvm.Pilot.@@N@@
namespace Jvm.Pilot.@@N@@
open Jvm Jvm.ClassFile Sem Op Lib Jvm.Free Jvm.Stand Jvm.Pilot.@@N@@.Jvm.D
/-! MADE BY PROGRAM (witnessworld.py) out of the Statement's table words and the real class files: 13 classes; the members and pool entries that the words name. The judged class is class 1, her method 1. -/
namespace start1
open Jvm.ClassFile
def u (s : String) : CpInfo := .utf8 (stringToUtf16 s)
/-- a pool by its gaps: so many unusable entries, then the entry; so many at the end -/
def gap : Nat → List CpInfo → List CpInfo
  | 0, r => r
  | n + 1, r => .unusable :: gap n r
def poolList (es : List (Nat × CpInfo)) (last : Nat) : List CpInfo := es.foldr (fun e r => gap e.1 (e.2 :: r)) (gap last [])
def pool (es : List (Nat × CpInfo)) (last : Nat) : Array CpInfo := ⟨poolList es last⟩
def fileOf (pool : Array CpInfo) (this : Nat) (attrs : Array Attribute := #[]) (ms : Array MethodInfo := #[]) (fl : Nat := 33) (sup : Nat := 0) (ifs : Array Nat := #[]) (fds : Array FieldInfo := #[]) : ClassFile where
  minorVersion := 0
  majorVersion := 65
  constantPool := pool
  accessFlags := fl
  thisClass := this
  superClass := sup
  interfaces := ifs
  fields := fds
  methods := ms
  attributes := attrs
def plain (name : String) (sup : Option ClassId) : Class where
  name := name
  kind := .ordinary
  loader := none
  accessFlags := 33
  super := sup
  interfaces := #[]
  cf := none
  fields := #[]
  methods := #[]
  instanceTypes := #[]
  staticTypes := #[]
  resolved := #[]
  callSites := []
  init := .initialized
  statics := none
  mirror := none

def pool0 : Array CpInfo := pool [(5, u "<init>"), (0, u "()V"), (1, .class_ 10), (1, u "java/lang/Object"), (85, u "clone"), (0, u "()Ljava/lang/Object;")] 26

def k0m0 : Method := { name := "<init>", desc := "()V", sig := { parameters := [], returnType := none }, accessFlags := 1, code := none }
def k0m1 : Method := { name := "clone", desc := "()Ljava/lang/Object;", sig := { parameters := [], returnType := some (.object "java/lang/Object") }, accessFlags := 260, code := none }
/-- java/lang/Object -/
def k0 : Class := { plain "java/lang/Object" none with
  accessFlags := 33
  interfaces := #[]
  cf := some (fileOf pool0 8 #[] #[{ accessFlags := 1, nameIndex := 5, descriptorIndex := 6, attributes := #[] }, { accessFlags := 260, nameIndex := 96, descriptorIndex := 97, attributes := #[] }] 33 0 #[] #[])
  fields := #[]
  methods := #[k0m0, k0m1]
  instanceTypes := #[]
  staticTypes := #[]
  resolved := Array.replicate 124 none
  statics := none }

def pool1 : Array CpInfo := pool [(2, .class_ 4), (1, u "java/lang/Object"), (0, u "<init>"), (0, u "()V"), (0, .methodref 8 9), (0, .class_ 10), (0, .nameAndType 11 12), (0, u "com/example/sendlimitd/sendlimitd/core/UserLocker$Verdict"), (0, u "ofCode"), (0, u "(I)Lcom/example/sendlimitd/sendlimitd/core/UserLocker$Verdict;"), (0, .fieldref 8 14), (0, .nameAndType 15 16), (0, u "VIRUS"), (0, u "Lcom/example/sendlimitd/sendlimitd/core/UserLocker$Verdict;"), (0, .fieldref 8 18), (0, .nameAndType 19 16), (0, u "PHISHING"), (0, .class_ 21), (0, u "com/example/sendlimitd/sendlimitd/core/VerdictOfCodePinLaw"), (2, u "law"), (0, u "(I)Z")] 10

def k1m0 : Method := { name := "<init>", desc := "()V", sig := { parameters := [], returnType := none }, accessFlags := 2, code := none }
def k1c1 : Code := { maxStack := 3, maxLocals := 3, code := code, exceptionTable := #[], attributes := #[] }
def k1m1 : Method := { name := "law", desc := "(I)Z", sig := { parameters := [.int], returnType := some .boolean }, accessFlags := 9, code := some k1c1 }
/-- com/example/sendlimitd/sendlimitd/core/VerdictOfCodePinLaw -/
def k1 : Class := { plain "com/example/sendlimitd/sendlimitd/core/VerdictOfCodePinLaw" (some 0) with
  accessFlags := 49
  interfaces := #[]
  cf := some (fileOf pool1 20 #[] #[{ accessFlags := 2, nameIndex := 5, descriptorIndex := 6, attributes := #[] }, { accessFlags := 9, nameIndex := 24, descriptorIndex := 25, attributes := #[] }] 49 2 #[] #[])
  fields := #[]
  methods := #[k1m0, k1m1]
  instanceTypes := #[]
  staticTypes := #[]
  resolved := Array.replicate 36 none
  statics := none }

def pool2 : Array CpInfo := pool [(1, .class_ 2), (0, u "java/lang/constant/Constable"), (0, .class_ 4), (0, u "java/lang/Object")] 6

/-- java/lang/constant/Constable -/
def k2 : Class := { plain "java/lang/constant/Constable" (some 0) with
  accessFlags := 1537
  interfaces := #[]
  cf := some (fileOf pool2 1 #[] #[] 1537 3 #[] #[])
  fields := #[]
  methods := #[]
  instanceTypes := #[]
  staticTypes := #[]
  resolved := Array.replicate 11 none
  statics := none }

def pool3 : Array CpInfo := pool [(1, .class_ 2), (0, u "java/lang/Comparable"), (0, .class_ 4), (0, u "java/lang/Object")] 7

/-- java/lang/Comparable -/
def k3 : Class := { plain "java/lang/Comparable" (some 0) with
  accessFlags := 1537
  interfaces := #[]
  cf := some (fileOf pool3 1 #[] #[] 1537 3 #[] #[])
  fields := #[]
  methods := #[]
  instanceTypes := #[]
  staticTypes := #[]
  resolved := Array.replicate 12 none
  statics := none }

def pool4 : Array CpInfo := pool [(1, .class_ 2), (0, u "java/io/Serializable"), (0, .class_ 4), (0, u "java/lang/Object")] 2

/-- java/io/Serializable -/
def k4 : Class := { plain "java/io/Serializable" (some 0) with
  accessFlags := 1537
  interfaces := #[]
  cf := some (fileOf pool4 1 #[] #[] 1537 3 #[] #[])
  fields := #[]
  methods := #[]
  instanceTypes := #[]
  staticTypes := #[]
  resolved := Array.replicate 7 none
  statics := none }

def pool5 : Array CpInfo := pool [(2, .class_ 4), (1, u "java/lang/Enum"), (0, u "name"), (0, u "Ljava/lang/String;"), (2, u "ordinal"), (0, u "I"), (1, .class_ 14), (1, u "java/lang/Object"), (4, u "hash"), (86, .class_ 108), (1, u "java/lang/Enum$EnumDesc"), (2, .class_ 112), (0, u "java/lang/constant/Constable"), (0, .class_ 114), (0, u "java/lang/Comparable"), (0, .class_ 116), (0, u "java/io/Serializable")] 87

/-- java/lang/Enum -/
def k5 : Class := { plain "java/lang/Enum" (some 0) with
  accessFlags := 1057
  interfaces := #[2, 3, 4]
  cf := some (fileOf pool5 2 #[.nestMembers #[106]] #[] 1057 12 #[111, 113, 115] #[{ accessFlags := 18, nameIndex := 5, descriptorIndex := 6, attributes := #[] }, { accessFlags := 18, nameIndex := 9, descriptorIndex := 10, attributes := #[] }, { accessFlags := 2, nameIndex := 19, descriptorIndex := 10, attributes := #[] }])
  fields := #[{ name := "name", type := (.object "java/lang/String"), accessFlags := 18, slot := 0, constantValue := 0 }, { name := "ordinal", type := .int, accessFlags := 18, slot := 1, constantValue := 0 }, { name := "hash", type := .int, accessFlags := 2, slot := 2, constantValue := 0 }]
  methods := #[]
  instanceTypes := #[(.object "java/lang/String"), .int, .int]
  staticTypes := #[]
  resolved := Array.replicate 204 none
  statics := none }

def pool6 : Array CpInfo := pool [(1, .class_ 2), (0, u "com/example/sendlimitd/sendlimitd/core/UserLocker$Verdict"), (2, u "VIRUS"), (0, u "Lcom/example/sendlimitd/sendlimitd/core/UserLocker$Verdict;"), (2, u "PHISHING"), (0, .fieldref 1 11), (0, .nameAndType 12 13), (0, u "$VALUES"), (0, u "[Lcom/example/sendlimitd/sendlimitd/core/UserLocker$Verdict;"), (0, .methodref 15 16), (0, .class_ 13), (0, .nameAndType 17 18), (0, u "clone"), (0, u "()Ljava/lang/Object;"), (1, .class_ 22), (1, u "java/lang/Enum"), (6, .fieldref 1 30), (0, .nameAndType 31 32), (0, u "code"), (0, u "I"), (22, .methodref 1 56), (0, .nameAndType 57 58), (0, u "values"), (0, u "()[Lcom/example/sendlimitd/sendlimitd/core/UserLocker$Verdict;"), (38, u "ofCode"), (0, u "(I)Lcom/example/sendlimitd/sendlimitd/core/UserLocker$Verdict;"), (7, .class_ 107), (0, u "com/example/sendlimitd/sendlimitd/core/UserLocker")] 16

def k6c0 : Code := { maxStack := 1, maxLocals := 0, code := prog_55_method_1_code, exceptionTable := #[], attributes := #[] }
def k6m0 : Method := { name := "values", desc := "()[Lcom/example/sendlimitd/sendlimitd/core/UserLocker$Verdict;", sig := { parameters := [], returnType := some (.array (.object "com/example/sendlimitd/sendlimitd/core/UserLocker$Verdict")) }, accessFlags := 9, code := some k6c0 }
def k6c1 : Code := { maxStack := 3, maxLocals := 5, code := prog_55_method_6_code, exceptionTable := #[], attributes := #[] }
def k6m1 : Method := { name := "ofCode", desc := "(I)Lcom/example/sendlimitd/sendlimitd/core/UserLocker$Verdict;", sig := { parameters := [.int], returnType := some (.object "com/example/sendlimitd/sendlimitd/core/UserLocker$Verdict") }, accessFlags := 8, code := some k6c1 }
/-- com/example/sendlimitd/sendlimitd/core/UserLocker$Verdict -/
def k6 : Class := { plain "com/example/sendlimitd/sendlimitd/core/UserLocker$Verdict" (some 5) with
  accessFlags := 16433
  interfaces := #[]
  cf := some (fileOf pool6 1 #[.nestHost 106] #[{ accessFlags := 9, nameIndex := 57, descriptorIndex := 58, attributes := #[] }, { accessFlags := 8, nameIndex := 97, descriptorIndex := 98, attributes := #[] }] 16433 20 #[] #[{ accessFlags := 16409, nameIndex := 5, descriptorIndex := 6, attributes := #[] }, { accessFlags := 16409, nameIndex := 9, descriptorIndex := 6, attributes := #[] }, { accessFlags := 18, nameIndex := 31, descriptorIndex := 32, attributes := #[] }, { accessFlags := 4122, nameIndex := 12, descriptorIndex := 13, attributes := #[] }])
  fields := #[{ name := "VIRUS", type := (.object "com/example/sendlimitd/sendlimitd/core/UserLocker$Verdict"), accessFlags := 16409, slot := 0, constantValue := 0 }, { name := "PHISHING", type := (.object "com/example/sendlimitd/sendlimitd/core/UserLocker$Verdict"), accessFlags := 16409, slot := 1, constantValue := 0 }, { name := "code", type := .int, accessFlags := 18, slot := 3, constantValue := 0 }, { name := "$VALUES", type := (.array (.object "com/example/sendlimitd/sendlimitd/core/UserLocker$Verdict")), accessFlags := 4122, slot := 2, constantValue := 0 }]
  methods := #[k6m0, k6m1]
  instanceTypes := #[(.object "java/lang/String"), .int, .int, .int]
  staticTypes := #[(.object "com/example/sendlimitd/sendlimitd/core/UserLocker$Verdict"), (.object "com/example/sendlimitd/sendlimitd/core/UserLocker$Verdict"), (.array (.object "com/example/sendlimitd/sendlimitd/core/UserLocker$Verdict"))]
  resolved := Array.replicate 124 none
  statics := some 0 }

def pool7 : Array CpInfo := pool [(1, .class_ 2), (0, u "java/lang/Cloneable"), (0, .class_ 4), (0, u "java/lang/Object")] 2

/-- java/lang/Cloneable -/
def k7 : Class := { plain "java/lang/Cloneable" (some 0) with
  accessFlags := 1537
  interfaces := #[]
  cf := some (fileOf pool7 1 #[] #[] 1537 3 #[] #[])
  fields := #[]
  methods := #[]
  instanceTypes := #[]
  staticTypes := #[]
  resolved := Array.replicate 7 none
  statics := none }

/-- the primitive byte -/
def k8 : Class := { plain "byte" none with kind := .primitive 'B', accessFlags := 0x411 }
/-- [B -/
def k9 : Class := { plain "[B" (some 0) with kind := .array 8 .byte, interfaces := #[7, 4], accessFlags := 1041 }

/-- the primitive int -/
def k10 : Class := { plain "int" none with kind := .primitive 'I', accessFlags := 0x411 }
/-- [I -/
def k11 : Class := { plain "[I" (some 0) with kind := .array 10 .int, interfaces := #[7, 4], accessFlags := 1041 }

/-- [Lcom/example/sendlimitd/sendlimitd/core/UserLocker$Verdict; -/
def k12 : Class := { plain "[Lcom/example/sendlimitd/sendlimitd/core/UserLocker$Verdict;" (some 0) with kind := .array 6 (.object "com/example/sendlimitd/sendlimitd/core/UserLocker$Verdict"), interfaces := #[7, 4], accessFlags := 1041 }

def heap : Heap := #[{ cls := 6, slots := #[.ref 2, .ref 3, .ref 1], vm := .statics 6 },
  { cls := 12, slots := #[.ref 2, .ref 3], vm := .none },
  { cls := 6, slots := #[.null, .int 0, .int 0, .int 1], vm := .none },
  { cls := 6, slots := #[.null, .int 1, .int 0, .int 2], vm := .none }]
def classes : Array Class := #[k0, k1, k2, k3, k4, k5, k6, k7, k8, k9, k10, k11, k12]
def interned : List (Array UInt16 × Addr) := []
def slotsUsed : Nat := 13
def theMethod : MethodId := ⟨1, 1⟩
def args0 : Array Value := #[.int 5]
def aboutOver (below : List Frame) : State where
  vm := { classes := classes, interned := interned.toArray }
  heap := heap
  slotsUsed := slotsUsed
  threads := #[{ frames := .invoking theMethod args0 :: below }]
def below0 : List Frame := [.native { method := ⟨0, 0⟩, args := #[] }]
def about1 : State := aboutOver below0
def p0 : Program := .bare "" "" ""
def e0 : Env := launch0.env 0 0 0
theorem w_frames : about1.frames = Frame.invoking theMethod args0 :: below0 := rfl
set_option maxRecDepth 65536 in
theorem w_args : argsFit about1.vm theMethod args0 = true := by decide +kernel
set_option maxRecDepth 65536 in
theorem w_heap : heapFits about1 = true := by decide +kernel
set_option maxRecDepth 65536 in
theorem w_runnable : about1.curStatus? = some .runnable := by decide +kernel
set_option maxRecDepth 65536 in
theorem w_alone : about1.alone = true := by decide +kernel
set_option maxRecDepth 65536 in
theorem w_named : about1.methodNamed? x = some theMethod := by decide +kernel
set_option maxRecDepth 65536 in
theorem w_hears : about1.hears theMethod below0 = true := by decide +kernel
set_option maxRecDepth 65536 in
theorem w_ripe : about1.ripe theMethod args0 below0 = true := by decide +kernel
theorem w_running : about1.status = .running := rfl
set_option maxRecDepth 65536 in
theorem w_room : about1.hasRoom e0.platform room_1 = true :=
  launch0.hasRoom_least _ room_1 (by decide +kernel) (by decide +kernel) (by decide +kernel) (by decide +kernel) (by decide +kernel) (by decide +kernel)
theorem allAtoms_all (ts : List Jvm.Cond) (a : Array Jvm.Value) (st : Jvm.State) : (allAtoms ts).before a st = ts.all (fun c => c.before a st) := by
  induction ts with
  | nil => rfl
  | cons c t ih =>
    show (Jvm.Cond.and c (allAtoms t)).before a st = _
    rw [Jvm.Cond.before_and, ih, List.all_cons]
def words1 : List Jvm.Cond := Jvm.Cond.code x code maxLocals ret :: tables_1
/-- a 'code' word, met by the world's own term for the bytes: nothing is compared byte by byte -/
theorem code_word {y : MethodName} {bytes : ByteArray} {mx : Nat} {rt : Option FieldType} {a : Array Value} {s : State} {m : MethodId} {meth : Method} {c : Code} (h1 : s.methodNamed? y = some m) (h2 : s.vm.method? m = some meth) (h3 : meth.code = some c) (h4 : c.code = bytes)
    (h5 : (c.maxLocals == mx && c.exceptionTable.isEmpty && decide (c.maxStack ≤ mostOperands) && decide (meth.sig.returnType = rt) && !meth.locks && decide (parseMethodDescriptor y.desc = some meth.sig)) = true) : (Jvm.Cond.code y bytes mx rt).before a s = true := by
  simp only [Bool.and_eq_true, beq_iff_eq, Bool.not_eq_true', decide_eq_true_eq] at h5
  obtain ⟨⟨⟨⟨⟨g1, g2⟩, g3⟩, g4⟩, g5⟩, g6⟩ := h5
  simp [Cond.before, Cond.holds, Cond.value, h1, h2, h3, h4, g1, g2, g3, g4, g5, g6]
def isCode : Jvm.Cond → Bool
  | .code _ _ _ _ => true
  | _ => false
theorem all_split {L : List Jvm.Cond} {P : Jvm.Cond → Bool} (h1 : L.all (fun c => isCode c || P c) = true) (h2 : ∀ c ∈ L.filter isCode, P c = true) : L.all P = true := by
  refine List.all_eq_true.mpr fun c hc => ?_
  have h := List.all_eq_true.mp h1 c hc
  rcases Bool.eq_false_or_eq_true (isCode c) with hi | hi
  · exact h2 c (List.mem_filter.mpr ⟨hc, hi⟩)
  · simpa [hi] using h
set_option maxRecDepth 65536 in
theorem w_c0 : (Jvm.Cond.code x code maxLocals ret).before args0 about1 = true := code_word (m := ⟨1, 1⟩) (meth := k1m1) (c := k1c1) (by decide +kernel) rfl rfl rfl (by decide +kernel)
set_option maxRecDepth 65536 in
theorem w_c1 : (Jvm.Cond.code ({ cls := "com/example/sendlimitd/sendlimitd/core/UserLocker$Verdict", name := "ofCode", desc := "(I)Lcom/example/sendlimitd/sendlimitd/core/UserLocker$Verdict;" } : Jvm.MethodName) prog_55_method_6_code (5 : Nat) (Option.some (Jvm.ClassFile.FieldType.object "com/example/sendlimitd/sendlimitd/core/UserLocker$Verdict"))).before args0 about1 = true := code_word (m := ⟨6, 1⟩) (meth := k6m1) (c := k6c1) (by decide +kernel) rfl rfl rfl (by decide +kernel)
set_option maxRecDepth 65536 in
theorem w_c2 : (Jvm.Cond.code ({ cls := "com/example/sendlimitd/sendlimitd/core/UserLocker$Verdict", name := "values", desc := "()[Lcom/example/sendlimitd/sendlimitd/core/UserLocker$Verdict;" } : Jvm.MethodName) prog_55_method_1_code (0 : Nat) (Option.some (Jvm.ClassFile.FieldType.array (Jvm.ClassFile.FieldType.object "com/example/sendlimitd/sendlimitd/core/UserLocker$Verdict")))).before args0 about1 = true := code_word (m := ⟨6, 0⟩) (meth := k6m0) (c := k6c0) (by decide +kernel) rfl rfl rfl (by decide +kernel)
def codes1 : List Jvm.Cond := [Jvm.Cond.code x code maxLocals ret, Jvm.Cond.code ({ cls := "com/example/sendlimitd/sendlimitd/core/UserLocker$Verdict", name := "ofCode", desc := "(I)Lcom/example/sendlimitd/sendlimitd/core/UserLocker$Verdict;" } : Jvm.MethodName) prog_55_method_6_code (5 : Nat) (Option.some (Jvm.ClassFile.FieldType.object "com/example/sendlimitd/sendlimitd/core/UserLocker$Verdict")), Jvm.Cond.code ({ cls := "com/example/sendlimitd/sendlimitd/core/UserLocker$Verdict", name := "values", desc := "()[Lcom/example/sendlimitd/sendlimitd/core/UserLocker$Verdict;" } : Jvm.MethodName) prog_55_method_1_code (0 : Nat) (Option.some (Jvm.ClassFile.FieldType.array (Jvm.ClassFile.FieldType.object "com/example/sendlimitd/sendlimitd/core/UserLocker$Verdict")))]
set_option maxRecDepth 65536 in
theorem codes_eq : words1.filter isCode = codes1 := rfl
theorem w_codes : ∀ c ∈ words1.filter isCode, c.before args0 about1 = true := by
  rw [codes_eq]
  intro c hc
  simp only [codes1, List.mem_cons, List.not_mem_nil, or_false] at hc
  rcases hc with rfl | rfl | rfl
  · exact w_c0
  · exact w_c1
  · exact w_c2
set_option maxRecDepth 65536 in
theorem w_t1 : (words1.take 24).all (fun c => isCode c || c.before args0 about1) = true := by decide +kernel
set_option maxRecDepth 65536 in
theorem w_t2 : (words1.drop 24).all (fun c => isCode c || c.before args0 about1) = true := by decide +kernel
theorem w_tables : (allAtoms (Jvm.Cond.code x code maxLocals ret :: tables_1)).before args0 about1 = true := by
  rw [allAtoms_all]
  show words1.all (fun c => c.before args0 about1) = true
  refine all_split ?_ w_codes
  rw [← List.take_append_drop 24 words1, List.all_append, w_t1, w_t2]
  rfl
set_option maxRecDepth 65536 in
theorem w_case : (Jvm.Cond.and given_1 narrow_1).before args0 about1 = true := by decide +kernel
theorem w_applies : (headSpec (Jvm.Cond.code x code maxLocals ret :: tables_1) room_1).applies x e0.platform about1 = true :=
  (Spec.applies_iff w_frames).mpr ⟨w_running, w_runnable, w_alone, w_named, w_hears, w_ripe, w_room, w_tables⟩
theorem atStart : AtStart classFile x code maxLocals ret World_1 tables_1 room_1 Calls_1 rest_1 Pre_1 launch0 p0 e0 about1 theMethod args0 below0 :=
  ⟨lists_1, trivial, launch0.admits_env _ _ _, launch0.least_env, fairChoices_fair.cas, fairChoices_fair.clock, w_frames, w_args, w_heap, w_applies, trivial, trivial, w_case⟩
end start1
theorem witness_1 : WitnessClaimed_1 := ⟨start1.p0, start1.e0, start1.about1, start1.theMethod, start1.args0, start1.below0, start1.atStart⟩
end Jvm.Pilot.@@N@@
