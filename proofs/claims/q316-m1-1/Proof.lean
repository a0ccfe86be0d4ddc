import JvmDerived
import JvmDerived.Pilot.@@N@@Statement
import JvmDerived.Pilot.@@N@@Code
set_option linter.unusedVariables false
set_option linter.unusedSimpArgs false
namespace Jvm.RoadKit
open Sem ClassFile Op Lib Jvm.Stand Jvm.Free Jvm.LawKit
section New
variable {p : Program} {l : Launch} {e : Env} {R : Room} {s : State} {m : MethodId} {args : Array Value} {below : List Frame} {meth : Method} {c : Code} {T : State} {locs : List Loc} {cells slots : Nat}
theorem retI (X : Stand p l e R s m args below meth c T locs cells slots) (hx : p.tables.exec = Jvm.exec) {pc : Nat} {Ls : Array Slot} {z : Int32} {rest : List Value} (hret : meth.sig.returnType = some .int) (hd : decode c.code pc = .ok (.ireturn, 1)) {fs : List Frame}
    (hl : ∀ (f : JFrame) (acts : List Action), f.method = m → f.locked = none → f.entered = [] → (doReturn e (T.setTop f) acts (some (.int z))).1 = T.setFrames fs) : Steps p.tables e below (T.setTop (mkF m pc Ls (.int z :: rest))) (T.setFrames fs) :=
  retOut X hx hret rfl (Or.inl ⟨rfl, Or.inl rfl, z, rfl⟩) hd hl
end New
end Jvm.RoadKit
namespace Jvm.Pilot.@@N@@
open Jvm Jvm.ClassFile Sem Op Lib Jvm.Free Jvm.Stand Jvm.LawKit Jvm.RoadKit Bundle Jvm.Pilot.@@N@@.Jvm.D
def QL (n0 : Nat) (v : Option Value) (h : Heap) (L : List Loc) : Prop := v = some (.int 1) ∧ Fr n0 L
def QP (r : Option Value) (h0 : Heap) (n0 : Nat) (v : Option Value) (h : Heap) (L : List Loc) : Prop := v = r ∧ Fr n0 L ∧ h = h0
theorem own_elem {Z : State} {h : Heap} {a : Addr} {k : ClassId} {ty : FieldType} {n : Int32} {vs : List Value} {d : Value} (F : Arv Z h a k ty n vs d) (ht : ty = .int ∨ ty = .boolean ∨ ty = .byte ∨ ty = .char ∨ ty = .short) {j : Int32} (q : ¬ j < 0 ∧ j < n) :
    ∃ (c : Cell) (z : Int32), Arr Z h a c ty ∧ ¬ (j < 0 ∨ c.slots.size ≤ j.toNatClampNeg) ∧ c.slots[j.toNatClampNeg]? = some (.int z) ∧ fits ty (.int z) = true ∧ vs.getD j.toNatClampNeg d = .int z := by
  obtain ⟨c, A, -, S, N, H, G⟩ := F
  have hin := inb_of S q
  have hlt := Nat.lt_of_not_le fun y => hin (Or.inr y)
  obtain ⟨z, hz⟩ := fit_I (G _ hlt) ht
  exact ⟨c, z, A, hin, by rw [H _ hlt, hz], by rw [← hz]; exact G _ hlt, hz⟩
theorem own_and15 (x : Int32) : ¬ (x &&& (15 : Int32)) < 0 ∧ (x &&& (15 : Int32)) < (16 : Int32) := by
  have h := c_mask x 15 4 (by decide) (by decide)
  simp only [Int32.lt_iff_toInt_lt, show (0 : Int32).toInt = 0 from rfl, show (16 : Int32).toInt = 16 from rfl]
  omega
def QD (h0 : Heap) (n0 : Nat) (v : Option Value) (h : Heap) (L : List Loc) : Prop := (∃ z : Int32, v = some (.int z) ∧ fits .char (.int z) = true) ∧ Fr n0 L ∧ Keep h0 h []
theorem d1_0 : decode method_2_code 0 = .ok (.iload_n 0, 1) := by decide +kernel
theorem d1_1 : decode method_2_code 1 = .ok (.iconst 3, 1) := by decide +kernel
theorem d1_2 : decode method_2_code 2 = .ok (.iand, 1) := by decide +kernel
theorem d1_3 : decode method_2_code 3 = .ok (.ifCond .eq 6, 3) := by decide +kernel
theorem d1_6 : decode method_2_code 6 = .ok (.iload_n 1, 1) := by decide +kernel
theorem d1_7 : decode method_2_code 7 = .ok (.i2c, 1) := by decide +kernel
theorem d1_8 : decode method_2_code 8 = .ok (.ireturn, 1) := by decide +kernel
theorem d1_9 : decode method_2_code 9 = .ok (.bipush 16, 2) := by decide +kernel
theorem d1_11 : decode method_2_code 11 = .ok (.newarray .char, 2) := by decide +kernel
theorem d1_13 : decode method_2_code 13 = .ok (.dup, 1) := by decide +kernel
theorem d1_14 : decode method_2_code 14 = .ok (.iconst 0, 1) := by decide +kernel
theorem d1_15 : decode method_2_code 15 = .ok (.bipush 63, 2) := by decide +kernel
theorem d1_17 : decode method_2_code 17 = .ok (.castore, 1) := by decide +kernel
theorem d1_18 : decode method_2_code 18 = .ok (.dup, 1) := by decide +kernel
theorem d1_19 : decode method_2_code 19 = .ok (.iconst 1, 1) := by decide +kernel
theorem d1_20 : decode method_2_code 20 = .ok (.bipush 62, 2) := by decide +kernel
theorem d1_22 : decode method_2_code 22 = .ok (.castore, 1) := by decide +kernel
theorem d1_23 : decode method_2_code 23 = .ok (.dup, 1) := by decide +kernel
theorem d1_24 : decode method_2_code 24 = .ok (.iconst 2, 1) := by decide +kernel
theorem d1_25 : decode method_2_code 25 = .ok (.bipush 64, 2) := by decide +kernel
theorem d1_27 : decode method_2_code 27 = .ok (.castore, 1) := by decide +kernel
theorem d1_28 : decode method_2_code 28 = .ok (.dup, 1) := by decide +kernel
theorem d1_29 : decode method_2_code 29 = .ok (.iconst 3, 1) := by decide +kernel
theorem d1_30 : decode method_2_code 30 = .ok (.bipush 65, 2) := by decide +kernel
theorem d1_32 : decode method_2_code 32 = .ok (.castore, 1) := by decide +kernel
theorem d1_33 : decode method_2_code 33 = .ok (.dup, 1) := by decide +kernel
theorem d1_34 : decode method_2_code 34 = .ok (.iconst 4, 1) := by decide +kernel
theorem d1_35 : decode method_2_code 35 = .ok (.bipush 66, 2) := by decide +kernel
theorem d1_37 : decode method_2_code 37 = .ok (.castore, 1) := by decide +kernel
theorem d1_38 : decode method_2_code 38 = .ok (.dup, 1) := by decide +kernel
theorem d1_39 : decode method_2_code 39 = .ok (.iconst 5, 1) := by decide +kernel
theorem d1_40 : decode method_2_code 40 = .ok (.bipush 89, 2) := by decide +kernel
theorem d1_42 : decode method_2_code 42 = .ok (.castore, 1) := by decide +kernel
theorem d1_43 : decode method_2_code 43 = .ok (.dup, 1) := by decide +kernel
theorem d1_44 : decode method_2_code 44 = .ok (.bipush 6, 2) := by decide +kernel
theorem d1_46 : decode method_2_code 46 = .ok (.bipush 90, 2) := by decide +kernel
theorem d1_48 : decode method_2_code 48 = .ok (.castore, 1) := by decide +kernel
theorem d1_49 : decode method_2_code 49 = .ok (.dup, 1) := by decide +kernel
theorem d1_50 : decode method_2_code 50 = .ok (.bipush 7, 2) := by decide +kernel
theorem d1_52 : decode method_2_code 52 = .ok (.bipush 91, 2) := by decide +kernel
theorem d1_54 : decode method_2_code 54 = .ok (.castore, 1) := by decide +kernel
theorem d1_55 : decode method_2_code 55 = .ok (.dup, 1) := by decide +kernel
theorem d1_56 : decode method_2_code 56 = .ok (.bipush 8, 2) := by decide +kernel
theorem d1_58 : decode method_2_code 58 = .ok (.bipush 97, 2) := by decide +kernel
theorem d1_60 : decode method_2_code 60 = .ok (.castore, 1) := by decide +kernel
theorem d1_61 : decode method_2_code 61 = .ok (.dup, 1) := by decide +kernel
theorem d1_62 : decode method_2_code 62 = .ok (.bipush 9, 2) := by decide +kernel
theorem d1_64 : decode method_2_code 64 = .ok (.bipush 122, 2) := by decide +kernel
theorem d1_66 : decode method_2_code 66 = .ok (.castore, 1) := by decide +kernel
theorem d1_67 : decode method_2_code 67 = .ok (.dup, 1) := by decide +kernel
theorem d1_68 : decode method_2_code 68 = .ok (.bipush 10, 2) := by decide +kernel
theorem d1_70 : decode method_2_code 70 = .ok (.bipush 96, 2) := by decide +kernel
theorem d1_72 : decode method_2_code 72 = .ok (.castore, 1) := by decide +kernel
theorem d1_73 : decode method_2_code 73 = .ok (.dup, 1) := by decide +kernel
theorem d1_74 : decode method_2_code 74 = .ok (.bipush 11, 2) := by decide +kernel
theorem d1_76 : decode method_2_code 76 = .ok (.bipush 123, 2) := by decide +kernel
theorem d1_78 : decode method_2_code 78 = .ok (.castore, 1) := by decide +kernel
theorem d1_79 : decode method_2_code 79 = .ok (.dup, 1) := by decide +kernel
theorem d1_80 : decode method_2_code 80 = .ok (.bipush 12, 2) := by decide +kernel
theorem d1_82 : decode method_2_code 82 = .ok (.iconst 0, 1) := by decide +kernel
theorem d1_83 : decode method_2_code 83 = .ok (.castore, 1) := by decide +kernel
theorem d1_84 : decode method_2_code 84 = .ok (.dup, 1) := by decide +kernel
theorem d1_85 : decode method_2_code 85 = .ok (.bipush 13, 2) := by decide +kernel
theorem d1_87 : decode method_2_code 87 = .ok (.ldc 7, 2) := by decide +kernel
theorem d1_89 : decode method_2_code 89 = .ok (.castore, 1) := by decide +kernel
theorem d1_90 : decode method_2_code 90 = .ok (.dup, 1) := by decide +kernel
theorem d1_91 : decode method_2_code 91 = .ok (.bipush 14, 2) := by decide +kernel
theorem d1_93 : decode method_2_code 93 = .ok (.bipush 77, 2) := by decide +kernel
theorem d1_95 : decode method_2_code 95 = .ok (.castore, 1) := by decide +kernel
theorem d1_96 : decode method_2_code 96 = .ok (.dup, 1) := by decide +kernel
theorem d1_97 : decode method_2_code 97 = .ok (.bipush 15, 2) := by decide +kernel
theorem d1_99 : decode method_2_code 99 = .ok (.sipush 192, 3) := by decide +kernel
theorem d1_102 : decode method_2_code 102 = .ok (.castore, 1) := by decide +kernel
theorem d1_103 : decode method_2_code 103 = .ok (.astore_n 2, 1) := by decide +kernel
theorem d1_104 : decode method_2_code 104 = .ok (.aload_n 2, 1) := by decide +kernel
theorem d1_105 : decode method_2_code 105 = .ok (.iload_n 1, 1) := by decide +kernel
theorem d1_106 : decode method_2_code 106 = .ok (.bipush 15, 2) := by decide +kernel
theorem d1_108 : decode method_2_code 108 = .ok (.iand, 1) := by decide +kernel
theorem d1_109 : decode method_2_code 109 = .ok (.caload, 1) := by decide +kernel
theorem d1_110 : decode method_2_code 110 = .ok (.ireturn, 1) := by decide +kernel
theorem pn_1 : plainName "com/example/lexigrid/lexigrid/RackIsTilePinLaw" = true := by first | (simp [plainName, overriddenIn]; done) | decide +kernel
theorem ef_1 (m : MethodId) (x0 : Int32) (x1 : Int32) : entryFrame m #[(.int x0), (.int x1)] 3 = mkF m 0 #[.val (.int x0), .val (.int x1), .unset] [] := by first | (simp [entryFrame, mkF, argsToLocals, Value.category]; done) | rfl
set_option maxRecDepth 65536 in
set_option maxHeartbeats 40000000 in
theorem rm1 (l : Launch) (Z : State) (a0 : Array Value) (hw : ∀ d ∈ tables_1, d.before a0 Z = true) (ws : List Jvm.Cond) (u0 : Int32) (u1 : Int32) (h0 : Heap) (n0 : Nat) (Z0 : n0 ≤ h0.size) :
    MetFree l (⟨"com/example/lexigrid/lexigrid/RackIsTilePinLaw", "drawn", "(II)C"⟩ : MethodName) (head1 (Jvm.Cond.code (⟨"com/example/lexigrid/lexigrid/RackIsTilePinLaw", "drawn", "(II)C"⟩ : MethodName) method_2_code 3 (some .char) :: ws) ({ frames := 0, cells := 1, slots := 16, locals := 0 } : Room)) (fun a U => a = #[(.int u0), (.int u1)] ∧ Z.Warmed39 U.vm ∧ U.heap = h0) (fun _ _ _ _ _ => True) (fun _ U o U' => ∃ v L, o = .returned v ∧ QD h0 n0 v U'.heap L ∧ FrameEnd U o U' L 1 16) := by
  refine MetFree.of_bodySF (plainFor_of_name pn_1) hisR ?_
  intro p e s m args below meth c s₁ Bd hml0 hP hK
  obtain ⟨rfl, hZ, hh⟩ := hP
  have hx := Bd.exec
  have hby := Bd.bytes
  have hml : c.maxLocals = 3 := hml0
  have hown : s.vm.findClass "com/example/lexigrid/lexigrid/RackIsTilePinLaw" = some m.cls := findClass_of_methodNamed Bd.named
  have hnm := (name_of_methodNamed Bd.named Bd.method).1
  have X0 : Stand p l e ({ frames := 0, cells := 1, slots := 16, locals := 0 } : Room) s m #[(.int u0), (.int u1)] below meth c s₁ [] 0 0 := Stand.of_body Bd
  have e0 : s₁.heap = h0 := by rw [← hh, Bd.state]; rfl
  have N0 := Fr.nil n0
  have pre0 : ∀ t, Steps p.tables e below (s₁.setTop (mkF m 0 #[.val (.int u0), .val (.int u1), .unset] [])) t → Steps p.tables e below (s₁.setTop (entryFrame m #[(.int u0), (.int u1)] 3)) t := fun t k => castTop (ef_1 m u0 u1) k
  have K0 : Keep h0 h0 [] := Keep.refl h0 []
  have pre1 : ∀ t, Steps p.tables e below (s₁.setTop (mkF m 3 #[.val (.int u0), .val (.int u1), .unset] [(.int (u0 &&& (3 : Int32)))])) t → Steps p.tables e below (s₁.setTop (entryFrame m #[(.int u0), (.int u1)] 3)) t := fun t k => pre0 t (by
    show Steps p.tables e below (s₁.setTop (mkF m 0 #[.val (.int u0), .val (.int u1), .unset] [])) _
    refine XS.iloadN X0.here hx rfl (hb hby d1_0) rfl ?_
    show Steps p.tables e below (s₁.setTop (mkF m 1 #[.val (.int u0), .val (.int u1), .unset] [(.int u0)])) _
    refine XS.iconst X0.here hx rfl (hb hby d1_1) ?_
    show Steps p.tables e below (s₁.setTop (mkF m 2 #[.val (.int u0), .val (.int u1), .unset] [(.int (3 : Int32)), (.int u0)])) _
    refine XS.iand X0.here hx rfl (hb hby d1_2) rfl ?_
    exact k)
  by_cases hc3 : (u0 &&& (3 : Int32)) = (0 : Int32)
  · -- pc 3: (u0 &&& (3 : Int32)) = (0 : Int32)
    obtain ⟨T2, h2, k2, X2, e2, E2, A2, st2⟩ := newP X0 hx hZ (hw _ (List.mem_of_getElem? (i := 4) rfl)) e0 (g := (mkF m 11 #[.val (.int u0), .val (.int u1), .unset] [(.int (16 : Int32))])) rfl (hb hby d1_11) rfl (by decide) (cap := 16) (by decide) (by decide) (by decide) (by decide)
    obtain ⟨b2, g2⟩ : ∃ z, z = h0.size := ⟨_, rfl⟩
    rw [← g2] at A2 st2
    have g_b2 : n0 ≤ b2 := Nat.le_trans Z0 (Nat.le_of_eq g2.symm)
    have sz_b2 : h0.size ≤ b2 := Nat.le_trans K0.1 (Nat.le_of_eq g2.symm)
    have K2 : Keep h0 h2 [] := K0.ext E2
    have V_b2 : Arv Z h2 b2 k2 .char (16 : Int32) [(.int (0 : Int32)), (.int (0 : Int32)), (.int (0 : Int32)), (.int (0 : Int32)), (.int (0 : Int32)), (.int (0 : Int32)), (.int (0 : Int32)), (.int (0 : Int32)), (.int (0 : Int32)), (.int (0 : Int32)), (.int (0 : Int32)), (.int (0 : Int32)), (.int (0 : Int32)), (.int (0 : Int32)), (.int (0 : Int32)), (.int (0 : Int32))] (.int (0 : Int32)) := (Arv.new A2 (by decide)).pad (pad_rep [] (.int (0 : Int32)) 16)
    obtain ⟨c3, Ar3, q3, S3, N3n, H3, G3⟩ := V_b2
    have hin3 : ¬ ((0 : Int32) < 0 ∨ c3.slots.size ≤ ((0 : Int32)).toNatClampNeg) := inb_of S3 ⟨by decide, by decide⟩
    obtain ⟨T4, h4, X4, e4, W4, st4⟩ := stC X2 hx hZ e2 Ar3 (j := (0 : Int32)) hin3 (g := (mkF m 17 #[.val (.int u0), .val (.int u1), .unset] [(.int (63 : Int32)), (.int (0 : Int32)), (.ref b2), (.ref b2)])) rfl rfl (hb hby d1_17)
    have V_b2_4 : Arv Z h4 b2 k2 .char (16 : Int32) [(.int (nar .char (63 : Int32))), (.int (0 : Int32)), (.int (0 : Int32)), (.int (0 : Int32)), (.int (0 : Int32)), (.int (0 : Int32)), (.int (0 : Int32)), (.int (0 : Int32)), (.int (0 : Int32)), (.int (0 : Int32)), (.int (0 : Int32)), (.int (0 : Int32)), (.int (0 : Int32)), (.int (0 : Int32)), (.int (0 : Int32)), (.int (0 : Int32))] (.int (0 : Int32)) := Arv.set Ar3 q3 S3 N3n H3 G3 (fits_nar_char _) W4 0 rfl (Nat.le_of_ble_eq_true rfl)
    have K4 : Keep h0 h4 [] := K2.wr W4 (Or.inr sz_b2)
    have N4 := Fr.snoc X4 N0 g_b2
    obtain ⟨c5, Ar5, q5, S5, N5n, H5, G5⟩ := V_b2_4
    have hin5 : ¬ ((1 : Int32) < 0 ∨ c5.slots.size ≤ ((1 : Int32)).toNatClampNeg) := inb_of S5 ⟨by decide, by decide⟩
    obtain ⟨T6, h6, X6, e6, W6, st6⟩ := stC X4 hx hZ e4 Ar5 (j := (1 : Int32)) hin5 (g := (mkF m 22 #[.val (.int u0), .val (.int u1), .unset] [(.int (62 : Int32)), (.int (1 : Int32)), (.ref b2), (.ref b2)])) rfl rfl (hb hby d1_22)
    have V_b2_6 : Arv Z h6 b2 k2 .char (16 : Int32) [(.int (nar .char (63 : Int32))), (.int (nar .char (62 : Int32))), (.int (0 : Int32)), (.int (0 : Int32)), (.int (0 : Int32)), (.int (0 : Int32)), (.int (0 : Int32)), (.int (0 : Int32)), (.int (0 : Int32)), (.int (0 : Int32)), (.int (0 : Int32)), (.int (0 : Int32)), (.int (0 : Int32)), (.int (0 : Int32)), (.int (0 : Int32)), (.int (0 : Int32))] (.int (0 : Int32)) := Arv.set Ar5 q5 S5 N5n H5 G5 (fits_nar_char _) W6 1 rfl (Nat.le_of_ble_eq_true rfl)
    have K6 : Keep h0 h6 [] := K4.wr W6 (Or.inr sz_b2)
    have N6 := Fr.snoc X6 N4 g_b2
    obtain ⟨c7, Ar7, q7, S7, N7n, H7, G7⟩ := V_b2_6
    have hin7 : ¬ ((2 : Int32) < 0 ∨ c7.slots.size ≤ ((2 : Int32)).toNatClampNeg) := inb_of S7 ⟨by decide, by decide⟩
    obtain ⟨T8, h8, X8, e8, W8, st8⟩ := stC X6 hx hZ e6 Ar7 (j := (2 : Int32)) hin7 (g := (mkF m 27 #[.val (.int u0), .val (.int u1), .unset] [(.int (64 : Int32)), (.int (2 : Int32)), (.ref b2), (.ref b2)])) rfl rfl (hb hby d1_27)
    have V_b2_8 : Arv Z h8 b2 k2 .char (16 : Int32) [(.int (nar .char (63 : Int32))), (.int (nar .char (62 : Int32))), (.int (nar .char (64 : Int32))), (.int (0 : Int32)), (.int (0 : Int32)), (.int (0 : Int32)), (.int (0 : Int32)), (.int (0 : Int32)), (.int (0 : Int32)), (.int (0 : Int32)), (.int (0 : Int32)), (.int (0 : Int32)), (.int (0 : Int32)), (.int (0 : Int32)), (.int (0 : Int32)), (.int (0 : Int32))] (.int (0 : Int32)) := Arv.set Ar7 q7 S7 N7n H7 G7 (fits_nar_char _) W8 2 rfl (Nat.le_of_ble_eq_true rfl)
    have K8 : Keep h0 h8 [] := K6.wr W8 (Or.inr sz_b2)
    have N8 := Fr.snoc X8 N6 g_b2
    obtain ⟨c9, Ar9, q9, S9, N9n, H9, G9⟩ := V_b2_8
    have hin9 : ¬ ((3 : Int32) < 0 ∨ c9.slots.size ≤ ((3 : Int32)).toNatClampNeg) := inb_of S9 ⟨by decide, by decide⟩
    obtain ⟨T10, h10, X10, e10, W10, st10⟩ := stC X8 hx hZ e8 Ar9 (j := (3 : Int32)) hin9 (g := (mkF m 32 #[.val (.int u0), .val (.int u1), .unset] [(.int (65 : Int32)), (.int (3 : Int32)), (.ref b2), (.ref b2)])) rfl rfl (hb hby d1_32)
    have V_b2_10 : Arv Z h10 b2 k2 .char (16 : Int32) [(.int (nar .char (63 : Int32))), (.int (nar .char (62 : Int32))), (.int (nar .char (64 : Int32))), (.int (nar .char (65 : Int32))), (.int (0 : Int32)), (.int (0 : Int32)), (.int (0 : Int32)), (.int (0 : Int32)), (.int (0 : Int32)), (.int (0 : Int32)), (.int (0 : Int32)), (.int (0 : Int32)), (.int (0 : Int32)), (.int (0 : Int32)), (.int (0 : Int32)), (.int (0 : Int32))] (.int (0 : Int32)) := Arv.set Ar9 q9 S9 N9n H9 G9 (fits_nar_char _) W10 3 rfl (Nat.le_of_ble_eq_true rfl)
    have K10 : Keep h0 h10 [] := K8.wr W10 (Or.inr sz_b2)
    have N10 := Fr.snoc X10 N8 g_b2
    obtain ⟨c11, Ar11, q11, S11, N11n, H11, G11⟩ := V_b2_10
    have hin11 : ¬ ((4 : Int32) < 0 ∨ c11.slots.size ≤ ((4 : Int32)).toNatClampNeg) := inb_of S11 ⟨by decide, by decide⟩
    obtain ⟨T12, h12, X12, e12, W12, st12⟩ := stC X10 hx hZ e10 Ar11 (j := (4 : Int32)) hin11 (g := (mkF m 37 #[.val (.int u0), .val (.int u1), .unset] [(.int (66 : Int32)), (.int (4 : Int32)), (.ref b2), (.ref b2)])) rfl rfl (hb hby d1_37)
    have V_b2_12 : Arv Z h12 b2 k2 .char (16 : Int32) [(.int (nar .char (63 : Int32))), (.int (nar .char (62 : Int32))), (.int (nar .char (64 : Int32))), (.int (nar .char (65 : Int32))), (.int (nar .char (66 : Int32))), (.int (0 : Int32)), (.int (0 : Int32)), (.int (0 : Int32)), (.int (0 : Int32)), (.int (0 : Int32)), (.int (0 : Int32)), (.int (0 : Int32)), (.int (0 : Int32)), (.int (0 : Int32)), (.int (0 : Int32)), (.int (0 : Int32))] (.int (0 : Int32)) := Arv.set Ar11 q11 S11 N11n H11 G11 (fits_nar_char _) W12 4 rfl (Nat.le_of_ble_eq_true rfl)
    have K12 : Keep h0 h12 [] := K10.wr W12 (Or.inr sz_b2)
    have N12 := Fr.snoc X12 N10 g_b2
    obtain ⟨c13, Ar13, q13, S13, N13n, H13, G13⟩ := V_b2_12
    have hin13 : ¬ ((5 : Int32) < 0 ∨ c13.slots.size ≤ ((5 : Int32)).toNatClampNeg) := inb_of S13 ⟨by decide, by decide⟩
    obtain ⟨T14, h14, X14, e14, W14, st14⟩ := stC X12 hx hZ e12 Ar13 (j := (5 : Int32)) hin13 (g := (mkF m 42 #[.val (.int u0), .val (.int u1), .unset] [(.int (89 : Int32)), (.int (5 : Int32)), (.ref b2), (.ref b2)])) rfl rfl (hb hby d1_42)
    have V_b2_14 : Arv Z h14 b2 k2 .char (16 : Int32) [(.int (nar .char (63 : Int32))), (.int (nar .char (62 : Int32))), (.int (nar .char (64 : Int32))), (.int (nar .char (65 : Int32))), (.int (nar .char (66 : Int32))), (.int (nar .char (89 : Int32))), (.int (0 : Int32)), (.int (0 : Int32)), (.int (0 : Int32)), (.int (0 : Int32)), (.int (0 : Int32)), (.int (0 : Int32)), (.int (0 : Int32)), (.int (0 : Int32)), (.int (0 : Int32)), (.int (0 : Int32))] (.int (0 : Int32)) := Arv.set Ar13 q13 S13 N13n H13 G13 (fits_nar_char _) W14 5 rfl (Nat.le_of_ble_eq_true rfl)
    have K14 : Keep h0 h14 [] := K12.wr W14 (Or.inr sz_b2)
    have N14 := Fr.snoc X14 N12 g_b2
    obtain ⟨c15, Ar15, q15, S15, N15n, H15, G15⟩ := V_b2_14
    have hin15 : ¬ ((6 : Int32) < 0 ∨ c15.slots.size ≤ ((6 : Int32)).toNatClampNeg) := inb_of S15 ⟨by decide, by decide⟩
    obtain ⟨T16, h16, X16, e16, W16, st16⟩ := stC X14 hx hZ e14 Ar15 (j := (6 : Int32)) hin15 (g := (mkF m 48 #[.val (.int u0), .val (.int u1), .unset] [(.int (90 : Int32)), (.int (6 : Int32)), (.ref b2), (.ref b2)])) rfl rfl (hb hby d1_48)
    have V_b2_16 : Arv Z h16 b2 k2 .char (16 : Int32) [(.int (nar .char (63 : Int32))), (.int (nar .char (62 : Int32))), (.int (nar .char (64 : Int32))), (.int (nar .char (65 : Int32))), (.int (nar .char (66 : Int32))), (.int (nar .char (89 : Int32))), (.int (nar .char (90 : Int32))), (.int (0 : Int32)), (.int (0 : Int32)), (.int (0 : Int32)), (.int (0 : Int32)), (.int (0 : Int32)), (.int (0 : Int32)), (.int (0 : Int32)), (.int (0 : Int32)), (.int (0 : Int32))] (.int (0 : Int32)) := Arv.set Ar15 q15 S15 N15n H15 G15 (fits_nar_char _) W16 6 rfl (Nat.le_of_ble_eq_true rfl)
    have K16 : Keep h0 h16 [] := K14.wr W16 (Or.inr sz_b2)
    have N16 := Fr.snoc X16 N14 g_b2
    obtain ⟨c17, Ar17, q17, S17, N17n, H17, G17⟩ := V_b2_16
    have hin17 : ¬ ((7 : Int32) < 0 ∨ c17.slots.size ≤ ((7 : Int32)).toNatClampNeg) := inb_of S17 ⟨by decide, by decide⟩
    obtain ⟨T18, h18, X18, e18, W18, st18⟩ := stC X16 hx hZ e16 Ar17 (j := (7 : Int32)) hin17 (g := (mkF m 54 #[.val (.int u0), .val (.int u1), .unset] [(.int (91 : Int32)), (.int (7 : Int32)), (.ref b2), (.ref b2)])) rfl rfl (hb hby d1_54)
    have V_b2_18 : Arv Z h18 b2 k2 .char (16 : Int32) [(.int (nar .char (63 : Int32))), (.int (nar .char (62 : Int32))), (.int (nar .char (64 : Int32))), (.int (nar .char (65 : Int32))), (.int (nar .char (66 : Int32))), (.int (nar .char (89 : Int32))), (.int (nar .char (90 : Int32))), (.int (nar .char (91 : Int32))), (.int (0 : Int32)), (.int (0 : Int32)), (.int (0 : Int32)), (.int (0 : Int32)), (.int (0 : Int32)), (.int (0 : Int32)), (.int (0 : Int32)), (.int (0 : Int32))] (.int (0 : Int32)) := Arv.set Ar17 q17 S17 N17n H17 G17 (fits_nar_char _) W18 7 rfl (Nat.le_of_ble_eq_true rfl)
    have K18 : Keep h0 h18 [] := K16.wr W18 (Or.inr sz_b2)
    have N18 := Fr.snoc X18 N16 g_b2
    obtain ⟨c19, Ar19, q19, S19, N19n, H19, G19⟩ := V_b2_18
    have hin19 : ¬ ((8 : Int32) < 0 ∨ c19.slots.size ≤ ((8 : Int32)).toNatClampNeg) := inb_of S19 ⟨by decide, by decide⟩
    obtain ⟨T20, h20, X20, e20, W20, st20⟩ := stC X18 hx hZ e18 Ar19 (j := (8 : Int32)) hin19 (g := (mkF m 60 #[.val (.int u0), .val (.int u1), .unset] [(.int (97 : Int32)), (.int (8 : Int32)), (.ref b2), (.ref b2)])) rfl rfl (hb hby d1_60)
    have V_b2_20 : Arv Z h20 b2 k2 .char (16 : Int32) [(.int (nar .char (63 : Int32))), (.int (nar .char (62 : Int32))), (.int (nar .char (64 : Int32))), (.int (nar .char (65 : Int32))), (.int (nar .char (66 : Int32))), (.int (nar .char (89 : Int32))), (.int (nar .char (90 : Int32))), (.int (nar .char (91 : Int32))), (.int (nar .char (97 : Int32))), (.int (0 : Int32)), (.int (0 : Int32)), (.int (0 : Int32)), (.int (0 : Int32)), (.int (0 : Int32)), (.int (0 : Int32)), (.int (0 : Int32))] (.int (0 : Int32)) := Arv.set Ar19 q19 S19 N19n H19 G19 (fits_nar_char _) W20 8 rfl (Nat.le_of_ble_eq_true rfl)
    have K20 : Keep h0 h20 [] := K18.wr W20 (Or.inr sz_b2)
    have N20 := Fr.snoc X20 N18 g_b2
    obtain ⟨c21, Ar21, q21, S21, N21n, H21, G21⟩ := V_b2_20
    have hin21 : ¬ ((9 : Int32) < 0 ∨ c21.slots.size ≤ ((9 : Int32)).toNatClampNeg) := inb_of S21 ⟨by decide, by decide⟩
    obtain ⟨T22, h22, X22, e22, W22, st22⟩ := stC X20 hx hZ e20 Ar21 (j := (9 : Int32)) hin21 (g := (mkF m 66 #[.val (.int u0), .val (.int u1), .unset] [(.int (122 : Int32)), (.int (9 : Int32)), (.ref b2), (.ref b2)])) rfl rfl (hb hby d1_66)
    have V_b2_22 : Arv Z h22 b2 k2 .char (16 : Int32) [(.int (nar .char (63 : Int32))), (.int (nar .char (62 : Int32))), (.int (nar .char (64 : Int32))), (.int (nar .char (65 : Int32))), (.int (nar .char (66 : Int32))), (.int (nar .char (89 : Int32))), (.int (nar .char (90 : Int32))), (.int (nar .char (91 : Int32))), (.int (nar .char (97 : Int32))), (.int (nar .char (122 : Int32))), (.int (0 : Int32)), (.int (0 : Int32)), (.int (0 : Int32)), (.int (0 : Int32)), (.int (0 : Int32)), (.int (0 : Int32))] (.int (0 : Int32)) := Arv.set Ar21 q21 S21 N21n H21 G21 (fits_nar_char _) W22 9 rfl (Nat.le_of_ble_eq_true rfl)
    have K22 : Keep h0 h22 [] := K20.wr W22 (Or.inr sz_b2)
    have N22 := Fr.snoc X22 N20 g_b2
    obtain ⟨c23, Ar23, q23, S23, N23n, H23, G23⟩ := V_b2_22
    have hin23 : ¬ ((10 : Int32) < 0 ∨ c23.slots.size ≤ ((10 : Int32)).toNatClampNeg) := inb_of S23 ⟨by decide, by decide⟩
    obtain ⟨T24, h24, X24, e24, W24, st24⟩ := stC X22 hx hZ e22 Ar23 (j := (10 : Int32)) hin23 (g := (mkF m 72 #[.val (.int u0), .val (.int u1), .unset] [(.int (96 : Int32)), (.int (10 : Int32)), (.ref b2), (.ref b2)])) rfl rfl (hb hby d1_72)
    have V_b2_24 : Arv Z h24 b2 k2 .char (16 : Int32) [(.int (nar .char (63 : Int32))), (.int (nar .char (62 : Int32))), (.int (nar .char (64 : Int32))), (.int (nar .char (65 : Int32))), (.int (nar .char (66 : Int32))), (.int (nar .char (89 : Int32))), (.int (nar .char (90 : Int32))), (.int (nar .char (91 : Int32))), (.int (nar .char (97 : Int32))), (.int (nar .char (122 : Int32))), (.int (nar .char (96 : Int32))), (.int (0 : Int32)), (.int (0 : Int32)), (.int (0 : Int32)), (.int (0 : Int32)), (.int (0 : Int32))] (.int (0 : Int32)) := Arv.set Ar23 q23 S23 N23n H23 G23 (fits_nar_char _) W24 10 rfl (Nat.le_of_ble_eq_true rfl)
    have K24 : Keep h0 h24 [] := K22.wr W24 (Or.inr sz_b2)
    have N24 := Fr.snoc X24 N22 g_b2
    obtain ⟨c25, Ar25, q25, S25, N25n, H25, G25⟩ := V_b2_24
    have hin25 : ¬ ((11 : Int32) < 0 ∨ c25.slots.size ≤ ((11 : Int32)).toNatClampNeg) := inb_of S25 ⟨by decide, by decide⟩
    obtain ⟨T26, h26, X26, e26, W26, st26⟩ := stC X24 hx hZ e24 Ar25 (j := (11 : Int32)) hin25 (g := (mkF m 78 #[.val (.int u0), .val (.int u1), .unset] [(.int (123 : Int32)), (.int (11 : Int32)), (.ref b2), (.ref b2)])) rfl rfl (hb hby d1_78)
    have V_b2_26 : Arv Z h26 b2 k2 .char (16 : Int32) [(.int (nar .char (63 : Int32))), (.int (nar .char (62 : Int32))), (.int (nar .char (64 : Int32))), (.int (nar .char (65 : Int32))), (.int (nar .char (66 : Int32))), (.int (nar .char (89 : Int32))), (.int (nar .char (90 : Int32))), (.int (nar .char (91 : Int32))), (.int (nar .char (97 : Int32))), (.int (nar .char (122 : Int32))), (.int (nar .char (96 : Int32))), (.int (nar .char (123 : Int32))), (.int (0 : Int32)), (.int (0 : Int32)), (.int (0 : Int32)), (.int (0 : Int32))] (.int (0 : Int32)) := Arv.set Ar25 q25 S25 N25n H25 G25 (fits_nar_char _) W26 11 rfl (Nat.le_of_ble_eq_true rfl)
    have K26 : Keep h0 h26 [] := K24.wr W26 (Or.inr sz_b2)
    have N26 := Fr.snoc X26 N24 g_b2
    obtain ⟨c27, Ar27, q27, S27, N27n, H27, G27⟩ := V_b2_26
    have hin27 : ¬ ((12 : Int32) < 0 ∨ c27.slots.size ≤ ((12 : Int32)).toNatClampNeg) := inb_of S27 ⟨by decide, by decide⟩
    obtain ⟨T28, h28, X28, e28, W28, st28⟩ := stC X26 hx hZ e26 Ar27 (j := (12 : Int32)) hin27 (g := (mkF m 83 #[.val (.int u0), .val (.int u1), .unset] [(.int (0 : Int32)), (.int (12 : Int32)), (.ref b2), (.ref b2)])) rfl rfl (hb hby d1_83)
    have V_b2_28 : Arv Z h28 b2 k2 .char (16 : Int32) [(.int (nar .char (63 : Int32))), (.int (nar .char (62 : Int32))), (.int (nar .char (64 : Int32))), (.int (nar .char (65 : Int32))), (.int (nar .char (66 : Int32))), (.int (nar .char (89 : Int32))), (.int (nar .char (90 : Int32))), (.int (nar .char (91 : Int32))), (.int (nar .char (97 : Int32))), (.int (nar .char (122 : Int32))), (.int (nar .char (96 : Int32))), (.int (nar .char (123 : Int32))), (.int (nar .char (0 : Int32))), (.int (0 : Int32)), (.int (0 : Int32)), (.int (0 : Int32))] (.int (0 : Int32)) := Arv.set Ar27 q27 S27 N27n H27 G27 (fits_nar_char _) W28 12 rfl (Nat.le_of_ble_eq_true rfl)
    have K28 : Keep h0 h28 [] := K26.wr W28 (Or.inr sz_b2)
    have N28 := Fr.snoc X28 N26 g_b2
    obtain ⟨c29, Ar29, q29, S29, N29n, H29, G29⟩ := V_b2_28
    have hin29 : ¬ ((13 : Int32) < 0 ∨ c29.slots.size ≤ ((13 : Int32)).toNatClampNeg) := inb_of S29 ⟨by decide, by decide⟩
    obtain ⟨T30, h30, X30, e30, W30, st30⟩ := stC X28 hx hZ e28 Ar29 (j := (13 : Int32)) hin29 (g := (mkF m 89 #[.val (.int u0), .val (.int u1), .unset] [(.int (65535 : Int32)), (.int (13 : Int32)), (.ref b2), (.ref b2)])) rfl rfl (hb hby d1_89)
    have V_b2_30 : Arv Z h30 b2 k2 .char (16 : Int32) [(.int (nar .char (63 : Int32))), (.int (nar .char (62 : Int32))), (.int (nar .char (64 : Int32))), (.int (nar .char (65 : Int32))), (.int (nar .char (66 : Int32))), (.int (nar .char (89 : Int32))), (.int (nar .char (90 : Int32))), (.int (nar .char (91 : Int32))), (.int (nar .char (97 : Int32))), (.int (nar .char (122 : Int32))), (.int (nar .char (96 : Int32))), (.int (nar .char (123 : Int32))), (.int (nar .char (0 : Int32))), (.int (nar .char (65535 : Int32))), (.int (0 : Int32)), (.int (0 : Int32))] (.int (0 : Int32)) := Arv.set Ar29 q29 S29 N29n H29 G29 (fits_nar_char _) W30 13 rfl (Nat.le_of_ble_eq_true rfl)
    have K30 : Keep h0 h30 [] := K28.wr W30 (Or.inr sz_b2)
    have N30 := Fr.snoc X30 N28 g_b2
    obtain ⟨c31, Ar31, q31, S31, N31n, H31, G31⟩ := V_b2_30
    have hin31 : ¬ ((14 : Int32) < 0 ∨ c31.slots.size ≤ ((14 : Int32)).toNatClampNeg) := inb_of S31 ⟨by decide, by decide⟩
    obtain ⟨T32, h32, X32, e32, W32, st32⟩ := stC X30 hx hZ e30 Ar31 (j := (14 : Int32)) hin31 (g := (mkF m 95 #[.val (.int u0), .val (.int u1), .unset] [(.int (77 : Int32)), (.int (14 : Int32)), (.ref b2), (.ref b2)])) rfl rfl (hb hby d1_95)
    have V_b2_32 : Arv Z h32 b2 k2 .char (16 : Int32) [(.int (nar .char (63 : Int32))), (.int (nar .char (62 : Int32))), (.int (nar .char (64 : Int32))), (.int (nar .char (65 : Int32))), (.int (nar .char (66 : Int32))), (.int (nar .char (89 : Int32))), (.int (nar .char (90 : Int32))), (.int (nar .char (91 : Int32))), (.int (nar .char (97 : Int32))), (.int (nar .char (122 : Int32))), (.int (nar .char (96 : Int32))), (.int (nar .char (123 : Int32))), (.int (nar .char (0 : Int32))), (.int (nar .char (65535 : Int32))), (.int (nar .char (77 : Int32))), (.int (0 : Int32))] (.int (0 : Int32)) := Arv.set Ar31 q31 S31 N31n H31 G31 (fits_nar_char _) W32 14 rfl (Nat.le_of_ble_eq_true rfl)
    have K32 : Keep h0 h32 [] := K30.wr W32 (Or.inr sz_b2)
    have N32 := Fr.snoc X32 N30 g_b2
    obtain ⟨c33, Ar33, q33, S33, N33n, H33, G33⟩ := V_b2_32
    have hin33 : ¬ ((15 : Int32) < 0 ∨ c33.slots.size ≤ ((15 : Int32)).toNatClampNeg) := inb_of S33 ⟨by decide, by decide⟩
    obtain ⟨T34, h34, X34, e34, W34, st34⟩ := stC X32 hx hZ e32 Ar33 (j := (15 : Int32)) hin33 (g := (mkF m 102 #[.val (.int u0), .val (.int u1), .unset] [(.int (192 : Int32)), (.int (15 : Int32)), (.ref b2), (.ref b2)])) rfl rfl (hb hby d1_102)
    have V_b2_34 : Arv Z h34 b2 k2 .char (16 : Int32) [(.int (nar .char (63 : Int32))), (.int (nar .char (62 : Int32))), (.int (nar .char (64 : Int32))), (.int (nar .char (65 : Int32))), (.int (nar .char (66 : Int32))), (.int (nar .char (89 : Int32))), (.int (nar .char (90 : Int32))), (.int (nar .char (91 : Int32))), (.int (nar .char (97 : Int32))), (.int (nar .char (122 : Int32))), (.int (nar .char (96 : Int32))), (.int (nar .char (123 : Int32))), (.int (nar .char (0 : Int32))), (.int (nar .char (65535 : Int32))), (.int (nar .char (77 : Int32))), (.int (nar .char (192 : Int32)))] (.int (0 : Int32)) := Arv.set Ar33 q33 S33 N33n H33 G33 (fits_nar_char _) W34 15 rfl (Nat.le_of_ble_eq_true rfl)
    have K34 : Keep h0 h34 [] := K32.wr W34 (Or.inr sz_b2)
    have N34 := Fr.snoc X34 N32 g_b2
    obtain ⟨c35, z35, Ar35, hin35, hat35, hfit35, hval35⟩ := own_elem V_b2_34 (by simp) (j := (u1 &&& (15 : Int32))) (own_and15 u1)
    obtain ⟨fs, hr, hrun, hended, hW, hsame⟩ := X34.leave (v := (some (.int (nar .char z35)))) (fun h => by rw [Bd.returns] at h; cases h)
    refine ⟨_, _, pre1 _ ?_, hrun, hended, _, _, rfl, ?_, ⟨_, rfl⟩, hW, hsame.mono (by decide) (by decide)⟩
    · show Steps p.tables e below (s₁.setTop (mkF m 3 #[.val (.int u0), .val (.int u1), .unset] [(.int (u0 &&& (3 : Int32)))])) _
      refine XS.ifYes X0.here hx rfl (pc0 := 3) (pc' := 9) rfl (hb hby d1_3) rfl ((if0 _ _).trans (teq hc3).1) (by decide) (by decide) ?_
      show Steps p.tables e below (s₁.setTop (mkF m 9 #[.val (.int u0), .val (.int u1), .unset] [])) _
      refine XS.bipush X0.here hx rfl (hb hby d1_9) ?_
      show Steps p.tables e below (s₁.setTop (mkF m 11 #[.val (.int u0), .val (.int u1), .unset] [(.int (16 : Int32))])) _
      refine st2 _ ?_
      show Steps p.tables e below (T2.setTop (mkF m 13 #[.val (.int u0), .val (.int u1), .unset] [(.ref b2)])) _
      refine XS.dup X2.here hx rfl (hb hby d1_13) rfl rfl ?_
      show Steps p.tables e below (T2.setTop (mkF m 14 #[.val (.int u0), .val (.int u1), .unset] [(.ref b2), (.ref b2)])) _
      refine XS.iconst X2.here hx rfl (hb hby d1_14) ?_
      show Steps p.tables e below (T2.setTop (mkF m 15 #[.val (.int u0), .val (.int u1), .unset] [(.int (0 : Int32)), (.ref b2), (.ref b2)])) _
      refine XS.bipush X2.here hx rfl (hb hby d1_15) ?_
      show Steps p.tables e below (T2.setTop (mkF m 17 #[.val (.int u0), .val (.int u1), .unset] [(.int (63 : Int32)), (.int (0 : Int32)), (.ref b2), (.ref b2)])) _
      refine st4 _ ?_
      show Steps p.tables e below (T4.setTop (mkF m 18 #[.val (.int u0), .val (.int u1), .unset] [(.ref b2)])) _
      refine XS.dup X4.here hx rfl (hb hby d1_18) rfl rfl ?_
      show Steps p.tables e below (T4.setTop (mkF m 19 #[.val (.int u0), .val (.int u1), .unset] [(.ref b2), (.ref b2)])) _
      refine XS.iconst X4.here hx rfl (hb hby d1_19) ?_
      show Steps p.tables e below (T4.setTop (mkF m 20 #[.val (.int u0), .val (.int u1), .unset] [(.int (1 : Int32)), (.ref b2), (.ref b2)])) _
      refine XS.bipush X4.here hx rfl (hb hby d1_20) ?_
      show Steps p.tables e below (T4.setTop (mkF m 22 #[.val (.int u0), .val (.int u1), .unset] [(.int (62 : Int32)), (.int (1 : Int32)), (.ref b2), (.ref b2)])) _
      refine st6 _ ?_
      show Steps p.tables e below (T6.setTop (mkF m 23 #[.val (.int u0), .val (.int u1), .unset] [(.ref b2)])) _
      refine XS.dup X6.here hx rfl (hb hby d1_23) rfl rfl ?_
      show Steps p.tables e below (T6.setTop (mkF m 24 #[.val (.int u0), .val (.int u1), .unset] [(.ref b2), (.ref b2)])) _
      refine XS.iconst X6.here hx rfl (hb hby d1_24) ?_
      show Steps p.tables e below (T6.setTop (mkF m 25 #[.val (.int u0), .val (.int u1), .unset] [(.int (2 : Int32)), (.ref b2), (.ref b2)])) _
      refine XS.bipush X6.here hx rfl (hb hby d1_25) ?_
      show Steps p.tables e below (T6.setTop (mkF m 27 #[.val (.int u0), .val (.int u1), .unset] [(.int (64 : Int32)), (.int (2 : Int32)), (.ref b2), (.ref b2)])) _
      refine st8 _ ?_
      show Steps p.tables e below (T8.setTop (mkF m 28 #[.val (.int u0), .val (.int u1), .unset] [(.ref b2)])) _
      refine XS.dup X8.here hx rfl (hb hby d1_28) rfl rfl ?_
      show Steps p.tables e below (T8.setTop (mkF m 29 #[.val (.int u0), .val (.int u1), .unset] [(.ref b2), (.ref b2)])) _
      refine XS.iconst X8.here hx rfl (hb hby d1_29) ?_
      show Steps p.tables e below (T8.setTop (mkF m 30 #[.val (.int u0), .val (.int u1), .unset] [(.int (3 : Int32)), (.ref b2), (.ref b2)])) _
      refine XS.bipush X8.here hx rfl (hb hby d1_30) ?_
      show Steps p.tables e below (T8.setTop (mkF m 32 #[.val (.int u0), .val (.int u1), .unset] [(.int (65 : Int32)), (.int (3 : Int32)), (.ref b2), (.ref b2)])) _
      refine st10 _ ?_
      show Steps p.tables e below (T10.setTop (mkF m 33 #[.val (.int u0), .val (.int u1), .unset] [(.ref b2)])) _
      refine XS.dup X10.here hx rfl (hb hby d1_33) rfl rfl ?_
      show Steps p.tables e below (T10.setTop (mkF m 34 #[.val (.int u0), .val (.int u1), .unset] [(.ref b2), (.ref b2)])) _
      refine XS.iconst X10.here hx rfl (hb hby d1_34) ?_
      show Steps p.tables e below (T10.setTop (mkF m 35 #[.val (.int u0), .val (.int u1), .unset] [(.int (4 : Int32)), (.ref b2), (.ref b2)])) _
      refine XS.bipush X10.here hx rfl (hb hby d1_35) ?_
      show Steps p.tables e below (T10.setTop (mkF m 37 #[.val (.int u0), .val (.int u1), .unset] [(.int (66 : Int32)), (.int (4 : Int32)), (.ref b2), (.ref b2)])) _
      refine st12 _ ?_
      show Steps p.tables e below (T12.setTop (mkF m 38 #[.val (.int u0), .val (.int u1), .unset] [(.ref b2)])) _
      refine XS.dup X12.here hx rfl (hb hby d1_38) rfl rfl ?_
      show Steps p.tables e below (T12.setTop (mkF m 39 #[.val (.int u0), .val (.int u1), .unset] [(.ref b2), (.ref b2)])) _
      refine XS.iconst X12.here hx rfl (hb hby d1_39) ?_
      show Steps p.tables e below (T12.setTop (mkF m 40 #[.val (.int u0), .val (.int u1), .unset] [(.int (5 : Int32)), (.ref b2), (.ref b2)])) _
      refine XS.bipush X12.here hx rfl (hb hby d1_40) ?_
      show Steps p.tables e below (T12.setTop (mkF m 42 #[.val (.int u0), .val (.int u1), .unset] [(.int (89 : Int32)), (.int (5 : Int32)), (.ref b2), (.ref b2)])) _
      refine st14 _ ?_
      show Steps p.tables e below (T14.setTop (mkF m 43 #[.val (.int u0), .val (.int u1), .unset] [(.ref b2)])) _
      refine XS.dup X14.here hx rfl (hb hby d1_43) rfl rfl ?_
      show Steps p.tables e below (T14.setTop (mkF m 44 #[.val (.int u0), .val (.int u1), .unset] [(.ref b2), (.ref b2)])) _
      refine XS.bipush X14.here hx rfl (hb hby d1_44) ?_
      show Steps p.tables e below (T14.setTop (mkF m 46 #[.val (.int u0), .val (.int u1), .unset] [(.int (6 : Int32)), (.ref b2), (.ref b2)])) _
      refine XS.bipush X14.here hx rfl (hb hby d1_46) ?_
      show Steps p.tables e below (T14.setTop (mkF m 48 #[.val (.int u0), .val (.int u1), .unset] [(.int (90 : Int32)), (.int (6 : Int32)), (.ref b2), (.ref b2)])) _
      refine st16 _ ?_
      show Steps p.tables e below (T16.setTop (mkF m 49 #[.val (.int u0), .val (.int u1), .unset] [(.ref b2)])) _
      refine XS.dup X16.here hx rfl (hb hby d1_49) rfl rfl ?_
      show Steps p.tables e below (T16.setTop (mkF m 50 #[.val (.int u0), .val (.int u1), .unset] [(.ref b2), (.ref b2)])) _
      refine XS.bipush X16.here hx rfl (hb hby d1_50) ?_
      show Steps p.tables e below (T16.setTop (mkF m 52 #[.val (.int u0), .val (.int u1), .unset] [(.int (7 : Int32)), (.ref b2), (.ref b2)])) _
      refine XS.bipush X16.here hx rfl (hb hby d1_52) ?_
      show Steps p.tables e below (T16.setTop (mkF m 54 #[.val (.int u0), .val (.int u1), .unset] [(.int (91 : Int32)), (.int (7 : Int32)), (.ref b2), (.ref b2)])) _
      refine st18 _ ?_
      show Steps p.tables e below (T18.setTop (mkF m 55 #[.val (.int u0), .val (.int u1), .unset] [(.ref b2)])) _
      refine XS.dup X18.here hx rfl (hb hby d1_55) rfl rfl ?_
      show Steps p.tables e below (T18.setTop (mkF m 56 #[.val (.int u0), .val (.int u1), .unset] [(.ref b2), (.ref b2)])) _
      refine XS.bipush X18.here hx rfl (hb hby d1_56) ?_
      show Steps p.tables e below (T18.setTop (mkF m 58 #[.val (.int u0), .val (.int u1), .unset] [(.int (8 : Int32)), (.ref b2), (.ref b2)])) _
      refine XS.bipush X18.here hx rfl (hb hby d1_58) ?_
      show Steps p.tables e below (T18.setTop (mkF m 60 #[.val (.int u0), .val (.int u1), .unset] [(.int (97 : Int32)), (.int (8 : Int32)), (.ref b2), (.ref b2)])) _
      refine st20 _ ?_
      show Steps p.tables e below (T20.setTop (mkF m 61 #[.val (.int u0), .val (.int u1), .unset] [(.ref b2)])) _
      refine XS.dup X20.here hx rfl (hb hby d1_61) rfl rfl ?_
      show Steps p.tables e below (T20.setTop (mkF m 62 #[.val (.int u0), .val (.int u1), .unset] [(.ref b2), (.ref b2)])) _
      refine XS.bipush X20.here hx rfl (hb hby d1_62) ?_
      show Steps p.tables e below (T20.setTop (mkF m 64 #[.val (.int u0), .val (.int u1), .unset] [(.int (9 : Int32)), (.ref b2), (.ref b2)])) _
      refine XS.bipush X20.here hx rfl (hb hby d1_64) ?_
      show Steps p.tables e below (T20.setTop (mkF m 66 #[.val (.int u0), .val (.int u1), .unset] [(.int (122 : Int32)), (.int (9 : Int32)), (.ref b2), (.ref b2)])) _
      refine st22 _ ?_
      show Steps p.tables e below (T22.setTop (mkF m 67 #[.val (.int u0), .val (.int u1), .unset] [(.ref b2)])) _
      refine XS.dup X22.here hx rfl (hb hby d1_67) rfl rfl ?_
      show Steps p.tables e below (T22.setTop (mkF m 68 #[.val (.int u0), .val (.int u1), .unset] [(.ref b2), (.ref b2)])) _
      refine XS.bipush X22.here hx rfl (hb hby d1_68) ?_
      show Steps p.tables e below (T22.setTop (mkF m 70 #[.val (.int u0), .val (.int u1), .unset] [(.int (10 : Int32)), (.ref b2), (.ref b2)])) _
      refine XS.bipush X22.here hx rfl (hb hby d1_70) ?_
      show Steps p.tables e below (T22.setTop (mkF m 72 #[.val (.int u0), .val (.int u1), .unset] [(.int (96 : Int32)), (.int (10 : Int32)), (.ref b2), (.ref b2)])) _
      refine st24 _ ?_
      show Steps p.tables e below (T24.setTop (mkF m 73 #[.val (.int u0), .val (.int u1), .unset] [(.ref b2)])) _
      refine XS.dup X24.here hx rfl (hb hby d1_73) rfl rfl ?_
      show Steps p.tables e below (T24.setTop (mkF m 74 #[.val (.int u0), .val (.int u1), .unset] [(.ref b2), (.ref b2)])) _
      refine XS.bipush X24.here hx rfl (hb hby d1_74) ?_
      show Steps p.tables e below (T24.setTop (mkF m 76 #[.val (.int u0), .val (.int u1), .unset] [(.int (11 : Int32)), (.ref b2), (.ref b2)])) _
      refine XS.bipush X24.here hx rfl (hb hby d1_76) ?_
      show Steps p.tables e below (T24.setTop (mkF m 78 #[.val (.int u0), .val (.int u1), .unset] [(.int (123 : Int32)), (.int (11 : Int32)), (.ref b2), (.ref b2)])) _
      refine st26 _ ?_
      show Steps p.tables e below (T26.setTop (mkF m 79 #[.val (.int u0), .val (.int u1), .unset] [(.ref b2)])) _
      refine XS.dup X26.here hx rfl (hb hby d1_79) rfl rfl ?_
      show Steps p.tables e below (T26.setTop (mkF m 80 #[.val (.int u0), .val (.int u1), .unset] [(.ref b2), (.ref b2)])) _
      refine XS.bipush X26.here hx rfl (hb hby d1_80) ?_
      show Steps p.tables e below (T26.setTop (mkF m 82 #[.val (.int u0), .val (.int u1), .unset] [(.int (12 : Int32)), (.ref b2), (.ref b2)])) _
      refine XS.iconst X26.here hx rfl (hb hby d1_82) ?_
      show Steps p.tables e below (T26.setTop (mkF m 83 #[.val (.int u0), .val (.int u1), .unset] [(.int (0 : Int32)), (.int (12 : Int32)), (.ref b2), (.ref b2)])) _
      refine st28 _ ?_
      show Steps p.tables e below (T28.setTop (mkF m 84 #[.val (.int u0), .val (.int u1), .unset] [(.ref b2)])) _
      refine XS.dup X28.here hx rfl (hb hby d1_84) rfl rfl ?_
      show Steps p.tables e below (T28.setTop (mkF m 85 #[.val (.int u0), .val (.int u1), .unset] [(.ref b2), (.ref b2)])) _
      refine XS.bipush X28.here hx rfl (hb hby d1_85) ?_
      show Steps p.tables e below (T28.setTop (mkF m 87 #[.val (.int u0), .val (.int u1), .unset] [(.int (13 : Int32)), (.ref b2), (.ref b2)])) _
      refine X28.ldcInt hx hown (mvT hZ (hw _ (List.mem_of_getElem? (i := 5) rfl))) (g := (mkF m 87 #[.val (.int u0), .val (.int u1), .unset] [(.int (13 : Int32)), (.ref b2), (.ref b2)])) rfl (hb hby d1_87) _ ?_
      show Steps p.tables e below (T28.setTop (mkF m 89 #[.val (.int u0), .val (.int u1), .unset] [(.int (65535 : Int32)), (.int (13 : Int32)), (.ref b2), (.ref b2)])) _
      refine st30 _ ?_
      show Steps p.tables e below (T30.setTop (mkF m 90 #[.val (.int u0), .val (.int u1), .unset] [(.ref b2)])) _
      refine XS.dup X30.here hx rfl (hb hby d1_90) rfl rfl ?_
      show Steps p.tables e below (T30.setTop (mkF m 91 #[.val (.int u0), .val (.int u1), .unset] [(.ref b2), (.ref b2)])) _
      refine XS.bipush X30.here hx rfl (hb hby d1_91) ?_
      show Steps p.tables e below (T30.setTop (mkF m 93 #[.val (.int u0), .val (.int u1), .unset] [(.int (14 : Int32)), (.ref b2), (.ref b2)])) _
      refine XS.bipush X30.here hx rfl (hb hby d1_93) ?_
      show Steps p.tables e below (T30.setTop (mkF m 95 #[.val (.int u0), .val (.int u1), .unset] [(.int (77 : Int32)), (.int (14 : Int32)), (.ref b2), (.ref b2)])) _
      refine st32 _ ?_
      show Steps p.tables e below (T32.setTop (mkF m 96 #[.val (.int u0), .val (.int u1), .unset] [(.ref b2)])) _
      refine XS.dup X32.here hx rfl (hb hby d1_96) rfl rfl ?_
      show Steps p.tables e below (T32.setTop (mkF m 97 #[.val (.int u0), .val (.int u1), .unset] [(.ref b2), (.ref b2)])) _
      refine XS.bipush X32.here hx rfl (hb hby d1_97) ?_
      show Steps p.tables e below (T32.setTop (mkF m 99 #[.val (.int u0), .val (.int u1), .unset] [(.int (15 : Int32)), (.ref b2), (.ref b2)])) _
      refine XS.sipush X32.here hx rfl (hb hby d1_99) ?_
      show Steps p.tables e below (T32.setTop (mkF m 102 #[.val (.int u0), .val (.int u1), .unset] [(.int (192 : Int32)), (.int (15 : Int32)), (.ref b2), (.ref b2)])) _
      refine st34 _ ?_
      show Steps p.tables e below (T34.setTop (mkF m 103 #[.val (.int u0), .val (.int u1), .unset] [(.ref b2)])) _
      refine XS.astoreN X34.here hx rfl (hb hby d1_103) rfl rfl (l' := #[.val (.int u0), .val (.int u1), .val (.ref b2)]) rfl ?_
      show Steps p.tables e below (T34.setTop (mkF m 104 #[.val (.int u0), .val (.int u1), .val (.ref b2)] [])) _
      refine XS.aloadN X34.here hx rfl (hb hby d1_104) rfl rfl ?_
      show Steps p.tables e below (T34.setTop (mkF m 105 #[.val (.int u0), .val (.int u1), .val (.ref b2)] [(.ref b2)])) _
      refine XS.iloadN X34.here hx rfl (hb hby d1_105) rfl ?_
      show Steps p.tables e below (T34.setTop (mkF m 106 #[.val (.int u0), .val (.int u1), .val (.ref b2)] [(.int u1), (.ref b2)])) _
      refine XS.bipush X34.here hx rfl (hb hby d1_106) ?_
      show Steps p.tables e below (T34.setTop (mkF m 108 #[.val (.int u0), .val (.int u1), .val (.ref b2)] [(.int (15 : Int32)), (.int u1), (.ref b2)])) _
      refine XS.iand X34.here hx rfl (hb hby d1_108) rfl ?_
      show Steps p.tables e below (T34.setTop (mkF m 109 #[.val (.int u0), .val (.int u1), .val (.ref b2)] [(.int (u1 &&& (15 : Int32))), (.ref b2)])) _
      refine X34.caload hx (j := (u1 &&& (15 : Int32))) (v := (.int z35)) (by rw [e34]; exact Ar35.1) (State.isArrayOf_alike hZ.alike Ar35.2.1) Ar35.2.2 hin35 hat35 (g := (mkF m 109 #[.val (.int u0), .val (.int u1), .val (.ref b2)] [(.int (u1 &&& (15 : Int32))), (.ref b2)])) rfl rfl (hb hby d1_109) _ ?_
      show Steps p.tables e below (T34.setTop (mkF m 110 #[.val (.int u0), .val (.int u1), .val (.ref b2)] [(.int z35)])) _
      exact retN X34 hx (t := .char) Bd.returns (by simp) (hb hby d1_110) hr
    · show QD h0 n0 _ T34.heap _
      rw [e34]
      exact ⟨⟨_, rfl, fits_nar_char _⟩, N34, K34⟩
  · -- pc 3: not (u0 &&& (3 : Int32)) = (0 : Int32)
    obtain ⟨fs, hr, hrun, hended, hW, hsame⟩ := X0.leave (v := (some (.int (nar .char (u1.toUInt32.toUInt16.toUInt32.toInt32))))) (fun h => by rw [Bd.returns] at h; cases h)
    refine ⟨_, _, pre1 _ ?_, hrun, hended, _, _, rfl, ?_, ⟨_, rfl⟩, hW, hsame.mono (by decide) (by decide)⟩
    · show Steps p.tables e below (s₁.setTop (mkF m 3 #[.val (.int u0), .val (.int u1), .unset] [(.int (u0 &&& (3 : Int32)))])) _
      refine XS.ifNo X0.here hx rfl (hb hby d1_3) rfl ((if0 _ _).trans (feq hc3).1) ?_
      show Steps p.tables e below (s₁.setTop (mkF m 6 #[.val (.int u0), .val (.int u1), .unset] [])) _
      refine XS.iloadN X0.here hx rfl (hb hby d1_6) rfl ?_
      show Steps p.tables e below (s₁.setTop (mkF m 7 #[.val (.int u0), .val (.int u1), .unset] [(.int u1)])) _
      refine XS.i2c X0.here hx rfl (hb hby d1_7) rfl ?_
      show Steps p.tables e below (s₁.setTop (mkF m 8 #[.val (.int u0), .val (.int u1), .unset] [(.int (u1.toUInt32.toUInt16.toUInt32.toInt32))])) _
      exact retN X0 hx (t := .char) Bd.returns (by simp) (hb hby d1_8) hr
    · show QD h0 n0 _ s₁.heap _
      rw [e0]
      exact ⟨⟨_, rfl, fits_nar_char _⟩, N0, K0⟩
theorem d2_0 : decode prog_47_method_3_code 0 = .ok (.iload_n 0, 1) := by decide +kernel
theorem d2_1 : decode prog_47_method_3_code 1 = .ok (.bipush 63, 2) := by decide +kernel
theorem d2_3 : decode prog_47_method_3_code 3 = .ok (.if_icmp .eq 15, 3) := by decide +kernel
theorem d2_6 : decode prog_47_method_3_code 6 = .ok (.iload_n 0, 1) := by decide +kernel
theorem d2_7 : decode prog_47_method_3_code 7 = .ok (.bipush 65, 2) := by decide +kernel
theorem d2_9 : decode prog_47_method_3_code 9 = .ok (.if_icmp .lt 13, 3) := by decide +kernel
theorem d2_12 : decode prog_47_method_3_code 12 = .ok (.iload_n 0, 1) := by decide +kernel
theorem d2_13 : decode prog_47_method_3_code 13 = .ok (.bipush 90, 2) := by decide +kernel
theorem d2_15 : decode prog_47_method_3_code 15 = .ok (.if_icmp .gt 7, 3) := by decide +kernel
theorem d2_18 : decode prog_47_method_3_code 18 = .ok (.iconst 1, 1) := by decide +kernel
theorem d2_19 : decode prog_47_method_3_code 19 = .ok (.goto 4, 3) := by decide +kernel
theorem d2_22 : decode prog_47_method_3_code 22 = .ok (.iconst 0, 1) := by decide +kernel
theorem d2_23 : decode prog_47_method_3_code 23 = .ok (.ireturn, 1) := by decide +kernel
theorem pn_2 : plainName "com/example/lexigrid/lexigrid/Rack" = true := by first | (simp [plainName, overriddenIn]; done) | decide +kernel
theorem ef_2 (m : MethodId) (x0 : Int32) : entryFrame m #[(.int x0)] 1 = mkF m 0 #[.val (.int x0)] [] := by first | (simp [entryFrame, mkF, argsToLocals, Value.category]; done) | rfl
def f2 (u0 : Int32) : Int32 := (if u0 = (63 : Int32) then (1 : Int32) else (if u0 < (65 : Int32) then (0 : Int32) else (if (90 : Int32) < u0 then (0 : Int32) else (1 : Int32))))
set_option maxRecDepth 65536 in
set_option maxHeartbeats 40000000 in
theorem rm2 (l : Launch) (Z : State) (a0 : Array Value) (hw : ∀ d ∈ tables_1, d.before a0 Z = true) (ws : List Jvm.Cond) (u0 : Int32) (h0 : Heap) (n0 : Nat) (Z0 : n0 ≤ h0.size) :
    MetFree l (⟨"com/example/lexigrid/lexigrid/Rack", "isTile", "(C)Z"⟩ : MethodName) (head1 (Jvm.Cond.code (⟨"com/example/lexigrid/lexigrid/Rack", "isTile", "(C)Z"⟩ : MethodName) prog_47_method_3_code 1 (some .boolean) :: ws) ({ frames := 0, cells := 0, slots := 0, locals := 0 } : Room)) (fun a U => a = #[(.int u0)] ∧ Z.Warmed39 U.vm ∧ U.heap = h0) (fun _ _ _ _ _ => True) (fun _ U o U' => ∃ v L, o = .returned v ∧ QP (some (.int (f2 u0))) h0 n0 v U'.heap L ∧ FrameEnd U o U' L 0 0) := by
  refine MetFree.of_bodySF (plainFor_of_name pn_2) hisR ?_
  intro p e s m args below meth c s₁ Bd hml0 hP hK
  obtain ⟨rfl, hZ, hh⟩ := hP
  have hx := Bd.exec
  have hby := Bd.bytes
  have hml : c.maxLocals = 1 := hml0
  have hown : s.vm.findClass "com/example/lexigrid/lexigrid/Rack" = some m.cls := findClass_of_methodNamed Bd.named
  have hnm := (name_of_methodNamed Bd.named Bd.method).1
  have X0 : Stand p l e ({ frames := 0, cells := 0, slots := 0, locals := 0 } : Room) s m #[(.int u0)] below meth c s₁ [] 0 0 := Stand.of_body Bd
  have e0 : s₁.heap = h0 := by rw [← hh, Bd.state]; rfl
  have N0 := Fr.nil n0
  have pre0 : ∀ t, Steps p.tables e below (s₁.setTop (mkF m 0 #[.val (.int u0)] [])) t → Steps p.tables e below (s₁.setTop (entryFrame m #[(.int u0)] 1)) t := fun t k => castTop (ef_2 m u0) k
  have pre1 : ∀ t, Steps p.tables e below (s₁.setTop (mkF m 3 #[.val (.int u0)] [(.int (63 : Int32)), (.int u0)])) t → Steps p.tables e below (s₁.setTop (entryFrame m #[(.int u0)] 1)) t := fun t k => pre0 t (by
    show Steps p.tables e below (s₁.setTop (mkF m 0 #[.val (.int u0)] [])) _
    refine XS.iloadN X0.here hx rfl (hb hby d2_0) rfl ?_
    show Steps p.tables e below (s₁.setTop (mkF m 1 #[.val (.int u0)] [(.int u0)])) _
    refine XS.bipush X0.here hx rfl (hb hby d2_1) ?_
    exact k)
  by_cases hc3 : u0 = (63 : Int32)
  · -- pc 3: u0 = (63 : Int32)
    obtain ⟨fs, hr, hrun, hended, hW, hsame⟩ := X0.leave (v := (some (.int (1 : Int32)))) (fun h => by rw [Bd.returns] at h; cases h)
    refine ⟨_, _, pre1 _ ?_, hrun, hended, _, _, rfl, ?_, ⟨_, rfl⟩, hW, hsame.mono (by decide) (by decide)⟩
    · show Steps p.tables e below (s₁.setTop (mkF m 3 #[.val (.int u0)] [(.int (63 : Int32)), (.int u0)])) _
      refine XS.icmpYes X0.here hx rfl (pc0 := 3) (pc' := 18) rfl (hb hby d2_3) rfl (teq hc3).1 (by decide) (by decide) ?_
      show Steps p.tables e below (s₁.setTop (mkF m 18 #[.val (.int u0)] [])) _
      refine XS.iconst X0.here hx rfl (hb hby d2_18) ?_
      show Steps p.tables e below (s₁.setTop (mkF m 19 #[.val (.int u0)] [(.int (1 : Int32))])) _
      refine XS.goto X0.here hx rfl (pc0 := 19) (pc' := 23) rfl (hb hby d2_19) (by decide) (by decide) ?_
      show Steps p.tables e below (s₁.setTop (mkF m 23 #[.val (.int u0)] [(.int (1 : Int32))])) _
      exact retN X0 hx (t := .boolean) Bd.returns (by simp) (hb hby d2_23) hr
    · show QP (some (.int (f2 u0))) h0 n0 _ s₁.heap _
      rw [e0]
      exact ⟨congrArg (fun z => some (Value.int z)) (Eq.symm (show (f2 u0) = (1 : Int32) from (if_pos hc3).trans (rfl))), N0, rfl⟩
  · -- pc 3: not u0 = (63 : Int32)
    have pre2 : ∀ t, Steps p.tables e below (s₁.setTop (mkF m 9 #[.val (.int u0)] [(.int (65 : Int32)), (.int u0)])) t → Steps p.tables e below (s₁.setTop (entryFrame m #[(.int u0)] 1)) t := fun t k => pre1 t (by
      show Steps p.tables e below (s₁.setTop (mkF m 3 #[.val (.int u0)] [(.int (63 : Int32)), (.int u0)])) _
      refine XS.icmpNo X0.here hx rfl (hb hby d2_3) rfl (feq hc3).1 ?_
      show Steps p.tables e below (s₁.setTop (mkF m 6 #[.val (.int u0)] [])) _
      refine XS.iloadN X0.here hx rfl (hb hby d2_6) rfl ?_
      show Steps p.tables e below (s₁.setTop (mkF m 7 #[.val (.int u0)] [(.int u0)])) _
      refine XS.bipush X0.here hx rfl (hb hby d2_7) ?_
      exact k)
    by_cases hc9 : u0 < (65 : Int32)
    · -- pc 9: u0 < (65 : Int32)
      obtain ⟨fs, hr, hrun, hended, hW, hsame⟩ := X0.leave (v := (some (.int (0 : Int32)))) (fun h => by rw [Bd.returns] at h; cases h)
      refine ⟨_, _, pre2 _ ?_, hrun, hended, _, _, rfl, ?_, ⟨_, rfl⟩, hW, hsame.mono (by decide) (by decide)⟩
      · show Steps p.tables e below (s₁.setTop (mkF m 9 #[.val (.int u0)] [(.int (65 : Int32)), (.int u0)])) _
        refine XS.icmpYes X0.here hx rfl (pc0 := 9) (pc' := 22) rfl (hb hby d2_9) rfl (tlt hc9).1 (by decide) (by decide) ?_
        show Steps p.tables e below (s₁.setTop (mkF m 22 #[.val (.int u0)] [])) _
        refine XS.iconst X0.here hx rfl (hb hby d2_22) ?_
        show Steps p.tables e below (s₁.setTop (mkF m 23 #[.val (.int u0)] [(.int (0 : Int32))])) _
        exact retN X0 hx (t := .boolean) Bd.returns (by simp) (hb hby d2_23) hr
      · show QP (some (.int (f2 u0))) h0 n0 _ s₁.heap _
        rw [e0]
        exact ⟨congrArg (fun z => some (Value.int z)) (Eq.symm (show (f2 u0) = (0 : Int32) from (if_neg hc3).trans ((if_pos hc9).trans (rfl)))), N0, rfl⟩
    · -- pc 9: not u0 < (65 : Int32)
      have pre3 : ∀ t, Steps p.tables e below (s₁.setTop (mkF m 15 #[.val (.int u0)] [(.int (90 : Int32)), (.int u0)])) t → Steps p.tables e below (s₁.setTop (entryFrame m #[(.int u0)] 1)) t := fun t k => pre2 t (by
        show Steps p.tables e below (s₁.setTop (mkF m 9 #[.val (.int u0)] [(.int (65 : Int32)), (.int u0)])) _
        refine XS.icmpNo X0.here hx rfl (hb hby d2_9) rfl (flt hc9).1 ?_
        show Steps p.tables e below (s₁.setTop (mkF m 12 #[.val (.int u0)] [])) _
        refine XS.iloadN X0.here hx rfl (hb hby d2_12) rfl ?_
        show Steps p.tables e below (s₁.setTop (mkF m 13 #[.val (.int u0)] [(.int u0)])) _
        refine XS.bipush X0.here hx rfl (hb hby d2_13) ?_
        exact k)
      by_cases hc15 : (90 : Int32) < u0
      · -- pc 15: (90 : Int32) < u0
        obtain ⟨fs, hr, hrun, hended, hW, hsame⟩ := X0.leave (v := (some (.int (0 : Int32)))) (fun h => by rw [Bd.returns] at h; cases h)
        refine ⟨_, _, pre3 _ ?_, hrun, hended, _, _, rfl, ?_, ⟨_, rfl⟩, hW, hsame.mono (by decide) (by decide)⟩
        · show Steps p.tables e below (s₁.setTop (mkF m 15 #[.val (.int u0)] [(.int (90 : Int32)), (.int u0)])) _
          refine XS.icmpYes X0.here hx rfl (pc0 := 15) (pc' := 22) rfl (hb hby d2_15) rfl (tlt hc15).2.2.1 (by decide) (by decide) ?_
          show Steps p.tables e below (s₁.setTop (mkF m 22 #[.val (.int u0)] [])) _
          refine XS.iconst X0.here hx rfl (hb hby d2_22) ?_
          show Steps p.tables e below (s₁.setTop (mkF m 23 #[.val (.int u0)] [(.int (0 : Int32))])) _
          exact retN X0 hx (t := .boolean) Bd.returns (by simp) (hb hby d2_23) hr
        · show QP (some (.int (f2 u0))) h0 n0 _ s₁.heap _
          rw [e0]
          exact ⟨congrArg (fun z => some (Value.int z)) (Eq.symm (show (f2 u0) = (0 : Int32) from (if_neg hc3).trans ((if_neg hc9).trans ((if_pos hc15).trans (rfl))))), N0, rfl⟩
      · -- pc 15: not (90 : Int32) < u0
        obtain ⟨fs, hr, hrun, hended, hW, hsame⟩ := X0.leave (v := (some (.int (1 : Int32)))) (fun h => by rw [Bd.returns] at h; cases h)
        refine ⟨_, _, pre3 _ ?_, hrun, hended, _, _, rfl, ?_, ⟨_, rfl⟩, hW, hsame.mono (by decide) (by decide)⟩
        · show Steps p.tables e below (s₁.setTop (mkF m 15 #[.val (.int u0)] [(.int (90 : Int32)), (.int u0)])) _
          refine XS.icmpNo X0.here hx rfl (hb hby d2_15) rfl (flt hc15).2.2.1 ?_
          show Steps p.tables e below (s₁.setTop (mkF m 18 #[.val (.int u0)] [])) _
          refine XS.iconst X0.here hx rfl (hb hby d2_18) ?_
          show Steps p.tables e below (s₁.setTop (mkF m 19 #[.val (.int u0)] [(.int (1 : Int32))])) _
          refine XS.goto X0.here hx rfl (pc0 := 19) (pc' := 23) rfl (hb hby d2_19) (by decide) (by decide) ?_
          show Steps p.tables e below (s₁.setTop (mkF m 23 #[.val (.int u0)] [(.int (1 : Int32))])) _
          exact retN X0 hx (t := .boolean) Bd.returns (by simp) (hb hby d2_23) hr
        · show QP (some (.int (f2 u0))) h0 n0 _ s₁.heap _
          rw [e0]
          exact ⟨congrArg (fun z => some (Value.int z)) (Eq.symm (show (f2 u0) = (1 : Int32) from (if_neg hc3).trans ((if_neg hc9).trans ((if_neg hc15).trans (rfl))))), N0, rfl⟩
theorem d3_0 : decode method_3_code 0 = .ok (.iload_n 0, 1) := by decide +kernel
theorem d3_1 : decode method_3_code 1 = .ok (.bipush 63, 2) := by decide +kernel
theorem d3_3 : decode method_3_code 3 = .ok (.if_icmp .ne 5, 3) := by decide +kernel
theorem d3_6 : decode method_3_code 6 = .ok (.iconst 1, 1) := by decide +kernel
theorem d3_7 : decode method_3_code 7 = .ok (.ireturn, 1) := by decide +kernel
theorem d3_8 : decode method_3_code 8 = .ok (.iload_n 0, 1) := by decide +kernel
theorem d3_9 : decode method_3_code 9 = .ok (.bipush 65, 2) := by decide +kernel
theorem d3_11 : decode method_3_code 11 = .ok (.isub, 1) := by decide +kernel
theorem d3_12 : decode method_3_code 12 = .ok (.i2c, 1) := by decide +kernel
theorem d3_13 : decode method_3_code 13 = .ok (.istore_n 1, 1) := by decide +kernel
theorem d3_14 : decode method_3_code 14 = .ok (.iload_n 1, 1) := by decide +kernel
theorem d3_15 : decode method_3_code 15 = .ok (.bipush 26, 2) := by decide +kernel
theorem d3_17 : decode method_3_code 17 = .ok (.if_icmp .ge 7, 3) := by decide +kernel
theorem d3_20 : decode method_3_code 20 = .ok (.iconst 1, 1) := by decide +kernel
theorem d3_21 : decode method_3_code 21 = .ok (.goto 4, 3) := by decide +kernel
theorem d3_24 : decode method_3_code 24 = .ok (.iconst 0, 1) := by decide +kernel
theorem d3_25 : decode method_3_code 25 = .ok (.ireturn, 1) := by decide +kernel
theorem pn_3 : plainName "com/example/lexigrid/lexigrid/RackIsTilePinLaw" = true := by first | (simp [plainName, overriddenIn]; done) | decide +kernel
theorem ef_3 (m : MethodId) (x0 : Int32) : entryFrame m #[(.int x0)] 2 = mkF m 0 #[.val (.int x0), .unset] [] := by first | (simp [entryFrame, mkF, argsToLocals, Value.category]; done) | rfl
def f3 (u0 : Int32) : Int32 := (if u0 = (63 : Int32) then (1 : Int32) else (if ((u0 - (65 : Int32)).toUInt32.toUInt16.toUInt32.toInt32) < (26 : Int32) then (1 : Int32) else (0 : Int32)))
set_option maxRecDepth 65536 in
set_option maxHeartbeats 40000000 in
theorem rm3 (l : Launch) (Z : State) (a0 : Array Value) (hw : ∀ d ∈ tables_1, d.before a0 Z = true) (ws : List Jvm.Cond) (u0 : Int32) (h0 : Heap) (n0 : Nat) (Z0 : n0 ≤ h0.size) :
    MetFree l (⟨"com/example/lexigrid/lexigrid/RackIsTilePinLaw", "expected", "(C)Z"⟩ : MethodName) (head1 (Jvm.Cond.code (⟨"com/example/lexigrid/lexigrid/RackIsTilePinLaw", "expected", "(C)Z"⟩ : MethodName) method_3_code 2 (some .boolean) :: ws) ({ frames := 0, cells := 0, slots := 0, locals := 0 } : Room)) (fun a U => a = #[(.int u0)] ∧ Z.Warmed39 U.vm ∧ U.heap = h0) (fun _ _ _ _ _ => True) (fun _ U o U' => ∃ v L, o = .returned v ∧ QP (some (.int (f3 u0))) h0 n0 v U'.heap L ∧ FrameEnd U o U' L 0 0) := by
  refine MetFree.of_bodySF (plainFor_of_name pn_3) hisR ?_
  intro p e s m args below meth c s₁ Bd hml0 hP hK
  obtain ⟨rfl, hZ, hh⟩ := hP
  have hx := Bd.exec
  have hby := Bd.bytes
  have hml : c.maxLocals = 2 := hml0
  have hown : s.vm.findClass "com/example/lexigrid/lexigrid/RackIsTilePinLaw" = some m.cls := findClass_of_methodNamed Bd.named
  have hnm := (name_of_methodNamed Bd.named Bd.method).1
  have X0 : Stand p l e ({ frames := 0, cells := 0, slots := 0, locals := 0 } : Room) s m #[(.int u0)] below meth c s₁ [] 0 0 := Stand.of_body Bd
  have e0 : s₁.heap = h0 := by rw [← hh, Bd.state]; rfl
  have N0 := Fr.nil n0
  have pre0 : ∀ t, Steps p.tables e below (s₁.setTop (mkF m 0 #[.val (.int u0), .unset] [])) t → Steps p.tables e below (s₁.setTop (entryFrame m #[(.int u0)] 2)) t := fun t k => castTop (ef_3 m u0) k
  have pre1 : ∀ t, Steps p.tables e below (s₁.setTop (mkF m 3 #[.val (.int u0), .unset] [(.int (63 : Int32)), (.int u0)])) t → Steps p.tables e below (s₁.setTop (entryFrame m #[(.int u0)] 2)) t := fun t k => pre0 t (by
    show Steps p.tables e below (s₁.setTop (mkF m 0 #[.val (.int u0), .unset] [])) _
    refine XS.iloadN X0.here hx rfl (hb hby d3_0) rfl ?_
    show Steps p.tables e below (s₁.setTop (mkF m 1 #[.val (.int u0), .unset] [(.int u0)])) _
    refine XS.bipush X0.here hx rfl (hb hby d3_1) ?_
    exact k)
  by_cases hc3 : u0 = (63 : Int32)
  · -- pc 3: u0 = (63 : Int32)
    obtain ⟨fs, hr, hrun, hended, hW, hsame⟩ := X0.leave (v := (some (.int (1 : Int32)))) (fun h => by rw [Bd.returns] at h; cases h)
    refine ⟨_, _, pre1 _ ?_, hrun, hended, _, _, rfl, ?_, ⟨_, rfl⟩, hW, hsame.mono (by decide) (by decide)⟩
    · show Steps p.tables e below (s₁.setTop (mkF m 3 #[.val (.int u0), .unset] [(.int (63 : Int32)), (.int u0)])) _
      refine XS.icmpNo X0.here hx rfl (hb hby d3_3) rfl (teq hc3).2 ?_
      show Steps p.tables e below (s₁.setTop (mkF m 6 #[.val (.int u0), .unset] [])) _
      refine XS.iconst X0.here hx rfl (hb hby d3_6) ?_
      show Steps p.tables e below (s₁.setTop (mkF m 7 #[.val (.int u0), .unset] [(.int (1 : Int32))])) _
      exact retN X0 hx (t := .boolean) Bd.returns (by simp) (hb hby d3_7) hr
    · show QP (some (.int (f3 u0))) h0 n0 _ s₁.heap _
      rw [e0]
      exact ⟨congrArg (fun z => some (Value.int z)) (Eq.symm (show (f3 u0) = (1 : Int32) from (if_pos hc3).trans (rfl))), N0, rfl⟩
  · -- pc 3: not u0 = (63 : Int32)
    have pre2 : ∀ t, Steps p.tables e below (s₁.setTop (mkF m 17 #[.val (.int u0), .val (.int ((u0 - (65 : Int32)).toUInt32.toUInt16.toUInt32.toInt32))] [(.int (26 : Int32)), (.int ((u0 - (65 : Int32)).toUInt32.toUInt16.toUInt32.toInt32))])) t → Steps p.tables e below (s₁.setTop (entryFrame m #[(.int u0)] 2)) t := fun t k => pre1 t (by
      show Steps p.tables e below (s₁.setTop (mkF m 3 #[.val (.int u0), .unset] [(.int (63 : Int32)), (.int u0)])) _
      refine XS.icmpYes X0.here hx rfl (pc0 := 3) (pc' := 8) rfl (hb hby d3_3) rfl (feq hc3).2 (by decide) (by decide) ?_
      show Steps p.tables e below (s₁.setTop (mkF m 8 #[.val (.int u0), .unset] [])) _
      refine XS.iloadN X0.here hx rfl (hb hby d3_8) rfl ?_
      show Steps p.tables e below (s₁.setTop (mkF m 9 #[.val (.int u0), .unset] [(.int u0)])) _
      refine XS.bipush X0.here hx rfl (hb hby d3_9) ?_
      show Steps p.tables e below (s₁.setTop (mkF m 11 #[.val (.int u0), .unset] [(.int (65 : Int32)), (.int u0)])) _
      refine XS.isub X0.here hx rfl (hb hby d3_11) rfl ?_
      show Steps p.tables e below (s₁.setTop (mkF m 12 #[.val (.int u0), .unset] [(.int (u0 - (65 : Int32)))])) _
      refine XS.i2c X0.here hx rfl (hb hby d3_12) rfl ?_
      show Steps p.tables e below (s₁.setTop (mkF m 13 #[.val (.int u0), .unset] [(.int ((u0 - (65 : Int32)).toUInt32.toUInt16.toUInt32.toInt32))])) _
      refine XS.istoreN X0.here hx rfl (hb hby d3_13) rfl (l' := #[.val (.int u0), .val (.int ((u0 - (65 : Int32)).toUInt32.toUInt16.toUInt32.toInt32))]) rfl ?_
      show Steps p.tables e below (s₁.setTop (mkF m 14 #[.val (.int u0), .val (.int ((u0 - (65 : Int32)).toUInt32.toUInt16.toUInt32.toInt32))] [])) _
      refine XS.iloadN X0.here hx rfl (hb hby d3_14) rfl ?_
      show Steps p.tables e below (s₁.setTop (mkF m 15 #[.val (.int u0), .val (.int ((u0 - (65 : Int32)).toUInt32.toUInt16.toUInt32.toInt32))] [(.int ((u0 - (65 : Int32)).toUInt32.toUInt16.toUInt32.toInt32))])) _
      refine XS.bipush X0.here hx rfl (hb hby d3_15) ?_
      exact k)
    by_cases hc17 : ((u0 - (65 : Int32)).toUInt32.toUInt16.toUInt32.toInt32) < (26 : Int32)
    · -- pc 17: ((u0 - (65 : Int32)).toUInt32.toUInt16.toUInt32.toInt32) < (26 : Int32)
      obtain ⟨fs, hr, hrun, hended, hW, hsame⟩ := X0.leave (v := (some (.int (1 : Int32)))) (fun h => by rw [Bd.returns] at h; cases h)
      refine ⟨_, _, pre2 _ ?_, hrun, hended, _, _, rfl, ?_, ⟨_, rfl⟩, hW, hsame.mono (by decide) (by decide)⟩
      · show Steps p.tables e below (s₁.setTop (mkF m 17 #[.val (.int u0), .val (.int ((u0 - (65 : Int32)).toUInt32.toUInt16.toUInt32.toInt32))] [(.int (26 : Int32)), (.int ((u0 - (65 : Int32)).toUInt32.toUInt16.toUInt32.toInt32))])) _
        refine XS.icmpNo X0.here hx rfl (hb hby d3_17) rfl (tlt hc17).2.1 ?_
        show Steps p.tables e below (s₁.setTop (mkF m 20 #[.val (.int u0), .val (.int ((u0 - (65 : Int32)).toUInt32.toUInt16.toUInt32.toInt32))] [])) _
        refine XS.iconst X0.here hx rfl (hb hby d3_20) ?_
        show Steps p.tables e below (s₁.setTop (mkF m 21 #[.val (.int u0), .val (.int ((u0 - (65 : Int32)).toUInt32.toUInt16.toUInt32.toInt32))] [(.int (1 : Int32))])) _
        refine XS.goto X0.here hx rfl (pc0 := 21) (pc' := 25) rfl (hb hby d3_21) (by decide) (by decide) ?_
        show Steps p.tables e below (s₁.setTop (mkF m 25 #[.val (.int u0), .val (.int ((u0 - (65 : Int32)).toUInt32.toUInt16.toUInt32.toInt32))] [(.int (1 : Int32))])) _
        exact retN X0 hx (t := .boolean) Bd.returns (by simp) (hb hby d3_25) hr
      · show QP (some (.int (f3 u0))) h0 n0 _ s₁.heap _
        rw [e0]
        exact ⟨congrArg (fun z => some (Value.int z)) (Eq.symm (show (f3 u0) = (1 : Int32) from (if_neg hc3).trans ((if_pos hc17).trans (rfl)))), N0, rfl⟩
    · -- pc 17: not ((u0 - (65 : Int32)).toUInt32.toUInt16.toUInt32.toInt32) < (26 : Int32)
      obtain ⟨fs, hr, hrun, hended, hW, hsame⟩ := X0.leave (v := (some (.int (0 : Int32)))) (fun h => by rw [Bd.returns] at h; cases h)
      refine ⟨_, _, pre2 _ ?_, hrun, hended, _, _, rfl, ?_, ⟨_, rfl⟩, hW, hsame.mono (by decide) (by decide)⟩
      · show Steps p.tables e below (s₁.setTop (mkF m 17 #[.val (.int u0), .val (.int ((u0 - (65 : Int32)).toUInt32.toUInt16.toUInt32.toInt32))] [(.int (26 : Int32)), (.int ((u0 - (65 : Int32)).toUInt32.toUInt16.toUInt32.toInt32))])) _
        refine XS.icmpYes X0.here hx rfl (pc0 := 17) (pc' := 24) rfl (hb hby d3_17) rfl (flt hc17).2.1 (by decide) (by decide) ?_
        show Steps p.tables e below (s₁.setTop (mkF m 24 #[.val (.int u0), .val (.int ((u0 - (65 : Int32)).toUInt32.toUInt16.toUInt32.toInt32))] [])) _
        refine XS.iconst X0.here hx rfl (hb hby d3_24) ?_
        show Steps p.tables e below (s₁.setTop (mkF m 25 #[.val (.int u0), .val (.int ((u0 - (65 : Int32)).toUInt32.toUInt16.toUInt32.toInt32))] [(.int (0 : Int32))])) _
        exact retN X0 hx (t := .boolean) Bd.returns (by simp) (hb hby d3_25) hr
      · show QP (some (.int (f3 u0))) h0 n0 _ s₁.heap _
        rw [e0]
        exact ⟨congrArg (fun z => some (Value.int z)) (Eq.symm (show (f3 u0) = (0 : Int32) from (if_neg hc3).trans ((if_neg hc17).trans (rfl)))), N0, rfl⟩
theorem own_eq (c : Int32) (h : fits .char (.int c) = true) : f2 c = f3 c := by
  have r := rng_char h
  have h1 := c_isub c 65
  have h2 := c_i2c (c - 65)
  have h3 := rng32 (c - 65)
  unfold f2 f3
  simp only [Int32.lt_iff_toInt_lt, ← Int32.toInt_inj, show (0 : Int32).toInt = 0 from rfl, show (26 : Int32).toInt = 26 from rfl, show (63 : Int32).toInt = 63 from rfl, show (65 : Int32).toInt = 65 from rfl, show (90 : Int32).toInt = 90 from rfl, show (65535 : Int32).toInt = 65535 from rfl] at r h1 ⊢
  repeat' split
  all_goals first | rfl | (exfalso; omega)
theorem pn_0 : plainName "com/example/lexigrid/lexigrid/RackIsTilePinLaw" = true := by first | (simp [plainName, overriddenIn]; done) | decide +kernel
theorem ef_0 (m : MethodId) (x0 : Int32) (x1 : Int32) : entryFrame m #[(.int x0), (.int x1)] maxLocals = mkF m 0 #[.val (.int x0), .val (.int x1), .unset] [] := by first | (simp [entryFrame, mkF, argsToLocals, Value.category, maxLocals]; done) | rfl
theorem pd_0 : parseMethodDescriptor "(II)C" = some ⟨[.int, .int], some .char⟩ := by decide +kernel
theorem pd_1 : parseMethodDescriptor "(C)Z" = some ⟨[.char], some .boolean⟩ := by decide +kernel
set_option maxRecDepth 65536 in
set_option maxHeartbeats 40000000 in
theorem rm0 (l : Launch) (Z : State) (a0 : Array Value) (hw : ∀ d ∈ tables_1, d.before a0 Z = true) (ws : List Jvm.Cond) (u0 : Int32) (u1 : Int32) (h0 : Heap) (n0 : Nat) (Z0 : n0 ≤ h0.size) :
    MetFree l x (head1 (Jvm.Cond.code x code maxLocals ret :: ws) room_1) (fun a U => a = #[(.int u0), (.int u1)] ∧ Z.Warmed39 U.vm ∧ U.heap = h0) (fun _ _ _ _ _ => True) (fun _ U o U' => ∃ v L, o = .returned v ∧ QL n0 v U'.heap L ∧ FrameEnd U o U' L 1 16) := by
  refine MetFree.of_bodySF (plainFor_of_name pn_0) hisR ?_
  intro p e s m args below meth c s₁ Bd hml0 hP hK
  obtain ⟨rfl, hZ, hh⟩ := hP
  have hx := Bd.exec
  have hby := Bd.bytes
  have hml : c.maxLocals = 3 := hml0
  have hown : s.vm.findClass "com/example/lexigrid/lexigrid/RackIsTilePinLaw" = some m.cls := findClass_of_methodNamed Bd.named
  have hnm := (name_of_methodNamed Bd.named Bd.method).1
  have X0 : Stand p l e room_1 s m #[(.int u0), (.int u1)] below meth c s₁ [] 0 0 := Stand.of_body Bd
  have e0 : s₁.heap = h0 := by rw [← hh, Bd.state]; rfl
  have N0 := Fr.nil n0
  have pre0 : ∀ t, Steps p.tables e below (s₁.setTop (mkF m 0 #[.val (.int u0), .val (.int u1), .unset] [])) t → Steps p.tables e below (s₁.setTop (entryFrame m #[(.int u0), (.int u1)] maxLocals)) t := fun t k => castTop (ef_0 m u0 u1) k
  have K0 : Keep h0 h0 [] := Keep.refl h0 []
  obtain ⟨_, _, ⟨T1, L1, k1, n1⟩, -, X1, ⟨Lc1, hQ1, l1, y1, z1⟩, st1⟩ := Jvm.LawKit.callS X0 hx (y := (⟨"com/example/lexigrid/lexigrid/RackIsTilePinLaw", "drawn", "(II)C"⟩ : MethodName)) hown (mvT hZ (hw _ (List.mem_of_getElem? (i := 0) rfl))) (mvT hZ (hw _ (List.mem_of_getElem? (i := 1) rfl))) (mvT hZ (hw _ (List.mem_of_getElem? (i := 2) rfl))) (mvT hZ (hw _ (List.mem_of_getElem? (i := 3) rfl))) (by decide) (backOf (W := 0) (rm1 l Z a0 hw [] u0 u1  h0 n0 Z0 ) hZ (hw _ (List.mem_of_getElem? (i := 3) rfl)) (hw _ (List.mem_of_getElem? (i := 2) rfl)) (by decide) (by decide)) (g := (mkF m 2 #[.val (.int u0), .val (.int u1), .unset] [(.int u1), (.int u0)])) rfl (by rw [hml]; rfl) (argsL := [(.int u0), (.int u1)]) (rest := []) (lenOf pd_0 rfl) rfl (by show 2 * 0 + _ ≤ _; exact Nat.le_of_eq rfl) (hb hby at_2) (fun _ _ => ⟨rfl, e0, (by decide : 0 + 1 ≤ _), (by decide : 0 + 16 ≤ _)⟩)
  dsimp only [Pt.U, Pt.locs, Pt.cells, Pt.slots] at X1 l1 y1 z1 st1 hQ1
  subst l1 y1 z1
  obtain ⟨⟨z1, rfl, hz1⟩, N1q, K1q⟩ := hQ1
  have N1 := Fr.app N0 N1q
  have K1 : Keep h0 T1.heap [] := K0.trans K1q all0
  obtain ⟨_, _, ⟨T2, L2, k2, n2⟩, -, X2, ⟨Lc2, hQ2, l2, y2, z2⟩, st2⟩ := Jvm.LawKit.callS X1 hx (y := (⟨"com/example/lexigrid/lexigrid/Rack", "isTile", "(C)Z"⟩ : MethodName)) hown (mvT hZ (hw _ (List.mem_of_getElem? (i := 6) rfl))) (mvT hZ (hw _ (List.mem_of_getElem? (i := 7) rfl))) (mvT hZ (hw _ (List.mem_of_getElem? (i := 8) rfl))) (mvT hZ (hw _ (List.mem_of_getElem? (i := 9) rfl))) (by decide) (backOf (W := 0) (rm2 l Z a0 hw [] z1  T1.heap n0 (Nat.le_trans Z0 K1.1) ) hZ (hw _ (List.mem_of_getElem? (i := 9) rfl)) (hw _ (List.mem_of_getElem? (i := 8) rfl)) (by decide) (by decide)) (g := (mkF m 7 #[.val (.int u0), .val (.int u1), .val (.int z1)] [(.int z1)])) rfl (by rw [hml]; rfl) (argsL := [(.int z1)]) (rest := []) (lenOf pd_1 rfl) rfl (by show 2 * 0 + _ ≤ _; exact Nat.le_of_eq rfl) (hb hby at_7) (fun _ _ => ⟨rfl, rfl, (by decide : 1 + 0 ≤ _), (by decide : 16 + 0 ≤ _)⟩)
  dsimp only [Pt.U, Pt.locs, Pt.cells, Pt.slots] at X2 l2 y2 z2 st2 hQ2
  subst l2 y2 z2
  obtain ⟨rfl, N2q, e2⟩ := hQ2
  have N2 := Fr.app N1 N2q
  obtain ⟨_, _, ⟨T3, L3, k3, n3⟩, -, X3, ⟨Lc3, hQ3, l3, y3, z3⟩, st3⟩ := Jvm.LawKit.callS X2 hx (y := (⟨"com/example/lexigrid/lexigrid/RackIsTilePinLaw", "expected", "(C)Z"⟩ : MethodName)) hown (mvT hZ (hw _ (List.mem_of_getElem? (i := 10) rfl))) (mvT hZ (hw _ (List.mem_of_getElem? (i := 11) rfl))) (mvT hZ (hw _ (List.mem_of_getElem? (i := 2) rfl))) (mvT hZ (hw _ (List.mem_of_getElem? (i := 12) rfl))) (by decide) (backOf (W := 1) (rm3 l Z a0 hw [] z1  T1.heap n0 (Nat.le_trans Z0 K1.1) ) hZ (hw _ (List.mem_of_getElem? (i := 12) rfl)) (hw _ (List.mem_of_getElem? (i := 2) rfl)) (by decide) (by decide)) (g := (mkF m 11 #[.val (.int u0), .val (.int u1), .val (.int z1)] [(.int z1), (.int (f2 z1))])) rfl (by rw [hml]; rfl) (argsL := [(.int z1)]) (rest := [(.int (f2 z1))]) (lenOf pd_1 rfl) rfl (by show 2 * 0 + _ ≤ _; exact Nat.le_of_eq rfl) (hb hby at_11) (fun _ _ => ⟨rfl, e2, (by decide : 1 + 0 ≤ _), (by decide : 16 + 0 ≤ _)⟩)
  dsimp only [Pt.U, Pt.locs, Pt.cells, Pt.slots] at X3 l3 y3 z3 st3 hQ3
  subst l3 y3 z3
  obtain ⟨rfl, N3q, e3⟩ := hQ3
  have N3 := Fr.app N2 N3q
  obtain ⟨fs, hr, hrun, hended, hW, hsame⟩ := X3.leave (v := (some (.int (1 : Int32)))) (fun h => by rw [Bd.returns] at h; cases h)
  refine ⟨_, _, pre0 _ ?_, hrun, hended, _, _, rfl, ?_, ⟨_, rfl⟩, hW, hsame.mono (by decide) (by decide)⟩
  · show Steps p.tables e below (s₁.setTop (mkF m 0 #[.val (.int u0), .val (.int u1), .unset] [])) _
    refine XS.iloadN X0.here hx rfl (hb hby at_0) rfl ?_
    show Steps p.tables e below (s₁.setTop (mkF m 1 #[.val (.int u0), .val (.int u1), .unset] [(.int u0)])) _
    refine XS.iloadN X0.here hx rfl (hb hby at_1) rfl ?_
    show Steps p.tables e below (s₁.setTop (mkF m 2 #[.val (.int u0), .val (.int u1), .unset] [(.int u1), (.int u0)])) _
    refine st1 _ ?_
    show Steps p.tables e below (T1.setTop (mkF m 5 #[.val (.int u0), .val (.int u1), .unset] [(.int z1)])) _
    refine XS.istoreN X1.here hx rfl (hb hby at_5) rfl (l' := #[.val (.int u0), .val (.int u1), .val (.int z1)]) rfl ?_
    show Steps p.tables e below (T1.setTop (mkF m 6 #[.val (.int u0), .val (.int u1), .val (.int z1)] [])) _
    refine XS.iloadN X1.here hx rfl (hb hby at_6) rfl ?_
    show Steps p.tables e below (T1.setTop (mkF m 7 #[.val (.int u0), .val (.int u1), .val (.int z1)] [(.int z1)])) _
    refine st2 _ ?_
    show Steps p.tables e below (T2.setTop (mkF m 10 #[.val (.int u0), .val (.int u1), .val (.int z1)] [(.int (f2 z1))])) _
    refine XS.iloadN X2.here hx rfl (hb hby at_10) rfl ?_
    show Steps p.tables e below (T2.setTop (mkF m 11 #[.val (.int u0), .val (.int u1), .val (.int z1)] [(.int z1), (.int (f2 z1))])) _
    refine st3 _ ?_
    show Steps p.tables e below (T3.setTop (mkF m 14 #[.val (.int u0), .val (.int u1), .val (.int z1)] [(.int (f3 z1)), (.int (f2 z1))])) _
    refine XS.icmpNo X3.here hx rfl (hb hby at_14) rfl (teq (own_eq _ hz1)).2 ?_
    show Steps p.tables e below (T3.setTop (mkF m 17 #[.val (.int u0), .val (.int u1), .val (.int z1)] [])) _
    refine XS.iconst X3.here hx rfl (hb hby at_17) ?_
    show Steps p.tables e below (T3.setTop (mkF m 18 #[.val (.int u0), .val (.int u1), .val (.int z1)] [(.int (1 : Int32))])) _
    refine XS.goto X3.here hx rfl (pc0 := 18) (pc' := 22) rfl (hb hby at_18) (by decide) (by decide) ?_
    show Steps p.tables e below (T3.setTop (mkF m 22 #[.val (.int u0), .val (.int u1), .val (.int z1)] [(.int (1 : Int32))])) _
    exact retN X3 hx (t := .boolean) Bd.returns (by simp) (hb hby at_22) hr
  · show QL n0 _ T3.heap _
    rw [e3]
    exact ⟨rfl, N3⟩
set_option maxRecDepth 65536 in
set_option maxHeartbeats 40000000 in
theorem comes_1 {Post : Tables → Env → Array Value → State → Outcome → State → Prop} (hpost : ∀ tb e args s v u, (limb_1_1.after args s (.returned v) u = true ∧ limb_1_2.after args s (.returned v) u = true ∧ True) → FrameEnd s (.returned v) u (Jvm.fieldLocs frame_1_writes args s ++ Jvm.arrayLocs frame_1_arrays args s ++ Jvm.staticLocs frame_1_statics s) 16 128 → Post tb e args s (.returned v) u) :
    ArmFor flags0 classFile x code maxLocals ret World_1 tables_1 room_1 Calls_1 rest_1 Pre_1 Post := by
  intro l hfl _ _ p e ha hc hk s m args below hf hA hF happ hP
  obtain ⟨hcalls, hrest, hpre⟩ := hP
  obtain ⟨-, -, -, hnamed, -, -, -, hat⟩ := (Spec.applies_iff hf).mp happ
  obtain ⟨hg, hn⟩ := and_e (Cond.before_iff.mp (show (Jvm.Cond.and given_1 narrow_1).before args s = true from hpre))
  obtain ⟨g0, G0⟩ := and_e hg
  obtain ⟨v0, G1⟩ := and_e G0
  have v1 := G1
  obtain ⟨w0, w1, rfl⟩ : ∃ w0 w1 : Value, args = #[w0, w1] := by
    have hs : args.size = 2 := by simpa [Cond.value, given_1] using g0
    obtain ⟨L⟩ := args
    match L, hs with
    | [w0, w1], _ => exact ⟨w0, w1, rfl⟩
  have hw := fun d (hd : d ∈ tables_1) => atoms_spec (ws := Jvm.Cond.code x code maxLocals ret :: tables_1) hat d (List.mem_cons_of_mem _ hd)
  have hfit : Fit s := fun {y c} hc i hi => by
    obtain ⟨ha, rfl⟩ := Array.getElem?_eq_some_iff.mp hc
    have q := List.all_eq_true.mp ((Array.all_eq_true_iff_forall_mem.mp hF) _ (Array.getElem_mem ha)) i (List.mem_range.mpr hi)
    simpa [Array.getElem?_eq_getElem hi] using q
  obtain ⟨i0, ei0⟩ := is_v v0
  obtain rfl : w0 = (.int i0) := Option.some.inj ei0
  obtain ⟨i1, ei1⟩ := is_v v1
  obtain rfl : w1 = (.int i1) := Option.some.inj ei1
  obtain ⟨n, o, h1, h2, h3, _, L, rfl, ⟨rfl, N⟩, hq⟩ := rm0 l s _ hw tables_1 i0 i1  s.heap s.heap.size (Nat.le_refl _)  p e ha hc hk s m _ below hf ((Spec.applies_iff_loose hf).mp happ).1 ⟨rfl, State.Warmed39.refl s, rfl⟩ trivial
  refine ⟨n, _, h1, h2, h3, hpost _ _ _ _ _ _ ⟨Cond.after_iff.mpr rfl, Cond.after_iff.mpr (eq_i res_at (Term.int_eval (1)) rfl), trivial⟩ ⟨hq.1, hq.2.1, (hq.2.2.sift fun y hy => Or.inr (N y hy)).mono (by decide) (by decide)⟩⟩
theorem main_1_1 : Claimed_1_1 := comes_1 fun _ _ _ _ _ _ h hF => ⟨h.1, hF⟩
theorem main_1_2 : Claimed_1_2 := comes_1 fun _ _ _ _ _ _ h hF => ⟨h.2.1, hF⟩
end Jvm.Pilot.@@N@@
namespace Jvm.Pilot.@@N@@
open Jvm Jvm.ClassFile Sem Op Lib Jvm.Free Jvm.Stand Jvm.Pilot.@@N@@.Jvm.D
/-! MADE BY PROGRAM (witnessworld.py) out of the Statement's table words and the real class files: 12 classes; the members and pool entries that the words name. The judged class is class 1, her method 3. -/
namespace start1
open Jvm.ClassFile
def u (s : String) : CpInfo := .utf8 (stringToUtf16 s)
/-- a pool by its gaps: so many unusable entries, then the entry; so many at the end -/
def gap : Nat → List CpInfo → List CpInfo
  | 0, r => r
  | n + 1, r => .unusable :: gap n r
def poolList (es : List (Nat × CpInfo)) (last : Nat) : List CpInfo := es.foldr (fun e r => gap e.1 (e.2 :: r)) (gap last [])
def pool (es : List (Nat × CpInfo)) (last : Nat) : Array CpInfo := ⟨poolList es last⟩
def fileOf (pool : Array CpInfo) (this : Nat) (attrs : Array Attribute := #[]) (ms : Array MethodInfo := #[]) (fl : Nat := 33) (sup : Nat := 0) (ifs : Array Nat := #[]) (fds : Array FieldInfo := #[]) : ClassFile where
  minorVersion := 0
  majorVersion := 65
  constantPool := pool
  accessFlags := fl
  thisClass := this
  superClass := sup
  interfaces := ifs
  fields := fds
  methods := ms
  attributes := attrs
def plain (name : String) (sup : Option ClassId) : Class where
  name := name
  kind := .ordinary
  loader := none
  accessFlags := 33
  super := sup
  interfaces := #[]
  cf := none
  fields := #[]
  methods := #[]
  instanceTypes := #[]
  staticTypes := #[]
  resolved := #[]
  callSites := []
  init := .initialized
  statics := none
  mirror := none

def pool0 : Array CpInfo := pool [(5, u "<init>"), (0, u "()V"), (1, .class_ 10), (1, u "java/lang/Object")] 113

def k0m0 : Method := { name := "<init>", desc := "()V", sig := { parameters := [], returnType := none }, accessFlags := 1, code := none }
/-- java/lang/Object -/
def k0 : Class := { plain "java/lang/Object" none with
  accessFlags := 33
  interfaces := #[]
  cf := some (fileOf pool0 8 #[] #[{ accessFlags := 1, nameIndex := 5, descriptorIndex := 6, attributes := #[] }] 33 0 #[] #[])
  fields := #[]
  methods := #[k0m0]
  instanceTypes := #[]
  staticTypes := #[]
  resolved := Array.replicate 124 none
  statics := none }

def pool1 : Array CpInfo := pool [(2, .class_ 4), (1, u "java/lang/Object"), (0, u "<init>"), (0, u "()V"), (0, .integer 65535), (0, .methodref 9 10), (0, .class_ 11), (0, .nameAndType 12 13), (0, u "com/example/lexigrid/lexigrid/RackIsTilePinLaw"), (0, u "drawn"), (0, u "(II)C"), (0, .methodref 15 16), (0, .class_ 17), (0, .nameAndType 18 19), (0, u "com/example/lexigrid/lexigrid/Rack"), (0, u "isTile"), (0, u "(C)Z"), (0, .methodref 9 21), (0, .nameAndType 22 19), (0, u "expected"), (3, u "law"), (0, u "(II)Z")] 2

def k1m0 : Method := { name := "<init>", desc := "()V", sig := { parameters := [], returnType := none }, accessFlags := 1, code := none }
def k1c1 : Code := { maxStack := 4, maxLocals := 3, code := method_2_code, exceptionTable := #[], attributes := #[] }
def k1m1 : Method := { name := "drawn", desc := "(II)C", sig := { parameters := [.int, .int], returnType := some .char }, accessFlags := 10, code := some k1c1 }
def k1c2 : Code := { maxStack := 2, maxLocals := 2, code := method_3_code, exceptionTable := #[], attributes := #[] }
def k1m2 : Method := { name := "expected", desc := "(C)Z", sig := { parameters := [.char], returnType := some .boolean }, accessFlags := 10, code := some k1c2 }
def k1c3 : Code := { maxStack := 2, maxLocals := 3, code := code, exceptionTable := #[], attributes := #[] }
def k1m3 : Method := { name := "law", desc := "(II)Z", sig := { parameters := [.int, .int], returnType := some .boolean }, accessFlags := 9, code := some k1c3 }
/-- com/example/lexigrid/lexigrid/RackIsTilePinLaw -/
def k1 : Class := { plain "com/example/lexigrid/lexigrid/RackIsTilePinLaw" (some 0) with
  accessFlags := 49
  interfaces := #[]
  cf := some (fileOf pool1 9 #[] #[{ accessFlags := 1, nameIndex := 5, descriptorIndex := 6, attributes := #[] }, { accessFlags := 10, nameIndex := 12, descriptorIndex := 13, attributes := #[] }, { accessFlags := 10, nameIndex := 22, descriptorIndex := 19, attributes := #[] }, { accessFlags := 9, nameIndex := 26, descriptorIndex := 27, attributes := #[] }] 49 2 #[] #[])
  fields := #[]
  methods := #[k1m0, k1m1, k1m2, k1m3]
  instanceTypes := #[]
  staticTypes := #[]
  resolved := Array.replicate 30 none
  statics := none }

def pool2 : Array CpInfo := pool [(2, .class_ 4), (1, u "java/lang/Object"), (0, u "<init>"), (0, u "()V"), (0, .class_ 8), (0, u "java/lang/Record")] 13

def k2m0 : Method := { name := "<init>", desc := "()V", sig := { parameters := [], returnType := none }, accessFlags := 4, code := none }
/-- java/lang/Record -/
def k2 : Class := { plain "java/lang/Record" (some 0) with
  accessFlags := 1057
  interfaces := #[]
  cf := some (fileOf pool2 7 #[] #[{ accessFlags := 4, nameIndex := 5, descriptorIndex := 6, attributes := #[] }] 1057 2 #[] #[])
  fields := #[]
  methods := #[k2m0]
  instanceTypes := #[]
  staticTypes := #[]
  resolved := Array.replicate 22 none
  statics := none }

def pool3 : Array CpInfo := pool [(2, .class_ 4), (1, u "java/lang/Record"), (13, .class_ 20), (1, u "com/example/lexigrid/lexigrid/Rack"), (0, u "isTile"), (0, u "(C)Z"), (11, u "tiles"), (0, u "Ljava/lang/String;"), (93, u "KINDS"), (0, u "I")] 59

def k3c0 : Code := { maxStack := 2, maxLocals := 1, code := prog_47_method_3_code, exceptionTable := #[], attributes := #[] }
def k3m0 : Method := { name := "isTile", desc := "(C)Z", sig := { parameters := [.char], returnType := some .boolean }, accessFlags := 8, code := some k3c0 }
/-- com/example/lexigrid/lexigrid/Rack -/
def k3 : Class := { plain "com/example/lexigrid/lexigrid/Rack" (some 2) with
  accessFlags := 49
  interfaces := #[]
  cf := some (fileOf pool3 18 #[] #[{ accessFlags := 8, nameIndex := 21, descriptorIndex := 22, attributes := #[] }] 49 2 #[] #[{ accessFlags := 18, nameIndex := 34, descriptorIndex := 35, attributes := #[] }, { accessFlags := 24, nameIndex := 129, descriptorIndex := 130, attributes := #[] }])
  fields := #[{ name := "tiles", type := (.object "java/lang/String"), accessFlags := 18, slot := 0, constantValue := 0 }, { name := "KINDS", type := .int, accessFlags := 24, slot := 0, constantValue := 0 }]
  methods := #[k3m0]
  instanceTypes := #[(.object "java/lang/String")]
  staticTypes := #[.int]
  resolved := Array.replicate 190 none
  statics := none }

def pool4 : Array CpInfo := pool [(1, u "java/lang/Cloneable"), (0, .class_ 1), (0, u "java/lang/Object"), (0, .class_ 3)] 3

/-- java/lang/Cloneable -/
def k4 : Class := { plain "java/lang/Cloneable" (some 0) with
  accessFlags := 1537
  interfaces := #[]
  cf := some (fileOf pool4 2 #[] #[] 1537 4 #[] #[])
  fields := #[]
  methods := #[]
  instanceTypes := #[]
  staticTypes := #[]
  resolved := Array.replicate 8 none
  statics := none }

def pool5 : Array CpInfo := pool [(1, u "java/io/Serializable"), (0, .class_ 1), (0, u "java/lang/Object"), (0, .class_ 3)] 3

/-- java/io/Serializable -/
def k5 : Class := { plain "java/io/Serializable" (some 0) with
  accessFlags := 1537
  interfaces := #[]
  cf := some (fileOf pool5 2 #[] #[] 1537 4 #[] #[])
  fields := #[]
  methods := #[]
  instanceTypes := #[]
  staticTypes := #[]
  resolved := Array.replicate 8 none
  statics := none }

/-- the primitive byte -/
def k6 : Class := { plain "byte" none with kind := .primitive 'B', accessFlags := 0x411 }
/-- [B -/
def k7 : Class := { plain "[B" (some 0) with kind := .array 6 .byte, interfaces := #[4, 5], accessFlags := 1041 }

/-- the primitive char -/
def k8 : Class := { plain "char" none with kind := .primitive 'C', accessFlags := 0x411 }
/-- [C -/
def k9 : Class := { plain "[C" (some 0) with kind := .array 8 .char, interfaces := #[4, 5], accessFlags := 1041 }

/-- the primitive int -/
def k10 : Class := { plain "int" none with kind := .primitive 'I', accessFlags := 0x411 }
/-- [I -/
def k11 : Class := { plain "[I" (some 0) with kind := .array 10 .int, interfaces := #[4, 5], accessFlags := 1041 }

def heap : Heap := #[]
def classes : Array Class := #[k0, k1, k2, k3, k4, k5, k6, k7, k8, k9, k10, k11]
def interned : List (Array UInt16 × Addr) := []
def slotsUsed : Nat := 0
def theMethod : MethodId := ⟨1, 3⟩
def args0 : Array Value := #[.int 5, .int 7]
def aboutOver (below : List Frame) : State where
  vm := { classes := classes, interned := interned.toArray }
  heap := heap
  slotsUsed := slotsUsed
  threads := #[{ frames := .invoking theMethod args0 :: below }]
def below0 : List Frame := [.native { method := ⟨0, 0⟩, args := #[] }]
def about1 : State := aboutOver below0
def p0 : Program := .bare "" "" ""
def e0 : Env := launch0.env 0 0 0
theorem w_frames : about1.frames = Frame.invoking theMethod args0 :: below0 := rfl
set_option maxRecDepth 65536 in
theorem w_args : argsFit about1.vm theMethod args0 = true := by decide +kernel
set_option maxRecDepth 65536 in
theorem w_heap : heapFits about1 = true := by decide +kernel
set_option maxRecDepth 65536 in
theorem w_runnable : about1.curStatus? = some .runnable := by decide +kernel
set_option maxRecDepth 65536 in
theorem w_alone : about1.alone = true := by decide +kernel
set_option maxRecDepth 65536 in
theorem w_named : about1.methodNamed? x = some theMethod := by decide +kernel
set_option maxRecDepth 65536 in
theorem w_hears : about1.hears theMethod below0 = true := by decide +kernel
set_option maxRecDepth 65536 in
theorem w_ripe : about1.ripe theMethod args0 below0 = true := by decide +kernel
theorem w_running : about1.status = .running := rfl
set_option maxRecDepth 65536 in
theorem w_room : about1.hasRoom e0.platform room_1 = true :=
  launch0.hasRoom_least _ room_1 (by decide +kernel) (by decide +kernel) (by decide +kernel) (by decide +kernel) (by decide +kernel) (by decide +kernel)
theorem allAtoms_all (ts : List Jvm.Cond) (a : Array Jvm.Value) (st : Jvm.State) : (allAtoms ts).before a st = ts.all (fun c => c.before a st) := by
  induction ts with
  | nil => rfl
  | cons c t ih =>
    show (Jvm.Cond.and c (allAtoms t)).before a st = _
    rw [Jvm.Cond.before_and, ih, List.all_cons]
def words1 : List Jvm.Cond := Jvm.Cond.code x code maxLocals ret :: tables_1
/-- a 'code' word, met by the world's own term for the bytes: nothing is compared byte by byte -/
theorem code_word {y : MethodName} {bytes : ByteArray} {mx : Nat} {rt : Option FieldType} {a : Array Value} {s : State} {m : MethodId} {meth : Method} {c : Code} (h1 : s.methodNamed? y = some m) (h2 : s.vm.method? m = some meth) (h3 : meth.code = some c) (h4 : c.code = bytes)
    (h5 : (c.maxLocals == mx && c.exceptionTable.isEmpty && decide (c.maxStack ≤ mostOperands) && decide (meth.sig.returnType = rt) && !meth.locks && decide (parseMethodDescriptor y.desc = some meth.sig)) = true) : (Jvm.Cond.code y bytes mx rt).before a s = true := by
  simp only [Bool.and_eq_true, beq_iff_eq, Bool.not_eq_true', decide_eq_true_eq] at h5
  obtain ⟨⟨⟨⟨⟨g1, g2⟩, g3⟩, g4⟩, g5⟩, g6⟩ := h5
  simp [Cond.before, Cond.holds, Cond.value, h1, h2, h3, h4, g1, g2, g3, g4, g5, g6]
def isCode : Jvm.Cond → Bool
  | .code _ _ _ _ => true
  | _ => false
theorem all_split {L : List Jvm.Cond} {P : Jvm.Cond → Bool} (h1 : L.all (fun c => isCode c || P c) = true) (h2 : ∀ c ∈ L.filter isCode, P c = true) : L.all P = true := by
  refine List.all_eq_true.mpr fun c hc => ?_
  have h := List.all_eq_true.mp h1 c hc
  rcases Bool.eq_false_or_eq_true (isCode c) with hi | hi
  · exact h2 c (List.mem_filter.mpr ⟨hc, hi⟩)
  · simpa [hi] using h
set_option maxRecDepth 65536 in
theorem w_c0 : (Jvm.Cond.code x code maxLocals ret).before args0 about1 = true := code_word (m := ⟨1, 3⟩) (meth := k1m3) (c := k1c3) (by decide +kernel) rfl rfl rfl (by decide +kernel)
set_option maxRecDepth 65536 in
theorem w_c1 : (Jvm.Cond.code ({ cls := "com/example/lexigrid/lexigrid/RackIsTilePinLaw", name := "drawn", desc := "(II)C" } : Jvm.MethodName) method_2_code (3 : Nat) (Option.some Jvm.ClassFile.FieldType.char)).before args0 about1 = true := code_word (m := ⟨1, 1⟩) (meth := k1m1) (c := k1c1) (by decide +kernel) rfl rfl rfl (by decide +kernel)
set_option maxRecDepth 65536 in
theorem w_c2 : (Jvm.Cond.code ({ cls := "com/example/lexigrid/lexigrid/Rack", name := "isTile", desc := "(C)Z" } : Jvm.MethodName) prog_47_method_3_code (1 : Nat) (Option.some Jvm.ClassFile.FieldType.boolean)).before args0 about1 = true := code_word (m := ⟨3, 0⟩) (meth := k3m0) (c := k3c0) (by decide +kernel) rfl rfl rfl (by decide +kernel)
set_option maxRecDepth 65536 in
theorem w_c3 : (Jvm.Cond.code ({ cls := "com/example/lexigrid/lexigrid/RackIsTilePinLaw", name := "expected", desc := "(C)Z" } : Jvm.MethodName) method_3_code (2 : Nat) (Option.some Jvm.ClassFile.FieldType.boolean)).before args0 about1 = true := code_word (m := ⟨1, 2⟩) (meth := k1m2) (c := k1c2) (by decide +kernel) rfl rfl rfl (by decide +kernel)
def codes1 : List Jvm.Cond := [Jvm.Cond.code x code maxLocals ret, Jvm.Cond.code ({ cls := "com/example/lexigrid/lexigrid/RackIsTilePinLaw", name := "drawn", desc := "(II)C" } : Jvm.MethodName) method_2_code (3 : Nat) (Option.some Jvm.ClassFile.FieldType.char), Jvm.Cond.code ({ cls := "com/example/lexigrid/lexigrid/Rack", name := "isTile", desc := "(C)Z" } : Jvm.MethodName) prog_47_method_3_code (1 : Nat) (Option.some Jvm.ClassFile.FieldType.boolean), Jvm.Cond.code ({ cls := "com/example/lexigrid/lexigrid/RackIsTilePinLaw", name := "expected", desc := "(C)Z" } : Jvm.MethodName) method_3_code (2 : Nat) (Option.some Jvm.ClassFile.FieldType.boolean)]
set_option maxRecDepth 65536 in
theorem codes_eq : words1.filter isCode = codes1 := rfl
theorem w_codes : ∀ c ∈ words1.filter isCode, c.before args0 about1 = true := by
  rw [codes_eq]
  intro c hc
  simp only [codes1, List.mem_cons, List.not_mem_nil, or_false] at hc
  rcases hc with rfl | rfl | rfl | rfl
  · exact w_c0
  · exact w_c1
  · exact w_c2
  · exact w_c3
set_option maxRecDepth 65536 in
theorem w_t1 : words1.all (fun c => isCode c || c.before args0 about1) = true := by decide +kernel
theorem w_tables : (allAtoms (Jvm.Cond.code x code maxLocals ret :: tables_1)).before args0 about1 = true := by
  rw [allAtoms_all]
  show words1.all (fun c => c.before args0 about1) = true
  refine all_split ?_ w_codes
  rw [w_t1]
set_option maxRecDepth 65536 in
theorem w_case : (Jvm.Cond.and given_1 narrow_1).before args0 about1 = true := by decide +kernel
theorem w_applies : (headSpec (Jvm.Cond.code x code maxLocals ret :: tables_1) room_1).applies x e0.platform about1 = true :=
  (Spec.applies_iff w_frames).mpr ⟨w_running, w_runnable, w_alone, w_named, w_hears, w_ripe, w_room, w_tables⟩
theorem atStart : AtStart classFile x code maxLocals ret World_1 tables_1 room_1 Calls_1 rest_1 Pre_1 launch0 p0 e0 about1 theMethod args0 below0 :=
  ⟨lists_1, trivial, launch0.admits_env _ _ _, launch0.least_env, fairChoices_fair.cas, fairChoices_fair.clock, w_frames, w_args, w_heap, w_applies, trivial, trivial, w_case⟩
end start1
theorem witness_1 : WitnessClaimed_1 := ⟨start1.p0, start1.e0, start1.about1, start1.theMethod, start1.args0, start1.below0, start1.atStart⟩
end Jvm.Pilot.@@N@@
