import JvmDerived
import JvmDerived.Pilot.@@N@@Statement
import JvmDerived.Pilot.@@N@@Code
set_option linter.unusedVariables false
set_option linter.unusedSimpArgs false
namespace Jvm.RoadKit
open Sem ClassFile Op Lib Jvm.Stand Jvm.Free Jvm.LawKit
section New
variable {p : Program} {l : Launch} {e : Env} {R : Room} {s : State} {m : MethodId} {args : Array Value} {below : List Frame} {meth : Method} {c : Code} {T : State} {locs : List Loc} {cells slots : Nat}
theorem retI (X : Stand p l e R s m args below meth c T locs cells slots) (hx : p.tables.exec = Jvm.exec) {pc : Nat} {Ls : Array Slot} {z : Int32} {rest : List Value} (hret : meth.sig.returnType = some .int) (hd : decode c.code pc = .ok (.ireturn, 1)) {fs : List Frame}
    (hl : ∀ (f : JFrame) (acts : List Action), f.method = m → f.locked = none → f.entered = [] → (doReturn e (T.setTop f) acts (some (.int z))).1 = T.setFrames fs) : Steps p.tables e below (T.setTop (mkF m pc Ls (.int z :: rest))) (T.setFrames fs) :=
  retOut X hx hret rfl (Or.inl ⟨rfl, Or.inl rfl, z, rfl⟩) hd hl
end New
end Jvm.RoadKit
namespace Jvm.Pilot.@@N@@
open Jvm Jvm.ClassFile Sem Op Lib Jvm.Free Jvm.Stand Jvm.LawKit Jvm.RoadKit Bundle Jvm.Pilot.@@N@@.Jvm.D
def QL (n0 : Nat) (v : Option Value) (h : Heap) (L : List Loc) : Prop := v = some (.int 1) ∧ Fr n0 L
def QP (r : Option Value) (h0 : Heap) (n0 : Nat) (v : Option Value) (h : Heap) (L : List Loc) : Prop := v = r ∧ Fr n0 L ∧ h = h0
theorem own_elem {Z : State} {h : Heap} {a : Addr} {k : ClassId} {ty : FieldType} {n : Int32} {vs : List Value} {d : Value} (F : Arv Z h a k ty n vs d) (ht : ty = .int ∨ ty = .boolean ∨ ty = .byte ∨ ty = .char ∨ ty = .short) {j : Int32} (q : ¬ j < 0 ∧ j < n) :
    ∃ (c : Cell) (z : Int32), Arr Z h a c ty ∧ ¬ (j < 0 ∨ c.slots.size ≤ j.toNatClampNeg) ∧ c.slots[j.toNatClampNeg]? = some (.int z) ∧ fits ty (.int z) = true ∧ vs.getD j.toNatClampNeg d = .int z := by
  obtain ⟨c, A, -, S, N, H, G⟩ := F
  have hin := inb_of S q
  have hlt := Nat.lt_of_not_le fun y => hin (Or.inr y)
  obtain ⟨z, hz⟩ := fit_I (G _ hlt) ht
  exact ⟨c, z, A, hin, by rw [H _ hlt, hz], by rw [← hz]; exact G _ hlt, hz⟩
theorem own_elemV {Z : State} {h : Heap} {a : Addr} {k : ClassId} {ty : FieldType} {n : Int32} {vs : List Value} {d : Value} (F : Arv Z h a k ty n vs d) {j : Int32} (q : ¬ j < 0 ∧ j < n) {v : Value} (u : vs.getD j.toNatClampNeg d = v) :
    ∃ c : Cell, Arr Z h a c ty ∧ ¬ (j < 0 ∨ c.slots.size ≤ j.toNatClampNeg) ∧ c.slots[j.toNatClampNeg]? = some v ∧ fits ty v = true := by
  obtain ⟨c, A, -, S, N, H, G⟩ := F
  have hin := inb_of S q
  have hlt := Nat.lt_of_not_le fun y => hin (Or.inr y)
  exact ⟨c, A, hin, by rw [H _ hlt, u], by rw [← u]; exact G _ hlt⟩
def own_shr (w : Int64) : Nat → Int64
  | 0 => w
  | k + 1 => own_shr ((w.toUInt64 >>> ((8 : Int32) &&& 0x3f).toInt64.toUInt64).toInt64) k
def own_byte (w : Int64) (k : Nat) : Int32 := nar .byte ((own_shr w k).toInt32.toInt8.toInt32)
def QY (Z : State) (w0 : Int64) (u1 : Int32) (h0 : Heap) (n0 : Nat) (v : Option Value) (h : Heap) (L : List Loc) : Prop := ∃ (b : Addr) (kb : ClassId) (vs : List Value), v = some (.ref b) ∧ Fr n0 L ∧ Keep h0 h [] ∧ Arv Z h b kb .byte u1 vs (.int (0 : Int32)) ∧ ∀ i : Nat, i < u1.toNatClampNeg → vs.getD i (.int (0 : Int32)) = .int (own_byte w0 (u1.toNatClampNeg - 1 - i))
theorem own_getset (vs : List Value) (i j : Nat) (v d : Value) (h : i < vs.length) : (vs.set i v).getD j d = if j = i then v else vs.getD j d := by
  simp only [List.getD_eq_getElem?_getD, List.getElem?_set]
  by_cases e : i = j
  · subst e
    simp [h]
  · simp [e, Ne.symm e]
theorem d1_12 : decode prog_8_method_3_code 12 = .ok (.iload 6, 2) := by decide +kernel
theorem d1_14 : decode prog_8_method_3_code 14 = .ok (.ifCond .lt 24, 3) := by decide +kernel
theorem d1_17 : decode prog_8_method_3_code 17 = .ok (.aload_n 3, 1) := by decide +kernel
theorem d1_18 : decode prog_8_method_3_code 18 = .ok (.iload 6, 2) := by decide +kernel
theorem d1_20 : decode prog_8_method_3_code 20 = .ok (.lload 4, 2) := by decide +kernel
theorem d1_22 : decode prog_8_method_3_code 22 = .ok (.l2i, 1) := by decide +kernel
theorem d1_23 : decode prog_8_method_3_code 23 = .ok (.i2b, 1) := by decide +kernel
theorem d1_24 : decode prog_8_method_3_code 24 = .ok (.bastore, 1) := by decide +kernel
theorem d1_25 : decode prog_8_method_3_code 25 = .ok (.lload 4, 2) := by decide +kernel
theorem d1_27 : decode prog_8_method_3_code 27 = .ok (.bipush 8, 2) := by decide +kernel
theorem d1_29 : decode prog_8_method_3_code 29 = .ok (.lushr, 1) := by decide +kernel
theorem d1_30 : decode prog_8_method_3_code 30 = .ok (.lstore 4, 2) := by decide +kernel
theorem d1_32 : decode prog_8_method_3_code 32 = .ok (.iinc 6 (-1), 3) := by decide +kernel
theorem d1_35 : decode prog_8_method_3_code 35 = .ok (.goto (-23), 3) := by decide +kernel
theorem fits_nar_byte' (x : Int32) : fits .byte (.int (nar .byte x)) = true := fits_nar_byte x
theorem own_dec (x : Int32) (h : 0 ≤ x.toInt) : (x + (-1 : Int32)).toInt = x.toInt - 1 := by
  have h1 := c_iadd x (-1)
  have h2 := rng32 (x + (-1))
  have h3 := rng32 x
  rw [show (-1 : Int32).toInt = -1 from rfl] at h1
  omega
set_option maxRecDepth 65536 in
set_option maxHeartbeats 40000000 in
theorem own_loop {p : Program} {l : Launch} {e : Env} {R : Room} {s : State} {m : MethodId} {args : Array Value} {below : List Frame} {meth : Method} {c : Code} {cells slots : Nat} {Z : State} (hx : p.tables.exec = Jvm.exec) (hZ : Z.Warmed39 s.vm) (hby : c.code = prog_8_method_3_code) {hS : Heap} {n0 : Nat} {o3 : Addr} {kb : ClassId} (w0 : Int64) (u1 : Int32) (g3 : n0 ≤ o3) (z3 : hS.size ≤ o3) (hu : ¬ u1 < 0) :
    ∀ (k : Nat) (T0 : State) (locs : List Loc) (h0 : Heap) (vs : List Value) (i6 : Int32) (w4 : Int64), Stand p l e R s m args below meth c T0 locs cells slots → T0.heap = h0 → Arv Z h0 o3 kb .byte u1 vs (.int (0 : Int32)) → vs.length = u1.toNatClampNeg → i6.toInt = (k : Int) - 1 → (k : Int) ≤ u1.toInt → Fr n0 locs → Keep hS h0 [] →
      ∃ (T' : State) (locs' : List Loc) (h' : Heap) (vs' : List Value) (w' : Int64) (i' : Int32), Stand p l e R s m args below meth c T' locs' cells slots ∧ T'.heap = h' ∧ Arv Z h' o3 kb .byte u1 vs' (.int (0 : Int32)) ∧ Fr n0 locs' ∧ Keep hS h' [] ∧ (∀ i : Nat, i < k → vs'.getD i (.int (0 : Int32)) = .int (own_byte w4 (k - 1 - i))) ∧ (∀ i : Nat, k ≤ i → vs'.getD i (.int (0 : Int32)) = vs.getD i (.int (0 : Int32))) ∧
        ∀ t, Steps p.tables e below (T'.setTop (mkF m 38 #[.val (.long w0), .second, .val (.int u1), .val (.ref o3), .val (.long w'), .second, .val (.int i')] [])) t → Steps p.tables e below (T0.setTop (mkF m 12 #[.val (.long w0), .second, .val (.int u1), .val (.ref o3), .val (.long w4), .second, .val (.int i6)] [])) t := by
  intro k
  induction k with
  | zero =>
    intro T0 locs h0 vs i6 w4 X0 e0 V hl hi hk N K
    refine ⟨T0, locs, h0, vs, w4, i6, X0, e0, V, N, K, fun i hi => absurd hi (Nat.not_lt_zero _), fun i _ => rfl, fun t k => ?_⟩
    show Steps p.tables e below (T0.setTop (mkF m 12 #[.val (.long w0), .second, .val (.int u1), .val (.ref o3), .val (.long w4), .second, .val (.int i6)] [])) _
    refine XS.iload X0.here hx rfl (hb hby d1_12) rfl ?_
    show Steps p.tables e below (T0.setTop (mkF m 14 #[.val (.long w0), .second, .val (.int u1), .val (.ref o3), .val (.long w4), .second, .val (.int i6)] [(.int i6)])) _
    refine XS.ifYes X0.here hx rfl (pc0 := 14) (pc' := 38) rfl (hb hby d1_14) rfl ((if0 _ _).trans (tlt (by rw [Int32.lt_iff_toInt_lt, show (0 : Int32).toInt = 0 from rfl]; omega)).1) (by decide) (by decide) ?_
    exact k
  | succ k ih =>
    intro T0 locs h0 vs i6 w4 X0 e0 V hl hi hk N K
    obtain ⟨cA, ArA, qA, SA, NA, HA, GA⟩ := V
    have hnat : i6.toNatClampNeg = k := by
      have := nat_of (j := i6) (by rw [Int32.lt_iff_toInt_lt, show (0 : Int32).toInt = 0 from rfl]; omega)
      omega
    have hin : ¬ (i6 < 0 ∨ cA.slots.size ≤ (i6).toNatClampNeg) := inb_of SA ⟨by rw [Int32.lt_iff_toInt_lt, show (0 : Int32).toInt = 0 from rfl]; omega, by rw [Int32.lt_iff_toInt_lt]; omega⟩
    obtain ⟨T1, h1, X1, e1, W1, st1⟩ := stB X0 hx hZ e0 ArA (j := i6) hin (g := (mkF m 24 #[.val (.long w0), .second, .val (.int u1), .val (.ref o3), .val (.long w4), .second, .val (.int i6)] [(.int ((w4.toInt32).toInt8.toInt32)), (.int i6), (.ref o3)])) rfl rfl (hb hby d1_24)
    have hkl : k < vs.length := by
      have := nat_of (j := u1) hu
      omega
    have V1 := Arv.set ArA qA SA NA HA GA (fits_nar_byte' _) W1 k hnat hkl
    have K1 : Keep hS h1 [] := K.wr W1 (Or.inr z3)
    have N1 := Fr.snoc X1 N g3
    obtain ⟨T', locs', h', vs', w', i', X', e', V', N', K', P', U', st'⟩ := ih T1 _ h1 _ (i6 + (-1 : Int32)) ((w4.toUInt64 >>> ((8 : Int32) &&& 0x3f).toInt64.toUInt64).toInt64) X1 e1 V1 (by rw [List.length_set]; exact hl) (by rw [own_dec i6 (by omega)]; omega) (by omega) N1 K1
    refine ⟨T', locs', h', vs', w', i', X', e', V', N', K', fun i hi => ?_, fun i hi => ?_, fun t k => ?_⟩
    · by_cases hik : i < k
      · rw [P' i hik, show k + 1 - 1 - i = (k - 1 - i) + 1 by omega]
        rfl
      · have hik' : i = k := by omega
        subst hik'
        rw [U' _ (Nat.le_refl _), own_getset _ _ _ _ _ hkl, if_pos rfl, show i + 1 - 1 - i = 0 by omega]
        rfl
    · rw [U' i (by omega), own_getset _ _ _ _ _ hkl, if_neg (by omega)]
    · show Steps p.tables e below (T0.setTop (mkF m 12 #[.val (.long w0), .second, .val (.int u1), .val (.ref o3), .val (.long w4), .second, .val (.int i6)] [])) _
      refine XS.iload X0.here hx rfl (hb hby d1_12) rfl ?_
      show Steps p.tables e below (T0.setTop (mkF m 14 #[.val (.long w0), .second, .val (.int u1), .val (.ref o3), .val (.long w4), .second, .val (.int i6)] [(.int i6)])) _
      refine XS.ifNo X0.here hx rfl (hb hby d1_14) rfl ((if0 _ _).trans (flt (by rw [Int32.lt_iff_toInt_lt, show (0 : Int32).toInt = 0 from rfl]; omega)).1) ?_
      show Steps p.tables e below (T0.setTop (mkF m 17 #[.val (.long w0), .second, .val (.int u1), .val (.ref o3), .val (.long w4), .second, .val (.int i6)] [])) _
      refine XS.aloadN X0.here hx rfl (hb hby d1_17) rfl rfl ?_
      show Steps p.tables e below (T0.setTop (mkF m 18 #[.val (.long w0), .second, .val (.int u1), .val (.ref o3), .val (.long w4), .second, .val (.int i6)] [(.ref o3)])) _
      refine XS.iload X0.here hx rfl (hb hby d1_18) rfl ?_
      show Steps p.tables e below (T0.setTop (mkF m 20 #[.val (.long w0), .second, .val (.int u1), .val (.ref o3), .val (.long w4), .second, .val (.int i6)] [(.int i6), (.ref o3)])) _
      refine XS.lload X0.here hx rfl (hb hby d1_20) rfl ?_
      show Steps p.tables e below (T0.setTop (mkF m 22 #[.val (.long w0), .second, .val (.int u1), .val (.ref o3), .val (.long w4), .second, .val (.int i6)] [(.long w4), (.int i6), (.ref o3)])) _
      refine XS.l2i X0.here hx rfl (hb hby d1_22) rfl ?_
      show Steps p.tables e below (T0.setTop (mkF m 23 #[.val (.long w0), .second, .val (.int u1), .val (.ref o3), .val (.long w4), .second, .val (.int i6)] [(.int (w4.toInt32)), (.int i6), (.ref o3)])) _
      refine XS.i2b X0.here hx rfl (hb hby d1_23) rfl ?_
      show Steps p.tables e below (T0.setTop (mkF m 24 #[.val (.long w0), .second, .val (.int u1), .val (.ref o3), .val (.long w4), .second, .val (.int i6)] [(.int ((w4.toInt32).toInt8.toInt32)), (.int i6), (.ref o3)])) _
      refine st1 _ ?_
      show Steps p.tables e below (T1.setTop (mkF m 25 #[.val (.long w0), .second, .val (.int u1), .val (.ref o3), .val (.long w4), .second, .val (.int i6)] [])) _
      refine XS.lload X1.here hx rfl (hb hby d1_25) rfl ?_
      show Steps p.tables e below (T1.setTop (mkF m 27 #[.val (.long w0), .second, .val (.int u1), .val (.ref o3), .val (.long w4), .second, .val (.int i6)] [(.long w4)])) _
      refine XS.bipush X1.here hx rfl (hb hby d1_27) ?_
      show Steps p.tables e below (T1.setTop (mkF m 29 #[.val (.long w0), .second, .val (.int u1), .val (.ref o3), .val (.long w4), .second, .val (.int i6)] [(.int (8 : Int32)), (.long w4)])) _
      refine XS.lushr X1.here hx rfl (hb hby d1_29) rfl ?_
      show Steps p.tables e below (T1.setTop (mkF m 30 #[.val (.long w0), .second, .val (.int u1), .val (.ref o3), .val (.long w4), .second, .val (.int i6)] [(.long ((w4.toUInt64 >>> ((8 : Int32) &&& 0x3f).toInt64.toUInt64).toInt64))])) _
      refine XS.lstore X1.here hx rfl (hb hby d1_30) rfl (l' := #[.val (.long w0), .second, .val (.int u1), .val (.ref o3), .val (.long ((w4.toUInt64 >>> ((8 : Int32) &&& 0x3f).toInt64.toUInt64).toInt64)), .second, .val (.int i6)]) rfl ?_
      show Steps p.tables e below (T1.setTop (mkF m 32 #[.val (.long w0), .second, .val (.int u1), .val (.ref o3), .val (.long ((w4.toUInt64 >>> ((8 : Int32) &&& 0x3f).toInt64.toUInt64).toInt64)), .second, .val (.int i6)] [])) _
      refine XS.iinc X1.here hx rfl (hb hby d1_32) rfl (l' := #[.val (.long w0), .second, .val (.int u1), .val (.ref o3), .val (.long ((w4.toUInt64 >>> ((8 : Int32) &&& 0x3f).toInt64.toUInt64).toInt64)), .second, .val (.int (i6 + (-1 : Int32)))]) rfl ?_
      show Steps p.tables e below (T1.setTop (mkF m 35 #[.val (.long w0), .second, .val (.int u1), .val (.ref o3), .val (.long ((w4.toUInt64 >>> ((8 : Int32) &&& 0x3f).toInt64.toUInt64).toInt64)), .second, .val (.int (i6 + (-1 : Int32)))] [])) _
      refine XS.goto X1.here hx rfl (pc0 := 35) (pc' := 12) rfl (hb hby d1_35) (by decide) (by decide) ?_
      exact st' t k
theorem own_pred (x : Int32) (h0 : ¬ x < 0) (h1 : x.toNatClampNeg ≤ 10) : (x - (1 : Int32)).toInt = x.toInt - 1 := by
  have e := nat_of h0
  have q1 := c_isub x 1
  have q2 := rng32 (x - 1)
  rw [show (1 : Int32).toInt = 1 from rfl] at q1
  omega
theorem d1_0 : decode prog_8_method_3_code 0 = .ok (.iload_n 2, 1) := by decide +kernel
theorem d1_1 : decode prog_8_method_3_code 1 = .ok (.newarray .byte, 2) := by decide +kernel
theorem d1_3 : decode prog_8_method_3_code 3 = .ok (.astore_n 3, 1) := by decide +kernel
theorem d1_4 : decode prog_8_method_3_code 4 = .ok (.lload_n 0, 1) := by decide +kernel
theorem d1_5 : decode prog_8_method_3_code 5 = .ok (.lstore 4, 2) := by decide +kernel
theorem d1_7 : decode prog_8_method_3_code 7 = .ok (.iload_n 2, 1) := by decide +kernel
theorem d1_8 : decode prog_8_method_3_code 8 = .ok (.iconst 1, 1) := by decide +kernel
theorem d1_9 : decode prog_8_method_3_code 9 = .ok (.isub, 1) := by decide +kernel
theorem d1_10 : decode prog_8_method_3_code 10 = .ok (.istore 6, 2) := by decide +kernel
theorem d1_38 : decode prog_8_method_3_code 38 = .ok (.aload_n 3, 1) := by decide +kernel
theorem d1_39 : decode prog_8_method_3_code 39 = .ok (.areturn, 1) := by decide +kernel
theorem pn_1 : plainName "com/example/klave/klave/coding/BigEndian" = true := by first | (simp [plainName, overriddenIn]; done) | decide +kernel
theorem ef_1 (m : MethodId) (x0 : Int64) (x1 : Int32) : entryFrame m #[(.long x0), (.int x1)] 7 = mkF m 0 #[.val (.long x0), .second, .val (.int x1), .unset, .unset, .unset, .unset] [] := by first | (simp [entryFrame, mkF, argsToLocals, Value.category]; done) | rfl
set_option maxRecDepth 65536 in
set_option maxHeartbeats 40000000 in
theorem rm1 (l : Launch) (Z : State) (a0 : Array Value) (hw : ∀ d ∈ tables_1, d.before a0 Z = true) (ws : List Jvm.Cond) (w0 : Int64) (u1 : Int32) (h0 : Heap) (n0 : Nat) (Z0 : n0 ≤ h0.size) (hu0 : ¬ u1 < 0) (hu1 : u1.toNatClampNeg ≤ 10) :
    MetFree l (⟨"com/example/klave/klave/coding/BigEndian", "bytes", "(JI)[B"⟩ : MethodName) (head1 (Jvm.Cond.code (⟨"com/example/klave/klave/coding/BigEndian", "bytes", "(JI)[B"⟩ : MethodName) prog_8_method_3_code 7 (some (.array .byte)) :: ws) ({ frames := 0, cells := 1, slots := 10, locals := 0 } : Room)) (fun a U => a = #[(.long w0), (.int u1)] ∧ Z.Warmed39 U.vm ∧ U.heap = h0) (fun _ _ _ _ _ => True) (fun _ U o U' => ∃ v L, o = .returned v ∧ QY Z w0 u1 h0 n0 v U'.heap L ∧ FrameEnd U o U' L 1 10) := by
  refine MetFree.of_bodySF (plainFor_of_name pn_1) hisR ?_
  intro p e s m args below meth c s₁ Bd hml0 hP hK
  obtain ⟨rfl, hZ, hh⟩ := hP
  have hx := Bd.exec
  have hby := Bd.bytes
  have hml : c.maxLocals = 7 := hml0
  have hown : s.vm.findClass "com/example/klave/klave/coding/BigEndian" = some m.cls := findClass_of_methodNamed Bd.named
  have hnm := (name_of_methodNamed Bd.named Bd.method).1
  have X0 : Stand p l e ({ frames := 0, cells := 1, slots := 10, locals := 0 } : Room) s m #[(.long w0), (.int u1)] below meth c s₁ [] 0 0 := Stand.of_body Bd
  have e0 : s₁.heap = h0 := by rw [← hh, Bd.state]; rfl
  have N0 := Fr.nil n0
  have pre0 : ∀ t, Steps p.tables e below (s₁.setTop (mkF m 0 #[.val (.long w0), .second, .val (.int u1), .unset, .unset, .unset, .unset] [])) t → Steps p.tables e below (s₁.setTop (entryFrame m #[(.long w0), (.int u1)] 7)) t := fun t k => castTop (ef_1 m w0 u1) k
  have K0 : Keep h0 h0 [] := Keep.refl h0 []
  obtain ⟨T1, h1, k1, X1, e1, E1, A1, st1⟩ := newP X0 hx hZ (hw _ (List.mem_of_getElem? (i := 5) rfl)) e0 (g := (mkF m 1 #[.val (.long w0), .second, .val (.int u1), .unset, .unset, .unset, .unset] [(.int u1)])) rfl (hb hby d1_1) rfl hu0 (cap := 10) hu1 (by decide) (by decide) (by decide)
  obtain ⟨b1, g1⟩ : ∃ z, z = h0.size := ⟨_, rfl⟩
  rw [← g1] at A1 st1
  have g_b1 : n0 ≤ b1 := Nat.le_trans Z0 (Nat.le_of_eq g1.symm)
  have sz_b1 : h0.size ≤ b1 := Nat.le_trans K0.1 (Nat.le_of_eq g1.symm)
  have K1 : Keep h0 h1 [] := K0.ext E1
  have V_b1 : Arv Z h1 b1 k1 .byte u1 [] (.int (0 : Int32)) := Arv.new A1 hu0
  have Vp : Arv Z h1 b1 k1 .byte u1 ([] ++ List.replicate u1.toNatClampNeg (.int (0 : Int32))) (.int (0 : Int32)) := V_b1.pad (pad_rep [] (.int (0 : Int32)) _)
  have pre2 : ∀ t, Steps p.tables e below (T1.setTop (mkF m 12 #[.val (.long w0), .second, .val (.int u1), .val (.ref b1), .val (.long w0), .second, .val (.int (u1 - (1 : Int32)))] [])) t → Steps p.tables e below (s₁.setTop (entryFrame m #[(.long w0), (.int u1)] 7)) t := fun t k => pre0 t (by
    show Steps p.tables e below (s₁.setTop (mkF m 0 #[.val (.long w0), .second, .val (.int u1), .unset, .unset, .unset, .unset] [])) _
    refine XS.iloadN X0.here hx rfl (hb hby d1_0) rfl ?_
    show Steps p.tables e below (s₁.setTop (mkF m 1 #[.val (.long w0), .second, .val (.int u1), .unset, .unset, .unset, .unset] [(.int u1)])) _
    refine st1 _ ?_
    show Steps p.tables e below (T1.setTop (mkF m 3 #[.val (.long w0), .second, .val (.int u1), .unset, .unset, .unset, .unset] [(.ref b1)])) _
    refine XS.astoreN X1.here hx rfl (hb hby d1_3) rfl rfl (l' := #[.val (.long w0), .second, .val (.int u1), .val (.ref b1), .unset, .unset, .unset]) rfl ?_
    show Steps p.tables e below (T1.setTop (mkF m 4 #[.val (.long w0), .second, .val (.int u1), .val (.ref b1), .unset, .unset, .unset] [])) _
    refine XS.lloadN X1.here hx rfl (hb hby d1_4) rfl ?_
    show Steps p.tables e below (T1.setTop (mkF m 5 #[.val (.long w0), .second, .val (.int u1), .val (.ref b1), .unset, .unset, .unset] [(.long w0)])) _
    refine XS.lstore X1.here hx rfl (hb hby d1_5) rfl (l' := #[.val (.long w0), .second, .val (.int u1), .val (.ref b1), .val (.long w0), .second, .unset]) rfl ?_
    show Steps p.tables e below (T1.setTop (mkF m 7 #[.val (.long w0), .second, .val (.int u1), .val (.ref b1), .val (.long w0), .second, .unset] [])) _
    refine XS.iloadN X1.here hx rfl (hb hby d1_7) rfl ?_
    show Steps p.tables e below (T1.setTop (mkF m 8 #[.val (.long w0), .second, .val (.int u1), .val (.ref b1), .val (.long w0), .second, .unset] [(.int u1)])) _
    refine XS.iconst X1.here hx rfl (hb hby d1_8) ?_
    show Steps p.tables e below (T1.setTop (mkF m 9 #[.val (.long w0), .second, .val (.int u1), .val (.ref b1), .val (.long w0), .second, .unset] [(.int (1 : Int32)), (.int u1)])) _
    refine XS.isub X1.here hx rfl (hb hby d1_9) rfl ?_
    show Steps p.tables e below (T1.setTop (mkF m 10 #[.val (.long w0), .second, .val (.int u1), .val (.ref b1), .val (.long w0), .second, .unset] [(.int (u1 - (1 : Int32)))])) _
    refine XS.istore X1.here hx rfl (hb hby d1_10) rfl (l' := #[.val (.long w0), .second, .val (.int u1), .val (.ref b1), .val (.long w0), .second, .val (.int (u1 - (1 : Int32)))]) rfl ?_
    exact k)
  obtain ⟨T3, locs3, h3, vs3, w3, i3, X3, e3, V3, N3, K3, P3, -, st3⟩ := own_loop hx hZ hby w0 u1 g_b1 sz_b1 hu0 u1.toNatClampNeg T1 _ h1 _ (u1 - (1 : Int32)) w0 X1 e1 Vp (by simp) (by rw [own_pred u1 hu0 hu1, nat_of hu0]) (by rw [nat_of hu0]; exact Int.le_refl _) N0 K1
  obtain ⟨fs, hr, hrun, hended, hW, hsame⟩ := X3.leave (v := (some (.ref b1))) (fun h => by rw [Bd.returns] at h; cases h)
  refine ⟨_, _, pre2 _ ?_, hrun, hended, _, _, rfl, ?_, ⟨_, rfl⟩, hW, hsame.mono (by decide) (by decide)⟩
  · refine st3 _ ?_
    show Steps p.tables e below (T3.setTop (mkF m 38 #[.val (.long w0), .second, .val (.int u1), .val (.ref b1), .val (.long w3), .second, .val (.int i3)] [])) _
    refine XS.aloadN X3.here hx rfl (hb hby d1_38) rfl rfl ?_
    show Steps p.tables e below (T3.setTop (mkF m 39 #[.val (.long w0), .second, .val (.int u1), .val (.ref b1), .val (.long w3), .second, .val (.int i3)] [(.ref b1)])) _
    exact retOut X3 hx Bd.returns rfl (Or.inr (Or.inr (Or.inr (Or.inr ⟨rfl, rfl, rfl⟩)))) (hb hby d1_39) hr
  · show QY Z w0 u1 h0 n0 _ T3.heap _
    rw [e3]
    exact ⟨_, _, _, rfl, N3, K3, V3, P3⟩
theorem d2_0 : decode method_3_code 0 = .ok (.iload_n 1, 1) := by decide +kernel
theorem d2_1 : decode method_3_code 1 = .ok (.iload 4, 2) := by decide +kernel
theorem d2_3 : decode method_3_code 3 = .ok (.if_icmp .lt 5, 3) := by decide +kernel
theorem d2_6 : decode method_3_code 6 = .ok (.iconst 1, 1) := by decide +kernel
theorem d2_7 : decode method_3_code 7 = .ok (.ireturn, 1) := by decide +kernel
theorem d2_8 : decode method_3_code 8 = .ok (.iload 4, 2) := by decide +kernel
theorem d2_10 : decode method_3_code 10 = .ok (.iconst 1, 1) := by decide +kernel
theorem d2_11 : decode method_3_code 11 = .ok (.isub, 1) := by decide +kernel
theorem d2_12 : decode method_3_code 12 = .ok (.iload_n 1, 1) := by decide +kernel
theorem d2_13 : decode method_3_code 13 = .ok (.isub, 1) := by decide +kernel
theorem d2_14 : decode method_3_code 14 = .ok (.istore 5, 2) := by decide +kernel
theorem d2_16 : decode method_3_code 16 = .ok (.iload 5, 2) := by decide +kernel
theorem d2_18 : decode method_3_code 18 = .ok (.bipush 8, 2) := by decide +kernel
theorem d2_20 : decode method_3_code 20 = .ok (.if_icmp .lt 9, 3) := by decide +kernel
theorem d2_23 : decode method_3_code 23 = .ok (.iconst 0, 1) := by decide +kernel
theorem d2_24 : decode method_3_code 24 = .ok (.istore 6, 2) := by decide +kernel
theorem d2_26 : decode method_3_code 26 = .ok (.goto 14, 3) := by decide +kernel
theorem d2_29 : decode method_3_code 29 = .ok (.lload_n 2, 1) := by decide +kernel
theorem d2_30 : decode method_3_code 30 = .ok (.bipush 8, 2) := by decide +kernel
theorem d2_32 : decode method_3_code 32 = .ok (.iload 5, 2) := by decide +kernel
theorem d2_34 : decode method_3_code 34 = .ok (.imul, 1) := by decide +kernel
theorem d2_35 : decode method_3_code 35 = .ok (.lushr, 1) := by decide +kernel
theorem d2_36 : decode method_3_code 36 = .ok (.l2i, 1) := by decide +kernel
theorem d2_37 : decode method_3_code 37 = .ok (.i2b, 1) := by decide +kernel
theorem d2_38 : decode method_3_code 38 = .ok (.istore 6, 2) := by decide +kernel
theorem d2_40 : decode method_3_code 40 = .ok (.aload_n 0, 1) := by decide +kernel
theorem d2_41 : decode method_3_code 41 = .ok (.iload_n 1, 1) := by decide +kernel
theorem d2_42 : decode method_3_code 42 = .ok (.baload, 1) := by decide +kernel
theorem d2_43 : decode method_3_code 43 = .ok (.iload 6, 2) := by decide +kernel
theorem d2_45 : decode method_3_code 45 = .ok (.if_icmp .ne 7, 3) := by decide +kernel
theorem d2_48 : decode method_3_code 48 = .ok (.iconst 1, 1) := by decide +kernel
theorem d2_49 : decode method_3_code 49 = .ok (.goto 4, 3) := by decide +kernel
theorem d2_53 : decode method_3_code 53 = .ok (.ireturn, 1) := by decide +kernel
theorem pn_2 : plainName "com/example/klave/klave/coding/BigEndianBytesPinLaw" = true := by first | (simp [plainName, overriddenIn]; done) | decide +kernel
theorem ef_2 (m : MethodId) (x0 : Addr) (x1 : Int32) (x2 : Int64) (x3 : Int32) : entryFrame m #[(.ref x0), (.int x1), (.long x2), (.int x3)] 7 = mkF m 0 #[.val (.ref x0), .val (.int x1), .val (.long x2), .second, .val (.int x3), .unset, .unset] [] := by first | (simp [entryFrame, mkF, argsToLocals, Value.category]; done) | rfl
def j2_16L6 (u1 : Int32) (w2 : Int64) (u3 : Int32) : Int32 := (if ((u3 - (1 : Int32)) - u1) < (8 : Int32) then ((((w2.toUInt64 >>> (((8 : Int32) * ((u3 - (1 : Int32)) - u1)) &&& 0x3f).toInt64.toUInt64).toInt64).toInt32).toInt8.toInt32) else (0 : Int32))
set_option maxRecDepth 65536 in
set_option maxHeartbeats 40000000 in
theorem rm2 (l : Launch) (Z : State) (a0 : Array Value) (hw : ∀ d ∈ tables_1, d.before a0 Z = true) (ws : List Jvm.Cond) (r0 : Addr) (u1 : Int32) (w2 : Int64) (u3 : Int32) (kb : ClassId) (vs : List Value) (h0 : Heap) (n0 : Nat) (Z0 : n0 ≤ h0.size) (V_b : Arv Z h0 r0 kb .byte u3 vs (.int (0 : Int32))) (hu0 : ¬ u1 < 0) (hz : u1 < u3 → vs.getD u1.toNatClampNeg (.int (0 : Int32)) = .int (j2_16L6 u1 w2 u3)) :
    MetFree l (⟨"com/example/klave/klave/coding/BigEndianBytesPinLaw", "at", "([BIJI)Z"⟩ : MethodName) (head1 (Jvm.Cond.code (⟨"com/example/klave/klave/coding/BigEndianBytesPinLaw", "at", "([BIJI)Z"⟩ : MethodName) method_3_code 7 (some .boolean) :: ws) ({ frames := 0, cells := 0, slots := 0, locals := 0 } : Room)) (fun a U => a = #[(.ref r0), (.int u1), (.long w2), (.int u3)] ∧ Z.Warmed39 U.vm ∧ U.heap = h0) (fun _ _ _ _ _ => True) (fun _ U o U' => ∃ v L, o = .returned v ∧ QP (some (.int 1)) h0 n0 v U'.heap L ∧ FrameEnd U o U' L 0 0) := by
  refine MetFree.of_bodySF (plainFor_of_name pn_2) hisR ?_
  intro p e s m args below meth c s₁ Bd hml0 hP hK
  obtain ⟨rfl, hZ, hh⟩ := hP
  have hx := Bd.exec
  have hby := Bd.bytes
  have hml : c.maxLocals = 7 := hml0
  have hown : s.vm.findClass "com/example/klave/klave/coding/BigEndianBytesPinLaw" = some m.cls := findClass_of_methodNamed Bd.named
  have hnm := (name_of_methodNamed Bd.named Bd.method).1
  have X0 : Stand p l e ({ frames := 0, cells := 0, slots := 0, locals := 0 } : Room) s m #[(.ref r0), (.int u1), (.long w2), (.int u3)] below meth c s₁ [] 0 0 := Stand.of_body Bd
  have e0 : s₁.heap = h0 := by rw [← hh, Bd.state]; rfl
  have N0 := Fr.nil n0
  have pre0 : ∀ t, Steps p.tables e below (s₁.setTop (mkF m 0 #[.val (.ref r0), .val (.int u1), .val (.long w2), .second, .val (.int u3), .unset, .unset] [])) t → Steps p.tables e below (s₁.setTop (entryFrame m #[(.ref r0), (.int u1), (.long w2), (.int u3)] 7)) t := fun t k => castTop (ef_2 m r0 u1 w2 u3) k
  have pre1 : ∀ t, Steps p.tables e below (s₁.setTop (mkF m 3 #[.val (.ref r0), .val (.int u1), .val (.long w2), .second, .val (.int u3), .unset, .unset] [(.int u3), (.int u1)])) t → Steps p.tables e below (s₁.setTop (entryFrame m #[(.ref r0), (.int u1), (.long w2), (.int u3)] 7)) t := fun t k => pre0 t (by
    show Steps p.tables e below (s₁.setTop (mkF m 0 #[.val (.ref r0), .val (.int u1), .val (.long w2), .second, .val (.int u3), .unset, .unset] [])) _
    refine XS.iloadN X0.here hx rfl (hb hby d2_0) rfl ?_
    show Steps p.tables e below (s₁.setTop (mkF m 1 #[.val (.ref r0), .val (.int u1), .val (.long w2), .second, .val (.int u3), .unset, .unset] [(.int u1)])) _
    refine XS.iload X0.here hx rfl (hb hby d2_1) rfl ?_
    exact k)
  by_cases hc3 : u1 < u3
  · -- pc 3: u1 < u3
    have pre2 : ∀ t, Steps p.tables e below (s₁.setTop (mkF m 16 #[.val (.ref r0), .val (.int u1), .val (.long w2), .second, .val (.int u3), .val (.int ((u3 - (1 : Int32)) - u1)), .unset] [])) t → Steps p.tables e below (s₁.setTop (entryFrame m #[(.ref r0), (.int u1), (.long w2), (.int u3)] 7)) t := fun t k => pre1 t (by
      show Steps p.tables e below (s₁.setTop (mkF m 3 #[.val (.ref r0), .val (.int u1), .val (.long w2), .second, .val (.int u3), .unset, .unset] [(.int u3), (.int u1)])) _
      refine XS.icmpYes X0.here hx rfl (pc0 := 3) (pc' := 8) rfl (hb hby d2_3) rfl (tlt hc3).1 (by decide) (by decide) ?_
      show Steps p.tables e below (s₁.setTop (mkF m 8 #[.val (.ref r0), .val (.int u1), .val (.long w2), .second, .val (.int u3), .unset, .unset] [])) _
      refine XS.iload X0.here hx rfl (hb hby d2_8) rfl ?_
      show Steps p.tables e below (s₁.setTop (mkF m 10 #[.val (.ref r0), .val (.int u1), .val (.long w2), .second, .val (.int u3), .unset, .unset] [(.int u3)])) _
      refine XS.iconst X0.here hx rfl (hb hby d2_10) ?_
      show Steps p.tables e below (s₁.setTop (mkF m 11 #[.val (.ref r0), .val (.int u1), .val (.long w2), .second, .val (.int u3), .unset, .unset] [(.int (1 : Int32)), (.int u3)])) _
      refine XS.isub X0.here hx rfl (hb hby d2_11) rfl ?_
      show Steps p.tables e below (s₁.setTop (mkF m 12 #[.val (.ref r0), .val (.int u1), .val (.long w2), .second, .val (.int u3), .unset, .unset] [(.int (u3 - (1 : Int32)))])) _
      refine XS.iloadN X0.here hx rfl (hb hby d2_12) rfl ?_
      show Steps p.tables e below (s₁.setTop (mkF m 13 #[.val (.ref r0), .val (.int u1), .val (.long w2), .second, .val (.int u3), .unset, .unset] [(.int u1), (.int (u3 - (1 : Int32)))])) _
      refine XS.isub X0.here hx rfl (hb hby d2_13) rfl ?_
      show Steps p.tables e below (s₁.setTop (mkF m 14 #[.val (.ref r0), .val (.int u1), .val (.long w2), .second, .val (.int u3), .unset, .unset] [(.int ((u3 - (1 : Int32)) - u1))])) _
      refine XS.istore X0.here hx rfl (hb hby d2_14) rfl (l' := #[.val (.ref r0), .val (.int u1), .val (.long w2), .second, .val (.int u3), .val (.int ((u3 - (1 : Int32)) - u1)), .unset]) rfl ?_
      exact k)
    have pre3 : ∀ t, Steps p.tables e below (s₁.setTop (mkF m 40 #[.val (.ref r0), .val (.int u1), .val (.long w2), .second, .val (.int u3), .val (.int ((u3 - (1 : Int32)) - u1)), .val (.int (j2_16L6 u1 w2 u3))] [])) t → Steps p.tables e below (s₁.setTop (entryFrame m #[(.ref r0), (.int u1), (.long w2), (.int u3)] 7)) t := by
      have pre4 : ∀ t, Steps p.tables e below (s₁.setTop (mkF m 20 #[.val (.ref r0), .val (.int u1), .val (.long w2), .second, .val (.int u3), .val (.int ((u3 - (1 : Int32)) - u1)), .unset] [(.int (8 : Int32)), (.int ((u3 - (1 : Int32)) - u1))])) t → Steps p.tables e below (s₁.setTop (entryFrame m #[(.ref r0), (.int u1), (.long w2), (.int u3)] 7)) t := fun t k => pre2 t (by
        show Steps p.tables e below (s₁.setTop (mkF m 16 #[.val (.ref r0), .val (.int u1), .val (.long w2), .second, .val (.int u3), .val (.int ((u3 - (1 : Int32)) - u1)), .unset] [])) _
        refine XS.iload X0.here hx rfl (hb hby d2_16) rfl ?_
        show Steps p.tables e below (s₁.setTop (mkF m 18 #[.val (.ref r0), .val (.int u1), .val (.long w2), .second, .val (.int u3), .val (.int ((u3 - (1 : Int32)) - u1)), .unset] [(.int ((u3 - (1 : Int32)) - u1))])) _
        refine XS.bipush X0.here hx rfl (hb hby d2_18) ?_
        exact k)
      by_cases hc20 : ((u3 - (1 : Int32)) - u1) < (8 : Int32)
      · -- pc 20: ((u3 - (1 : Int32)) - u1) < (8 : Int32)
        intro t k
        have qL6 : (j2_16L6 u1 w2 u3) = ((((w2.toUInt64 >>> (((8 : Int32) * ((u3 - (1 : Int32)) - u1)) &&& 0x3f).toInt64.toUInt64).toInt64).toInt32).toInt8.toInt32) := (if_pos hc20).trans (rfl)
        rw [qL6] at k
        refine pre4 t ?_
        show Steps p.tables e below (s₁.setTop (mkF m 20 #[.val (.ref r0), .val (.int u1), .val (.long w2), .second, .val (.int u3), .val (.int ((u3 - (1 : Int32)) - u1)), .unset] [(.int (8 : Int32)), (.int ((u3 - (1 : Int32)) - u1))])) _
        refine XS.icmpYes X0.here hx rfl (pc0 := 20) (pc' := 29) rfl (hb hby d2_20) rfl (tlt hc20).1 (by decide) (by decide) ?_
        show Steps p.tables e below (s₁.setTop (mkF m 29 #[.val (.ref r0), .val (.int u1), .val (.long w2), .second, .val (.int u3), .val (.int ((u3 - (1 : Int32)) - u1)), .unset] [])) _
        refine XS.lloadN X0.here hx rfl (hb hby d2_29) rfl ?_
        show Steps p.tables e below (s₁.setTop (mkF m 30 #[.val (.ref r0), .val (.int u1), .val (.long w2), .second, .val (.int u3), .val (.int ((u3 - (1 : Int32)) - u1)), .unset] [(.long w2)])) _
        refine XS.bipush X0.here hx rfl (hb hby d2_30) ?_
        show Steps p.tables e below (s₁.setTop (mkF m 32 #[.val (.ref r0), .val (.int u1), .val (.long w2), .second, .val (.int u3), .val (.int ((u3 - (1 : Int32)) - u1)), .unset] [(.int (8 : Int32)), (.long w2)])) _
        refine XS.iload X0.here hx rfl (hb hby d2_32) rfl ?_
        show Steps p.tables e below (s₁.setTop (mkF m 34 #[.val (.ref r0), .val (.int u1), .val (.long w2), .second, .val (.int u3), .val (.int ((u3 - (1 : Int32)) - u1)), .unset] [(.int ((u3 - (1 : Int32)) - u1)), (.int (8 : Int32)), (.long w2)])) _
        refine XS.imul X0.here hx rfl (hb hby d2_34) rfl ?_
        show Steps p.tables e below (s₁.setTop (mkF m 35 #[.val (.ref r0), .val (.int u1), .val (.long w2), .second, .val (.int u3), .val (.int ((u3 - (1 : Int32)) - u1)), .unset] [(.int ((8 : Int32) * ((u3 - (1 : Int32)) - u1))), (.long w2)])) _
        refine XS.lushr X0.here hx rfl (hb hby d2_35) rfl ?_
        show Steps p.tables e below (s₁.setTop (mkF m 36 #[.val (.ref r0), .val (.int u1), .val (.long w2), .second, .val (.int u3), .val (.int ((u3 - (1 : Int32)) - u1)), .unset] [(.long ((w2.toUInt64 >>> (((8 : Int32) * ((u3 - (1 : Int32)) - u1)) &&& 0x3f).toInt64.toUInt64).toInt64))])) _
        refine XS.l2i X0.here hx rfl (hb hby d2_36) rfl ?_
        show Steps p.tables e below (s₁.setTop (mkF m 37 #[.val (.ref r0), .val (.int u1), .val (.long w2), .second, .val (.int u3), .val (.int ((u3 - (1 : Int32)) - u1)), .unset] [(.int (((w2.toUInt64 >>> (((8 : Int32) * ((u3 - (1 : Int32)) - u1)) &&& 0x3f).toInt64.toUInt64).toInt64).toInt32))])) _
        refine XS.i2b X0.here hx rfl (hb hby d2_37) rfl ?_
        show Steps p.tables e below (s₁.setTop (mkF m 38 #[.val (.ref r0), .val (.int u1), .val (.long w2), .second, .val (.int u3), .val (.int ((u3 - (1 : Int32)) - u1)), .unset] [(.int ((((w2.toUInt64 >>> (((8 : Int32) * ((u3 - (1 : Int32)) - u1)) &&& 0x3f).toInt64.toUInt64).toInt64).toInt32).toInt8.toInt32))])) _
        refine XS.istore X0.here hx rfl (hb hby d2_38) rfl (l' := #[.val (.ref r0), .val (.int u1), .val (.long w2), .second, .val (.int u3), .val (.int ((u3 - (1 : Int32)) - u1)), .val (.int ((((w2.toUInt64 >>> (((8 : Int32) * ((u3 - (1 : Int32)) - u1)) &&& 0x3f).toInt64.toUInt64).toInt64).toInt32).toInt8.toInt32))]) rfl ?_
        exact k
      · -- pc 20: not ((u3 - (1 : Int32)) - u1) < (8 : Int32)
        intro t k
        have qL6 : (j2_16L6 u1 w2 u3) = (0 : Int32) := (if_neg hc20).trans (rfl)
        rw [qL6] at k
        refine pre4 t ?_
        show Steps p.tables e below (s₁.setTop (mkF m 20 #[.val (.ref r0), .val (.int u1), .val (.long w2), .second, .val (.int u3), .val (.int ((u3 - (1 : Int32)) - u1)), .unset] [(.int (8 : Int32)), (.int ((u3 - (1 : Int32)) - u1))])) _
        refine XS.icmpNo X0.here hx rfl (hb hby d2_20) rfl (flt hc20).1 ?_
        show Steps p.tables e below (s₁.setTop (mkF m 23 #[.val (.ref r0), .val (.int u1), .val (.long w2), .second, .val (.int u3), .val (.int ((u3 - (1 : Int32)) - u1)), .unset] [])) _
        refine XS.iconst X0.here hx rfl (hb hby d2_23) ?_
        show Steps p.tables e below (s₁.setTop (mkF m 24 #[.val (.ref r0), .val (.int u1), .val (.long w2), .second, .val (.int u3), .val (.int ((u3 - (1 : Int32)) - u1)), .unset] [(.int (0 : Int32))])) _
        refine XS.istore X0.here hx rfl (hb hby d2_24) rfl (l' := #[.val (.ref r0), .val (.int u1), .val (.long w2), .second, .val (.int u3), .val (.int ((u3 - (1 : Int32)) - u1)), .val (.int (0 : Int32))]) rfl ?_
        show Steps p.tables e below (s₁.setTop (mkF m 26 #[.val (.ref r0), .val (.int u1), .val (.long w2), .second, .val (.int u3), .val (.int ((u3 - (1 : Int32)) - u1)), .val (.int (0 : Int32))] [])) _
        refine XS.goto X0.here hx rfl (pc0 := 26) (pc' := 40) rfl (hb hby d2_26) (by decide) (by decide) ?_
        exact k
    obtain ⟨c5, Ar5, hin5, hat5, hfit5⟩ := own_elemV V_b (j := u1) ⟨hu0, hc3⟩ (hz hc3)
    obtain ⟨fs, hr, hrun, hended, hW, hsame⟩ := X0.leave (v := (some (.int (1 : Int32)))) (fun h => by rw [Bd.returns] at h; cases h)
    refine ⟨_, _, pre3 _ ?_, hrun, hended, _, _, rfl, ?_, ⟨_, rfl⟩, hW, hsame.mono (by decide) (by decide)⟩
    · show Steps p.tables e below (s₁.setTop (mkF m 40 #[.val (.ref r0), .val (.int u1), .val (.long w2), .second, .val (.int u3), .val (.int ((u3 - (1 : Int32)) - u1)), .val (.int (j2_16L6 u1 w2 u3))] [])) _
      refine XS.aloadN X0.here hx rfl (hb hby d2_40) rfl rfl ?_
      show Steps p.tables e below (s₁.setTop (mkF m 41 #[.val (.ref r0), .val (.int u1), .val (.long w2), .second, .val (.int u3), .val (.int ((u3 - (1 : Int32)) - u1)), .val (.int (j2_16L6 u1 w2 u3))] [(.ref r0)])) _
      refine XS.iloadN X0.here hx rfl (hb hby d2_41) rfl ?_
      show Steps p.tables e below (s₁.setTop (mkF m 42 #[.val (.ref r0), .val (.int u1), .val (.long w2), .second, .val (.int u3), .val (.int ((u3 - (1 : Int32)) - u1)), .val (.int (j2_16L6 u1 w2 u3))] [(.int u1), (.ref r0)])) _
      refine X0.baloadBytes hx (j := u1) (v := (.int (j2_16L6 u1 w2 u3))) (by rw [e0]; exact Ar5.1) (State.isArrayOf_alike hZ.alike Ar5.2.1) Ar5.2.2 hin5 hat5 (g := (mkF m 42 #[.val (.ref r0), .val (.int u1), .val (.long w2), .second, .val (.int u3), .val (.int ((u3 - (1 : Int32)) - u1)), .val (.int (j2_16L6 u1 w2 u3))] [(.int u1), (.ref r0)])) rfl rfl (hb hby d2_42) _ ?_
      show Steps p.tables e below (s₁.setTop (mkF m 43 #[.val (.ref r0), .val (.int u1), .val (.long w2), .second, .val (.int u3), .val (.int ((u3 - (1 : Int32)) - u1)), .val (.int (j2_16L6 u1 w2 u3))] [(.int (j2_16L6 u1 w2 u3))])) _
      refine XS.iload X0.here hx rfl (hb hby d2_43) rfl ?_
      show Steps p.tables e below (s₁.setTop (mkF m 45 #[.val (.ref r0), .val (.int u1), .val (.long w2), .second, .val (.int u3), .val (.int ((u3 - (1 : Int32)) - u1)), .val (.int (j2_16L6 u1 w2 u3))] [(.int (j2_16L6 u1 w2 u3)), (.int (j2_16L6 u1 w2 u3))])) _
      refine XS.icmpNo X0.here hx rfl (hb hby d2_45) rfl (teq (rfl : (j2_16L6 u1 w2 u3) = (j2_16L6 u1 w2 u3))).2 ?_
      show Steps p.tables e below (s₁.setTop (mkF m 48 #[.val (.ref r0), .val (.int u1), .val (.long w2), .second, .val (.int u3), .val (.int ((u3 - (1 : Int32)) - u1)), .val (.int (j2_16L6 u1 w2 u3))] [])) _
      refine XS.iconst X0.here hx rfl (hb hby d2_48) ?_
      show Steps p.tables e below (s₁.setTop (mkF m 49 #[.val (.ref r0), .val (.int u1), .val (.long w2), .second, .val (.int u3), .val (.int ((u3 - (1 : Int32)) - u1)), .val (.int (j2_16L6 u1 w2 u3))] [(.int (1 : Int32))])) _
      refine XS.goto X0.here hx rfl (pc0 := 49) (pc' := 53) rfl (hb hby d2_49) (by decide) (by decide) ?_
      show Steps p.tables e below (s₁.setTop (mkF m 53 #[.val (.ref r0), .val (.int u1), .val (.long w2), .second, .val (.int u3), .val (.int ((u3 - (1 : Int32)) - u1)), .val (.int (j2_16L6 u1 w2 u3))] [(.int (1 : Int32))])) _
      exact retN X0 hx (t := .boolean) Bd.returns (by simp) (hb hby d2_53) hr
    · show QP (some (.int 1)) h0 n0 _ s₁.heap _
      rw [e0]
      exact ⟨rfl, N0, rfl⟩
  · -- pc 3: not u1 < u3
    obtain ⟨fs, hr, hrun, hended, hW, hsame⟩ := X0.leave (v := (some (.int (1 : Int32)))) (fun h => by rw [Bd.returns] at h; cases h)
    refine ⟨_, _, pre1 _ ?_, hrun, hended, _, _, rfl, ?_, ⟨_, rfl⟩, hW, hsame.mono (by decide) (by decide)⟩
    · show Steps p.tables e below (s₁.setTop (mkF m 3 #[.val (.ref r0), .val (.int u1), .val (.long w2), .second, .val (.int u3), .unset, .unset] [(.int u3), (.int u1)])) _
      refine XS.icmpNo X0.here hx rfl (hb hby d2_3) rfl (flt hc3).1 ?_
      show Steps p.tables e below (s₁.setTop (mkF m 6 #[.val (.ref r0), .val (.int u1), .val (.long w2), .second, .val (.int u3), .unset, .unset] [])) _
      refine XS.iconst X0.here hx rfl (hb hby d2_6) ?_
      show Steps p.tables e below (s₁.setTop (mkF m 7 #[.val (.ref r0), .val (.int u1), .val (.long w2), .second, .val (.int u3), .unset, .unset] [(.int (1 : Int32))])) _
      exact retN X0 hx (t := .boolean) Bd.returns (by simp) (hb hby d2_7) hr
    · show QP (some (.int 1)) h0 n0 _ s₁.heap _
      rw [e0]
      exact ⟨rfl, N0, rfl⟩
theorem own_bb (x : Int32) : (x.toInt8.toInt32).toInt8.toInt32 = x.toInt8.toInt32 := by
  have h1 := c_i2b x
  have h2 := c_i2b (x.toInt8.toInt32)
  apply Int32.toInt_inj.mp
  omega
theorem own_n (x : Int32) : 1 ≤ ((1 : Int32) + (x &&& (2147483647 : Int32)) % (10 : Int32)).toInt ∧ ((1 : Int32) + (x &&& (2147483647 : Int32)) % (10 : Int32)).toInt ≤ 10 := by
  have h1 := c_mask x 2147483647 31 (by decide) (by decide)
  have h2 := (c_iremV (x &&& 2147483647) 10).1 (by omega) (by decide)
  have h3 := c_iadd 1 ((x &&& 2147483647) % 10)
  have h4 := rng32 ((1 : Int32) + (x &&& (2147483647 : Int32)) % (10 : Int32))
  rw [show (1 : Int32).toInt = 1 from rfl] at h3
  rw [show (10 : Int32).toInt = 10 from rfl] at h2
  omega
theorem own_n0 {nn : Int32} (h : 1 ≤ nn.toInt ∧ nn.toInt ≤ 10) : ¬ nn < 0 := by
  rw [Int32.lt_iff_toInt_lt, show (0 : Int32).toInt = 0 from rfl]
  omega
theorem own_n1 {nn : Int32} (h : 1 ≤ nn.toInt ∧ nn.toInt ≤ 10) : nn.toNatClampNeg ≤ 10 := by
  have := nat_of (own_n0 h)
  omega
def own_g (kk : Int32) (w : Int64) : Int32 := (if kk < (8 : Int32) then (((((w.toUInt64 >>> (((8 : Int32) * kk) &&& 0x3f).toInt64.toUInt64).toInt64)).toInt32).toInt8.toInt32) else (0 : Int32))
theorem own_g0 (w : Int64) : own_byte w 0 = own_g 0 w := by
  have h1 : ((w.toUInt64 >>> (((8 : Int32) * 0) &&& 0x3f).toInt64.toUInt64).toInt64) = w := by
    rw [show (((8 : Int32) * 0) &&& 0x3f).toInt64.toUInt64 = 0 from by decide]
    simp
  show (w.toInt32.toInt8.toInt32).toInt8.toInt32 = own_g 0 w
  unfold own_g
  rw [if_pos (by decide), h1]
  exact own_bb _
theorem own_g1 (w : Int64) : own_byte w 1 = own_g 1 w := by
  have h1 := c_lushr w 8 8 (by decide) (by decide)
  have hq := c_lushr w ((8 : Int32) * 1) 8 (by decide) (by decide)
  have e : ((w.toUInt64 >>> ((8 : Int32) &&& 0x3f).toInt64.toUInt64).toInt64) = ((w.toUInt64 >>> (((8 : Int32) * 1) &&& 0x3f).toInt64.toUInt64).toInt64) := by
    apply Int64.toInt_inj.mp
    omega
  show (((w.toUInt64 >>> ((8 : Int32) &&& 0x3f).toInt64.toUInt64).toInt64).toInt32.toInt8.toInt32).toInt8.toInt32 = own_g 1 w
  rw [e]
  unfold own_g
  rw [if_pos (by decide)]
  exact own_bb _
theorem own_g2 (w : Int64) : own_byte w 2 = own_g 2 w := by
  have h1 := c_lushr w 8 8 (by decide) (by decide)
  have h2 := c_lushr ((w.toUInt64 >>> ((8 : Int32) &&& 0x3f).toInt64.toUInt64).toInt64) 8 8 (by decide) (by decide)
  have hq := c_lushr w ((8 : Int32) * 2) 16 (by decide) (by decide)
  have e : ((((w.toUInt64 >>> ((8 : Int32) &&& 0x3f).toInt64.toUInt64).toInt64).toUInt64 >>> ((8 : Int32) &&& 0x3f).toInt64.toUInt64).toInt64) = ((w.toUInt64 >>> (((8 : Int32) * 2) &&& 0x3f).toInt64.toUInt64).toInt64) := by
    apply Int64.toInt_inj.mp
    omega
  show (((((w.toUInt64 >>> ((8 : Int32) &&& 0x3f).toInt64.toUInt64).toInt64).toUInt64 >>> ((8 : Int32) &&& 0x3f).toInt64.toUInt64).toInt64).toInt32.toInt8.toInt32).toInt8.toInt32 = own_g 2 w
  rw [e]
  unfold own_g
  rw [if_pos (by decide)]
  exact own_bb _
theorem own_g3 (w : Int64) : own_byte w 3 = own_g 3 w := by
  have h1 := c_lushr w 8 8 (by decide) (by decide)
  have h2 := c_lushr ((w.toUInt64 >>> ((8 : Int32) &&& 0x3f).toInt64.toUInt64).toInt64) 8 8 (by decide) (by decide)
  have h3 := c_lushr ((((w.toUInt64 >>> ((8 : Int32) &&& 0x3f).toInt64.toUInt64).toInt64).toUInt64 >>> ((8 : Int32) &&& 0x3f).toInt64.toUInt64).toInt64) 8 8 (by decide) (by decide)
  have hq := c_lushr w ((8 : Int32) * 3) 24 (by decide) (by decide)
  have e : ((((((w.toUInt64 >>> ((8 : Int32) &&& 0x3f).toInt64.toUInt64).toInt64).toUInt64 >>> ((8 : Int32) &&& 0x3f).toInt64.toUInt64).toInt64).toUInt64 >>> ((8 : Int32) &&& 0x3f).toInt64.toUInt64).toInt64) = ((w.toUInt64 >>> (((8 : Int32) * 3) &&& 0x3f).toInt64.toUInt64).toInt64) := by
    apply Int64.toInt_inj.mp
    omega
  show (((((((w.toUInt64 >>> ((8 : Int32) &&& 0x3f).toInt64.toUInt64).toInt64).toUInt64 >>> ((8 : Int32) &&& 0x3f).toInt64.toUInt64).toInt64).toUInt64 >>> ((8 : Int32) &&& 0x3f).toInt64.toUInt64).toInt64).toInt32.toInt8.toInt32).toInt8.toInt32 = own_g 3 w
  rw [e]
  unfold own_g
  rw [if_pos (by decide)]
  exact own_bb _
theorem own_g4 (w : Int64) : own_byte w 4 = own_g 4 w := by
  have h1 := c_lushr w 8 8 (by decide) (by decide)
  have h2 := c_lushr ((w.toUInt64 >>> ((8 : Int32) &&& 0x3f).toInt64.toUInt64).toInt64) 8 8 (by decide) (by decide)
  have h3 := c_lushr ((((w.toUInt64 >>> ((8 : Int32) &&& 0x3f).toInt64.toUInt64).toInt64).toUInt64 >>> ((8 : Int32) &&& 0x3f).toInt64.toUInt64).toInt64) 8 8 (by decide) (by decide)
  have h4 := c_lushr ((((((w.toUInt64 >>> ((8 : Int32) &&& 0x3f).toInt64.toUInt64).toInt64).toUInt64 >>> ((8 : Int32) &&& 0x3f).toInt64.toUInt64).toInt64).toUInt64 >>> ((8 : Int32) &&& 0x3f).toInt64.toUInt64).toInt64) 8 8 (by decide) (by decide)
  have hq := c_lushr w ((8 : Int32) * 4) 32 (by decide) (by decide)
  have e : ((((((((w.toUInt64 >>> ((8 : Int32) &&& 0x3f).toInt64.toUInt64).toInt64).toUInt64 >>> ((8 : Int32) &&& 0x3f).toInt64.toUInt64).toInt64).toUInt64 >>> ((8 : Int32) &&& 0x3f).toInt64.toUInt64).toInt64).toUInt64 >>> ((8 : Int32) &&& 0x3f).toInt64.toUInt64).toInt64) = ((w.toUInt64 >>> (((8 : Int32) * 4) &&& 0x3f).toInt64.toUInt64).toInt64) := by
    apply Int64.toInt_inj.mp
    omega
  show (((((((((w.toUInt64 >>> ((8 : Int32) &&& 0x3f).toInt64.toUInt64).toInt64).toUInt64 >>> ((8 : Int32) &&& 0x3f).toInt64.toUInt64).toInt64).toUInt64 >>> ((8 : Int32) &&& 0x3f).toInt64.toUInt64).toInt64).toUInt64 >>> ((8 : Int32) &&& 0x3f).toInt64.toUInt64).toInt64).toInt32.toInt8.toInt32).toInt8.toInt32 = own_g 4 w
  rw [e]
  unfold own_g
  rw [if_pos (by decide)]
  exact own_bb _
theorem own_g5 (w : Int64) : own_byte w 5 = own_g 5 w := by
  have h1 := c_lushr w 8 8 (by decide) (by decide)
  have h2 := c_lushr ((w.toUInt64 >>> ((8 : Int32) &&& 0x3f).toInt64.toUInt64).toInt64) 8 8 (by decide) (by decide)
  have h3 := c_lushr ((((w.toUInt64 >>> ((8 : Int32) &&& 0x3f).toInt64.toUInt64).toInt64).toUInt64 >>> ((8 : Int32) &&& 0x3f).toInt64.toUInt64).toInt64) 8 8 (by decide) (by decide)
  have h4 := c_lushr ((((((w.toUInt64 >>> ((8 : Int32) &&& 0x3f).toInt64.toUInt64).toInt64).toUInt64 >>> ((8 : Int32) &&& 0x3f).toInt64.toUInt64).toInt64).toUInt64 >>> ((8 : Int32) &&& 0x3f).toInt64.toUInt64).toInt64) 8 8 (by decide) (by decide)
  have h5 := c_lushr ((((((((w.toUInt64 >>> ((8 : Int32) &&& 0x3f).toInt64.toUInt64).toInt64).toUInt64 >>> ((8 : Int32) &&& 0x3f).toInt64.toUInt64).toInt64).toUInt64 >>> ((8 : Int32) &&& 0x3f).toInt64.toUInt64).toInt64).toUInt64 >>> ((8 : Int32) &&& 0x3f).toInt64.toUInt64).toInt64) 8 8 (by decide) (by decide)
  have hq := c_lushr w ((8 : Int32) * 5) 40 (by decide) (by decide)
  have e : ((((((((((w.toUInt64 >>> ((8 : Int32) &&& 0x3f).toInt64.toUInt64).toInt64).toUInt64 >>> ((8 : Int32) &&& 0x3f).toInt64.toUInt64).toInt64).toUInt64 >>> ((8 : Int32) &&& 0x3f).toInt64.toUInt64).toInt64).toUInt64 >>> ((8 : Int32) &&& 0x3f).toInt64.toUInt64).toInt64).toUInt64 >>> ((8 : Int32) &&& 0x3f).toInt64.toUInt64).toInt64) = ((w.toUInt64 >>> (((8 : Int32) * 5) &&& 0x3f).toInt64.toUInt64).toInt64) := by
    apply Int64.toInt_inj.mp
    omega
  show (((((((((((w.toUInt64 >>> ((8 : Int32) &&& 0x3f).toInt64.toUInt64).toInt64).toUInt64 >>> ((8 : Int32) &&& 0x3f).toInt64.toUInt64).toInt64).toUInt64 >>> ((8 : Int32) &&& 0x3f).toInt64.toUInt64).toInt64).toUInt64 >>> ((8 : Int32) &&& 0x3f).toInt64.toUInt64).toInt64).toUInt64 >>> ((8 : Int32) &&& 0x3f).toInt64.toUInt64).toInt64).toInt32.toInt8.toInt32).toInt8.toInt32 = own_g 5 w
  rw [e]
  unfold own_g
  rw [if_pos (by decide)]
  exact own_bb _
theorem own_g6 (w : Int64) : own_byte w 6 = own_g 6 w := by
  have h1 := c_lushr w 8 8 (by decide) (by decide)
  have h2 := c_lushr ((w.toUInt64 >>> ((8 : Int32) &&& 0x3f).toInt64.toUInt64).toInt64) 8 8 (by decide) (by decide)
  have h3 := c_lushr ((((w.toUInt64 >>> ((8 : Int32) &&& 0x3f).toInt64.toUInt64).toInt64).toUInt64 >>> ((8 : Int32) &&& 0x3f).toInt64.toUInt64).toInt64) 8 8 (by decide) (by decide)
  have h4 := c_lushr ((((((w.toUInt64 >>> ((8 : Int32) &&& 0x3f).toInt64.toUInt64).toInt64).toUInt64 >>> ((8 : Int32) &&& 0x3f).toInt64.toUInt64).toInt64).toUInt64 >>> ((8 : Int32) &&& 0x3f).toInt64.toUInt64).toInt64) 8 8 (by decide) (by decide)
  have h5 := c_lushr ((((((((w.toUInt64 >>> ((8 : Int32) &&& 0x3f).toInt64.toUInt64).toInt64).toUInt64 >>> ((8 : Int32) &&& 0x3f).toInt64.toUInt64).toInt64).toUInt64 >>> ((8 : Int32) &&& 0x3f).toInt64.toUInt64).toInt64).toUInt64 >>> ((8 : Int32) &&& 0x3f).toInt64.toUInt64).toInt64) 8 8 (by decide) (by decide)
  have h6 := c_lushr ((((((((((w.toUInt64 >>> ((8 : Int32) &&& 0x3f).toInt64.toUInt64).toInt64).toUInt64 >>> ((8 : Int32) &&& 0x3f).toInt64.toUInt64).toInt64).toUInt64 >>> ((8 : Int32) &&& 0x3f).toInt64.toUInt64).toInt64).toUInt64 >>> ((8 : Int32) &&& 0x3f).toInt64.toUInt64).toInt64).toUInt64 >>> ((8 : Int32) &&& 0x3f).toInt64.toUInt64).toInt64) 8 8 (by decide) (by decide)
  have hq := c_lushr w ((8 : Int32) * 6) 48 (by decide) (by decide)
  have e : ((((((((((((w.toUInt64 >>> ((8 : Int32) &&& 0x3f).toInt64.toUInt64).toInt64).toUInt64 >>> ((8 : Int32) &&& 0x3f).toInt64.toUInt64).toInt64).toUInt64 >>> ((8 : Int32) &&& 0x3f).toInt64.toUInt64).toInt64).toUInt64 >>> ((8 : Int32) &&& 0x3f).toInt64.toUInt64).toInt64).toUInt64 >>> ((8 : Int32) &&& 0x3f).toInt64.toUInt64).toInt64).toUInt64 >>> ((8 : Int32) &&& 0x3f).toInt64.toUInt64).toInt64) = ((w.toUInt64 >>> (((8 : Int32) * 6) &&& 0x3f).toInt64.toUInt64).toInt64) := by
    apply Int64.toInt_inj.mp
    omega
  show (((((((((((((w.toUInt64 >>> ((8 : Int32) &&& 0x3f).toInt64.toUInt64).toInt64).toUInt64 >>> ((8 : Int32) &&& 0x3f).toInt64.toUInt64).toInt64).toUInt64 >>> ((8 : Int32) &&& 0x3f).toInt64.toUInt64).toInt64).toUInt64 >>> ((8 : Int32) &&& 0x3f).toInt64.toUInt64).toInt64).toUInt64 >>> ((8 : Int32) &&& 0x3f).toInt64.toUInt64).toInt64).toUInt64 >>> ((8 : Int32) &&& 0x3f).toInt64.toUInt64).toInt64).toInt32.toInt8.toInt32).toInt8.toInt32 = own_g 6 w
  rw [e]
  unfold own_g
  rw [if_pos (by decide)]
  exact own_bb _
theorem own_g7 (w : Int64) : own_byte w 7 = own_g 7 w := by
  have h1 := c_lushr w 8 8 (by decide) (by decide)
  have h2 := c_lushr ((w.toUInt64 >>> ((8 : Int32) &&& 0x3f).toInt64.toUInt64).toInt64) 8 8 (by decide) (by decide)
  have h3 := c_lushr ((((w.toUInt64 >>> ((8 : Int32) &&& 0x3f).toInt64.toUInt64).toInt64).toUInt64 >>> ((8 : Int32) &&& 0x3f).toInt64.toUInt64).toInt64) 8 8 (by decide) (by decide)
  have h4 := c_lushr ((((((w.toUInt64 >>> ((8 : Int32) &&& 0x3f).toInt64.toUInt64).toInt64).toUInt64 >>> ((8 : Int32) &&& 0x3f).toInt64.toUInt64).toInt64).toUInt64 >>> ((8 : Int32) &&& 0x3f).toInt64.toUInt64).toInt64) 8 8 (by decide) (by decide)
  have h5 := c_lushr ((((((((w.toUInt64 >>> ((8 : Int32) &&& 0x3f).toInt64.toUInt64).toInt64).toUInt64 >>> ((8 : Int32) &&& 0x3f).toInt64.toUInt64).toInt64).toUInt64 >>> ((8 : Int32) &&& 0x3f).toInt64.toUInt64).toInt64).toUInt64 >>> ((8 : Int32) &&& 0x3f).toInt64.toUInt64).toInt64) 8 8 (by decide) (by decide)
  have h6 := c_lushr ((((((((((w.toUInt64 >>> ((8 : Int32) &&& 0x3f).toInt64.toUInt64).toInt64).toUInt64 >>> ((8 : Int32) &&& 0x3f).toInt64.toUInt64).toInt64).toUInt64 >>> ((8 : Int32) &&& 0x3f).toInt64.toUInt64).toInt64).toUInt64 >>> ((8 : Int32) &&& 0x3f).toInt64.toUInt64).toInt64).toUInt64 >>> ((8 : Int32) &&& 0x3f).toInt64.toUInt64).toInt64) 8 8 (by decide) (by decide)
  have h7 := c_lushr ((((((((((((w.toUInt64 >>> ((8 : Int32) &&& 0x3f).toInt64.toUInt64).toInt64).toUInt64 >>> ((8 : Int32) &&& 0x3f).toInt64.toUInt64).toInt64).toUInt64 >>> ((8 : Int32) &&& 0x3f).toInt64.toUInt64).toInt64).toUInt64 >>> ((8 : Int32) &&& 0x3f).toInt64.toUInt64).toInt64).toUInt64 >>> ((8 : Int32) &&& 0x3f).toInt64.toUInt64).toInt64).toUInt64 >>> ((8 : Int32) &&& 0x3f).toInt64.toUInt64).toInt64) 8 8 (by decide) (by decide)
  have hq := c_lushr w ((8 : Int32) * 7) 56 (by decide) (by decide)
  have e : ((((((((((((((w.toUInt64 >>> ((8 : Int32) &&& 0x3f).toInt64.toUInt64).toInt64).toUInt64 >>> ((8 : Int32) &&& 0x3f).toInt64.toUInt64).toInt64).toUInt64 >>> ((8 : Int32) &&& 0x3f).toInt64.toUInt64).toInt64).toUInt64 >>> ((8 : Int32) &&& 0x3f).toInt64.toUInt64).toInt64).toUInt64 >>> ((8 : Int32) &&& 0x3f).toInt64.toUInt64).toInt64).toUInt64 >>> ((8 : Int32) &&& 0x3f).toInt64.toUInt64).toInt64).toUInt64 >>> ((8 : Int32) &&& 0x3f).toInt64.toUInt64).toInt64) = ((w.toUInt64 >>> (((8 : Int32) * 7) &&& 0x3f).toInt64.toUInt64).toInt64) := by
    apply Int64.toInt_inj.mp
    omega
  show (((((((((((((((w.toUInt64 >>> ((8 : Int32) &&& 0x3f).toInt64.toUInt64).toInt64).toUInt64 >>> ((8 : Int32) &&& 0x3f).toInt64.toUInt64).toInt64).toUInt64 >>> ((8 : Int32) &&& 0x3f).toInt64.toUInt64).toInt64).toUInt64 >>> ((8 : Int32) &&& 0x3f).toInt64.toUInt64).toInt64).toUInt64 >>> ((8 : Int32) &&& 0x3f).toInt64.toUInt64).toInt64).toUInt64 >>> ((8 : Int32) &&& 0x3f).toInt64.toUInt64).toInt64).toUInt64 >>> ((8 : Int32) &&& 0x3f).toInt64.toUInt64).toInt64).toInt32.toInt8.toInt32).toInt8.toInt32 = own_g 7 w
  rw [e]
  unfold own_g
  rw [if_pos (by decide)]
  exact own_bb _
theorem own_g8 (w : Int64) : own_byte w 8 = own_g 8 w := by
  have h1 := c_lushr w 8 8 (by decide) (by decide)
  have h2 := c_lushr ((w.toUInt64 >>> ((8 : Int32) &&& 0x3f).toInt64.toUInt64).toInt64) 8 8 (by decide) (by decide)
  have h3 := c_lushr ((((w.toUInt64 >>> ((8 : Int32) &&& 0x3f).toInt64.toUInt64).toInt64).toUInt64 >>> ((8 : Int32) &&& 0x3f).toInt64.toUInt64).toInt64) 8 8 (by decide) (by decide)
  have h4 := c_lushr ((((((w.toUInt64 >>> ((8 : Int32) &&& 0x3f).toInt64.toUInt64).toInt64).toUInt64 >>> ((8 : Int32) &&& 0x3f).toInt64.toUInt64).toInt64).toUInt64 >>> ((8 : Int32) &&& 0x3f).toInt64.toUInt64).toInt64) 8 8 (by decide) (by decide)
  have h5 := c_lushr ((((((((w.toUInt64 >>> ((8 : Int32) &&& 0x3f).toInt64.toUInt64).toInt64).toUInt64 >>> ((8 : Int32) &&& 0x3f).toInt64.toUInt64).toInt64).toUInt64 >>> ((8 : Int32) &&& 0x3f).toInt64.toUInt64).toInt64).toUInt64 >>> ((8 : Int32) &&& 0x3f).toInt64.toUInt64).toInt64) 8 8 (by decide) (by decide)
  have h6 := c_lushr ((((((((((w.toUInt64 >>> ((8 : Int32) &&& 0x3f).toInt64.toUInt64).toInt64).toUInt64 >>> ((8 : Int32) &&& 0x3f).toInt64.toUInt64).toInt64).toUInt64 >>> ((8 : Int32) &&& 0x3f).toInt64.toUInt64).toInt64).toUInt64 >>> ((8 : Int32) &&& 0x3f).toInt64.toUInt64).toInt64).toUInt64 >>> ((8 : Int32) &&& 0x3f).toInt64.toUInt64).toInt64) 8 8 (by decide) (by decide)
  have h7 := c_lushr ((((((((((((w.toUInt64 >>> ((8 : Int32) &&& 0x3f).toInt64.toUInt64).toInt64).toUInt64 >>> ((8 : Int32) &&& 0x3f).toInt64.toUInt64).toInt64).toUInt64 >>> ((8 : Int32) &&& 0x3f).toInt64.toUInt64).toInt64).toUInt64 >>> ((8 : Int32) &&& 0x3f).toInt64.toUInt64).toInt64).toUInt64 >>> ((8 : Int32) &&& 0x3f).toInt64.toUInt64).toInt64).toUInt64 >>> ((8 : Int32) &&& 0x3f).toInt64.toUInt64).toInt64) 8 8 (by decide) (by decide)
  have h8 := c_lushr ((((((((((((((w.toUInt64 >>> ((8 : Int32) &&& 0x3f).toInt64.toUInt64).toInt64).toUInt64 >>> ((8 : Int32) &&& 0x3f).toInt64.toUInt64).toInt64).toUInt64 >>> ((8 : Int32) &&& 0x3f).toInt64.toUInt64).toInt64).toUInt64 >>> ((8 : Int32) &&& 0x3f).toInt64.toUInt64).toInt64).toUInt64 >>> ((8 : Int32) &&& 0x3f).toInt64.toUInt64).toInt64).toUInt64 >>> ((8 : Int32) &&& 0x3f).toInt64.toUInt64).toInt64).toUInt64 >>> ((8 : Int32) &&& 0x3f).toInt64.toUInt64).toInt64) 8 8 (by decide) (by decide)
  have e : ((((((((((((((((w.toUInt64 >>> ((8 : Int32) &&& 0x3f).toInt64.toUInt64).toInt64).toUInt64 >>> ((8 : Int32) &&& 0x3f).toInt64.toUInt64).toInt64).toUInt64 >>> ((8 : Int32) &&& 0x3f).toInt64.toUInt64).toInt64).toUInt64 >>> ((8 : Int32) &&& 0x3f).toInt64.toUInt64).toInt64).toUInt64 >>> ((8 : Int32) &&& 0x3f).toInt64.toUInt64).toInt64).toUInt64 >>> ((8 : Int32) &&& 0x3f).toInt64.toUInt64).toInt64).toUInt64 >>> ((8 : Int32) &&& 0x3f).toInt64.toUInt64).toInt64).toUInt64 >>> ((8 : Int32) &&& 0x3f).toInt64.toUInt64).toInt64) = 0 := by
    apply Int64.toInt_inj.mp
    rw [show (0 : Int64).toInt = 0 from rfl]
    omega
  show (((((((((((((((((w.toUInt64 >>> ((8 : Int32) &&& 0x3f).toInt64.toUInt64).toInt64).toUInt64 >>> ((8 : Int32) &&& 0x3f).toInt64.toUInt64).toInt64).toUInt64 >>> ((8 : Int32) &&& 0x3f).toInt64.toUInt64).toInt64).toUInt64 >>> ((8 : Int32) &&& 0x3f).toInt64.toUInt64).toInt64).toUInt64 >>> ((8 : Int32) &&& 0x3f).toInt64.toUInt64).toInt64).toUInt64 >>> ((8 : Int32) &&& 0x3f).toInt64.toUInt64).toInt64).toUInt64 >>> ((8 : Int32) &&& 0x3f).toInt64.toUInt64).toInt64).toUInt64 >>> ((8 : Int32) &&& 0x3f).toInt64.toUInt64).toInt64).toInt32.toInt8.toInt32).toInt8.toInt32 = own_g 8 w
  rw [e]
  rfl
theorem own_g9 (w : Int64) : own_byte w 9 = own_g 9 w := by
  have h1 := c_lushr w 8 8 (by decide) (by decide)
  have h2 := c_lushr ((w.toUInt64 >>> ((8 : Int32) &&& 0x3f).toInt64.toUInt64).toInt64) 8 8 (by decide) (by decide)
  have h3 := c_lushr ((((w.toUInt64 >>> ((8 : Int32) &&& 0x3f).toInt64.toUInt64).toInt64).toUInt64 >>> ((8 : Int32) &&& 0x3f).toInt64.toUInt64).toInt64) 8 8 (by decide) (by decide)
  have h4 := c_lushr ((((((w.toUInt64 >>> ((8 : Int32) &&& 0x3f).toInt64.toUInt64).toInt64).toUInt64 >>> ((8 : Int32) &&& 0x3f).toInt64.toUInt64).toInt64).toUInt64 >>> ((8 : Int32) &&& 0x3f).toInt64.toUInt64).toInt64) 8 8 (by decide) (by decide)
  have h5 := c_lushr ((((((((w.toUInt64 >>> ((8 : Int32) &&& 0x3f).toInt64.toUInt64).toInt64).toUInt64 >>> ((8 : Int32) &&& 0x3f).toInt64.toUInt64).toInt64).toUInt64 >>> ((8 : Int32) &&& 0x3f).toInt64.toUInt64).toInt64).toUInt64 >>> ((8 : Int32) &&& 0x3f).toInt64.toUInt64).toInt64) 8 8 (by decide) (by decide)
  have h6 := c_lushr ((((((((((w.toUInt64 >>> ((8 : Int32) &&& 0x3f).toInt64.toUInt64).toInt64).toUInt64 >>> ((8 : Int32) &&& 0x3f).toInt64.toUInt64).toInt64).toUInt64 >>> ((8 : Int32) &&& 0x3f).toInt64.toUInt64).toInt64).toUInt64 >>> ((8 : Int32) &&& 0x3f).toInt64.toUInt64).toInt64).toUInt64 >>> ((8 : Int32) &&& 0x3f).toInt64.toUInt64).toInt64) 8 8 (by decide) (by decide)
  have h7 := c_lushr ((((((((((((w.toUInt64 >>> ((8 : Int32) &&& 0x3f).toInt64.toUInt64).toInt64).toUInt64 >>> ((8 : Int32) &&& 0x3f).toInt64.toUInt64).toInt64).toUInt64 >>> ((8 : Int32) &&& 0x3f).toInt64.toUInt64).toInt64).toUInt64 >>> ((8 : Int32) &&& 0x3f).toInt64.toUInt64).toInt64).toUInt64 >>> ((8 : Int32) &&& 0x3f).toInt64.toUInt64).toInt64).toUInt64 >>> ((8 : Int32) &&& 0x3f).toInt64.toUInt64).toInt64) 8 8 (by decide) (by decide)
  have h8 := c_lushr ((((((((((((((w.toUInt64 >>> ((8 : Int32) &&& 0x3f).toInt64.toUInt64).toInt64).toUInt64 >>> ((8 : Int32) &&& 0x3f).toInt64.toUInt64).toInt64).toUInt64 >>> ((8 : Int32) &&& 0x3f).toInt64.toUInt64).toInt64).toUInt64 >>> ((8 : Int32) &&& 0x3f).toInt64.toUInt64).toInt64).toUInt64 >>> ((8 : Int32) &&& 0x3f).toInt64.toUInt64).toInt64).toUInt64 >>> ((8 : Int32) &&& 0x3f).toInt64.toUInt64).toInt64).toUInt64 >>> ((8 : Int32) &&& 0x3f).toInt64.toUInt64).toInt64) 8 8 (by decide) (by decide)
  have h9 := c_lushr ((((((((((((((((w.toUInt64 >>> ((8 : Int32) &&& 0x3f).toInt64.toUInt64).toInt64).toUInt64 >>> ((8 : Int32) &&& 0x3f).toInt64.toUInt64).toInt64).toUInt64 >>> ((8 : Int32) &&& 0x3f).toInt64.toUInt64).toInt64).toUInt64 >>> ((8 : Int32) &&& 0x3f).toInt64.toUInt64).toInt64).toUInt64 >>> ((8 : Int32) &&& 0x3f).toInt64.toUInt64).toInt64).toUInt64 >>> ((8 : Int32) &&& 0x3f).toInt64.toUInt64).toInt64).toUInt64 >>> ((8 : Int32) &&& 0x3f).toInt64.toUInt64).toInt64).toUInt64 >>> ((8 : Int32) &&& 0x3f).toInt64.toUInt64).toInt64) 8 8 (by decide) (by decide)
  have e : ((((((((((((((((((w.toUInt64 >>> ((8 : Int32) &&& 0x3f).toInt64.toUInt64).toInt64).toUInt64 >>> ((8 : Int32) &&& 0x3f).toInt64.toUInt64).toInt64).toUInt64 >>> ((8 : Int32) &&& 0x3f).toInt64.toUInt64).toInt64).toUInt64 >>> ((8 : Int32) &&& 0x3f).toInt64.toUInt64).toInt64).toUInt64 >>> ((8 : Int32) &&& 0x3f).toInt64.toUInt64).toInt64).toUInt64 >>> ((8 : Int32) &&& 0x3f).toInt64.toUInt64).toInt64).toUInt64 >>> ((8 : Int32) &&& 0x3f).toInt64.toUInt64).toInt64).toUInt64 >>> ((8 : Int32) &&& 0x3f).toInt64.toUInt64).toInt64).toUInt64 >>> ((8 : Int32) &&& 0x3f).toInt64.toUInt64).toInt64) = 0 := by
    apply Int64.toInt_inj.mp
    rw [show (0 : Int64).toInt = 0 from rfl]
    omega
  show (((((((((((((((((((w.toUInt64 >>> ((8 : Int32) &&& 0x3f).toInt64.toUInt64).toInt64).toUInt64 >>> ((8 : Int32) &&& 0x3f).toInt64.toUInt64).toInt64).toUInt64 >>> ((8 : Int32) &&& 0x3f).toInt64.toUInt64).toInt64).toUInt64 >>> ((8 : Int32) &&& 0x3f).toInt64.toUInt64).toInt64).toUInt64 >>> ((8 : Int32) &&& 0x3f).toInt64.toUInt64).toInt64).toUInt64 >>> ((8 : Int32) &&& 0x3f).toInt64.toUInt64).toInt64).toUInt64 >>> ((8 : Int32) &&& 0x3f).toInt64.toUInt64).toInt64).toUInt64 >>> ((8 : Int32) &&& 0x3f).toInt64.toUInt64).toInt64).toUInt64 >>> ((8 : Int32) &&& 0x3f).toInt64.toUInt64).toInt64).toInt32.toInt8.toInt32).toInt8.toInt32 = own_g 9 w
  rw [e]
  rfl
theorem own_gk (w : Int64) (k : Nat) (h : k < 10) : own_byte w k = own_g k.toInt32 w := by
  match k, h with
  | 0, _ => exact own_g0 w
  | 1, _ => exact own_g1 w
  | 2, _ => exact own_g2 w
  | 3, _ => exact own_g3 w
  | 4, _ => exact own_g4 w
  | 5, _ => exact own_g5 w
  | 6, _ => exact own_g6 w
  | 7, _ => exact own_g7 w
  | 8, _ => exact own_g8 w
  | 9, _ => exact own_g9 w
theorem own_at {nn : Int32} (h : 1 ≤ nn.toInt ∧ nn.toInt ≤ 10) {vs : List Value} {w : Int64} (P : ∀ i : Nat, i < nn.toNatClampNeg → vs.getD i (.int (0 : Int32)) = .int (own_byte w (nn.toNatClampNeg - 1 - i))) {i : Int32} (hi : ¬ i < 0) (hi9 : i.toInt ≤ 9) (hin : i < nn) : vs.getD i.toNatClampNeg (.int (0 : Int32)) = .int (j2_16L6 i w nn) := by
  have e1 := nat_of (own_n0 h)
  have e2 := nat_of hi
  have e3 := Int32.lt_iff_toInt_lt.mp hin
  rw [P _ (by omega), own_gk w _ (by omega)]
  have e4 : (nn.toNatClampNeg - 1 - i.toNatClampNeg).toInt32 = (nn - (1 : Int32)) - i := by
    have q1 := c_isub nn 1
    have q2 := c_isub (nn - 1) i
    have q3 := rng32 (nn - 1)
    have q4 := rng32 (nn - 1 - i)
    rw [show (1 : Int32).toInt = 1 from rfl] at q1
    apply Int32.toInt_inj.mp
    rw [len_toInt (by omega)]
    omega
  rw [e4]
  rfl
theorem pn_0 : plainName "com/example/klave/klave/coding/BigEndianBytesPinLaw" = true := by first | (simp [plainName, overriddenIn]; done) | decide +kernel
theorem ef_0 (m : MethodId) (x0 : Int64) (x1 : Int32) : entryFrame m #[(.long x0), (.int x1)] maxLocals = mkF m 0 #[.val (.long x0), .second, .val (.int x1), .unset, .unset, .unset, .unset, .unset, .unset] [] := by first | (simp [entryFrame, mkF, argsToLocals, Value.category, maxLocals]; done) | rfl
def j0_11 (nn : Int32) : Int64 := (if nn < (8 : Int32) then (((1 : Int64) <<< (((8 : Int32) * nn) &&& 0x3f).toInt64) - (1 : Int64)) else (9223372036854775807 : Int64))
theorem pd_0 : parseMethodDescriptor "(JI)[B" = some ⟨[.long, .int], some (.array .byte)⟩ := by decide +kernel
theorem pd_1 : parseMethodDescriptor "([BIJI)Z" = some ⟨[(.array .byte), .int, .long, .int], some .boolean⟩ := by decide +kernel
set_option maxRecDepth 65536 in
set_option maxHeartbeats 40000000 in
theorem rm0 (l : Launch) (Z : State) (a0 : Array Value) (hw : ∀ d ∈ tables_1, d.before a0 Z = true) (ws : List Jvm.Cond) (w0 : Int64) (u1 : Int32) (h0 : Heap) (n0 : Nat) (Z0 : n0 ≤ h0.size) :
    MetFree l x (head1 (Jvm.Cond.code x code maxLocals ret :: ws) room_1) (fun a U => a = #[(.long w0), (.int u1)] ∧ Z.Warmed39 U.vm ∧ U.heap = h0) (fun _ _ _ _ _ => True) (fun _ U o U' => ∃ v L, o = .returned v ∧ QL n0 v U'.heap L ∧ FrameEnd U o U' L 1 10) := by
  refine MetFree.of_bodySF (plainFor_of_name pn_0) hisR ?_
  intro p e s m args below meth c s₁ Bd hml0 hP hK
  obtain ⟨rfl, hZ, hh⟩ := hP
  have hx := Bd.exec
  have hby := Bd.bytes
  have hml : c.maxLocals = 9 := hml0
  have hown : s.vm.findClass "com/example/klave/klave/coding/BigEndianBytesPinLaw" = some m.cls := findClass_of_methodNamed Bd.named
  have hnm := (name_of_methodNamed Bd.named Bd.method).1
  have X0 : Stand p l e room_1 s m #[(.long w0), (.int u1)] below meth c s₁ [] 0 0 := Stand.of_body Bd
  have e0 : s₁.heap = h0 := by rw [← hh, Bd.state]; rfl
  have N0 := Fr.nil n0
  have pre0 : ∀ t, Steps p.tables e below (s₁.setTop (mkF m 0 #[.val (.long w0), .second, .val (.int u1), .unset, .unset, .unset, .unset, .unset, .unset] [])) t → Steps p.tables e below (s₁.setTop (entryFrame m #[(.long w0), (.int u1)] maxLocals)) t := fun t k => castTop (ef_0 m w0 u1) k
  have K0 : Keep h0 h0 [] := Keep.refl h0 []
  have pre1 : ∀ t, Steps p.tables e below (s₁.setTop (mkF m 10 #[.val (.long w0), .second, .val (.int u1), .val (.int ((1 : Int32) + ((u1 &&& (2147483647 : Int32)) % (10 : Int32)))), .unset, .unset, .unset, .unset, .unset] [])) t → Steps p.tables e below (s₁.setTop (entryFrame m #[(.long w0), (.int u1)] maxLocals)) t := fun t k => pre0 t (by
    show Steps p.tables e below (s₁.setTop (mkF m 0 #[.val (.long w0), .second, .val (.int u1), .unset, .unset, .unset, .unset, .unset, .unset] [])) _
    refine XS.iconst X0.here hx rfl (hb hby at_0) ?_
    show Steps p.tables e below (s₁.setTop (mkF m 1 #[.val (.long w0), .second, .val (.int u1), .unset, .unset, .unset, .unset, .unset, .unset] [(.int (1 : Int32))])) _
    refine XS.iloadN X0.here hx rfl (hb hby at_1) rfl ?_
    show Steps p.tables e below (s₁.setTop (mkF m 2 #[.val (.long w0), .second, .val (.int u1), .unset, .unset, .unset, .unset, .unset, .unset] [(.int u1), (.int (1 : Int32))])) _
    refine X0.ldcInt hx hown (mvT hZ (hw _ (List.mem_of_getElem? (i := 0) rfl))) (g := (mkF m 2 #[.val (.long w0), .second, .val (.int u1), .unset, .unset, .unset, .unset, .unset, .unset] [(.int u1), (.int (1 : Int32))])) rfl (hb hby at_2) _ ?_
    show Steps p.tables e below (s₁.setTop (mkF m 4 #[.val (.long w0), .second, .val (.int u1), .unset, .unset, .unset, .unset, .unset, .unset] [(.int (2147483647 : Int32)), (.int u1), (.int (1 : Int32))])) _
    refine XS.iand X0.here hx rfl (hb hby at_4) rfl ?_
    show Steps p.tables e below (s₁.setTop (mkF m 5 #[.val (.long w0), .second, .val (.int u1), .unset, .unset, .unset, .unset, .unset, .unset] [(.int (u1 &&& (2147483647 : Int32))), (.int (1 : Int32))])) _
    refine XS.bipush X0.here hx rfl (hb hby at_5) ?_
    show Steps p.tables e below (s₁.setTop (mkF m 7 #[.val (.long w0), .second, .val (.int u1), .unset, .unset, .unset, .unset, .unset, .unset] [(.int (10 : Int32)), (.int (u1 &&& (2147483647 : Int32))), (.int (1 : Int32))])) _
    refine iremM X0 hx rfl (hb hby at_7) rfl (by decide) ?_
    show Steps p.tables e below (s₁.setTop (mkF m 8 #[.val (.long w0), .second, .val (.int u1), .unset, .unset, .unset, .unset, .unset, .unset] [(.int ((u1 &&& (2147483647 : Int32)) % (10 : Int32))), (.int (1 : Int32))])) _
    refine XS.iadd X0.here hx rfl (hb hby at_8) rfl ?_
    show Steps p.tables e below (s₁.setTop (mkF m 9 #[.val (.long w0), .second, .val (.int u1), .unset, .unset, .unset, .unset, .unset, .unset] [(.int ((1 : Int32) + ((u1 &&& (2147483647 : Int32)) % (10 : Int32))))])) _
    refine XS.istoreN X0.here hx rfl (hb hby at_9) rfl (l' := #[.val (.long w0), .second, .val (.int u1), .val (.int ((1 : Int32) + ((u1 &&& (2147483647 : Int32)) % (10 : Int32)))), .unset, .unset, .unset, .unset, .unset]) rfl ?_
    exact k)
  obtain ⟨nn, hnn, rnn⟩ : ∃ z : Int32, z = ((1 : Int32) + ((u1 &&& (2147483647 : Int32)) % (10 : Int32))) ∧ (1 ≤ z.toInt ∧ z.toInt ≤ 10) := ⟨_, rfl, own_n _⟩
  rw [← hnn] at pre1
  have pre2 : ∀ t, Steps p.tables e below (s₁.setTop (mkF m 11 #[.val (.long w0), .second, .val (.int u1), .val (.int nn), .unset, .unset, .unset, .unset, .unset] [(.int nn)])) t → Steps p.tables e below (s₁.setTop (entryFrame m #[(.long w0), (.int u1)] maxLocals)) t := fun t k => pre1 t (by
    show Steps p.tables e below (s₁.setTop (mkF m 10 #[.val (.long w0), .second, .val (.int u1), .val (.int nn), .unset, .unset, .unset, .unset, .unset] [])) _
    refine XS.iloadN X0.here hx rfl (hb hby at_10) rfl ?_
    exact k)
  have pre3 : ∀ t, Steps p.tables e below (s₁.setTop (mkF m 30 #[.val (.long w0), .second, .val (.int u1), .val (.int nn), .unset, .unset, .unset, .unset, .unset] [(.long (j0_11 nn))])) t → Steps p.tables e below (s₁.setTop (entryFrame m #[(.long w0), (.int u1)] maxLocals)) t := by
    have pre4 : ∀ t, Steps p.tables e below (s₁.setTop (mkF m 13 #[.val (.long w0), .second, .val (.int u1), .val (.int nn), .unset, .unset, .unset, .unset, .unset] [(.int (8 : Int32)), (.int nn)])) t → Steps p.tables e below (s₁.setTop (entryFrame m #[(.long w0), (.int u1)] maxLocals)) t := fun t k => pre2 t (by
      show Steps p.tables e below (s₁.setTop (mkF m 11 #[.val (.long w0), .second, .val (.int u1), .val (.int nn), .unset, .unset, .unset, .unset, .unset] [(.int nn)])) _
      refine XS.bipush X0.here hx rfl (hb hby at_11) ?_
      exact k)
    by_cases hc13 : nn < (8 : Int32)
    · -- pc 13: nn < (8 : Int32)
      intro t k
      have qS0 : (j0_11 nn) = (((1 : Int64) <<< (((8 : Int32) * nn) &&& 0x3f).toInt64) - (1 : Int64)) := (if_pos hc13).trans (rfl)
      rw [qS0] at k
      refine pre4 t ?_
      show Steps p.tables e below (s₁.setTop (mkF m 13 #[.val (.long w0), .second, .val (.int u1), .val (.int nn), .unset, .unset, .unset, .unset, .unset] [(.int (8 : Int32)), (.int nn)])) _
      refine XS.icmpYes X0.here hx rfl (pc0 := 13) (pc' := 22) rfl (hb hby at_13) rfl (tlt hc13).1 (by decide) (by decide) ?_
      show Steps p.tables e below (s₁.setTop (mkF m 22 #[.val (.long w0), .second, .val (.int u1), .val (.int nn), .unset, .unset, .unset, .unset, .unset] [])) _
      refine XS.lconst X0.here hx rfl (hb hby at_22) ?_
      show Steps p.tables e below (s₁.setTop (mkF m 23 #[.val (.long w0), .second, .val (.int u1), .val (.int nn), .unset, .unset, .unset, .unset, .unset] [(.long (1 : Int64))])) _
      refine XS.bipush X0.here hx rfl (hb hby at_23) ?_
      show Steps p.tables e below (s₁.setTop (mkF m 25 #[.val (.long w0), .second, .val (.int u1), .val (.int nn), .unset, .unset, .unset, .unset, .unset] [(.int (8 : Int32)), (.long (1 : Int64))])) _
      refine XS.iloadN X0.here hx rfl (hb hby at_25) rfl ?_
      show Steps p.tables e below (s₁.setTop (mkF m 26 #[.val (.long w0), .second, .val (.int u1), .val (.int nn), .unset, .unset, .unset, .unset, .unset] [(.int nn), (.int (8 : Int32)), (.long (1 : Int64))])) _
      refine XS.imul X0.here hx rfl (hb hby at_26) rfl ?_
      show Steps p.tables e below (s₁.setTop (mkF m 27 #[.val (.long w0), .second, .val (.int u1), .val (.int nn), .unset, .unset, .unset, .unset, .unset] [(.int ((8 : Int32) * nn)), (.long (1 : Int64))])) _
      refine XS.lshl X0.here hx rfl (hb hby at_27) rfl ?_
      show Steps p.tables e below (s₁.setTop (mkF m 28 #[.val (.long w0), .second, .val (.int u1), .val (.int nn), .unset, .unset, .unset, .unset, .unset] [(.long ((1 : Int64) <<< (((8 : Int32) * nn) &&& 0x3f).toInt64))])) _
      refine XS.lconst X0.here hx rfl (hb hby at_28) ?_
      show Steps p.tables e below (s₁.setTop (mkF m 29 #[.val (.long w0), .second, .val (.int u1), .val (.int nn), .unset, .unset, .unset, .unset, .unset] [(.long (1 : Int64)), (.long ((1 : Int64) <<< (((8 : Int32) * nn) &&& 0x3f).toInt64))])) _
      refine XS.lsub X0.here hx rfl (hb hby at_29) rfl ?_
      exact k
    · -- pc 13: not nn < (8 : Int32)
      intro t k
      have qS0 : (j0_11 nn) = (9223372036854775807 : Int64) := (if_neg hc13).trans (rfl)
      rw [qS0] at k
      refine pre4 t ?_
      show Steps p.tables e below (s₁.setTop (mkF m 13 #[.val (.long w0), .second, .val (.int u1), .val (.int nn), .unset, .unset, .unset, .unset, .unset] [(.int (8 : Int32)), (.int nn)])) _
      refine XS.icmpNo X0.here hx rfl (hb hby at_13) rfl (flt hc13).1 ?_
      show Steps p.tables e below (s₁.setTop (mkF m 16 #[.val (.long w0), .second, .val (.int u1), .val (.int nn), .unset, .unset, .unset, .unset, .unset] [])) _
      refine X0.ldc2Long hx hown (mvT hZ (hw _ (List.mem_of_getElem? (i := 10) rfl))) (g := (mkF m 16 #[.val (.long w0), .second, .val (.int u1), .val (.int nn), .unset, .unset, .unset, .unset, .unset] [])) rfl (hb hby at_16) _ ?_
      show Steps p.tables e below (s₁.setTop (mkF m 19 #[.val (.long w0), .second, .val (.int u1), .val (.int nn), .unset, .unset, .unset, .unset, .unset] [(.long (9223372036854775807 : Int64))])) _
      refine XS.goto X0.here hx rfl (pc0 := 19) (pc' := 30) rfl (hb hby at_19) (by decide) (by decide) ?_
      exact k
  have pre5 : ∀ t, Steps p.tables e below (s₁.setTop (mkF m 38 #[.val (.long w0), .second, .val (.int u1), .val (.int nn), .val (.long (j0_11 nn)), .second, .val (.long (w0 &&& (j0_11 nn))), .second, .unset] [])) t → Steps p.tables e below (s₁.setTop (entryFrame m #[(.long w0), (.int u1)] maxLocals)) t := fun t k => pre3 t (by
    show Steps p.tables e below (s₁.setTop (mkF m 30 #[.val (.long w0), .second, .val (.int u1), .val (.int nn), .unset, .unset, .unset, .unset, .unset] [(.long (j0_11 nn))])) _
    refine XS.lstore X0.here hx rfl (hb hby at_30) rfl (l' := #[.val (.long w0), .second, .val (.int u1), .val (.int nn), .val (.long (j0_11 nn)), .second, .unset, .unset, .unset]) rfl ?_
    show Steps p.tables e below (s₁.setTop (mkF m 32 #[.val (.long w0), .second, .val (.int u1), .val (.int nn), .val (.long (j0_11 nn)), .second, .unset, .unset, .unset] [])) _
    refine XS.lloadN X0.here hx rfl (hb hby at_32) rfl ?_
    show Steps p.tables e below (s₁.setTop (mkF m 33 #[.val (.long w0), .second, .val (.int u1), .val (.int nn), .val (.long (j0_11 nn)), .second, .unset, .unset, .unset] [(.long w0)])) _
    refine XS.lload X0.here hx rfl (hb hby at_33) rfl ?_
    show Steps p.tables e below (s₁.setTop (mkF m 35 #[.val (.long w0), .second, .val (.int u1), .val (.int nn), .val (.long (j0_11 nn)), .second, .unset, .unset, .unset] [(.long (j0_11 nn)), (.long w0)])) _
    refine XS.land X0.here hx rfl (hb hby at_35) rfl ?_
    show Steps p.tables e below (s₁.setTop (mkF m 36 #[.val (.long w0), .second, .val (.int u1), .val (.int nn), .val (.long (j0_11 nn)), .second, .unset, .unset, .unset] [(.long (w0 &&& (j0_11 nn)))])) _
    refine XS.lstore X0.here hx rfl (hb hby at_36) rfl (l' := #[.val (.long w0), .second, .val (.int u1), .val (.int nn), .val (.long (j0_11 nn)), .second, .val (.long (w0 &&& (j0_11 nn))), .second, .unset]) rfl ?_
    exact k)
  obtain ⟨ww, hww, rww⟩ : ∃ z : Int64, z = (w0 &&& (j0_11 nn)) ∧ (True) := ⟨_, rfl, trivial⟩
  rw [← hww] at pre5
  obtain ⟨_, _, ⟨T6, L6, k6, n6⟩, -, X6, ⟨Lc6, hQ6, l6, y6, z6⟩, st6⟩ := Jvm.LawKit.callS X0 hx (y := (⟨"com/example/klave/klave/coding/BigEndian", "bytes", "(JI)[B"⟩ : MethodName)) hown (mvT hZ (hw _ (List.mem_of_getElem? (i := 1) rfl))) (mvT hZ (hw _ (List.mem_of_getElem? (i := 2) rfl))) (mvT hZ (hw _ (List.mem_of_getElem? (i := 3) rfl))) (mvT hZ (hw _ (List.mem_of_getElem? (i := 4) rfl))) (by decide) (backOf (W := 0) (rm1 l Z a0 hw [] ww nn  h0 n0 Z0 (own_n0 rnn) (own_n1 rnn)) hZ (hw _ (List.mem_of_getElem? (i := 4) rfl)) (hw _ (List.mem_of_getElem? (i := 3) rfl)) (by decide) (by decide)) (g := (mkF m 41 #[.val (.long w0), .second, .val (.int u1), .val (.int nn), .val (.long (j0_11 nn)), .second, .val (.long ww), .second, .unset] [(.int nn), (.long ww)])) rfl (by rw [hml]; rfl) (argsL := [(.long ww), (.int nn)]) (rest := []) (lenOf pd_0 rfl) rfl (by show 2 * 0 + _ ≤ _; exact Nat.le_of_eq rfl) (hb hby at_41) (fun _ _ => ⟨rfl, e0, (by decide : 0 + 1 ≤ _), (by decide : 0 + 10 ≤ _)⟩)
  dsimp only [Pt.U, Pt.locs, Pt.cells, Pt.slots] at X6 l6 y6 z6 st6 hQ6
  subst l6 y6 z6
  obtain ⟨b6, kb6, vs6, rfl, N6q, K6q, V_b6, P6⟩ := hQ6
  have N6 := Fr.app N0 N6q
  have K6 : Keep h0 T6.heap [] := K0.trans K6q all0
  obtain ⟨c7, Ar7, -, S7, N7n, -, -⟩ := id V_b6
  obtain ⟨_, _, ⟨T8, L8, k8, n8⟩, -, X8, ⟨Lc8, hQ8, l8, y8, z8⟩, st8⟩ := Jvm.LawKit.callS X6 hx (y := (⟨"com/example/klave/klave/coding/BigEndianBytesPinLaw", "at", "([BIJI)Z"⟩ : MethodName)) hown (mvT hZ (hw _ (List.mem_of_getElem? (i := 6) rfl))) (mvT hZ (hw _ (List.mem_of_getElem? (i := 7) rfl))) (mvT hZ (hw _ (List.mem_of_getElem? (i := 8) rfl))) (mvT hZ (hw _ (List.mem_of_getElem? (i := 9) rfl))) (by decide) (backOf (W := 0) (rm2 l Z a0 hw [] b6 (0 : Int32) ww nn kb6 vs6 T6.heap n0 (Nat.le_trans Z0 K6.1) V_b6 (by decide) (own_at rnn P6 (by decide) (by decide))) hZ (hw _ (List.mem_of_getElem? (i := 9) rfl)) (hw _ (List.mem_of_getElem? (i := 8) rfl)) (by decide) (by decide)) (g := (mkF m 66 #[.val (.long w0), .second, .val (.int u1), .val (.int nn), .val (.long (j0_11 nn)), .second, .val (.long ww), .second, .val (.ref b6)] [(.int nn), (.long ww), (.int (0 : Int32)), (.ref b6)])) rfl (by rw [hml]; rfl) (argsL := [(.ref b6), (.int (0 : Int32)), (.long ww), (.int nn)]) (rest := []) (lenOf pd_1 rfl) rfl (by show 2 * 0 + _ ≤ _; exact Nat.le_of_eq rfl) (hb hby at_66) (fun _ _ => ⟨rfl, rfl, (by decide : 1 + 0 ≤ _), (by decide : 10 + 0 ≤ _)⟩)
  dsimp only [Pt.U, Pt.locs, Pt.cells, Pt.slots] at X8 l8 y8 z8 st8 hQ8
  subst l8 y8 z8
  obtain ⟨rfl, N8q, e8⟩ := hQ8
  have N8 := Fr.app N6 N8q
  obtain ⟨_, _, ⟨T9, L9, k9, n9⟩, -, X9, ⟨Lc9, hQ9, l9, y9, z9⟩, st9⟩ := Jvm.LawKit.callS X8 hx (y := (⟨"com/example/klave/klave/coding/BigEndianBytesPinLaw", "at", "([BIJI)Z"⟩ : MethodName)) hown (mvT hZ (hw _ (List.mem_of_getElem? (i := 6) rfl))) (mvT hZ (hw _ (List.mem_of_getElem? (i := 7) rfl))) (mvT hZ (hw _ (List.mem_of_getElem? (i := 8) rfl))) (mvT hZ (hw _ (List.mem_of_getElem? (i := 9) rfl))) (by decide) (backOf (W := 0) (rm2 l Z a0 hw [] b6 (1 : Int32) ww nn kb6 vs6 T6.heap n0 (Nat.le_trans Z0 K6.1) V_b6 (by decide) (own_at rnn P6 (by decide) (by decide))) hZ (hw _ (List.mem_of_getElem? (i := 9) rfl)) (hw _ (List.mem_of_getElem? (i := 8) rfl)) (by decide) (by decide)) (g := (mkF m 78 #[.val (.long w0), .second, .val (.int u1), .val (.int nn), .val (.long (j0_11 nn)), .second, .val (.long ww), .second, .val (.ref b6)] [(.int nn), (.long ww), (.int (1 : Int32)), (.ref b6)])) rfl (by rw [hml]; rfl) (argsL := [(.ref b6), (.int (1 : Int32)), (.long ww), (.int nn)]) (rest := []) (lenOf pd_1 rfl) rfl (by show 2 * 0 + _ ≤ _; exact Nat.le_of_eq rfl) (hb hby at_78) (fun _ _ => ⟨rfl, e8, (by decide : 1 + 0 ≤ _), (by decide : 10 + 0 ≤ _)⟩)
  dsimp only [Pt.U, Pt.locs, Pt.cells, Pt.slots] at X9 l9 y9 z9 st9 hQ9
  subst l9 y9 z9
  obtain ⟨rfl, N9q, e9⟩ := hQ9
  have N9 := Fr.app N8 N9q
  obtain ⟨_, _, ⟨T10, L10, k10, n10⟩, -, X10, ⟨Lc10, hQ10, l10, y10, z10⟩, st10⟩ := Jvm.LawKit.callS X9 hx (y := (⟨"com/example/klave/klave/coding/BigEndianBytesPinLaw", "at", "([BIJI)Z"⟩ : MethodName)) hown (mvT hZ (hw _ (List.mem_of_getElem? (i := 6) rfl))) (mvT hZ (hw _ (List.mem_of_getElem? (i := 7) rfl))) (mvT hZ (hw _ (List.mem_of_getElem? (i := 8) rfl))) (mvT hZ (hw _ (List.mem_of_getElem? (i := 9) rfl))) (by decide) (backOf (W := 0) (rm2 l Z a0 hw [] b6 (2 : Int32) ww nn kb6 vs6 T6.heap n0 (Nat.le_trans Z0 K6.1) V_b6 (by decide) (own_at rnn P6 (by decide) (by decide))) hZ (hw _ (List.mem_of_getElem? (i := 9) rfl)) (hw _ (List.mem_of_getElem? (i := 8) rfl)) (by decide) (by decide)) (g := (mkF m 90 #[.val (.long w0), .second, .val (.int u1), .val (.int nn), .val (.long (j0_11 nn)), .second, .val (.long ww), .second, .val (.ref b6)] [(.int nn), (.long ww), (.int (2 : Int32)), (.ref b6)])) rfl (by rw [hml]; rfl) (argsL := [(.ref b6), (.int (2 : Int32)), (.long ww), (.int nn)]) (rest := []) (lenOf pd_1 rfl) rfl (by show 2 * 0 + _ ≤ _; exact Nat.le_of_eq rfl) (hb hby at_90) (fun _ _ => ⟨rfl, e9, (by decide : 1 + 0 ≤ _), (by decide : 10 + 0 ≤ _)⟩)
  dsimp only [Pt.U, Pt.locs, Pt.cells, Pt.slots] at X10 l10 y10 z10 st10 hQ10
  subst l10 y10 z10
  obtain ⟨rfl, N10q, e10⟩ := hQ10
  have N10 := Fr.app N9 N10q
  obtain ⟨_, _, ⟨T11, L11, k11, n11⟩, -, X11, ⟨Lc11, hQ11, l11, y11, z11⟩, st11⟩ := Jvm.LawKit.callS X10 hx (y := (⟨"com/example/klave/klave/coding/BigEndianBytesPinLaw", "at", "([BIJI)Z"⟩ : MethodName)) hown (mvT hZ (hw _ (List.mem_of_getElem? (i := 6) rfl))) (mvT hZ (hw _ (List.mem_of_getElem? (i := 7) rfl))) (mvT hZ (hw _ (List.mem_of_getElem? (i := 8) rfl))) (mvT hZ (hw _ (List.mem_of_getElem? (i := 9) rfl))) (by decide) (backOf (W := 0) (rm2 l Z a0 hw [] b6 (3 : Int32) ww nn kb6 vs6 T6.heap n0 (Nat.le_trans Z0 K6.1) V_b6 (by decide) (own_at rnn P6 (by decide) (by decide))) hZ (hw _ (List.mem_of_getElem? (i := 9) rfl)) (hw _ (List.mem_of_getElem? (i := 8) rfl)) (by decide) (by decide)) (g := (mkF m 102 #[.val (.long w0), .second, .val (.int u1), .val (.int nn), .val (.long (j0_11 nn)), .second, .val (.long ww), .second, .val (.ref b6)] [(.int nn), (.long ww), (.int (3 : Int32)), (.ref b6)])) rfl (by rw [hml]; rfl) (argsL := [(.ref b6), (.int (3 : Int32)), (.long ww), (.int nn)]) (rest := []) (lenOf pd_1 rfl) rfl (by show 2 * 0 + _ ≤ _; exact Nat.le_of_eq rfl) (hb hby at_102) (fun _ _ => ⟨rfl, e10, (by decide : 1 + 0 ≤ _), (by decide : 10 + 0 ≤ _)⟩)
  dsimp only [Pt.U, Pt.locs, Pt.cells, Pt.slots] at X11 l11 y11 z11 st11 hQ11
  subst l11 y11 z11
  obtain ⟨rfl, N11q, e11⟩ := hQ11
  have N11 := Fr.app N10 N11q
  obtain ⟨_, _, ⟨T12, L12, k12, n12⟩, -, X12, ⟨Lc12, hQ12, l12, y12, z12⟩, st12⟩ := Jvm.LawKit.callS X11 hx (y := (⟨"com/example/klave/klave/coding/BigEndianBytesPinLaw", "at", "([BIJI)Z"⟩ : MethodName)) hown (mvT hZ (hw _ (List.mem_of_getElem? (i := 6) rfl))) (mvT hZ (hw _ (List.mem_of_getElem? (i := 7) rfl))) (mvT hZ (hw _ (List.mem_of_getElem? (i := 8) rfl))) (mvT hZ (hw _ (List.mem_of_getElem? (i := 9) rfl))) (by decide) (backOf (W := 0) (rm2 l Z a0 hw [] b6 (4 : Int32) ww nn kb6 vs6 T6.heap n0 (Nat.le_trans Z0 K6.1) V_b6 (by decide) (own_at rnn P6 (by decide) (by decide))) hZ (hw _ (List.mem_of_getElem? (i := 9) rfl)) (hw _ (List.mem_of_getElem? (i := 8) rfl)) (by decide) (by decide)) (g := (mkF m 114 #[.val (.long w0), .second, .val (.int u1), .val (.int nn), .val (.long (j0_11 nn)), .second, .val (.long ww), .second, .val (.ref b6)] [(.int nn), (.long ww), (.int (4 : Int32)), (.ref b6)])) rfl (by rw [hml]; rfl) (argsL := [(.ref b6), (.int (4 : Int32)), (.long ww), (.int nn)]) (rest := []) (lenOf pd_1 rfl) rfl (by show 2 * 0 + _ ≤ _; exact Nat.le_of_eq rfl) (hb hby at_114) (fun _ _ => ⟨rfl, e11, (by decide : 1 + 0 ≤ _), (by decide : 10 + 0 ≤ _)⟩)
  dsimp only [Pt.U, Pt.locs, Pt.cells, Pt.slots] at X12 l12 y12 z12 st12 hQ12
  subst l12 y12 z12
  obtain ⟨rfl, N12q, e12⟩ := hQ12
  have N12 := Fr.app N11 N12q
  obtain ⟨_, _, ⟨T13, L13, k13, n13⟩, -, X13, ⟨Lc13, hQ13, l13, y13, z13⟩, st13⟩ := Jvm.LawKit.callS X12 hx (y := (⟨"com/example/klave/klave/coding/BigEndianBytesPinLaw", "at", "([BIJI)Z"⟩ : MethodName)) hown (mvT hZ (hw _ (List.mem_of_getElem? (i := 6) rfl))) (mvT hZ (hw _ (List.mem_of_getElem? (i := 7) rfl))) (mvT hZ (hw _ (List.mem_of_getElem? (i := 8) rfl))) (mvT hZ (hw _ (List.mem_of_getElem? (i := 9) rfl))) (by decide) (backOf (W := 0) (rm2 l Z a0 hw [] b6 (5 : Int32) ww nn kb6 vs6 T6.heap n0 (Nat.le_trans Z0 K6.1) V_b6 (by decide) (own_at rnn P6 (by decide) (by decide))) hZ (hw _ (List.mem_of_getElem? (i := 9) rfl)) (hw _ (List.mem_of_getElem? (i := 8) rfl)) (by decide) (by decide)) (g := (mkF m 126 #[.val (.long w0), .second, .val (.int u1), .val (.int nn), .val (.long (j0_11 nn)), .second, .val (.long ww), .second, .val (.ref b6)] [(.int nn), (.long ww), (.int (5 : Int32)), (.ref b6)])) rfl (by rw [hml]; rfl) (argsL := [(.ref b6), (.int (5 : Int32)), (.long ww), (.int nn)]) (rest := []) (lenOf pd_1 rfl) rfl (by show 2 * 0 + _ ≤ _; exact Nat.le_of_eq rfl) (hb hby at_126) (fun _ _ => ⟨rfl, e12, (by decide : 1 + 0 ≤ _), (by decide : 10 + 0 ≤ _)⟩)
  dsimp only [Pt.U, Pt.locs, Pt.cells, Pt.slots] at X13 l13 y13 z13 st13 hQ13
  subst l13 y13 z13
  obtain ⟨rfl, N13q, e13⟩ := hQ13
  have N13 := Fr.app N12 N13q
  obtain ⟨_, _, ⟨T14, L14, k14, n14⟩, -, X14, ⟨Lc14, hQ14, l14, y14, z14⟩, st14⟩ := Jvm.LawKit.callS X13 hx (y := (⟨"com/example/klave/klave/coding/BigEndianBytesPinLaw", "at", "([BIJI)Z"⟩ : MethodName)) hown (mvT hZ (hw _ (List.mem_of_getElem? (i := 6) rfl))) (mvT hZ (hw _ (List.mem_of_getElem? (i := 7) rfl))) (mvT hZ (hw _ (List.mem_of_getElem? (i := 8) rfl))) (mvT hZ (hw _ (List.mem_of_getElem? (i := 9) rfl))) (by decide) (backOf (W := 0) (rm2 l Z a0 hw [] b6 (6 : Int32) ww nn kb6 vs6 T6.heap n0 (Nat.le_trans Z0 K6.1) V_b6 (by decide) (own_at rnn P6 (by decide) (by decide))) hZ (hw _ (List.mem_of_getElem? (i := 9) rfl)) (hw _ (List.mem_of_getElem? (i := 8) rfl)) (by decide) (by decide)) (g := (mkF m 139 #[.val (.long w0), .second, .val (.int u1), .val (.int nn), .val (.long (j0_11 nn)), .second, .val (.long ww), .second, .val (.ref b6)] [(.int nn), (.long ww), (.int (6 : Int32)), (.ref b6)])) rfl (by rw [hml]; rfl) (argsL := [(.ref b6), (.int (6 : Int32)), (.long ww), (.int nn)]) (rest := []) (lenOf pd_1 rfl) rfl (by show 2 * 0 + _ ≤ _; exact Nat.le_of_eq rfl) (hb hby at_139) (fun _ _ => ⟨rfl, e13, (by decide : 1 + 0 ≤ _), (by decide : 10 + 0 ≤ _)⟩)
  dsimp only [Pt.U, Pt.locs, Pt.cells, Pt.slots] at X14 l14 y14 z14 st14 hQ14
  subst l14 y14 z14
  obtain ⟨rfl, N14q, e14⟩ := hQ14
  have N14 := Fr.app N13 N14q
  obtain ⟨_, _, ⟨T15, L15, k15, n15⟩, -, X15, ⟨Lc15, hQ15, l15, y15, z15⟩, st15⟩ := Jvm.LawKit.callS X14 hx (y := (⟨"com/example/klave/klave/coding/BigEndianBytesPinLaw", "at", "([BIJI)Z"⟩ : MethodName)) hown (mvT hZ (hw _ (List.mem_of_getElem? (i := 6) rfl))) (mvT hZ (hw _ (List.mem_of_getElem? (i := 7) rfl))) (mvT hZ (hw _ (List.mem_of_getElem? (i := 8) rfl))) (mvT hZ (hw _ (List.mem_of_getElem? (i := 9) rfl))) (by decide) (backOf (W := 0) (rm2 l Z a0 hw [] b6 (7 : Int32) ww nn kb6 vs6 T6.heap n0 (Nat.le_trans Z0 K6.1) V_b6 (by decide) (own_at rnn P6 (by decide) (by decide))) hZ (hw _ (List.mem_of_getElem? (i := 9) rfl)) (hw _ (List.mem_of_getElem? (i := 8) rfl)) (by decide) (by decide)) (g := (mkF m 152 #[.val (.long w0), .second, .val (.int u1), .val (.int nn), .val (.long (j0_11 nn)), .second, .val (.long ww), .second, .val (.ref b6)] [(.int nn), (.long ww), (.int (7 : Int32)), (.ref b6)])) rfl (by rw [hml]; rfl) (argsL := [(.ref b6), (.int (7 : Int32)), (.long ww), (.int nn)]) (rest := []) (lenOf pd_1 rfl) rfl (by show 2 * 0 + _ ≤ _; exact Nat.le_of_eq rfl) (hb hby at_152) (fun _ _ => ⟨rfl, e14, (by decide : 1 + 0 ≤ _), (by decide : 10 + 0 ≤ _)⟩)
  dsimp only [Pt.U, Pt.locs, Pt.cells, Pt.slots] at X15 l15 y15 z15 st15 hQ15
  subst l15 y15 z15
  obtain ⟨rfl, N15q, e15⟩ := hQ15
  have N15 := Fr.app N14 N15q
  obtain ⟨_, _, ⟨T16, L16, k16, n16⟩, -, X16, ⟨Lc16, hQ16, l16, y16, z16⟩, st16⟩ := Jvm.LawKit.callS X15 hx (y := (⟨"com/example/klave/klave/coding/BigEndianBytesPinLaw", "at", "([BIJI)Z"⟩ : MethodName)) hown (mvT hZ (hw _ (List.mem_of_getElem? (i := 6) rfl))) (mvT hZ (hw _ (List.mem_of_getElem? (i := 7) rfl))) (mvT hZ (hw _ (List.mem_of_getElem? (i := 8) rfl))) (mvT hZ (hw _ (List.mem_of_getElem? (i := 9) rfl))) (by decide) (backOf (W := 0) (rm2 l Z a0 hw [] b6 (8 : Int32) ww nn kb6 vs6 T6.heap n0 (Nat.le_trans Z0 K6.1) V_b6 (by decide) (own_at rnn P6 (by decide) (by decide))) hZ (hw _ (List.mem_of_getElem? (i := 9) rfl)) (hw _ (List.mem_of_getElem? (i := 8) rfl)) (by decide) (by decide)) (g := (mkF m 165 #[.val (.long w0), .second, .val (.int u1), .val (.int nn), .val (.long (j0_11 nn)), .second, .val (.long ww), .second, .val (.ref b6)] [(.int nn), (.long ww), (.int (8 : Int32)), (.ref b6)])) rfl (by rw [hml]; rfl) (argsL := [(.ref b6), (.int (8 : Int32)), (.long ww), (.int nn)]) (rest := []) (lenOf pd_1 rfl) rfl (by show 2 * 0 + _ ≤ _; exact Nat.le_of_eq rfl) (hb hby at_165) (fun _ _ => ⟨rfl, e15, (by decide : 1 + 0 ≤ _), (by decide : 10 + 0 ≤ _)⟩)
  dsimp only [Pt.U, Pt.locs, Pt.cells, Pt.slots] at X16 l16 y16 z16 st16 hQ16
  subst l16 y16 z16
  obtain ⟨rfl, N16q, e16⟩ := hQ16
  have N16 := Fr.app N15 N16q
  obtain ⟨_, _, ⟨T17, L17, k17, n17⟩, -, X17, ⟨Lc17, hQ17, l17, y17, z17⟩, st17⟩ := Jvm.LawKit.callS X16 hx (y := (⟨"com/example/klave/klave/coding/BigEndianBytesPinLaw", "at", "([BIJI)Z"⟩ : MethodName)) hown (mvT hZ (hw _ (List.mem_of_getElem? (i := 6) rfl))) (mvT hZ (hw _ (List.mem_of_getElem? (i := 7) rfl))) (mvT hZ (hw _ (List.mem_of_getElem? (i := 8) rfl))) (mvT hZ (hw _ (List.mem_of_getElem? (i := 9) rfl))) (by decide) (backOf (W := 0) (rm2 l Z a0 hw [] b6 (9 : Int32) ww nn kb6 vs6 T6.heap n0 (Nat.le_trans Z0 K6.1) V_b6 (by decide) (own_at rnn P6 (by decide) (by decide))) hZ (hw _ (List.mem_of_getElem? (i := 9) rfl)) (hw _ (List.mem_of_getElem? (i := 8) rfl)) (by decide) (by decide)) (g := (mkF m 178 #[.val (.long w0), .second, .val (.int u1), .val (.int nn), .val (.long (j0_11 nn)), .second, .val (.long ww), .second, .val (.ref b6)] [(.int nn), (.long ww), (.int (9 : Int32)), (.ref b6)])) rfl (by rw [hml]; rfl) (argsL := [(.ref b6), (.int (9 : Int32)), (.long ww), (.int nn)]) (rest := []) (lenOf pd_1 rfl) rfl (by show 2 * 0 + _ ≤ _; exact Nat.le_of_eq rfl) (hb hby at_178) (fun _ _ => ⟨rfl, e16, (by decide : 1 + 0 ≤ _), (by decide : 10 + 0 ≤ _)⟩)
  dsimp only [Pt.U, Pt.locs, Pt.cells, Pt.slots] at X17 l17 y17 z17 st17 hQ17
  subst l17 y17 z17
  obtain ⟨rfl, N17q, e17⟩ := hQ17
  have N17 := Fr.app N16 N17q
  obtain ⟨fs, hr, hrun, hended, hW, hsame⟩ := X17.leave (v := (some (.int (1 : Int32)))) (fun h => by rw [Bd.returns] at h; cases h)
  refine ⟨_, _, pre5 _ ?_, hrun, hended, _, _, rfl, ?_, ⟨_, rfl⟩, hW, hsame.mono (by decide) (by decide)⟩
  · show Steps p.tables e below (s₁.setTop (mkF m 38 #[.val (.long w0), .second, .val (.int u1), .val (.int nn), .val (.long (j0_11 nn)), .second, .val (.long ww), .second, .unset] [])) _
    refine XS.lload X0.here hx rfl (hb hby at_38) rfl ?_
    show Steps p.tables e below (s₁.setTop (mkF m 40 #[.val (.long w0), .second, .val (.int u1), .val (.int nn), .val (.long (j0_11 nn)), .second, .val (.long ww), .second, .unset] [(.long ww)])) _
    refine XS.iloadN X0.here hx rfl (hb hby at_40) rfl ?_
    show Steps p.tables e below (s₁.setTop (mkF m 41 #[.val (.long w0), .second, .val (.int u1), .val (.int nn), .val (.long (j0_11 nn)), .second, .val (.long ww), .second, .unset] [(.int nn), (.long ww)])) _
    refine st6 _ ?_
    show Steps p.tables e below (T6.setTop (mkF m 44 #[.val (.long w0), .second, .val (.int u1), .val (.int nn), .val (.long (j0_11 nn)), .second, .val (.long ww), .second, .unset] [(.ref b6)])) _
    refine XS.astore X6.here hx rfl (hb hby at_44) rfl rfl (l' := #[.val (.long w0), .second, .val (.int u1), .val (.int nn), .val (.long (j0_11 nn)), .second, .val (.long ww), .second, .val (.ref b6)]) rfl ?_
    show Steps p.tables e below (T6.setTop (mkF m 46 #[.val (.long w0), .second, .val (.int u1), .val (.int nn), .val (.long (j0_11 nn)), .second, .val (.long ww), .second, .val (.ref b6)] [])) _
    refine XS.aload X6.here hx rfl (hb hby at_46) rfl rfl ?_
    show Steps p.tables e below (T6.setTop (mkF m 48 #[.val (.long w0), .second, .val (.int u1), .val (.int nn), .val (.long (j0_11 nn)), .second, .val (.long ww), .second, .val (.ref b6)] [(.ref b6)])) _
    refine XS.ifnullNo X6.here hx rfl (hb hby at_48) rfl ?_
    show Steps p.tables e below (T6.setTop (mkF m 51 #[.val (.long w0), .second, .val (.int u1), .val (.int nn), .val (.long (j0_11 nn)), .second, .val (.long ww), .second, .val (.ref b6)] [])) _
    refine XS.aload X6.here hx rfl (hb hby at_51) rfl rfl ?_
    show Steps p.tables e below (T6.setTop (mkF m 53 #[.val (.long w0), .second, .val (.int u1), .val (.int nn), .val (.long (j0_11 nn)), .second, .val (.long ww), .second, .val (.ref b6)] [(.ref b6)])) _
    refine X6.arraylength hx Ar7.1 (State.isArrayOf_alike hZ.alike Ar7.2.1) (g := (mkF m 53 #[.val (.long w0), .second, .val (.int u1), .val (.int nn), .val (.long (j0_11 nn)), .second, .val (.long ww), .second, .val (.ref b6)] [(.ref b6)])) rfl rfl (hb hby at_53) _ ?_
    rw [len_of S7 N7n]
    show Steps p.tables e below (T6.setTop (mkF m 54 #[.val (.long w0), .second, .val (.int u1), .val (.int nn), .val (.long (j0_11 nn)), .second, .val (.long ww), .second, .val (.ref b6)] [(.int nn)])) _
    refine XS.iloadN X6.here hx rfl (hb hby at_54) rfl ?_
    show Steps p.tables e below (T6.setTop (mkF m 55 #[.val (.long w0), .second, .val (.int u1), .val (.int nn), .val (.long (j0_11 nn)), .second, .val (.long ww), .second, .val (.ref b6)] [(.int nn), (.int nn)])) _
    refine XS.icmpYes X6.here hx rfl (pc0 := 55) (pc' := 60) rfl (hb hby at_55) rfl (teq (rfl : nn = nn)).1 (by decide) (by decide) ?_
    show Steps p.tables e below (T6.setTop (mkF m 60 #[.val (.long w0), .second, .val (.int u1), .val (.int nn), .val (.long (j0_11 nn)), .second, .val (.long ww), .second, .val (.ref b6)] [])) _
    refine XS.aload X6.here hx rfl (hb hby at_60) rfl rfl ?_
    show Steps p.tables e below (T6.setTop (mkF m 62 #[.val (.long w0), .second, .val (.int u1), .val (.int nn), .val (.long (j0_11 nn)), .second, .val (.long ww), .second, .val (.ref b6)] [(.ref b6)])) _
    refine XS.iconst X6.here hx rfl (hb hby at_62) ?_
    show Steps p.tables e below (T6.setTop (mkF m 63 #[.val (.long w0), .second, .val (.int u1), .val (.int nn), .val (.long (j0_11 nn)), .second, .val (.long ww), .second, .val (.ref b6)] [(.int (0 : Int32)), (.ref b6)])) _
    refine XS.lload X6.here hx rfl (hb hby at_63) rfl ?_
    show Steps p.tables e below (T6.setTop (mkF m 65 #[.val (.long w0), .second, .val (.int u1), .val (.int nn), .val (.long (j0_11 nn)), .second, .val (.long ww), .second, .val (.ref b6)] [(.long ww), (.int (0 : Int32)), (.ref b6)])) _
    refine XS.iloadN X6.here hx rfl (hb hby at_65) rfl ?_
    show Steps p.tables e below (T6.setTop (mkF m 66 #[.val (.long w0), .second, .val (.int u1), .val (.int nn), .val (.long (j0_11 nn)), .second, .val (.long ww), .second, .val (.ref b6)] [(.int nn), (.long ww), (.int (0 : Int32)), (.ref b6)])) _
    refine st8 _ ?_
    show Steps p.tables e below (T8.setTop (mkF m 69 #[.val (.long w0), .second, .val (.int u1), .val (.int nn), .val (.long (j0_11 nn)), .second, .val (.long ww), .second, .val (.ref b6)] [(.int (1 : Int32))])) _
    refine XS.ifNo X8.here hx rfl (hb hby at_69) rfl ((if0 _ _).trans (feq (by decide : ¬ ((1 : Int32) = (0 : Int32)))).1) ?_
    show Steps p.tables e below (T8.setTop (mkF m 72 #[.val (.long w0), .second, .val (.int u1), .val (.int nn), .val (.long (j0_11 nn)), .second, .val (.long ww), .second, .val (.ref b6)] [])) _
    refine XS.aload X8.here hx rfl (hb hby at_72) rfl rfl ?_
    show Steps p.tables e below (T8.setTop (mkF m 74 #[.val (.long w0), .second, .val (.int u1), .val (.int nn), .val (.long (j0_11 nn)), .second, .val (.long ww), .second, .val (.ref b6)] [(.ref b6)])) _
    refine XS.iconst X8.here hx rfl (hb hby at_74) ?_
    show Steps p.tables e below (T8.setTop (mkF m 75 #[.val (.long w0), .second, .val (.int u1), .val (.int nn), .val (.long (j0_11 nn)), .second, .val (.long ww), .second, .val (.ref b6)] [(.int (1 : Int32)), (.ref b6)])) _
    refine XS.lload X8.here hx rfl (hb hby at_75) rfl ?_
    show Steps p.tables e below (T8.setTop (mkF m 77 #[.val (.long w0), .second, .val (.int u1), .val (.int nn), .val (.long (j0_11 nn)), .second, .val (.long ww), .second, .val (.ref b6)] [(.long ww), (.int (1 : Int32)), (.ref b6)])) _
    refine XS.iloadN X8.here hx rfl (hb hby at_77) rfl ?_
    show Steps p.tables e below (T8.setTop (mkF m 78 #[.val (.long w0), .second, .val (.int u1), .val (.int nn), .val (.long (j0_11 nn)), .second, .val (.long ww), .second, .val (.ref b6)] [(.int nn), (.long ww), (.int (1 : Int32)), (.ref b6)])) _
    refine st9 _ ?_
    show Steps p.tables e below (T9.setTop (mkF m 81 #[.val (.long w0), .second, .val (.int u1), .val (.int nn), .val (.long (j0_11 nn)), .second, .val (.long ww), .second, .val (.ref b6)] [(.int (1 : Int32))])) _
    refine XS.ifNo X9.here hx rfl (hb hby at_81) rfl ((if0 _ _).trans (feq (by decide : ¬ ((1 : Int32) = (0 : Int32)))).1) ?_
    show Steps p.tables e below (T9.setTop (mkF m 84 #[.val (.long w0), .second, .val (.int u1), .val (.int nn), .val (.long (j0_11 nn)), .second, .val (.long ww), .second, .val (.ref b6)] [])) _
    refine XS.aload X9.here hx rfl (hb hby at_84) rfl rfl ?_
    show Steps p.tables e below (T9.setTop (mkF m 86 #[.val (.long w0), .second, .val (.int u1), .val (.int nn), .val (.long (j0_11 nn)), .second, .val (.long ww), .second, .val (.ref b6)] [(.ref b6)])) _
    refine XS.iconst X9.here hx rfl (hb hby at_86) ?_
    show Steps p.tables e below (T9.setTop (mkF m 87 #[.val (.long w0), .second, .val (.int u1), .val (.int nn), .val (.long (j0_11 nn)), .second, .val (.long ww), .second, .val (.ref b6)] [(.int (2 : Int32)), (.ref b6)])) _
    refine XS.lload X9.here hx rfl (hb hby at_87) rfl ?_
    show Steps p.tables e below (T9.setTop (mkF m 89 #[.val (.long w0), .second, .val (.int u1), .val (.int nn), .val (.long (j0_11 nn)), .second, .val (.long ww), .second, .val (.ref b6)] [(.long ww), (.int (2 : Int32)), (.ref b6)])) _
    refine XS.iloadN X9.here hx rfl (hb hby at_89) rfl ?_
    show Steps p.tables e below (T9.setTop (mkF m 90 #[.val (.long w0), .second, .val (.int u1), .val (.int nn), .val (.long (j0_11 nn)), .second, .val (.long ww), .second, .val (.ref b6)] [(.int nn), (.long ww), (.int (2 : Int32)), (.ref b6)])) _
    refine st10 _ ?_
    show Steps p.tables e below (T10.setTop (mkF m 93 #[.val (.long w0), .second, .val (.int u1), .val (.int nn), .val (.long (j0_11 nn)), .second, .val (.long ww), .second, .val (.ref b6)] [(.int (1 : Int32))])) _
    refine XS.ifNo X10.here hx rfl (hb hby at_93) rfl ((if0 _ _).trans (feq (by decide : ¬ ((1 : Int32) = (0 : Int32)))).1) ?_
    show Steps p.tables e below (T10.setTop (mkF m 96 #[.val (.long w0), .second, .val (.int u1), .val (.int nn), .val (.long (j0_11 nn)), .second, .val (.long ww), .second, .val (.ref b6)] [])) _
    refine XS.aload X10.here hx rfl (hb hby at_96) rfl rfl ?_
    show Steps p.tables e below (T10.setTop (mkF m 98 #[.val (.long w0), .second, .val (.int u1), .val (.int nn), .val (.long (j0_11 nn)), .second, .val (.long ww), .second, .val (.ref b6)] [(.ref b6)])) _
    refine XS.iconst X10.here hx rfl (hb hby at_98) ?_
    show Steps p.tables e below (T10.setTop (mkF m 99 #[.val (.long w0), .second, .val (.int u1), .val (.int nn), .val (.long (j0_11 nn)), .second, .val (.long ww), .second, .val (.ref b6)] [(.int (3 : Int32)), (.ref b6)])) _
    refine XS.lload X10.here hx rfl (hb hby at_99) rfl ?_
    show Steps p.tables e below (T10.setTop (mkF m 101 #[.val (.long w0), .second, .val (.int u1), .val (.int nn), .val (.long (j0_11 nn)), .second, .val (.long ww), .second, .val (.ref b6)] [(.long ww), (.int (3 : Int32)), (.ref b6)])) _
    refine XS.iloadN X10.here hx rfl (hb hby at_101) rfl ?_
    show Steps p.tables e below (T10.setTop (mkF m 102 #[.val (.long w0), .second, .val (.int u1), .val (.int nn), .val (.long (j0_11 nn)), .second, .val (.long ww), .second, .val (.ref b6)] [(.int nn), (.long ww), (.int (3 : Int32)), (.ref b6)])) _
    refine st11 _ ?_
    show Steps p.tables e below (T11.setTop (mkF m 105 #[.val (.long w0), .second, .val (.int u1), .val (.int nn), .val (.long (j0_11 nn)), .second, .val (.long ww), .second, .val (.ref b6)] [(.int (1 : Int32))])) _
    refine XS.ifNo X11.here hx rfl (hb hby at_105) rfl ((if0 _ _).trans (feq (by decide : ¬ ((1 : Int32) = (0 : Int32)))).1) ?_
    show Steps p.tables e below (T11.setTop (mkF m 108 #[.val (.long w0), .second, .val (.int u1), .val (.int nn), .val (.long (j0_11 nn)), .second, .val (.long ww), .second, .val (.ref b6)] [])) _
    refine XS.aload X11.here hx rfl (hb hby at_108) rfl rfl ?_
    show Steps p.tables e below (T11.setTop (mkF m 110 #[.val (.long w0), .second, .val (.int u1), .val (.int nn), .val (.long (j0_11 nn)), .second, .val (.long ww), .second, .val (.ref b6)] [(.ref b6)])) _
    refine XS.iconst X11.here hx rfl (hb hby at_110) ?_
    show Steps p.tables e below (T11.setTop (mkF m 111 #[.val (.long w0), .second, .val (.int u1), .val (.int nn), .val (.long (j0_11 nn)), .second, .val (.long ww), .second, .val (.ref b6)] [(.int (4 : Int32)), (.ref b6)])) _
    refine XS.lload X11.here hx rfl (hb hby at_111) rfl ?_
    show Steps p.tables e below (T11.setTop (mkF m 113 #[.val (.long w0), .second, .val (.int u1), .val (.int nn), .val (.long (j0_11 nn)), .second, .val (.long ww), .second, .val (.ref b6)] [(.long ww), (.int (4 : Int32)), (.ref b6)])) _
    refine XS.iloadN X11.here hx rfl (hb hby at_113) rfl ?_
    show Steps p.tables e below (T11.setTop (mkF m 114 #[.val (.long w0), .second, .val (.int u1), .val (.int nn), .val (.long (j0_11 nn)), .second, .val (.long ww), .second, .val (.ref b6)] [(.int nn), (.long ww), (.int (4 : Int32)), (.ref b6)])) _
    refine st12 _ ?_
    show Steps p.tables e below (T12.setTop (mkF m 117 #[.val (.long w0), .second, .val (.int u1), .val (.int nn), .val (.long (j0_11 nn)), .second, .val (.long ww), .second, .val (.ref b6)] [(.int (1 : Int32))])) _
    refine XS.ifNo X12.here hx rfl (hb hby at_117) rfl ((if0 _ _).trans (feq (by decide : ¬ ((1 : Int32) = (0 : Int32)))).1) ?_
    show Steps p.tables e below (T12.setTop (mkF m 120 #[.val (.long w0), .second, .val (.int u1), .val (.int nn), .val (.long (j0_11 nn)), .second, .val (.long ww), .second, .val (.ref b6)] [])) _
    refine XS.aload X12.here hx rfl (hb hby at_120) rfl rfl ?_
    show Steps p.tables e below (T12.setTop (mkF m 122 #[.val (.long w0), .second, .val (.int u1), .val (.int nn), .val (.long (j0_11 nn)), .second, .val (.long ww), .second, .val (.ref b6)] [(.ref b6)])) _
    refine XS.iconst X12.here hx rfl (hb hby at_122) ?_
    show Steps p.tables e below (T12.setTop (mkF m 123 #[.val (.long w0), .second, .val (.int u1), .val (.int nn), .val (.long (j0_11 nn)), .second, .val (.long ww), .second, .val (.ref b6)] [(.int (5 : Int32)), (.ref b6)])) _
    refine XS.lload X12.here hx rfl (hb hby at_123) rfl ?_
    show Steps p.tables e below (T12.setTop (mkF m 125 #[.val (.long w0), .second, .val (.int u1), .val (.int nn), .val (.long (j0_11 nn)), .second, .val (.long ww), .second, .val (.ref b6)] [(.long ww), (.int (5 : Int32)), (.ref b6)])) _
    refine XS.iloadN X12.here hx rfl (hb hby at_125) rfl ?_
    show Steps p.tables e below (T12.setTop (mkF m 126 #[.val (.long w0), .second, .val (.int u1), .val (.int nn), .val (.long (j0_11 nn)), .second, .val (.long ww), .second, .val (.ref b6)] [(.int nn), (.long ww), (.int (5 : Int32)), (.ref b6)])) _
    refine st13 _ ?_
    show Steps p.tables e below (T13.setTop (mkF m 129 #[.val (.long w0), .second, .val (.int u1), .val (.int nn), .val (.long (j0_11 nn)), .second, .val (.long ww), .second, .val (.ref b6)] [(.int (1 : Int32))])) _
    refine XS.ifNo X13.here hx rfl (hb hby at_129) rfl ((if0 _ _).trans (feq (by decide : ¬ ((1 : Int32) = (0 : Int32)))).1) ?_
    show Steps p.tables e below (T13.setTop (mkF m 132 #[.val (.long w0), .second, .val (.int u1), .val (.int nn), .val (.long (j0_11 nn)), .second, .val (.long ww), .second, .val (.ref b6)] [])) _
    refine XS.aload X13.here hx rfl (hb hby at_132) rfl rfl ?_
    show Steps p.tables e below (T13.setTop (mkF m 134 #[.val (.long w0), .second, .val (.int u1), .val (.int nn), .val (.long (j0_11 nn)), .second, .val (.long ww), .second, .val (.ref b6)] [(.ref b6)])) _
    refine XS.bipush X13.here hx rfl (hb hby at_134) ?_
    show Steps p.tables e below (T13.setTop (mkF m 136 #[.val (.long w0), .second, .val (.int u1), .val (.int nn), .val (.long (j0_11 nn)), .second, .val (.long ww), .second, .val (.ref b6)] [(.int (6 : Int32)), (.ref b6)])) _
    refine XS.lload X13.here hx rfl (hb hby at_136) rfl ?_
    show Steps p.tables e below (T13.setTop (mkF m 138 #[.val (.long w0), .second, .val (.int u1), .val (.int nn), .val (.long (j0_11 nn)), .second, .val (.long ww), .second, .val (.ref b6)] [(.long ww), (.int (6 : Int32)), (.ref b6)])) _
    refine XS.iloadN X13.here hx rfl (hb hby at_138) rfl ?_
    show Steps p.tables e below (T13.setTop (mkF m 139 #[.val (.long w0), .second, .val (.int u1), .val (.int nn), .val (.long (j0_11 nn)), .second, .val (.long ww), .second, .val (.ref b6)] [(.int nn), (.long ww), (.int (6 : Int32)), (.ref b6)])) _
    refine st14 _ ?_
    show Steps p.tables e below (T14.setTop (mkF m 142 #[.val (.long w0), .second, .val (.int u1), .val (.int nn), .val (.long (j0_11 nn)), .second, .val (.long ww), .second, .val (.ref b6)] [(.int (1 : Int32))])) _
    refine XS.ifNo X14.here hx rfl (hb hby at_142) rfl ((if0 _ _).trans (feq (by decide : ¬ ((1 : Int32) = (0 : Int32)))).1) ?_
    show Steps p.tables e below (T14.setTop (mkF m 145 #[.val (.long w0), .second, .val (.int u1), .val (.int nn), .val (.long (j0_11 nn)), .second, .val (.long ww), .second, .val (.ref b6)] [])) _
    refine XS.aload X14.here hx rfl (hb hby at_145) rfl rfl ?_
    show Steps p.tables e below (T14.setTop (mkF m 147 #[.val (.long w0), .second, .val (.int u1), .val (.int nn), .val (.long (j0_11 nn)), .second, .val (.long ww), .second, .val (.ref b6)] [(.ref b6)])) _
    refine XS.bipush X14.here hx rfl (hb hby at_147) ?_
    show Steps p.tables e below (T14.setTop (mkF m 149 #[.val (.long w0), .second, .val (.int u1), .val (.int nn), .val (.long (j0_11 nn)), .second, .val (.long ww), .second, .val (.ref b6)] [(.int (7 : Int32)), (.ref b6)])) _
    refine XS.lload X14.here hx rfl (hb hby at_149) rfl ?_
    show Steps p.tables e below (T14.setTop (mkF m 151 #[.val (.long w0), .second, .val (.int u1), .val (.int nn), .val (.long (j0_11 nn)), .second, .val (.long ww), .second, .val (.ref b6)] [(.long ww), (.int (7 : Int32)), (.ref b6)])) _
    refine XS.iloadN X14.here hx rfl (hb hby at_151) rfl ?_
    show Steps p.tables e below (T14.setTop (mkF m 152 #[.val (.long w0), .second, .val (.int u1), .val (.int nn), .val (.long (j0_11 nn)), .second, .val (.long ww), .second, .val (.ref b6)] [(.int nn), (.long ww), (.int (7 : Int32)), (.ref b6)])) _
    refine st15 _ ?_
    show Steps p.tables e below (T15.setTop (mkF m 155 #[.val (.long w0), .second, .val (.int u1), .val (.int nn), .val (.long (j0_11 nn)), .second, .val (.long ww), .second, .val (.ref b6)] [(.int (1 : Int32))])) _
    refine XS.ifNo X15.here hx rfl (hb hby at_155) rfl ((if0 _ _).trans (feq (by decide : ¬ ((1 : Int32) = (0 : Int32)))).1) ?_
    show Steps p.tables e below (T15.setTop (mkF m 158 #[.val (.long w0), .second, .val (.int u1), .val (.int nn), .val (.long (j0_11 nn)), .second, .val (.long ww), .second, .val (.ref b6)] [])) _
    refine XS.aload X15.here hx rfl (hb hby at_158) rfl rfl ?_
    show Steps p.tables e below (T15.setTop (mkF m 160 #[.val (.long w0), .second, .val (.int u1), .val (.int nn), .val (.long (j0_11 nn)), .second, .val (.long ww), .second, .val (.ref b6)] [(.ref b6)])) _
    refine XS.bipush X15.here hx rfl (hb hby at_160) ?_
    show Steps p.tables e below (T15.setTop (mkF m 162 #[.val (.long w0), .second, .val (.int u1), .val (.int nn), .val (.long (j0_11 nn)), .second, .val (.long ww), .second, .val (.ref b6)] [(.int (8 : Int32)), (.ref b6)])) _
    refine XS.lload X15.here hx rfl (hb hby at_162) rfl ?_
    show Steps p.tables e below (T15.setTop (mkF m 164 #[.val (.long w0), .second, .val (.int u1), .val (.int nn), .val (.long (j0_11 nn)), .second, .val (.long ww), .second, .val (.ref b6)] [(.long ww), (.int (8 : Int32)), (.ref b6)])) _
    refine XS.iloadN X15.here hx rfl (hb hby at_164) rfl ?_
    show Steps p.tables e below (T15.setTop (mkF m 165 #[.val (.long w0), .second, .val (.int u1), .val (.int nn), .val (.long (j0_11 nn)), .second, .val (.long ww), .second, .val (.ref b6)] [(.int nn), (.long ww), (.int (8 : Int32)), (.ref b6)])) _
    refine st16 _ ?_
    show Steps p.tables e below (T16.setTop (mkF m 168 #[.val (.long w0), .second, .val (.int u1), .val (.int nn), .val (.long (j0_11 nn)), .second, .val (.long ww), .second, .val (.ref b6)] [(.int (1 : Int32))])) _
    refine XS.ifNo X16.here hx rfl (hb hby at_168) rfl ((if0 _ _).trans (feq (by decide : ¬ ((1 : Int32) = (0 : Int32)))).1) ?_
    show Steps p.tables e below (T16.setTop (mkF m 171 #[.val (.long w0), .second, .val (.int u1), .val (.int nn), .val (.long (j0_11 nn)), .second, .val (.long ww), .second, .val (.ref b6)] [])) _
    refine XS.aload X16.here hx rfl (hb hby at_171) rfl rfl ?_
    show Steps p.tables e below (T16.setTop (mkF m 173 #[.val (.long w0), .second, .val (.int u1), .val (.int nn), .val (.long (j0_11 nn)), .second, .val (.long ww), .second, .val (.ref b6)] [(.ref b6)])) _
    refine XS.bipush X16.here hx rfl (hb hby at_173) ?_
    show Steps p.tables e below (T16.setTop (mkF m 175 #[.val (.long w0), .second, .val (.int u1), .val (.int nn), .val (.long (j0_11 nn)), .second, .val (.long ww), .second, .val (.ref b6)] [(.int (9 : Int32)), (.ref b6)])) _
    refine XS.lload X16.here hx rfl (hb hby at_175) rfl ?_
    show Steps p.tables e below (T16.setTop (mkF m 177 #[.val (.long w0), .second, .val (.int u1), .val (.int nn), .val (.long (j0_11 nn)), .second, .val (.long ww), .second, .val (.ref b6)] [(.long ww), (.int (9 : Int32)), (.ref b6)])) _
    refine XS.iloadN X16.here hx rfl (hb hby at_177) rfl ?_
    show Steps p.tables e below (T16.setTop (mkF m 178 #[.val (.long w0), .second, .val (.int u1), .val (.int nn), .val (.long (j0_11 nn)), .second, .val (.long ww), .second, .val (.ref b6)] [(.int nn), (.long ww), (.int (9 : Int32)), (.ref b6)])) _
    refine st17 _ ?_
    show Steps p.tables e below (T17.setTop (mkF m 181 #[.val (.long w0), .second, .val (.int u1), .val (.int nn), .val (.long (j0_11 nn)), .second, .val (.long ww), .second, .val (.ref b6)] [(.int (1 : Int32))])) _
    refine XS.ifNo X17.here hx rfl (hb hby at_181) rfl ((if0 _ _).trans (feq (by decide : ¬ ((1 : Int32) = (0 : Int32)))).1) ?_
    show Steps p.tables e below (T17.setTop (mkF m 184 #[.val (.long w0), .second, .val (.int u1), .val (.int nn), .val (.long (j0_11 nn)), .second, .val (.long ww), .second, .val (.ref b6)] [])) _
    refine XS.iconst X17.here hx rfl (hb hby at_184) ?_
    show Steps p.tables e below (T17.setTop (mkF m 185 #[.val (.long w0), .second, .val (.int u1), .val (.int nn), .val (.long (j0_11 nn)), .second, .val (.long ww), .second, .val (.ref b6)] [(.int (1 : Int32))])) _
    refine XS.goto X17.here hx rfl (pc0 := 185) (pc' := 189) rfl (hb hby at_185) (by decide) (by decide) ?_
    show Steps p.tables e below (T17.setTop (mkF m 189 #[.val (.long w0), .second, .val (.int u1), .val (.int nn), .val (.long (j0_11 nn)), .second, .val (.long ww), .second, .val (.ref b6)] [(.int (1 : Int32))])) _
    exact retN X17 hx (t := .boolean) Bd.returns (by simp) (hb hby at_189) hr
  · show QL n0 _ T17.heap _
    rw [e17]
    exact ⟨rfl, N17⟩
set_option maxRecDepth 65536 in
set_option maxHeartbeats 40000000 in
theorem comes_1 {Post : Tables → Env → Array Value → State → Outcome → State → Prop} (hpost : ∀ tb e args s v u, (limb_1_1.after args s (.returned v) u = true ∧ limb_1_2.after args s (.returned v) u = true ∧ True) → FrameEnd s (.returned v) u (Jvm.fieldLocs frame_1_writes args s ++ Jvm.arrayLocs frame_1_arrays args s ++ Jvm.staticLocs frame_1_statics s) 16 128 → Post tb e args s (.returned v) u) :
    ArmFor flags0 classFile x code maxLocals ret World_1 tables_1 room_1 Calls_1 rest_1 Pre_1 Post := by
  intro l hfl _ _ p e ha hc hk s m args below hf hA hF happ hP
  obtain ⟨hcalls, hrest, hpre⟩ := hP
  obtain ⟨-, -, -, hnamed, -, -, -, hat⟩ := (Spec.applies_iff hf).mp happ
  obtain ⟨hg, hn⟩ := and_e (Cond.before_iff.mp (show (Jvm.Cond.and given_1 narrow_1).before args s = true from hpre))
  obtain ⟨g0, G0⟩ := and_e hg
  obtain ⟨v0, G1⟩ := and_e G0
  have v1 := G1
  obtain ⟨w0, w1, rfl⟩ : ∃ w0 w1 : Value, args = #[w0, w1] := by
    have hs : args.size = 2 := by simpa [Cond.value, given_1] using g0
    obtain ⟨L⟩ := args
    match L, hs with
    | [w0, w1], _ => exact ⟨w0, w1, rfl⟩
  have hw := fun d (hd : d ∈ tables_1) => atoms_spec (ws := Jvm.Cond.code x code maxLocals ret :: tables_1) hat d (List.mem_cons_of_mem _ hd)
  have hfit : Fit s := fun {y c} hc i hi => by
    obtain ⟨ha, rfl⟩ := Array.getElem?_eq_some_iff.mp hc
    have q := List.all_eq_true.mp ((Array.all_eq_true_iff_forall_mem.mp hF) _ (Array.getElem_mem ha)) i (List.mem_range.mpr hi)
    simpa [Array.getElem?_eq_getElem hi] using q
  obtain ⟨i0, ei0⟩ := isL_v v0
  obtain rfl : w0 = (.long i0) := Option.some.inj ei0
  obtain ⟨i1, ei1⟩ := is_v v1
  obtain rfl : w1 = (.int i1) := Option.some.inj ei1
  obtain ⟨n, o, h1, h2, h3, _, L, rfl, ⟨rfl, N⟩, hq⟩ := rm0 l s _ hw tables_1 i0 i1  s.heap s.heap.size (Nat.le_refl _)  p e ha hc hk s m _ below hf ((Spec.applies_iff_loose hf).mp happ).1 ⟨rfl, State.Warmed39.refl s, rfl⟩ trivial
  refine ⟨n, _, h1, h2, h3, hpost _ _ _ _ _ _ ⟨Cond.after_iff.mpr rfl, Cond.after_iff.mpr (eq_i res_at (Term.int_eval (1)) rfl), trivial⟩ ⟨hq.1, hq.2.1, (hq.2.2.sift fun y hy => Or.inr (N y hy)).mono (by decide) (by decide)⟩⟩
theorem main_1_1 : Claimed_1_1 := comes_1 fun _ _ _ _ _ _ h hF => ⟨h.1, hF⟩
theorem main_1_2 : Claimed_1_2 := comes_1 fun _ _ _ _ _ _ h hF => ⟨h.2.1, hF⟩
end Jvm.Pilot.@@N@@
namespace Jvm.Pilot.@@N@@
open Jvm Jvm.ClassFile Sem Op Lib Jvm.Free Jvm.Stand Jvm.Pilot.@@N@@.Jvm.D
/-! MADE BY PROGRAM (witnessworld.py) out of the Statement's table words and the real class files: 9 classes; the members and pool entries that the words name. The judged class is class 1, her method 1. -/
namespace start1
open Jvm.ClassFile
def u (s : String) : CpInfo := .utf8 (stringToUtf16 s)
/-- a pool by its gaps: so many unusable entries, then the entry; so many at the end -/
def gap : Nat → List CpInfo → List CpInfo
  | 0, r => r
  | n + 1, r => .unusable :: gap n r
def poolList (es : List (Nat × CpInfo)) (last : Nat) : List CpInfo := es.foldr (fun e r => gap e.1 (e.2 :: r)) (gap last [])
def pool (es : List (Nat × CpInfo)) (last : Nat) : Array CpInfo := ⟨poolList es last⟩
def fileOf (pool : Array CpInfo) (this : Nat) (attrs : Array Attribute := #[]) (ms : Array MethodInfo := #[]) (fl : Nat := 33) (sup : Nat := 0) (ifs : Array Nat := #[]) (fds : Array FieldInfo := #[]) : ClassFile where
  minorVersion := 0
  majorVersion := 65
  constantPool := pool
  accessFlags := fl
  thisClass := this
  superClass := sup
  interfaces := ifs
  fields := fds
  methods := ms
  attributes := attrs
def plain (name : String) (sup : Option ClassId) : Class where
  name := name
  kind := .ordinary
  loader := none
  accessFlags := 33
  super := sup
  interfaces := #[]
  cf := none
  fields := #[]
  methods := #[]
  instanceTypes := #[]
  staticTypes := #[]
  resolved := #[]
  callSites := []
  init := .initialized
  statics := none
  mirror := none

def pool0 : Array CpInfo := pool [(5, u "<init>"), (0, u "()V"), (1, .class_ 10), (1, u "java/lang/Object")] 113

def k0m0 : Method := { name := "<init>", desc := "()V", sig := { parameters := [], returnType := none }, accessFlags := 1, code := none }
/-- java/lang/Object -/
def k0 : Class := { plain "java/lang/Object" none with
  accessFlags := 33
  interfaces := #[]
  cf := some (fileOf pool0 8 #[] #[{ accessFlags := 1, nameIndex := 5, descriptorIndex := 6, attributes := #[] }] 33 0 #[] #[])
  fields := #[]
  methods := #[k0m0]
  instanceTypes := #[]
  staticTypes := #[]
  resolved := Array.replicate 124 none
  statics := none }

def pool1 : Array CpInfo := pool [(2, .class_ 4), (1, u "java/lang/Object"), (0, u "<init>"), (0, u "()V"), (0, .integer 2147483647), (2, .long 9223372036854775807), (1, .methodref 13 14), (0, .class_ 15), (0, .nameAndType 16 17), (0, u "com/example/klave/klave/coding/BigEndian"), (0, u "bytes"), (0, u "(JI)[B"), (0, .methodref 19 20), (0, .class_ 21), (0, .nameAndType 22 23), (0, u "com/example/klave/klave/coding/BigEndianBytesPinLaw"), (0, u "at"), (0, u "([BIJI)Z"), (2, u "law"), (0, u "(JI)Z")] 5

def k1m0 : Method := { name := "<init>", desc := "()V", sig := { parameters := [], returnType := none }, accessFlags := 2, code := none }
def k1c1 : Code := { maxStack := 5, maxLocals := 9, code := code, exceptionTable := #[], attributes := #[] }
def k1m1 : Method := { name := "law", desc := "(JI)Z", sig := { parameters := [.long, .int], returnType := some .boolean }, accessFlags := 9, code := some k1c1 }
def k1c2 : Code := { maxStack := 4, maxLocals := 7, code := method_3_code, exceptionTable := #[], attributes := #[] }
def k1m2 : Method := { name := "at", desc := "([BIJI)Z", sig := { parameters := [(.array .byte), .int, .long, .int], returnType := some .boolean }, accessFlags := 10, code := some k1c2 }
/-- com/example/klave/klave/coding/BigEndianBytesPinLaw -/
def k1 : Class := { plain "com/example/klave/klave/coding/BigEndianBytesPinLaw" (some 0) with
  accessFlags := 49
  interfaces := #[]
  cf := some (fileOf pool1 19 #[] #[{ accessFlags := 2, nameIndex := 5, descriptorIndex := 6, attributes := #[] }, { accessFlags := 9, nameIndex := 26, descriptorIndex := 27, attributes := #[] }, { accessFlags := 10, nameIndex := 22, descriptorIndex := 23, attributes := #[] }] 49 2 #[] #[])
  fields := #[]
  methods := #[k1m0, k1m1, k1m2]
  instanceTypes := #[]
  staticTypes := #[]
  resolved := Array.replicate 33 none
  statics := none }

def pool2 : Array CpInfo := pool [(2, .class_ 4), (1, u "java/lang/Object"), (0, u "<init>"), (0, u "()V"), (9, .class_ 17), (0, u "com/example/klave/klave/coding/BigEndian"), (0, u "LENGTH_CUT"), (0, u "Ljava/lang/String;"), (3, u "TAG_CUT"), (8, u "bytes"), (0, u "(JI)[B")] 6

def k2m0 : Method := { name := "<init>", desc := "()V", sig := { parameters := [], returnType := none }, accessFlags := 2, code := none }
def k2c1 : Code := { maxStack := 4, maxLocals := 7, code := prog_8_method_3_code, exceptionTable := #[], attributes := #[] }
def k2m1 : Method := { name := "bytes", desc := "(JI)[B", sig := { parameters := [.long, .int], returnType := some (.array .byte) }, accessFlags := 8, code := some k2c1 }
/-- com/example/klave/klave/coding/BigEndian -/
def k2 : Class := { plain "com/example/klave/klave/coding/BigEndian" (some 0) with
  accessFlags := 48
  interfaces := #[]
  cf := some (fileOf pool2 16 #[] #[{ accessFlags := 2, nameIndex := 5, descriptorIndex := 6, attributes := #[] }, { accessFlags := 8, nameIndex := 32, descriptorIndex := 33, attributes := #[] }] 48 2 #[] #[{ accessFlags := 24, nameIndex := 18, descriptorIndex := 19, attributes := #[] }, { accessFlags := 24, nameIndex := 23, descriptorIndex := 19, attributes := #[] }])
  fields := #[{ name := "LENGTH_CUT", type := (.object "java/lang/String"), accessFlags := 24, slot := 0, constantValue := 0 }, { name := "TAG_CUT", type := (.object "java/lang/String"), accessFlags := 24, slot := 1, constantValue := 0 }]
  methods := #[k2m0, k2m1]
  instanceTypes := #[]
  staticTypes := #[(.object "java/lang/String"), (.object "java/lang/String")]
  resolved := Array.replicate 40 none
  statics := none }

def pool3 : Array CpInfo := pool [(1, u "java/lang/Cloneable"), (0, .class_ 1), (0, u "java/lang/Object"), (0, .class_ 3)] 3

/-- java/lang/Cloneable -/
def k3 : Class := { plain "java/lang/Cloneable" (some 0) with
  accessFlags := 1537
  interfaces := #[]
  cf := some (fileOf pool3 2 #[] #[] 1537 4 #[] #[])
  fields := #[]
  methods := #[]
  instanceTypes := #[]
  staticTypes := #[]
  resolved := Array.replicate 8 none
  statics := none }

def pool4 : Array CpInfo := pool [(1, u "java/io/Serializable"), (0, .class_ 1), (0, u "java/lang/Object"), (0, .class_ 3)] 3

/-- java/io/Serializable -/
def k4 : Class := { plain "java/io/Serializable" (some 0) with
  accessFlags := 1537
  interfaces := #[]
  cf := some (fileOf pool4 2 #[] #[] 1537 4 #[] #[])
  fields := #[]
  methods := #[]
  instanceTypes := #[]
  staticTypes := #[]
  resolved := Array.replicate 8 none
  statics := none }

/-- the primitive byte -/
def k5 : Class := { plain "byte" none with kind := .primitive 'B', accessFlags := 0x411 }
/-- [B -/
def k6 : Class := { plain "[B" (some 0) with kind := .array 5 .byte, interfaces := #[3, 4], accessFlags := 1041 }

/-- the primitive int -/
def k7 : Class := { plain "int" none with kind := .primitive 'I', accessFlags := 0x411 }
/-- [I -/
def k8 : Class := { plain "[I" (some 0) with kind := .array 7 .int, interfaces := #[3, 4], accessFlags := 1041 }

def heap : Heap := #[]
def classes : Array Class := #[k0, k1, k2, k3, k4, k5, k6, k7, k8]
def interned : List (Array UInt16 × Addr) := []
def slotsUsed : Nat := 0
def theMethod : MethodId := ⟨1, 1⟩
def args0 : Array Value := #[.long 500, .int 7]
def aboutOver (below : List Frame) : State where
  vm := { classes := classes, interned := interned.toArray }
  heap := heap
  slotsUsed := slotsUsed
  threads := #[{ frames := .invoking theMethod args0 :: below }]
def below0 : List Frame := [.native { method := ⟨0, 0⟩, args := #[] }]
def about1 : State := aboutOver below0
def p0 : Program := .bare "" "" ""
def e0 : Env := launch0.env 0 0 0
theorem w_frames : about1.frames = Frame.invoking theMethod args0 :: below0 := rfl
set_option maxRecDepth 65536 in
theorem w_args : argsFit about1.vm theMethod args0 = true := by decide +kernel
set_option maxRecDepth 65536 in
theorem w_heap : heapFits about1 = true := by decide +kernel
set_option maxRecDepth 65536 in
theorem w_runnable : about1.curStatus? = some .runnable := by decide +kernel
set_option maxRecDepth 65536 in
theorem w_alone : about1.alone = true := by decide +kernel
set_option maxRecDepth 65536 in
theorem w_named : about1.methodNamed? x = some theMethod := by decide +kernel
set_option maxRecDepth 65536 in
theorem w_hears : about1.hears theMethod below0 = true := by decide +kernel
set_option maxRecDepth 65536 in
theorem w_ripe : about1.ripe theMethod args0 below0 = true := by decide +kernel
theorem w_running : about1.status = .running := rfl
set_option maxRecDepth 65536 in
theorem w_room : about1.hasRoom e0.platform room_1 = true :=
  launch0.hasRoom_least _ room_1 (by decide +kernel) (by decide +kernel) (by decide +kernel) (by decide +kernel) (by decide +kernel) (by decide +kernel)
theorem allAtoms_all (ts : List Jvm.Cond) (a : Array Jvm.Value) (st : Jvm.State) : (allAtoms ts).before a st = ts.all (fun c => c.before a st) := by
  induction ts with
  | nil => rfl
  | cons c t ih =>
    show (Jvm.Cond.and c (allAtoms t)).before a st = _
    rw [Jvm.Cond.before_and, ih, List.all_cons]
def words1 : List Jvm.Cond := Jvm.Cond.code x code maxLocals ret :: tables_1
/-- a 'code' word, met by the world's own term for the bytes: nothing is compared byte by byte -/
theorem code_word {y : MethodName} {bytes : ByteArray} {mx : Nat} {rt : Option FieldType} {a : Array Value} {s : State} {m : MethodId} {meth : Method} {c : Code} (h1 : s.methodNamed? y = some m) (h2 : s.vm.method? m = some meth) (h3 : meth.code = some c) (h4 : c.code = bytes)
    (h5 : (c.maxLocals == mx && c.exceptionTable.isEmpty && decide (c.maxStack ≤ mostOperands) && decide (meth.sig.returnType = rt) && !meth.locks && decide (parseMethodDescriptor y.desc = some meth.sig)) = true) : (Jvm.Cond.code y bytes mx rt).before a s = true := by
  simp only [Bool.and_eq_true, beq_iff_eq, Bool.not_eq_true', decide_eq_true_eq] at h5
  obtain ⟨⟨⟨⟨⟨g1, g2⟩, g3⟩, g4⟩, g5⟩, g6⟩ := h5
  simp [Cond.before, Cond.holds, Cond.value, h1, h2, h3, h4, g1, g2, g3, g4, g5, g6]
def isCode : Jvm.Cond → Bool
  | .code _ _ _ _ => true
  | _ => false
theorem all_split {L : List Jvm.Cond} {P : Jvm.Cond → Bool} (h1 : L.all (fun c => isCode c || P c) = true) (h2 : ∀ c ∈ L.filter isCode, P c = true) : L.all P = true := by
  refine List.all_eq_true.mpr fun c hc => ?_
  have h := List.all_eq_true.mp h1 c hc
  rcases Bool.eq_false_or_eq_true (isCode c) with hi | hi
  · exact h2 c (List.mem_filter.mpr ⟨hc, hi⟩)
  · simpa [hi] using h
set_option maxRecDepth 65536 in
theorem w_c0 : (Jvm.Cond.code x code maxLocals ret).before args0 about1 = true := code_word (m := ⟨1, 1⟩) (meth := k1m1) (c := k1c1) (by decide +kernel) rfl rfl rfl (by decide +kernel)
set_option maxRecDepth 65536 in
theorem w_c1 : (Jvm.Cond.code ({ cls := "com/example/klave/klave/coding/BigEndian", name := "bytes", desc := "(JI)[B" } : Jvm.MethodName) prog_8_method_3_code (7 : Nat) (Option.some (Jvm.ClassFile.FieldType.array Jvm.ClassFile.FieldType.byte))).before args0 about1 = true := code_word (m := ⟨2, 1⟩) (meth := k2m1) (c := k2c1) (by decide +kernel) rfl rfl rfl (by decide +kernel)
set_option maxRecDepth 65536 in
theorem w_c2 : (Jvm.Cond.code ({ cls := "com/example/klave/klave/coding/BigEndianBytesPinLaw", name := "at", desc := "([BIJI)Z" } : Jvm.MethodName) method_3_code (7 : Nat) (Option.some Jvm.ClassFile.FieldType.boolean)).before args0 about1 = true := code_word (m := ⟨1, 2⟩) (meth := k1m2) (c := k1c2) (by decide +kernel) rfl rfl rfl (by decide +kernel)
def codes1 : List Jvm.Cond := [Jvm.Cond.code x code maxLocals ret, Jvm.Cond.code ({ cls := "com/example/klave/klave/coding/BigEndian", name := "bytes", desc := "(JI)[B" } : Jvm.MethodName) prog_8_method_3_code (7 : Nat) (Option.some (Jvm.ClassFile.FieldType.array Jvm.ClassFile.FieldType.byte)), Jvm.Cond.code ({ cls := "com/example/klave/klave/coding/BigEndianBytesPinLaw", name := "at", desc := "([BIJI)Z" } : Jvm.MethodName) method_3_code (7 : Nat) (Option.some Jvm.ClassFile.FieldType.boolean)]
set_option maxRecDepth 65536 in
theorem codes_eq : words1.filter isCode = codes1 := rfl
theorem w_codes : ∀ c ∈ words1.filter isCode, c.before args0 about1 = true := by
  rw [codes_eq]
  intro c hc
  simp only [codes1, List.mem_cons, List.not_mem_nil, or_false] at hc
  rcases hc with rfl | rfl | rfl
  · exact w_c0
  · exact w_c1
  · exact w_c2
set_option maxRecDepth 65536 in
theorem w_t1 : words1.all (fun c => isCode c || c.before args0 about1) = true := by decide +kernel
theorem w_tables : (allAtoms (Jvm.Cond.code x code maxLocals ret :: tables_1)).before args0 about1 = true := by
  rw [allAtoms_all]
  show words1.all (fun c => c.before args0 about1) = true
  refine all_split ?_ w_codes
  rw [w_t1]
set_option maxRecDepth 65536 in
theorem w_case : (Jvm.Cond.and given_1 narrow_1).before args0 about1 = true := by decide +kernel
theorem w_applies : (headSpec (Jvm.Cond.code x code maxLocals ret :: tables_1) room_1).applies x e0.platform about1 = true :=
  (Spec.applies_iff w_frames).mpr ⟨w_running, w_runnable, w_alone, w_named, w_hears, w_ripe, w_room, w_tables⟩
theorem atStart : AtStart classFile x code maxLocals ret World_1 tables_1 room_1 Calls_1 rest_1 Pre_1 launch0 p0 e0 about1 theMethod args0 below0 :=
  ⟨lists_1, trivial, launch0.admits_env _ _ _, launch0.least_env, fairChoices_fair.cas, fairChoices_fair.clock, w_frames, w_args, w_heap, w_applies, trivial, trivial, w_case⟩
end start1
theorem witness_1 : WitnessClaimed_1 := ⟨start1.p0, start1.e0, start1.about1, start1.theMethod, start1.args0, start1.below0, start1.atStart⟩
end Jvm.Pilot.@@N@@
