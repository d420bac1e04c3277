import JvmDerived
import JvmDerived.Pilot.@@N@@Statement
import JvmDerived.Pilot.@@N@@Code
set_option linter.unusedVariables false
set_option linter.unusedSimpArgs false
namespace Jvm.Pilot.@@N@@
open Jvm Jvm.ClassFile Sem Op Lib Jvm.Free Jvm.Stand Jvm.LawKit Jvm.RoadKit Bundle Jvm.Pilot.@@N@@.Jvm.D
/-! the walk's goal in continuation style -/
def own_Ends (p : Program) (e : Env) (below : List Frame) (s : State) (Q : Option Value → Heap → List Loc → Prop) (k n : Nat) (t : State) : Prop :=
  ∃ s₂ o, Steps p.tables e below t s₂ ∧ s₂.status = .running ∧ Ended s₂ below o ∧ ∃ v L, o = .returned v ∧ Q v s₂.heap L ∧ FrameEnd s o s₂ L k n
section OwnEnds
variable {p : Program} {l : Launch} {e : Env} {R : Room} {s : State} {m : MethodId} {args : Array Value} {below : List Frame} {meth : Method} {c : Code} {T : State} {locs : List Loc} {cells slots : Nat} {Q : Option Value → Heap → List Loc → Prop} {k n : Nat}
theorem own_go {t t' : State} (h : ∀ u, Steps p.tables e below t' u → Steps p.tables e below t u) (g : own_Ends p e below s Q k n t') : own_Ends p e below s Q k n t := by
  obtain ⟨s₂, o, h1, h2⟩ := g
  exact ⟨s₂, o, h _ h1, h2⟩
theorem own_retN (X : Stand p l e R s m args below meth c T locs cells slots) (hx : p.tables.exec = Jvm.exec) {pc : Nat} {Ls : Array Slot} {z w : Int32} {t : FieldType} {rest : List Value} (hret : meth.sig.returnType = some t) (ht : t = .boolean ∨ t = .byte ∨ t = .char ∨ t = .short)
    (hd : decode c.code pc = .ok (.ireturn, 1)) (hlk : meth.locks = false) (hz : nar t z = w) (hQ : Q (some (.int w)) T.heap locs) (hk : cells ≤ k) (hn : slots ≤ n) : own_Ends p e below s Q k n (T.setTop (mkF m pc Ls (.int z :: rest))) := by
  subst hz
  obtain ⟨fs, hr, hrun, hended, hW, hsame⟩ := X.leave (v := some (.int (nar t z))) (fun h => by rw [hret] at h; cases h) hlk
  exact ⟨_, _, retN X hx hret ht hd hr, hrun, hended, _, _, rfl, hQ, ⟨_, rfl⟩, hW, hsame.mono hk hn⟩
theorem own_ret (X : Stand p l e R s m args below meth c T locs cells slots) (hx : p.tables.exec = Jvm.exec) {pc : Nat} {Ls : Array Slot} {w : Value} {t : FieldType} {i : Instr} {rest : List Value} (hret : meth.sig.returnType = some t) (hn' : narrow t w = w)
    (hi : (i = .ireturn ∧ (t = .int ∨ t = .boolean ∨ t = .byte ∨ t = .char ∨ t = .short) ∧ ∃ z, w = .int z) ∨ (i = .lreturn ∧ t = .long ∧ ∃ z, w = .long z) ∨ (i = .dreturn ∧ t = .double ∧ ∃ z, w = .double z) ∨ (i = .freturn ∧ t = .float ∧ ∃ z, w = .float z) ∨ (i = .areturn ∧ t.isReference = true ∧ w.isRef = true))
    (hd : decode c.code pc = .ok (i, 1)) (hlk : meth.locks = false) (hQ : Q (some w) T.heap locs) (hk : cells ≤ k) (hn : slots ≤ n) : own_Ends p e below s Q k n (T.setTop (mkF m pc Ls (w :: rest))) := by
  obtain ⟨fs, hr, hrun, hended, hW, hsame⟩ := X.leave (v := some w) (fun h => by rw [hret] at h; cases h) hlk
  exact ⟨_, _, retOut X hx hret hn' hi hd hr, hrun, hended, _, _, rfl, hQ, ⟨_, rfl⟩, hW, hsame.mono hk hn⟩
theorem own_ret0 (X : Stand p l e R s m args below meth c T locs cells slots) (hx : p.tables.exec = Jvm.exec) {pc : Nat} {Ls : Array Slot} (hret : meth.sig.returnType = none)
    (hd : decode c.code pc = .ok (.return_, 1)) (hlk : meth.locks = false) (hQ : Q none T.heap locs) (hk : cells ≤ k) (hn : slots ≤ n) : own_Ends p e below s Q k n (T.setTop (mkF m pc Ls [])) := by
  obtain ⟨fs, hr, hrun, hended, hW, hsame⟩ := X.leave (v := none) (fun _ => rfl) hlk
  exact ⟨_, _, X.returnOut hx hret hd hr, hrun, hended, _, _, rfl, hQ, ⟨_, rfl⟩, hW, hsame.mono hk hn⟩
end OwnEnds
theorem pd_0 : parseMethodDescriptor "([DD)[D" = some ⟨[(.array .double), .double], some (.array .double)⟩ := by decide +kernel
theorem pd_1 : parseMethodDescriptor "(II)D" = some ⟨[.int, .int], some .double⟩ := by decide +kernel
theorem own_b53 (x : Int32) : B53 x.toInt64 := by
  have h := rng32 x
  have h2 := c_i2l x
  exact b53 (by rw [Int64.lt_iff_toInt_lt, h2]; show (-9007199254740992 : Int) < _; omega) (by rw [Int64.lt_iff_toInt_lt, h2]; show _ < (9007199254740992 : Int); omega)
theorem own_z (x : Int32) (h : ¬ x = 0) : ¬ x.toInt64 = 0 := by
  intro q
  apply h
  rw [← Int64.toInt_inj, c_i2l] at q
  rw [← Int32.toInt_inj]
  exact q
theorem own_mulrange (f a : Int32) : -9223372036854775808 ≤ f.toInt64.toInt * a.toInt64.toInt ∧ f.toInt64.toInt * a.toInt64.toInt < 9223372036854775808 := by
  have h1 := rng32 f
  have h2 := rng32 a
  rw [c_i2l, c_i2l]
  have h := mc (a := f.toInt) (b := a.toInt) (l1 := -2147483648) (h1 := 2147483647) (l2 := -2147483648) (h2 := 2147483647) (by omega) (by omega) (by omega) (by omega)
  generalize f.toInt * a.toInt = y at *
  omega
theorem own_mul (f a : Int32) : FP.dmul (FP.i2d f) (FP.i2d a) = FP.l2d (a.toInt64 * f.toInt64) ∨ (a.toInt64 * f.toInt64 = 0 ∧ (FP.dmul (FP.i2d f) (FP.i2d a) = 9223372036854775808)) := by
  rw [i2d_w, i2d_w]
  by_cases hf : f = 0
  · have hz : f.toInt64 = 0 := by rw [hf]; decide
    have hp : a.toInt64 * f.toInt64 = 0 := by rw [hz, Int64.mul_zero]
    rw [dmul_z (own_b53 f) (own_b53 a) (Or.inl hz), hp]
    split
    · exact Or.inr ⟨rfl, rfl⟩
    · exact Or.inl rfl
  · by_cases ha : a = 0
    · have hz : a.toInt64 = 0 := by rw [ha]; decide
      have hp : a.toInt64 * f.toInt64 = 0 := by rw [hz, Int64.zero_mul]
      rw [dmul_z (own_b53 f) (own_b53 a) (Or.inr hz), hp]
      split
      · exact Or.inr ⟨rfl, rfl⟩
      · exact Or.inl rfl
    · left
      rw [dmul_w (own_b53 f) (own_b53 a) (own_z f hf) (own_z a ha) (own_mulrange f a).1 (own_mulrange f a).2, Int64.mul_comm]
theorem own_nn (f a : Int32) : Jvm.Free.Fl.NoNaN64 (FP.dmul (FP.i2d f) (FP.i2d a)) := by
  rcases own_mul f a with h | ⟨-, h⟩
  · exact nn_w h
  · rw [h]; decide
theorem own_prod (f a : Int32) : cmpValue (FP.dcmp (FP.dmul (FP.i2d f) (FP.i2d a)) (FP.l2d (a.toInt64 * f.toInt64))) .l = 0 := by
  rcases own_mul f a with h | ⟨h0, h⟩
  · rw [h]; exact dcmpV_self (nn_w rfl) _
  · rw [h, h0]; decide +kernel
theorem d1_0 : decode prog_94_method_21_code 0 = .ok (.aload_n 0, 1) := by decide +kernel
theorem d1_1 : decode prog_94_method_21_code 1 = .ok (.arraylength, 1) := by decide +kernel
theorem d1_2 : decode prog_94_method_21_code 2 = .ok (.newarray .double, 2) := by decide +kernel
theorem d1_4 : decode prog_94_method_21_code 4 = .ok (.astore_n 3, 1) := by decide +kernel
theorem d1_5 : decode prog_94_method_21_code 5 = .ok (.iconst 0, 1) := by decide +kernel
theorem d1_6 : decode prog_94_method_21_code 6 = .ok (.istore 4, 2) := by decide +kernel
theorem d1_8 : decode prog_94_method_21_code 8 = .ok (.iload 4, 2) := by decide +kernel
theorem d1_10 : decode prog_94_method_21_code 10 = .ok (.aload_n 0, 1) := by decide +kernel
theorem d1_11 : decode prog_94_method_21_code 11 = .ok (.arraylength, 1) := by decide +kernel
theorem d1_12 : decode prog_94_method_21_code 12 = .ok (.if_icmp .ge 19, 3) := by decide +kernel
theorem d1_15 : decode prog_94_method_21_code 15 = .ok (.aload_n 3, 1) := by decide +kernel
theorem d1_16 : decode prog_94_method_21_code 16 = .ok (.iload 4, 2) := by decide +kernel
theorem d1_18 : decode prog_94_method_21_code 18 = .ok (.dload_n 1, 1) := by decide +kernel
theorem d1_19 : decode prog_94_method_21_code 19 = .ok (.aload_n 0, 1) := by decide +kernel
theorem d1_20 : decode prog_94_method_21_code 20 = .ok (.iload 4, 2) := by decide +kernel
theorem d1_22 : decode prog_94_method_21_code 22 = .ok (.daload, 1) := by decide +kernel
theorem d1_23 : decode prog_94_method_21_code 23 = .ok (.dmul, 1) := by decide +kernel
theorem d1_24 : decode prog_94_method_21_code 24 = .ok (.dastore, 1) := by decide +kernel
theorem d1_25 : decode prog_94_method_21_code 25 = .ok (.iinc 4 1, 3) := by decide +kernel
theorem d1_28 : decode prog_94_method_21_code 28 = .ok (.goto (-20), 3) := by decide +kernel
theorem d1_31 : decode prog_94_method_21_code 31 = .ok (.aload_n 3, 1) := by decide +kernel
theorem d1_32 : decode prog_94_method_21_code 32 = .ok (.areturn, 1) := by decide +kernel
theorem pn_0 : plainName "com/example/weftbind/weftbind/LevelPrices" = true := by first | (simp [plainName, overriddenIn]; done) | decide +kernel
theorem ef_S0 (m : MethodId) (x0 : Addr) (x1 : UInt64) : entryFrame m #[(.ref x0), (.double x1)] 5 = mkF m 0 #[.val (.ref x0), .val (.double x1), .second, .unset, .unset] [] := by first | (simp [entryFrame, mkF, argsToLocals, Value.category]; done) | rfl
def QS0 (a1 : Addr) (d2 : UInt64) (k1 : ClassId) (h0 : Heap) (n0 : Nat) (Z : State) (v : Option Value) (h : Heap) (L : List Loc) : Prop := ∃ b k2, v = some (.ref b) ∧ Fr n0 L ∧ Keep h0 h [] ∧ n0 ≤ b ∧ h0.size ≤ b ∧ Arv Z h b k2 .double (0 : Int32) [] (.double (0 : UInt64))
set_option maxRecDepth 65536 in
set_option maxHeartbeats 40000000 in
theorem rmS0 (l : Launch) (Z : State) (a0 : Array Value) (hw : ∀ d ∈ tables_1, d.before a0 Z = true) (ws : List Jvm.Cond) (a1 : Addr) (d2 : UInt64) (k1 : ClassId) (h0 : Heap) (n0 : Nat) (Z0 : n0 ≤ h0.size) (V1 : Arv Z h0 a1 k1 .double (0 : Int32) [] (.double (0 : UInt64))) :
    MetFree l (⟨"com/example/weftbind/weftbind/LevelPrices", "scaled", "([DD)[D"⟩ : MethodName) (head1 (Jvm.Cond.code (⟨"com/example/weftbind/weftbind/LevelPrices", "scaled", "([DD)[D"⟩ : MethodName) prog_94_method_21_code 5 (some (.array .double)) :: ws) ({ frames := 0, cells := 1, slots := 0, locals := 0 } : Room)) (fun a U => a = #[(.ref a1), (.double d2)] ∧ Z.Warmed39 U.vm ∧ U.heap = h0) (fun _ _ _ _ _ => True) (fun _ U o U' => ∃ v L, o = .returned v ∧ QS0 a1 d2 k1 h0 n0 Z v U'.heap L ∧ FrameEnd U o U' L ({ frames := 0, cells := 1, slots := 0, locals := 0 } : Room).cells ({ frames := 0, cells := 1, slots := 0, locals := 0 } : Room).slots) := by
  refine MetFree.of_bodySF (plainFor_of_name pn_0) hisR ?_
  intro p e s m args below meth c s₁ Bd hml0 hP hK
  obtain ⟨rfl, hZ, hh⟩ := hP
  have hx := Bd.exec
  have hby := Bd.bytes
  have hml : c.maxLocals = 5 := hml0
  have hown : s.vm.findClass "com/example/weftbind/weftbind/LevelPrices" = some m.cls := findClass_of_methodNamed Bd.named
  have hnm := (name_of_methodNamed Bd.named Bd.method).1
  have hlk := Bd.notSynchronized
  have hrt := Bd.returns
  have X0 : Stand p l e ({ frames := 0, cells := 1, slots := 0, locals := 0 } : Room) s m #[(.ref a1), (.double d2)] below meth c s₁ [] 0 0 := Stand.of_body Bd
  have e0 : s₁.heap = h0 := by rw [← hh, Bd.state]; rfl
  have N0 := Fr.nil n0
  show own_Ends p e below s (QS0 a1 d2 k1 h0 n0 Z) ({ frames := 0, cells := 1, slots := 0, locals := 0 } : Room).cells ({ frames := 0, cells := 1, slots := 0, locals := 0 } : Room).slots (s₁.setTop (entryFrame m #[(.ref a1), (.double d2)] 5))
  rw [ef_S0]
  have K0 : Keep h0 h0 [] := Keep.refl h0 []
  refine own_go (fun _ k => XS.aloadN X0.here hx rfl (hb hby d1_0) rfl rfl <| k) ?_
  show own_Ends p e below s _ _ _ (s₁.setTop (mkF m 1 #[.val (.ref a1), .val (.double d2), .second, .unset, .unset] [(.ref a1)]))
  obtain ⟨cla1_1_1, Ara1_1_1, qqa1_1_1, Sza1_1_1, Nga1_1_1, Hsa1_1_1, Gfa1_1_1⟩ := id V1
  refine own_go (fun _ k => X0.arraylength hx (by first | exact Ara1_1_1.1 | (rw [e0]; exact Ara1_1_1.1)) (State.isArrayOf_alike hZ.alike Ara1_1_1.2.1) (g := (mkF m 1 #[.val (.ref a1), .val (.double d2), .second, .unset, .unset] [(.ref a1)])) rfl rfl (hb hby d1_1) _ k) ?_
  rw [len_of Sza1_1_1 Nga1_1_1]
  show own_Ends p e below s _ _ _ (s₁.setTop (mkF m 2 #[.val (.ref a1), .val (.double d2), .second, .unset, .unset] [(.int (0 : Int32))]))
  obtain ⟨T2, h2, k2, X2, e2, E2, A2, st2⟩ := newP X0 hx hZ (hw _ (List.mem_of_getElem? (i := 0) rfl)) e0 (g := (mkF m 2 #[.val (.ref a1), .val (.double d2), .second, .unset, .unset] [(.int (0 : Int32))])) rfl (hb hby d1_2) rfl (by decide) (cap := 0) (by decide) (by decide) (by decide) (by decide)
  obtain ⟨b2, g2⟩ : ∃ z, z = h0.size := ⟨_, rfl⟩
  rw [← g2] at A2 st2
  refine own_go st2 ?_
  have ne_a1_b2 : a1 ≠ b2 := Nat.ne_of_lt (Nat.lt_of_lt_of_le V1.lt (Nat.le_of_eq g2.symm))
  have g_b2 : n0 ≤ b2 := Nat.le_trans Z0 (Nat.le_of_eq g2.symm)
  have sz_b2 : h0.size ≤ b2 := Nat.le_trans K0.1 (Nat.le_of_eq g2.symm)
  have V1'2 := V1.ext E2
  have Z2 := Nat.le_trans Z0 E2.1
  have K2' := K0.ext E2
  have V_b2 : Arv Z h2 b2 k2 .double (0 : Int32) [] (.double (0 : UInt64)) := Arv.new A2 (by decide)
  show own_Ends p e below s _ _ _ (T2.setTop (mkF m 4 #[.val (.ref a1), .val (.double d2), .second, .unset, .unset] [(.ref b2)]))
  refine own_go (fun _ k => XS.astoreN X2.here hx rfl (hb hby d1_4) rfl rfl (l' := #[.val (.ref a1), .val (.double d2), .second, .val (.ref b2), .unset]) rfl <| XT.iconstV X2.here hx rfl (0 : Int32) (hb hby d1_5) rfl <| XS.istore X2.here hx rfl (hb hby d1_6) rfl (l' := #[.val (.ref a1), .val (.double d2), .second, .val (.ref b2), .val (.int (0 : Int32))]) rfl <| XS.iload X2.here hx rfl (hb hby d1_8) rfl <| XS.aloadN X2.here hx rfl (hb hby d1_10) rfl rfl <| k) ?_
  show own_Ends p e below s _ _ _ (T2.setTop (mkF m 11 #[.val (.ref a1), .val (.double d2), .second, .val (.ref b2), .val (.int (0 : Int32))] [(.ref a1), (.int (0 : Int32))]))
  obtain ⟨cla1_11_3, Ara1_11_3, qqa1_11_3, Sza1_11_3, Nga1_11_3, Hsa1_11_3, Gfa1_11_3⟩ := id V1'2
  refine own_go (fun _ k => X2.arraylength hx (by first | exact Ara1_11_3.1 | (rw [e2]; exact Ara1_11_3.1)) (State.isArrayOf_alike hZ.alike Ara1_11_3.2.1) (g := (mkF m 11 #[.val (.ref a1), .val (.double d2), .second, .val (.ref b2), .val (.int (0 : Int32))] [(.ref a1), (.int (0 : Int32))])) rfl rfl (hb hby d1_11) _ k) ?_
  rw [len_of Sza1_11_3 Nga1_11_3]
  show own_Ends p e below s _ _ _ (T2.setTop (mkF m 12 #[.val (.ref a1), .val (.double d2), .second, .val (.ref b2), .val (.int (0 : Int32))] [(.int (0 : Int32)), (.int (0 : Int32))]))
  refine own_go (fun _ k => XS.icmpYes X2.here hx rfl (pc0 := 12) (pc' := 31) rfl (hb hby d1_12) rfl (flt (by decide)).2.1 (by decide) (by decide) <| XS.aloadN X2.here hx rfl (hb hby d1_31) rfl rfl <| k) ?_
  show own_Ends p e below s _ _ _ (T2.setTop (mkF m 32 #[.val (.ref a1), .val (.double d2), .second, .val (.ref b2), .val (.int (0 : Int32))] [(.ref b2)]))
  exact own_ret X2 hx hrt rfl (Or.inr (Or.inr (Or.inr (Or.inr ⟨rfl, rfl, rfl⟩)))) (hb hby d1_32) hlk (by rw [e2]; exact ⟨_, _, rfl, N0, K2', g_b2, sz_b2, V_b2⟩) (by decide) (by decide)
theorem ef_S3 (m : MethodId) (x0 : Addr) (x1 : UInt64) : entryFrame m #[(.ref x0), (.double x1)] 5 = mkF m 0 #[.val (.ref x0), .val (.double x1), .second, .unset, .unset] [] := by first | (simp [entryFrame, mkF, argsToLocals, Value.category]; done) | rfl
def QS3 (a1 : Addr) (d2 : UInt64) (k1 : ClassId) (x0 x1 x2 : UInt64) (h0 : Heap) (n0 : Nat) (Z : State) (v : Option Value) (h : Heap) (L : List Loc) : Prop := ∃ b k2, v = some (.ref b) ∧ Fr n0 L ∧ Keep h0 h [] ∧ n0 ≤ b ∧ h0.size ≤ b ∧ Arv Z h b k2 .double (3 : Int32) [(.double (FP.dmul d2 x0)), (.double (FP.dmul d2 x1)), (.double (FP.dmul d2 x2))] (.double (0 : UInt64))
set_option maxRecDepth 65536 in
set_option maxHeartbeats 40000000 in
theorem rmS3 (l : Launch) (Z : State) (a0 : Array Value) (hw : ∀ d ∈ tables_1, d.before a0 Z = true) (ws : List Jvm.Cond) (a1 : Addr) (d2 : UInt64) (k1 : ClassId) (x0 x1 x2 : UInt64) (h0 : Heap) (n0 : Nat) (Z0 : n0 ≤ h0.size) (V1 : Arv Z h0 a1 k1 .double (3 : Int32) [(.double x0), (.double x1), (.double x2)] (.double (0 : UInt64))) (hn0 : Jvm.Free.Fl.NoNaN64 (FP.dmul d2 x0)) (hn1 : Jvm.Free.Fl.NoNaN64 (FP.dmul d2 x1)) (hn2 : Jvm.Free.Fl.NoNaN64 (FP.dmul d2 x2)) :
    MetFree l (⟨"com/example/weftbind/weftbind/LevelPrices", "scaled", "([DD)[D"⟩ : MethodName) (head1 (Jvm.Cond.code (⟨"com/example/weftbind/weftbind/LevelPrices", "scaled", "([DD)[D"⟩ : MethodName) prog_94_method_21_code 5 (some (.array .double)) :: ws) ({ frames := 0, cells := 1, slots := 3, locals := 0 } : Room)) (fun a U => a = #[(.ref a1), (.double d2)] ∧ Z.Warmed39 U.vm ∧ U.heap = h0) (fun _ _ _ _ _ => True) (fun _ U o U' => ∃ v L, o = .returned v ∧ QS3 a1 d2 k1 x0 x1 x2 h0 n0 Z v U'.heap L ∧ FrameEnd U o U' L ({ frames := 0, cells := 1, slots := 3, locals := 0 } : Room).cells ({ frames := 0, cells := 1, slots := 3, locals := 0 } : Room).slots) := by
  refine MetFree.of_bodySF (plainFor_of_name pn_0) hisR ?_
  intro p e s m args below meth c s₁ Bd hml0 hP hK
  obtain ⟨rfl, hZ, hh⟩ := hP
  have hx := Bd.exec
  have hby := Bd.bytes
  have hml : c.maxLocals = 5 := hml0
  have hown : s.vm.findClass "com/example/weftbind/weftbind/LevelPrices" = some m.cls := findClass_of_methodNamed Bd.named
  have hnm := (name_of_methodNamed Bd.named Bd.method).1
  have hlk := Bd.notSynchronized
  have hrt := Bd.returns
  have X0 : Stand p l e ({ frames := 0, cells := 1, slots := 3, locals := 0 } : Room) s m #[(.ref a1), (.double d2)] below meth c s₁ [] 0 0 := Stand.of_body Bd
  have e0 : s₁.heap = h0 := by rw [← hh, Bd.state]; rfl
  have N0 := Fr.nil n0
  show own_Ends p e below s (QS3 a1 d2 k1 x0 x1 x2 h0 n0 Z) ({ frames := 0, cells := 1, slots := 3, locals := 0 } : Room).cells ({ frames := 0, cells := 1, slots := 3, locals := 0 } : Room).slots (s₁.setTop (entryFrame m #[(.ref a1), (.double d2)] 5))
  rw [ef_S3]
  have K0 : Keep h0 h0 [] := Keep.refl h0 []
  refine own_go (fun _ k => XS.aloadN X0.here hx rfl (hb hby d1_0) rfl rfl <| k) ?_
  show own_Ends p e below s _ _ _ (s₁.setTop (mkF m 1 #[.val (.ref a1), .val (.double d2), .second, .unset, .unset] [(.ref a1)]))
  obtain ⟨cla1_1_1, Ara1_1_1, qqa1_1_1, Sza1_1_1, Nga1_1_1, Hsa1_1_1, Gfa1_1_1⟩ := id V1
  refine own_go (fun _ k => X0.arraylength hx (by first | exact Ara1_1_1.1 | (rw [e0]; exact Ara1_1_1.1)) (State.isArrayOf_alike hZ.alike Ara1_1_1.2.1) (g := (mkF m 1 #[.val (.ref a1), .val (.double d2), .second, .unset, .unset] [(.ref a1)])) rfl rfl (hb hby d1_1) _ k) ?_
  rw [len_of Sza1_1_1 Nga1_1_1]
  show own_Ends p e below s _ _ _ (s₁.setTop (mkF m 2 #[.val (.ref a1), .val (.double d2), .second, .unset, .unset] [(.int (3 : Int32))]))
  obtain ⟨T2, h2, k2, X2, e2, E2, A2, st2⟩ := newP X0 hx hZ (hw _ (List.mem_of_getElem? (i := 0) rfl)) e0 (g := (mkF m 2 #[.val (.ref a1), .val (.double d2), .second, .unset, .unset] [(.int (3 : Int32))])) rfl (hb hby d1_2) rfl (by decide) (cap := 3) (by decide) (by decide) (by decide) (by decide)
  obtain ⟨b2, g2⟩ : ∃ z, z = h0.size := ⟨_, rfl⟩
  rw [← g2] at A2 st2
  refine own_go st2 ?_
  have ne_a1_b2 : a1 ≠ b2 := Nat.ne_of_lt (Nat.lt_of_lt_of_le V1.lt (Nat.le_of_eq g2.symm))
  have g_b2 : n0 ≤ b2 := Nat.le_trans Z0 (Nat.le_of_eq g2.symm)
  have sz_b2 : h0.size ≤ b2 := Nat.le_trans K0.1 (Nat.le_of_eq g2.symm)
  have V1'2 := V1.ext E2
  have Z2 := Nat.le_trans Z0 E2.1
  have K2' := K0.ext E2
  have V_b2 : Arv Z h2 b2 k2 .double (3 : Int32) [(.double (0 : UInt64)), (.double (0 : UInt64)), (.double (0 : UInt64))] (.double (0 : UInt64)) := (Arv.new A2 (by decide)).pad (pad_rep [] (.double (0 : UInt64)) 3)
  show own_Ends p e below s _ _ _ (T2.setTop (mkF m 4 #[.val (.ref a1), .val (.double d2), .second, .unset, .unset] [(.ref b2)]))
  refine own_go (fun _ k => XS.astoreN X2.here hx rfl (hb hby d1_4) rfl rfl (l' := #[.val (.ref a1), .val (.double d2), .second, .val (.ref b2), .unset]) rfl <| XT.iconstV X2.here hx rfl (0 : Int32) (hb hby d1_5) rfl <| XS.istore X2.here hx rfl (hb hby d1_6) rfl (l' := #[.val (.ref a1), .val (.double d2), .second, .val (.ref b2), .val (.int (0 : Int32))]) rfl <| XS.iload X2.here hx rfl (hb hby d1_8) rfl <| XS.aloadN X2.here hx rfl (hb hby d1_10) rfl rfl <| k) ?_
  show own_Ends p e below s _ _ _ (T2.setTop (mkF m 11 #[.val (.ref a1), .val (.double d2), .second, .val (.ref b2), .val (.int (0 : Int32))] [(.ref a1), (.int (0 : Int32))]))
  obtain ⟨cla1_11_3, Ara1_11_3, qqa1_11_3, Sza1_11_3, Nga1_11_3, Hsa1_11_3, Gfa1_11_3⟩ := id V1'2
  refine own_go (fun _ k => X2.arraylength hx (by first | exact Ara1_11_3.1 | (rw [e2]; exact Ara1_11_3.1)) (State.isArrayOf_alike hZ.alike Ara1_11_3.2.1) (g := (mkF m 11 #[.val (.ref a1), .val (.double d2), .second, .val (.ref b2), .val (.int (0 : Int32))] [(.ref a1), (.int (0 : Int32))])) rfl rfl (hb hby d1_11) _ k) ?_
  rw [len_of Sza1_11_3 Nga1_11_3]
  show own_Ends p e below s _ _ _ (T2.setTop (mkF m 12 #[.val (.ref a1), .val (.double d2), .second, .val (.ref b2), .val (.int (0 : Int32))] [(.int (3 : Int32)), (.int (0 : Int32))]))
  refine own_go (fun _ k => XS.icmpNo X2.here hx rfl (hb hby d1_12) rfl (tlt (by decide)).2.1 <| XS.aloadN X2.here hx rfl (hb hby d1_15) rfl rfl <| XS.iload X2.here hx rfl (hb hby d1_16) rfl <| XS.dloadN X2.here hx rfl (hb hby d1_18) rfl <| XS.aloadN X2.here hx rfl (hb hby d1_19) rfl rfl <| XS.iload X2.here hx rfl (hb hby d1_20) rfl <| k) ?_
  show own_Ends p e below s _ _ _ (T2.setTop (mkF m 22 #[.val (.ref a1), .val (.double d2), .second, .val (.ref b2), .val (.int (0 : Int32))] [(.int (0 : Int32)), (.ref a1), (.double d2), (.int (0 : Int32)), (.ref b2)]))
  obtain ⟨cla1_22_4, Ara1_22_4, qqa1_22_4, Sza1_22_4, Nga1_22_4, Hsa1_22_4, Gfa1_22_4⟩ := id V1'2
  have hina1_22_4 : ¬ ((0 : Int32) < 0 ∨ cla1_22_4.slots.size ≤ ((0 : Int32)).toNatClampNeg) := inb_of Sza1_22_4 ⟨by decide, by decide⟩
  have hata1_22_4 : cla1_22_4.slots[((0 : Int32)).toNatClampNeg]? = some (.double x0) := Hsa1_22_4.at hina1_22_4 rfl
  refine own_go (fun _ k => X2.daload hx (j := (0 : Int32)) (v := (.double x0)) (by first | exact Ara1_22_4.1 | (rw [e2]; exact Ara1_22_4.1)) (State.isArrayOf_alike hZ.alike Ara1_22_4.2.1) Ara1_22_4.2.2 hina1_22_4 hata1_22_4 (g := (mkF m 22 #[.val (.ref a1), .val (.double d2), .second, .val (.ref b2), .val (.int (0 : Int32))] [(.int (0 : Int32)), (.ref a1), (.double d2), (.int (0 : Int32)), (.ref b2)])) rfl rfl (hb hby d1_22) _ k) ?_
  show own_Ends p e below s _ _ _ (T2.setTop (mkF m 23 #[.val (.ref a1), .val (.double d2), .second, .val (.ref b2), .val (.int (0 : Int32))] [(.double x0), (.double d2), (.int (0 : Int32)), (.ref b2)]))
  refine own_go (fun _ k => XS.dmulS X2.here hx rfl (hb hby d1_23) rfl hn0 rfl <| k) ?_
  show own_Ends p e below s _ _ _ (T2.setTop (mkF m 24 #[.val (.ref a1), .val (.double d2), .second, .val (.ref b2), .val (.int (0 : Int32))] [(.double (FP.dmul d2 x0)), (.int (0 : Int32)), (.ref b2)]))
  obtain ⟨clb2_24_5, Arb2_24_5, qqb2_24_5, Szb2_24_5, Ngb2_24_5, Hsb2_24_5, Gfb2_24_5⟩ := id V_b2
  have hinb2_24_5 : ¬ ((0 : Int32) < 0 ∨ clb2_24_5.slots.size ≤ ((0 : Int32)).toNatClampNeg) := inb_of Szb2_24_5 ⟨by decide, by decide⟩
  obtain ⟨T6, h6, X6, e6, W6, st6⟩ := stD X2 hx hZ e2 Arb2_24_5 (j := (0 : Int32)) hinb2_24_5 (g := (mkF m 24 #[.val (.ref a1), .val (.double d2), .second, .val (.ref b2), .val (.int (0 : Int32))] [(.double (FP.dmul d2 x0)), (.int (0 : Int32)), (.ref b2)])) rfl rfl (hb hby d1_24)
  refine own_go st6 ?_
  have V1'6 := V1'2.other W6 ne_a1_b2
  have Z6 := Nat.le_trans Z2 (Keep.of_wr W6).1
  have K6' := K2'.wr W6 (Or.inr sz_b2)
  have N6 := Fr.snoc X6 N0 g_b2
  have V_b2'6 : Arv Z h6 b2 k2 .double (3 : Int32) [(.double (FP.dmul d2 x0)), (.double (0 : UInt64)), (.double (0 : UInt64))] (.double (0 : UInt64)) := Arv.set Arb2_24_5 qqb2_24_5 Szb2_24_5 Ngb2_24_5 Hsb2_24_5 Gfb2_24_5 rfl W6 0 rfl (Nat.le_of_ble_eq_true rfl)
  show own_Ends p e below s _ _ _ (T6.setTop (mkF m 25 #[.val (.ref a1), .val (.double d2), .second, .val (.ref b2), .val (.int (0 : Int32))] []))
  refine own_go (fun _ k => XT.iincV X6.here hx rfl (1 : Int32) (hb hby d1_25) rfl rfl (l' := #[.val (.ref a1), .val (.double d2), .second, .val (.ref b2), .val (.int (1 : Int32))]) rfl <| XS.goto X6.here hx rfl (pc0 := 28) (pc' := 8) rfl (hb hby d1_28) (by decide) (by decide) <| XS.iload X6.here hx rfl (hb hby d1_8) rfl <| XS.aloadN X6.here hx rfl (hb hby d1_10) rfl rfl <| k) ?_
  show own_Ends p e below s _ _ _ (T6.setTop (mkF m 11 #[.val (.ref a1), .val (.double d2), .second, .val (.ref b2), .val (.int (1 : Int32))] [(.ref a1), (.int (1 : Int32))]))
  obtain ⟨cla1_11_7, Ara1_11_7, qqa1_11_7, Sza1_11_7, Nga1_11_7, Hsa1_11_7, Gfa1_11_7⟩ := id V1'6
  refine own_go (fun _ k => X6.arraylength hx (by first | exact Ara1_11_7.1 | (rw [e6]; exact Ara1_11_7.1)) (State.isArrayOf_alike hZ.alike Ara1_11_7.2.1) (g := (mkF m 11 #[.val (.ref a1), .val (.double d2), .second, .val (.ref b2), .val (.int (1 : Int32))] [(.ref a1), (.int (1 : Int32))])) rfl rfl (hb hby d1_11) _ k) ?_
  rw [len_of Sza1_11_7 Nga1_11_7]
  show own_Ends p e below s _ _ _ (T6.setTop (mkF m 12 #[.val (.ref a1), .val (.double d2), .second, .val (.ref b2), .val (.int (1 : Int32))] [(.int (3 : Int32)), (.int (1 : Int32))]))
  refine own_go (fun _ k => XS.icmpNo X6.here hx rfl (hb hby d1_12) rfl (tlt (by decide)).2.1 <| XS.aloadN X6.here hx rfl (hb hby d1_15) rfl rfl <| XS.iload X6.here hx rfl (hb hby d1_16) rfl <| XS.dloadN X6.here hx rfl (hb hby d1_18) rfl <| XS.aloadN X6.here hx rfl (hb hby d1_19) rfl rfl <| XS.iload X6.here hx rfl (hb hby d1_20) rfl <| k) ?_
  show own_Ends p e below s _ _ _ (T6.setTop (mkF m 22 #[.val (.ref a1), .val (.double d2), .second, .val (.ref b2), .val (.int (1 : Int32))] [(.int (1 : Int32)), (.ref a1), (.double d2), (.int (1 : Int32)), (.ref b2)]))
  obtain ⟨cla1_22_8, Ara1_22_8, qqa1_22_8, Sza1_22_8, Nga1_22_8, Hsa1_22_8, Gfa1_22_8⟩ := id V1'6
  have hina1_22_8 : ¬ ((1 : Int32) < 0 ∨ cla1_22_8.slots.size ≤ ((1 : Int32)).toNatClampNeg) := inb_of Sza1_22_8 ⟨by decide, by decide⟩
  have hata1_22_8 : cla1_22_8.slots[((1 : Int32)).toNatClampNeg]? = some (.double x1) := Hsa1_22_8.at hina1_22_8 rfl
  refine own_go (fun _ k => X6.daload hx (j := (1 : Int32)) (v := (.double x1)) (by first | exact Ara1_22_8.1 | (rw [e6]; exact Ara1_22_8.1)) (State.isArrayOf_alike hZ.alike Ara1_22_8.2.1) Ara1_22_8.2.2 hina1_22_8 hata1_22_8 (g := (mkF m 22 #[.val (.ref a1), .val (.double d2), .second, .val (.ref b2), .val (.int (1 : Int32))] [(.int (1 : Int32)), (.ref a1), (.double d2), (.int (1 : Int32)), (.ref b2)])) rfl rfl (hb hby d1_22) _ k) ?_
  show own_Ends p e below s _ _ _ (T6.setTop (mkF m 23 #[.val (.ref a1), .val (.double d2), .second, .val (.ref b2), .val (.int (1 : Int32))] [(.double x1), (.double d2), (.int (1 : Int32)), (.ref b2)]))
  refine own_go (fun _ k => XS.dmulS X6.here hx rfl (hb hby d1_23) rfl hn1 rfl <| k) ?_
  show own_Ends p e below s _ _ _ (T6.setTop (mkF m 24 #[.val (.ref a1), .val (.double d2), .second, .val (.ref b2), .val (.int (1 : Int32))] [(.double (FP.dmul d2 x1)), (.int (1 : Int32)), (.ref b2)]))
  obtain ⟨clb2_24_9, Arb2_24_9, qqb2_24_9, Szb2_24_9, Ngb2_24_9, Hsb2_24_9, Gfb2_24_9⟩ := id V_b2'6
  have hinb2_24_9 : ¬ ((1 : Int32) < 0 ∨ clb2_24_9.slots.size ≤ ((1 : Int32)).toNatClampNeg) := inb_of Szb2_24_9 ⟨by decide, by decide⟩
  obtain ⟨T10, h10, X10, e10, W10, st10⟩ := stD X6 hx hZ e6 Arb2_24_9 (j := (1 : Int32)) hinb2_24_9 (g := (mkF m 24 #[.val (.ref a1), .val (.double d2), .second, .val (.ref b2), .val (.int (1 : Int32))] [(.double (FP.dmul d2 x1)), (.int (1 : Int32)), (.ref b2)])) rfl rfl (hb hby d1_24)
  refine own_go st10 ?_
  have V1'10 := V1'6.other W10 ne_a1_b2
  have Z10 := Nat.le_trans Z6 (Keep.of_wr W10).1
  have K10' := K6'.wr W10 (Or.inr sz_b2)
  have N10 := Fr.snoc X10 N6 g_b2
  have V_b2'10 : Arv Z h10 b2 k2 .double (3 : Int32) [(.double (FP.dmul d2 x0)), (.double (FP.dmul d2 x1)), (.double (0 : UInt64))] (.double (0 : UInt64)) := Arv.set Arb2_24_9 qqb2_24_9 Szb2_24_9 Ngb2_24_9 Hsb2_24_9 Gfb2_24_9 rfl W10 1 rfl (Nat.le_of_ble_eq_true rfl)
  show own_Ends p e below s _ _ _ (T10.setTop (mkF m 25 #[.val (.ref a1), .val (.double d2), .second, .val (.ref b2), .val (.int (1 : Int32))] []))
  refine own_go (fun _ k => XT.iincV X10.here hx rfl (1 : Int32) (hb hby d1_25) rfl rfl (l' := #[.val (.ref a1), .val (.double d2), .second, .val (.ref b2), .val (.int (2 : Int32))]) rfl <| XS.goto X10.here hx rfl (pc0 := 28) (pc' := 8) rfl (hb hby d1_28) (by decide) (by decide) <| XS.iload X10.here hx rfl (hb hby d1_8) rfl <| XS.aloadN X10.here hx rfl (hb hby d1_10) rfl rfl <| k) ?_
  show own_Ends p e below s _ _ _ (T10.setTop (mkF m 11 #[.val (.ref a1), .val (.double d2), .second, .val (.ref b2), .val (.int (2 : Int32))] [(.ref a1), (.int (2 : Int32))]))
  obtain ⟨cla1_11_11, Ara1_11_11, qqa1_11_11, Sza1_11_11, Nga1_11_11, Hsa1_11_11, Gfa1_11_11⟩ := id V1'10
  refine own_go (fun _ k => X10.arraylength hx (by first | exact Ara1_11_11.1 | (rw [e10]; exact Ara1_11_11.1)) (State.isArrayOf_alike hZ.alike Ara1_11_11.2.1) (g := (mkF m 11 #[.val (.ref a1), .val (.double d2), .second, .val (.ref b2), .val (.int (2 : Int32))] [(.ref a1), (.int (2 : Int32))])) rfl rfl (hb hby d1_11) _ k) ?_
  rw [len_of Sza1_11_11 Nga1_11_11]
  show own_Ends p e below s _ _ _ (T10.setTop (mkF m 12 #[.val (.ref a1), .val (.double d2), .second, .val (.ref b2), .val (.int (2 : Int32))] [(.int (3 : Int32)), (.int (2 : Int32))]))
  refine own_go (fun _ k => XS.icmpNo X10.here hx rfl (hb hby d1_12) rfl (tlt (by decide)).2.1 <| XS.aloadN X10.here hx rfl (hb hby d1_15) rfl rfl <| XS.iload X10.here hx rfl (hb hby d1_16) rfl <| XS.dloadN X10.here hx rfl (hb hby d1_18) rfl <| XS.aloadN X10.here hx rfl (hb hby d1_19) rfl rfl <| XS.iload X10.here hx rfl (hb hby d1_20) rfl <| k) ?_
  show own_Ends p e below s _ _ _ (T10.setTop (mkF m 22 #[.val (.ref a1), .val (.double d2), .second, .val (.ref b2), .val (.int (2 : Int32))] [(.int (2 : Int32)), (.ref a1), (.double d2), (.int (2 : Int32)), (.ref b2)]))
  obtain ⟨cla1_22_12, Ara1_22_12, qqa1_22_12, Sza1_22_12, Nga1_22_12, Hsa1_22_12, Gfa1_22_12⟩ := id V1'10
  have hina1_22_12 : ¬ ((2 : Int32) < 0 ∨ cla1_22_12.slots.size ≤ ((2 : Int32)).toNatClampNeg) := inb_of Sza1_22_12 ⟨by decide, by decide⟩
  have hata1_22_12 : cla1_22_12.slots[((2 : Int32)).toNatClampNeg]? = some (.double x2) := Hsa1_22_12.at hina1_22_12 rfl
  refine own_go (fun _ k => X10.daload hx (j := (2 : Int32)) (v := (.double x2)) (by first | exact Ara1_22_12.1 | (rw [e10]; exact Ara1_22_12.1)) (State.isArrayOf_alike hZ.alike Ara1_22_12.2.1) Ara1_22_12.2.2 hina1_22_12 hata1_22_12 (g := (mkF m 22 #[.val (.ref a1), .val (.double d2), .second, .val (.ref b2), .val (.int (2 : Int32))] [(.int (2 : Int32)), (.ref a1), (.double d2), (.int (2 : Int32)), (.ref b2)])) rfl rfl (hb hby d1_22) _ k) ?_
  show own_Ends p e below s _ _ _ (T10.setTop (mkF m 23 #[.val (.ref a1), .val (.double d2), .second, .val (.ref b2), .val (.int (2 : Int32))] [(.double x2), (.double d2), (.int (2 : Int32)), (.ref b2)]))
  refine own_go (fun _ k => XS.dmulS X10.here hx rfl (hb hby d1_23) rfl hn2 rfl <| k) ?_
  show own_Ends p e below s _ _ _ (T10.setTop (mkF m 24 #[.val (.ref a1), .val (.double d2), .second, .val (.ref b2), .val (.int (2 : Int32))] [(.double (FP.dmul d2 x2)), (.int (2 : Int32)), (.ref b2)]))
  obtain ⟨clb2_24_13, Arb2_24_13, qqb2_24_13, Szb2_24_13, Ngb2_24_13, Hsb2_24_13, Gfb2_24_13⟩ := id V_b2'10
  have hinb2_24_13 : ¬ ((2 : Int32) < 0 ∨ clb2_24_13.slots.size ≤ ((2 : Int32)).toNatClampNeg) := inb_of Szb2_24_13 ⟨by decide, by decide⟩
  obtain ⟨T14, h14, X14, e14, W14, st14⟩ := stD X10 hx hZ e10 Arb2_24_13 (j := (2 : Int32)) hinb2_24_13 (g := (mkF m 24 #[.val (.ref a1), .val (.double d2), .second, .val (.ref b2), .val (.int (2 : Int32))] [(.double (FP.dmul d2 x2)), (.int (2 : Int32)), (.ref b2)])) rfl rfl (hb hby d1_24)
  refine own_go st14 ?_
  have V1'14 := V1'10.other W14 ne_a1_b2
  have Z14 := Nat.le_trans Z10 (Keep.of_wr W14).1
  have K14' := K10'.wr W14 (Or.inr sz_b2)
  have N14 := Fr.snoc X14 N10 g_b2
  have V_b2'14 : Arv Z h14 b2 k2 .double (3 : Int32) [(.double (FP.dmul d2 x0)), (.double (FP.dmul d2 x1)), (.double (FP.dmul d2 x2))] (.double (0 : UInt64)) := Arv.set Arb2_24_13 qqb2_24_13 Szb2_24_13 Ngb2_24_13 Hsb2_24_13 Gfb2_24_13 rfl W14 2 rfl (Nat.le_of_ble_eq_true rfl)
  show own_Ends p e below s _ _ _ (T14.setTop (mkF m 25 #[.val (.ref a1), .val (.double d2), .second, .val (.ref b2), .val (.int (2 : Int32))] []))
  refine own_go (fun _ k => XT.iincV X14.here hx rfl (1 : Int32) (hb hby d1_25) rfl rfl (l' := #[.val (.ref a1), .val (.double d2), .second, .val (.ref b2), .val (.int (3 : Int32))]) rfl <| XS.goto X14.here hx rfl (pc0 := 28) (pc' := 8) rfl (hb hby d1_28) (by decide) (by decide) <| XS.iload X14.here hx rfl (hb hby d1_8) rfl <| XS.aloadN X14.here hx rfl (hb hby d1_10) rfl rfl <| k) ?_
  show own_Ends p e below s _ _ _ (T14.setTop (mkF m 11 #[.val (.ref a1), .val (.double d2), .second, .val (.ref b2), .val (.int (3 : Int32))] [(.ref a1), (.int (3 : Int32))]))
  obtain ⟨cla1_11_15, Ara1_11_15, qqa1_11_15, Sza1_11_15, Nga1_11_15, Hsa1_11_15, Gfa1_11_15⟩ := id V1'14
  refine own_go (fun _ k => X14.arraylength hx (by first | exact Ara1_11_15.1 | (rw [e14]; exact Ara1_11_15.1)) (State.isArrayOf_alike hZ.alike Ara1_11_15.2.1) (g := (mkF m 11 #[.val (.ref a1), .val (.double d2), .second, .val (.ref b2), .val (.int (3 : Int32))] [(.ref a1), (.int (3 : Int32))])) rfl rfl (hb hby d1_11) _ k) ?_
  rw [len_of Sza1_11_15 Nga1_11_15]
  show own_Ends p e below s _ _ _ (T14.setTop (mkF m 12 #[.val (.ref a1), .val (.double d2), .second, .val (.ref b2), .val (.int (3 : Int32))] [(.int (3 : Int32)), (.int (3 : Int32))]))
  refine own_go (fun _ k => XS.icmpYes X14.here hx rfl (pc0 := 12) (pc' := 31) rfl (hb hby d1_12) rfl (flt (by decide)).2.1 (by decide) (by decide) <| XS.aloadN X14.here hx rfl (hb hby d1_31) rfl rfl <| k) ?_
  show own_Ends p e below s _ _ _ (T14.setTop (mkF m 32 #[.val (.ref a1), .val (.double d2), .second, .val (.ref b2), .val (.int (3 : Int32))] [(.ref b2)]))
  exact own_ret X14 hx hrt rfl (Or.inr (Or.inr (Or.inr (Or.inr ⟨rfl, rfl, rfl⟩)))) (hb hby d1_32) hlk (by rw [e14]; exact ⟨_, _, rfl, N14, K14', g_b2, sz_b2, V_b2'14⟩) (by decide) (by decide)
theorem d2_0 : decode method_2_code 0 = .ok (.iload_n 0, 1) := by decide +kernel
theorem d2_1 : decode method_2_code 1 = .ok (.i2l, 1) := by decide +kernel
theorem d2_2 : decode method_2_code 2 = .ok (.iload_n 1, 1) := by decide +kernel
theorem d2_3 : decode method_2_code 3 = .ok (.i2l, 1) := by decide +kernel
theorem d2_4 : decode method_2_code 4 = .ok (.lmul, 1) := by decide +kernel
theorem d2_5 : decode method_2_code 5 = .ok (.l2d, 1) := by decide +kernel
theorem d2_6 : decode method_2_code 6 = .ok (.dreturn, 1) := by decide +kernel
theorem pn_1 : plainName "com/example/weftbind/weftbind/LevelPricesScaledPinLaw" = true := by first | (simp [plainName, overriddenIn]; done) | decide +kernel
theorem ef_2 (m : MethodId) (x0 : Int32) (x1 : Int32) : entryFrame m #[(.int x0), (.int x1)] 2 = mkF m 0 #[.val (.int x0), .val (.int x1)] [] := by first | (simp [entryFrame, mkF, argsToLocals, Value.category]; done) | rfl
def Q2 (p1 : Int32) (p2 : Int32) (h0 : Heap) (n0 : Nat) (Z : State) (v : Option Value) (h : Heap) (L : List Loc) : Prop := v = some (.double (FP.l2d (p1.toInt64 * p2.toInt64))) ∧ Fr n0 L ∧ h = h0
set_option maxRecDepth 65536 in
set_option maxHeartbeats 40000000 in
theorem rm2 (l : Launch) (Z : State) (a0 : Array Value) (hw : ∀ d ∈ tables_1, d.before a0 Z = true) (ws : List Jvm.Cond) (p1 : Int32) (p2 : Int32) (h0 : Heap) (n0 : Nat) (Z0 : n0 ≤ h0.size) :
    MetFree l (⟨"com/example/weftbind/weftbind/LevelPricesScaledPinLaw", "product", "(II)D"⟩ : MethodName) (head1 (Jvm.Cond.code (⟨"com/example/weftbind/weftbind/LevelPricesScaledPinLaw", "product", "(II)D"⟩ : MethodName) method_2_code 2 (some .double) :: ws) ({ frames := 0, cells := 0, slots := 0, locals := 0 } : Room)) (fun a U => a = #[(.int p1), (.int p2)] ∧ Z.Warmed39 U.vm ∧ U.heap = h0) (fun _ _ _ _ _ => True) (fun _ U o U' => ∃ v L, o = .returned v ∧ Q2 p1 p2 h0 n0 Z v U'.heap L ∧ FrameEnd U o U' L ({ frames := 0, cells := 0, slots := 0, locals := 0 } : Room).cells ({ frames := 0, cells := 0, slots := 0, locals := 0 } : Room).slots) := by
  refine MetFree.of_bodySF (plainFor_of_name pn_1) hisR ?_
  intro p e s m args below meth c s₁ Bd hml0 hP hK
  obtain ⟨rfl, hZ, hh⟩ := hP
  have hx := Bd.exec
  have hby := Bd.bytes
  have hml : c.maxLocals = 2 := hml0
  have hown : s.vm.findClass "com/example/weftbind/weftbind/LevelPricesScaledPinLaw" = some m.cls := findClass_of_methodNamed Bd.named
  have hnm := (name_of_methodNamed Bd.named Bd.method).1
  have hlk := Bd.notSynchronized
  have hrt := Bd.returns
  have X0 : Stand p l e ({ frames := 0, cells := 0, slots := 0, locals := 0 } : Room) s m #[(.int p1), (.int p2)] below meth c s₁ [] 0 0 := Stand.of_body Bd
  have e0 : s₁.heap = h0 := by rw [← hh, Bd.state]; rfl
  have N0 := Fr.nil n0
  show own_Ends p e below s (Q2 p1 p2 h0 n0 Z) ({ frames := 0, cells := 0, slots := 0, locals := 0 } : Room).cells ({ frames := 0, cells := 0, slots := 0, locals := 0 } : Room).slots (s₁.setTop (entryFrame m #[(.int p1), (.int p2)] 2))
  rw [ef_2]
  refine own_go (fun _ k => XS.iloadN X0.here hx rfl (hb hby d2_0) rfl <| XS.i2l X0.here hx rfl (hb hby d2_1) rfl <| XS.iloadN X0.here hx rfl (hb hby d2_2) rfl <| XS.i2l X0.here hx rfl (hb hby d2_3) rfl <| XS.lmul X0.here hx rfl (hb hby d2_4) rfl <| XS.l2dS X0.here hx rfl (hb hby d2_5) rfl rfl <| k) ?_
  show own_Ends p e below s _ _ _ (s₁.setTop (mkF m 6 #[.val (.int p1), .val (.int p2)] [(.double (FP.l2d ((p1.toInt64) * (p2.toInt64))))]))
  exact own_ret X0 hx hrt rfl (Or.inr (Or.inr (Or.inl ⟨rfl, rfl, _, rfl⟩))) (hb hby d2_6) hlk (by rw [e0]; exact ⟨rfl, N0, rfl⟩) (by decide) (by decide)
theorem ef_0 (m : MethodId) (x0 : Int32) (x1 : Int32) (x2 : Int32) (x3 : Int32) : entryFrame m #[(.int x0), (.int x1), (.int x2), (.int x3)] maxLocals = mkF m 0 #[.val (.int x0), .val (.int x1), .val (.int x2), .val (.int x3), .unset, .unset, .unset, .unset, .unset, .unset] [] := by first | (simp [entryFrame, mkF, argsToLocals, Value.category, maxLocals]; done) | rfl
def Q0 (p1 : Int32) (p2 : Int32) (p3 : Int32) (p4 : Int32) (h0 : Heap) (n0 : Nat) (Z : State) (v : Option Value) (h : Heap) (L : List Loc) : Prop := v = some (.int 1) ∧ Fr n0 L
set_option maxRecDepth 65536 in
set_option maxHeartbeats 40000000 in
theorem rm0 (l : Launch) (Z : State) (a0 : Array Value) (hw : ∀ d ∈ tables_1, d.before a0 Z = true) (ws : List Jvm.Cond) (p1 : Int32) (p2 : Int32) (p3 : Int32) (p4 : Int32) (h0 : Heap) (n0 : Nat) (Z0 : n0 ≤ h0.size) :
    MetFree l x (head1 (Jvm.Cond.code x code maxLocals ret :: ws) room_1) (fun a U => a = #[(.int p1), (.int p2), (.int p3), (.int p4)] ∧ Z.Warmed39 U.vm ∧ U.heap = h0) (fun _ _ _ _ _ => True) (fun _ U o U' => ∃ v L, o = .returned v ∧ Q0 p1 p2 p3 p4 h0 n0 Z v U'.heap L ∧ FrameEnd U o U' L room_1.cells room_1.slots) := by
  refine MetFree.of_bodySF (plainFor_of_name pn_1) hisR ?_
  intro p e s m args below meth c s₁ Bd hml0 hP hK
  obtain ⟨rfl, hZ, hh⟩ := hP
  have hx := Bd.exec
  have hby := Bd.bytes
  have hml : c.maxLocals = 10 := hml0
  have hown : s.vm.findClass "com/example/weftbind/weftbind/LevelPricesScaledPinLaw" = some m.cls := findClass_of_methodNamed Bd.named
  have hnm := (name_of_methodNamed Bd.named Bd.method).1
  have hlk := Bd.notSynchronized
  have hrt := Bd.returns
  have X0 : Stand p l e room_1 s m #[(.int p1), (.int p2), (.int p3), (.int p4)] below meth c s₁ [] 0 0 := Stand.of_body Bd
  have e0 : s₁.heap = h0 := by rw [← hh, Bd.state]; rfl
  have N0 := Fr.nil n0
  show own_Ends p e below s (Q0 p1 p2 p3 p4 h0 n0 Z) room_1.cells room_1.slots (s₁.setTop (entryFrame m #[(.int p1), (.int p2), (.int p3), (.int p4)] maxLocals))
  rw [ef_0]
  refine own_go (fun _ k => XT.iconstV X0.here hx rfl (3 : Int32) (hb hby at_0) rfl <| k) ?_
  show own_Ends p e below s _ _ _ (s₁.setTop (mkF m 1 #[.val (.int p1), .val (.int p2), .val (.int p3), .val (.int p4), .unset, .unset, .unset, .unset, .unset, .unset] [(.int (3 : Int32))]))
  obtain ⟨T1, h1, k1, X1, e1, E1, A1, st1⟩ := newP X0 hx hZ (hw _ (List.mem_of_getElem? (i := 0) rfl)) e0 (g := (mkF m 1 #[.val (.int p1), .val (.int p2), .val (.int p3), .val (.int p4), .unset, .unset, .unset, .unset, .unset, .unset] [(.int (3 : Int32))])) rfl (hb hby at_1) rfl (by decide) (cap := 3) (by decide) (by decide) (by decide) (by decide)
  obtain ⟨b1, g1⟩ : ∃ z, z = h0.size := ⟨_, rfl⟩
  rw [← g1] at A1 st1
  refine own_go st1 ?_
  have g_b1 : n0 ≤ b1 := Nat.le_trans Z0 (Nat.le_of_eq g1.symm)
  have Z1 := Nat.le_trans Z0 E1.1
  have V_b1 : Arv Z h1 b1 k1 .double (3 : Int32) [(.double (0 : UInt64)), (.double (0 : UInt64)), (.double (0 : UInt64))] (.double (0 : UInt64)) := (Arv.new A1 (by decide)).pad (pad_rep [] (.double (0 : UInt64)) 3)
  show own_Ends p e below s _ _ _ (T1.setTop (mkF m 3 #[.val (.int p1), .val (.int p2), .val (.int p3), .val (.int p4), .unset, .unset, .unset, .unset, .unset, .unset] [(.ref b1)]))
  refine own_go (fun _ k => XS.astore X1.here hx rfl (hb hby at_3) rfl rfl (l' := #[.val (.int p1), .val (.int p2), .val (.int p3), .val (.int p4), .val (.ref b1), .unset, .unset, .unset, .unset, .unset]) rfl <| XS.aload X1.here hx rfl (hb hby at_5) rfl rfl <| XT.iconstV X1.here hx rfl (0 : Int32) (hb hby at_7) rfl <| XS.iloadN X1.here hx rfl (hb hby at_8) rfl <| XS.i2dS X1.here hx rfl (hb hby at_9) rfl rfl <| k) ?_
  show own_Ends p e below s _ _ _ (T1.setTop (mkF m 10 #[.val (.int p1), .val (.int p2), .val (.int p3), .val (.int p4), .val (.ref b1), .unset, .unset, .unset, .unset, .unset] [(.double (FP.i2d p1)), (.int (0 : Int32)), (.ref b1)]))
  obtain ⟨clb1_10_2, Arb1_10_2, qqb1_10_2, Szb1_10_2, Ngb1_10_2, Hsb1_10_2, Gfb1_10_2⟩ := id V_b1
  have hinb1_10_2 : ¬ ((0 : Int32) < 0 ∨ clb1_10_2.slots.size ≤ ((0 : Int32)).toNatClampNeg) := inb_of Szb1_10_2 ⟨by decide, by decide⟩
  obtain ⟨T3, h3, X3, e3, W3, st3⟩ := stD X1 hx hZ e1 Arb1_10_2 (j := (0 : Int32)) hinb1_10_2 (g := (mkF m 10 #[.val (.int p1), .val (.int p2), .val (.int p3), .val (.int p4), .val (.ref b1), .unset, .unset, .unset, .unset, .unset] [(.double (FP.i2d p1)), (.int (0 : Int32)), (.ref b1)])) rfl rfl (hb hby at_10)
  refine own_go st3 ?_
  have Z3 := Nat.le_trans Z1 (Keep.of_wr W3).1
  have N3 := Fr.snoc X3 N0 g_b1
  have V_b1'3 : Arv Z h3 b1 k1 .double (3 : Int32) [(.double (FP.i2d p1)), (.double (0 : UInt64)), (.double (0 : UInt64))] (.double (0 : UInt64)) := Arv.set Arb1_10_2 qqb1_10_2 Szb1_10_2 Ngb1_10_2 Hsb1_10_2 Gfb1_10_2 rfl W3 0 rfl (Nat.le_of_ble_eq_true rfl)
  show own_Ends p e below s _ _ _ (T3.setTop (mkF m 11 #[.val (.int p1), .val (.int p2), .val (.int p3), .val (.int p4), .val (.ref b1), .unset, .unset, .unset, .unset, .unset] []))
  refine own_go (fun _ k => XS.aload X3.here hx rfl (hb hby at_11) rfl rfl <| XT.iconstV X3.here hx rfl (1 : Int32) (hb hby at_13) rfl <| XS.iloadN X3.here hx rfl (hb hby at_14) rfl <| XS.i2dS X3.here hx rfl (hb hby at_15) rfl rfl <| k) ?_
  show own_Ends p e below s _ _ _ (T3.setTop (mkF m 16 #[.val (.int p1), .val (.int p2), .val (.int p3), .val (.int p4), .val (.ref b1), .unset, .unset, .unset, .unset, .unset] [(.double (FP.i2d p2)), (.int (1 : Int32)), (.ref b1)]))
  obtain ⟨clb1_16_4, Arb1_16_4, qqb1_16_4, Szb1_16_4, Ngb1_16_4, Hsb1_16_4, Gfb1_16_4⟩ := id V_b1'3
  have hinb1_16_4 : ¬ ((1 : Int32) < 0 ∨ clb1_16_4.slots.size ≤ ((1 : Int32)).toNatClampNeg) := inb_of Szb1_16_4 ⟨by decide, by decide⟩
  obtain ⟨T5, h5, X5, e5, W5, st5⟩ := stD X3 hx hZ e3 Arb1_16_4 (j := (1 : Int32)) hinb1_16_4 (g := (mkF m 16 #[.val (.int p1), .val (.int p2), .val (.int p3), .val (.int p4), .val (.ref b1), .unset, .unset, .unset, .unset, .unset] [(.double (FP.i2d p2)), (.int (1 : Int32)), (.ref b1)])) rfl rfl (hb hby at_16)
  refine own_go st5 ?_
  have Z5 := Nat.le_trans Z3 (Keep.of_wr W5).1
  have N5 := Fr.snoc X5 N3 g_b1
  have V_b1'5 : Arv Z h5 b1 k1 .double (3 : Int32) [(.double (FP.i2d p1)), (.double (FP.i2d p2)), (.double (0 : UInt64))] (.double (0 : UInt64)) := Arv.set Arb1_16_4 qqb1_16_4 Szb1_16_4 Ngb1_16_4 Hsb1_16_4 Gfb1_16_4 rfl W5 1 rfl (Nat.le_of_ble_eq_true rfl)
  show own_Ends p e below s _ _ _ (T5.setTop (mkF m 17 #[.val (.int p1), .val (.int p2), .val (.int p3), .val (.int p4), .val (.ref b1), .unset, .unset, .unset, .unset, .unset] []))
  refine own_go (fun _ k => XS.aload X5.here hx rfl (hb hby at_17) rfl rfl <| XT.iconstV X5.here hx rfl (2 : Int32) (hb hby at_19) rfl <| XS.iloadN X5.here hx rfl (hb hby at_20) rfl <| XS.i2dS X5.here hx rfl (hb hby at_21) rfl rfl <| k) ?_
  show own_Ends p e below s _ _ _ (T5.setTop (mkF m 22 #[.val (.int p1), .val (.int p2), .val (.int p3), .val (.int p4), .val (.ref b1), .unset, .unset, .unset, .unset, .unset] [(.double (FP.i2d p3)), (.int (2 : Int32)), (.ref b1)]))
  obtain ⟨clb1_22_6, Arb1_22_6, qqb1_22_6, Szb1_22_6, Ngb1_22_6, Hsb1_22_6, Gfb1_22_6⟩ := id V_b1'5
  have hinb1_22_6 : ¬ ((2 : Int32) < 0 ∨ clb1_22_6.slots.size ≤ ((2 : Int32)).toNatClampNeg) := inb_of Szb1_22_6 ⟨by decide, by decide⟩
  obtain ⟨T7, h7, X7, e7, W7, st7⟩ := stD X5 hx hZ e5 Arb1_22_6 (j := (2 : Int32)) hinb1_22_6 (g := (mkF m 22 #[.val (.int p1), .val (.int p2), .val (.int p3), .val (.int p4), .val (.ref b1), .unset, .unset, .unset, .unset, .unset] [(.double (FP.i2d p3)), (.int (2 : Int32)), (.ref b1)])) rfl rfl (hb hby at_22)
  refine own_go st7 ?_
  have Z7 := Nat.le_trans Z5 (Keep.of_wr W7).1
  have N7 := Fr.snoc X7 N5 g_b1
  have V_b1'7 : Arv Z h7 b1 k1 .double (3 : Int32) [(.double (FP.i2d p1)), (.double (FP.i2d p2)), (.double (FP.i2d p3))] (.double (0 : UInt64)) := Arv.set Arb1_22_6 qqb1_22_6 Szb1_22_6 Ngb1_22_6 Hsb1_22_6 Gfb1_22_6 rfl W7 2 rfl (Nat.le_of_ble_eq_true rfl)
  show own_Ends p e below s _ _ _ (T7.setTop (mkF m 23 #[.val (.int p1), .val (.int p2), .val (.int p3), .val (.int p4), .val (.ref b1), .unset, .unset, .unset, .unset, .unset] []))
  refine own_go (fun _ k => XS.iloadN X7.here hx rfl (hb hby at_23) rfl <| XS.i2dS X7.here hx rfl (hb hby at_24) rfl rfl <| XS.dstore X7.here hx rfl (hb hby at_25) rfl (l' := #[.val (.int p1), .val (.int p2), .val (.int p3), .val (.int p4), .val (.ref b1), .val (.double (FP.i2d p4)), .second, .unset, .unset, .unset]) rfl <| XT.iconstV X7.here hx rfl (0 : Int32) (hb hby at_27) rfl <| k) ?_
  show own_Ends p e below s _ _ _ (T7.setTop (mkF m 28 #[.val (.int p1), .val (.int p2), .val (.int p3), .val (.int p4), .val (.ref b1), .val (.double (FP.i2d p4)), .second, .unset, .unset, .unset] [(.int (0 : Int32))]))
  obtain ⟨T8, h8, k8, X8, e8, E8, A8, st8⟩ := newP X7 hx hZ (hw _ (List.mem_of_getElem? (i := 0) rfl)) e7 (g := (mkF m 28 #[.val (.int p1), .val (.int p2), .val (.int p3), .val (.int p4), .val (.ref b1), .val (.double (FP.i2d p4)), .second, .unset, .unset, .unset] [(.int (0 : Int32))])) rfl (hb hby at_28) rfl (by decide) (cap := 0) (by decide) (by decide) (by decide) (by decide)
  obtain ⟨b8, g8⟩ : ∃ z, z = h7.size := ⟨_, rfl⟩
  rw [← g8] at A8 st8
  refine own_go st8 ?_
  have ne_b1_b8 : b1 ≠ b8 := Nat.ne_of_lt (Nat.lt_of_lt_of_le V_b1'7.lt (Nat.le_of_eq g8.symm))
  have g_b8 : n0 ≤ b8 := Nat.le_trans Z7 (Nat.le_of_eq g8.symm)
  have V_b1'8 := V_b1'7.ext E8
  have Z8 := Nat.le_trans Z7 E8.1
  have V_b8 : Arv Z h8 b8 k8 .double (0 : Int32) [] (.double (0 : UInt64)) := Arv.new A8 (by decide)
  show own_Ends p e below s _ _ _ (T8.setTop (mkF m 30 #[.val (.int p1), .val (.int p2), .val (.int p3), .val (.int p4), .val (.ref b1), .val (.double (FP.i2d p4)), .second, .unset, .unset, .unset] [(.ref b8)]))
  refine own_go (fun _ k => XS.astore X8.here hx rfl (hb hby at_30) rfl rfl (l' := #[.val (.int p1), .val (.int p2), .val (.int p3), .val (.int p4), .val (.ref b1), .val (.double (FP.i2d p4)), .second, .val (.ref b8), .unset, .unset]) rfl <| XS.aload X8.here hx rfl (hb hby at_32) rfl rfl <| XS.dload X8.here hx rfl (hb hby at_34) rfl <| k) ?_
  show own_Ends p e below s _ _ _ (T8.setTop (mkF m 36 #[.val (.int p1), .val (.int p2), .val (.int p3), .val (.int p4), .val (.ref b1), .val (.double (FP.i2d p4)), .second, .val (.ref b8), .unset, .unset] [(.double (FP.i2d p4)), (.ref b8)]))
  obtain ⟨_, _, ⟨T9, L9, k9, n9⟩, -, X9, ⟨Lc9, hQ9, l9, y9, z9⟩, st9⟩ := Jvm.LawKit.callS X8 hx (y := (⟨"com/example/weftbind/weftbind/LevelPrices", "scaled", "([DD)[D"⟩ : MethodName)) hown (mvT hZ (hw _ (List.mem_of_getElem? (i := 1) rfl))) (mvT hZ (hw _ (List.mem_of_getElem? (i := 2) rfl))) (mvT hZ (hw _ (List.mem_of_getElem? (i := 3) rfl))) (mvT hZ (hw _ (List.mem_of_getElem? (i := 4) rfl))) (by decide) (backOf (W := 0) (rmS0 l Z a0 hw [] b8 (FP.i2d p4) k8  h8 n0 Z8 V_b8 ) hZ (hw _ (List.mem_of_getElem? (i := 4) rfl)) (hw _ (List.mem_of_getElem? (i := 3) rfl)) (by decide) (by decide)) (g := (mkF m 36 #[.val (.int p1), .val (.int p2), .val (.int p3), .val (.int p4), .val (.ref b1), .val (.double (FP.i2d p4)), .second, .val (.ref b8), .unset, .unset] [(.double (FP.i2d p4)), (.ref b8)])) rfl (by rw [hml]; rfl) (argsL := [(.ref b8), (.double (FP.i2d p4))]) (rest := []) (lenOf pd_0 rfl) rfl (by show 2 * 0 + _ ≤ _; exact Nat.le_of_eq rfl) (hb hby at_36) (fun _ _ => ⟨rfl, e8, Nat.le_of_ble_eq_true rfl, Nat.le_of_ble_eq_true rfl⟩)
  dsimp only [Pt.U, Pt.locs, Pt.cells, Pt.slots] at X9 l9 y9 z9 st9 hQ9
  subst l9 y9 z9
  obtain ⟨b9, kb9, rfl, N9q, K9, g9, sz9, Vb9⟩ := hQ9
  have N9 := Fr.app N7 N9q
  refine own_go (fun _ k => st9 _ k) ?_
  have V_b1'9 := V_b1'8.keep K9 nin0
  have V_b8'9 := V_b8.keep K9 nin0
  have Z9 := Nat.le_trans Z8 K9.1
  show own_Ends p e below s _ _ _ (T9.setTop (mkF m 39 #[.val (.int p1), .val (.int p2), .val (.int p3), .val (.int p4), .val (.ref b1), .val (.double (FP.i2d p4)), .second, .val (.ref b8), .unset, .unset] [(.ref b9)]))
  have ne_b1_b9 : b1 ≠ b9 := Nat.ne_of_lt (Nat.lt_of_lt_of_le V_b1'8.lt sz9)
  have ne_b8_b9 : b8 ≠ b9 := Nat.ne_of_lt (Nat.lt_of_lt_of_le V_b8.lt sz9)
  refine own_go (fun _ k => XS.astore X9.here hx rfl (hb hby at_39) rfl rfl (l' := #[.val (.int p1), .val (.int p2), .val (.int p3), .val (.int p4), .val (.ref b1), .val (.double (FP.i2d p4)), .second, .val (.ref b8), .val (.ref b9), .unset]) rfl <| XS.aload X9.here hx rfl (hb hby at_41) rfl rfl <| XS.dload X9.here hx rfl (hb hby at_43) rfl <| k) ?_
  show own_Ends p e below s _ _ _ (T9.setTop (mkF m 45 #[.val (.int p1), .val (.int p2), .val (.int p3), .val (.int p4), .val (.ref b1), .val (.double (FP.i2d p4)), .second, .val (.ref b8), .val (.ref b9), .unset] [(.double (FP.i2d p4)), (.ref b1)]))
  obtain ⟨_, _, ⟨T10, L10, k10, n10⟩, -, X10, ⟨Lc10, hQ10, l10, y10, z10⟩, st10⟩ := Jvm.LawKit.callS X9 hx (y := (⟨"com/example/weftbind/weftbind/LevelPrices", "scaled", "([DD)[D"⟩ : MethodName)) hown (mvT hZ (hw _ (List.mem_of_getElem? (i := 1) rfl))) (mvT hZ (hw _ (List.mem_of_getElem? (i := 2) rfl))) (mvT hZ (hw _ (List.mem_of_getElem? (i := 3) rfl))) (mvT hZ (hw _ (List.mem_of_getElem? (i := 4) rfl))) (by decide) (backOf (W := 0) (rmS3 l Z a0 hw [] b1 (FP.i2d p4) k1 (FP.i2d p1) (FP.i2d p2) (FP.i2d p3) T9.heap n0 Z9 V_b1'9 (own_nn _ _) (own_nn _ _) (own_nn _ _)) hZ (hw _ (List.mem_of_getElem? (i := 4) rfl)) (hw _ (List.mem_of_getElem? (i := 3) rfl)) (by decide) (by decide)) (g := (mkF m 45 #[.val (.int p1), .val (.int p2), .val (.int p3), .val (.int p4), .val (.ref b1), .val (.double (FP.i2d p4)), .second, .val (.ref b8), .val (.ref b9), .unset] [(.double (FP.i2d p4)), (.ref b1)])) rfl (by rw [hml]; rfl) (argsL := [(.ref b1), (.double (FP.i2d p4))]) (rest := []) (lenOf pd_0 rfl) rfl (by show 2 * 0 + _ ≤ _; exact Nat.le_of_eq rfl) (hb hby at_45) (fun _ _ => ⟨rfl, rfl, Nat.le_of_ble_eq_true rfl, Nat.le_of_ble_eq_true rfl⟩)
  dsimp only [Pt.U, Pt.locs, Pt.cells, Pt.slots] at X10 l10 y10 z10 st10 hQ10
  subst l10 y10 z10
  obtain ⟨b10, kb10, rfl, N10q, K10, g10, sz10, Vb10⟩ := hQ10
  have N10 := Fr.app N9 N10q
  refine own_go (fun _ k => st10 _ k) ?_
  have V_b1'10 := V_b1'9.keep K10 nin0
  have V_b8'10 := V_b8'9.keep K10 nin0
  have Vb9'10 := Vb9.keep K10 nin0
  have Z10 := Nat.le_trans Z9 K10.1
  show own_Ends p e below s _ _ _ (T10.setTop (mkF m 48 #[.val (.int p1), .val (.int p2), .val (.int p3), .val (.int p4), .val (.ref b1), .val (.double (FP.i2d p4)), .second, .val (.ref b8), .val (.ref b9), .unset] [(.ref b10)]))
  have ne_b1_b10 : b1 ≠ b10 := Nat.ne_of_lt (Nat.lt_of_lt_of_le V_b1'9.lt sz10)
  have ne_b8_b10 : b8 ≠ b10 := Nat.ne_of_lt (Nat.lt_of_lt_of_le V_b8'9.lt sz10)
  have ne_b9_b10 : b9 ≠ b10 := Nat.ne_of_lt (Nat.lt_of_lt_of_le Vb9.lt sz10)
  refine own_go (fun _ k => XS.astore X10.here hx rfl (hb hby at_48) rfl rfl (l' := #[.val (.int p1), .val (.int p2), .val (.int p3), .val (.int p4), .val (.ref b1), .val (.double (FP.i2d p4)), .second, .val (.ref b8), .val (.ref b9), .val (.ref b10)]) rfl <| XS.aload X10.here hx rfl (hb hby at_50) rfl rfl <| k) ?_
  show own_Ends p e below s _ _ _ (T10.setTop (mkF m 52 #[.val (.int p1), .val (.int p2), .val (.int p3), .val (.int p4), .val (.ref b1), .val (.double (FP.i2d p4)), .second, .val (.ref b8), .val (.ref b9), .val (.ref b10)] [(.ref b9)]))
  obtain ⟨clb9_52_11, Arb9_52_11, qqb9_52_11, Szb9_52_11, Ngb9_52_11, Hsb9_52_11, Gfb9_52_11⟩ := id Vb9'10
  refine own_go (fun _ k => X10.arraylength hx (by first | exact Arb9_52_11.1 | (rw [rfl]; exact Arb9_52_11.1)) (State.isArrayOf_alike hZ.alike Arb9_52_11.2.1) (g := (mkF m 52 #[.val (.int p1), .val (.int p2), .val (.int p3), .val (.int p4), .val (.ref b1), .val (.double (FP.i2d p4)), .second, .val (.ref b8), .val (.ref b9), .val (.ref b10)] [(.ref b9)])) rfl rfl (hb hby at_52) _ k) ?_
  rw [len_of Szb9_52_11 Ngb9_52_11]
  show own_Ends p e below s _ _ _ (T10.setTop (mkF m 53 #[.val (.int p1), .val (.int p2), .val (.int p3), .val (.int p4), .val (.ref b1), .val (.double (FP.i2d p4)), .second, .val (.ref b8), .val (.ref b9), .val (.ref b10)] [(.int (0 : Int32))]))
  refine own_go (fun _ k => XS.ifNo X10.here hx rfl (hb hby at_53) rfl ((if0 _ _).trans (teq (by decide)).2) <| XS.aload X10.here hx rfl (hb hby at_56) rfl rfl <| XS.aload X10.here hx rfl (hb hby at_58) rfl rfl <| k) ?_
  show own_Ends p e below s _ _ _ (T10.setTop (mkF m 60 #[.val (.int p1), .val (.int p2), .val (.int p3), .val (.int p4), .val (.ref b1), .val (.double (FP.i2d p4)), .second, .val (.ref b8), .val (.ref b9), .val (.ref b10)] [(.ref b1), (.ref b10)]))
  refine own_go (fun _ k => Jvm.RoadKit.acmp (g := (mkF m 60 #[.val (.int p1), .val (.int p2), .val (.int p3), .val (.int p4), .val (.ref b1), .val (.double (FP.i2d p4)), .second, .val (.ref b8), .val (.ref b9), .val (.ref b10)] [(.ref b1), (.ref b10)])) X10 hx rfl rfl rfl (pc0 := 60) (pc' := 63) (same := false) rfl (hb hby at_60) rfl (decide_eq_false (fun q => (Ne.symm ne_b1_b10) (Value.ref.inj q))) (by decide) (by decide) <| XS.aload X10.here hx rfl (hb hby at_63) rfl rfl <| k) ?_
  show own_Ends p e below s _ _ _ (T10.setTop (mkF m 65 #[.val (.int p1), .val (.int p2), .val (.int p3), .val (.int p4), .val (.ref b1), .val (.double (FP.i2d p4)), .second, .val (.ref b8), .val (.ref b9), .val (.ref b10)] [(.ref b10)]))
  obtain ⟨clb10_65_12, Arb10_65_12, qqb10_65_12, Szb10_65_12, Ngb10_65_12, Hsb10_65_12, Gfb10_65_12⟩ := id Vb10
  refine own_go (fun _ k => X10.arraylength hx (by first | exact Arb10_65_12.1 | (rw [rfl]; exact Arb10_65_12.1)) (State.isArrayOf_alike hZ.alike Arb10_65_12.2.1) (g := (mkF m 65 #[.val (.int p1), .val (.int p2), .val (.int p3), .val (.int p4), .val (.ref b1), .val (.double (FP.i2d p4)), .second, .val (.ref b8), .val (.ref b9), .val (.ref b10)] [(.ref b10)])) rfl rfl (hb hby at_65) _ k) ?_
  rw [len_of Szb10_65_12 Ngb10_65_12]
  show own_Ends p e below s _ _ _ (T10.setTop (mkF m 66 #[.val (.int p1), .val (.int p2), .val (.int p3), .val (.int p4), .val (.ref b1), .val (.double (FP.i2d p4)), .second, .val (.ref b8), .val (.ref b9), .val (.ref b10)] [(.int (3 : Int32))]))
  refine own_go (fun _ k => XT.iconstV X10.here hx rfl (3 : Int32) (hb hby at_66) rfl <| XS.icmpNo X10.here hx rfl (hb hby at_67) rfl (teq (by decide)).2 <| XS.aload X10.here hx rfl (hb hby at_70) rfl rfl <| XT.iconstV X10.here hx rfl (0 : Int32) (hb hby at_72) rfl <| k) ?_
  show own_Ends p e below s _ _ _ (T10.setTop (mkF m 73 #[.val (.int p1), .val (.int p2), .val (.int p3), .val (.int p4), .val (.ref b1), .val (.double (FP.i2d p4)), .second, .val (.ref b8), .val (.ref b9), .val (.ref b10)] [(.int (0 : Int32)), (.ref b10)]))
  obtain ⟨clb10_73_13, Arb10_73_13, qqb10_73_13, Szb10_73_13, Ngb10_73_13, Hsb10_73_13, Gfb10_73_13⟩ := id Vb10
  have hinb10_73_13 : ¬ ((0 : Int32) < 0 ∨ clb10_73_13.slots.size ≤ ((0 : Int32)).toNatClampNeg) := inb_of Szb10_73_13 ⟨by decide, by decide⟩
  have hatb10_73_13 : clb10_73_13.slots[((0 : Int32)).toNatClampNeg]? = some (.double (FP.dmul (FP.i2d p4) (FP.i2d p1))) := Hsb10_73_13.at hinb10_73_13 rfl
  refine own_go (fun _ k => X10.daload hx (j := (0 : Int32)) (v := (.double (FP.dmul (FP.i2d p4) (FP.i2d p1)))) (by first | exact Arb10_73_13.1 | (rw [rfl]; exact Arb10_73_13.1)) (State.isArrayOf_alike hZ.alike Arb10_73_13.2.1) Arb10_73_13.2.2 hinb10_73_13 hatb10_73_13 (g := (mkF m 73 #[.val (.int p1), .val (.int p2), .val (.int p3), .val (.int p4), .val (.ref b1), .val (.double (FP.i2d p4)), .second, .val (.ref b8), .val (.ref b9), .val (.ref b10)] [(.int (0 : Int32)), (.ref b10)])) rfl rfl (hb hby at_73) _ k) ?_
  show own_Ends p e below s _ _ _ (T10.setTop (mkF m 74 #[.val (.int p1), .val (.int p2), .val (.int p3), .val (.int p4), .val (.ref b1), .val (.double (FP.i2d p4)), .second, .val (.ref b8), .val (.ref b9), .val (.ref b10)] [(.double (FP.dmul (FP.i2d p4) (FP.i2d p1)))]))
  refine own_go (fun _ k => XS.iloadN X10.here hx rfl (hb hby at_74) rfl <| XS.iloadN X10.here hx rfl (hb hby at_75) rfl <| k) ?_
  show own_Ends p e below s _ _ _ (T10.setTop (mkF m 76 #[.val (.int p1), .val (.int p2), .val (.int p3), .val (.int p4), .val (.ref b1), .val (.double (FP.i2d p4)), .second, .val (.ref b8), .val (.ref b9), .val (.ref b10)] [(.int p4), (.int p1), (.double (FP.dmul (FP.i2d p4) (FP.i2d p1)))]))
  obtain ⟨_, _, ⟨T14, L14, k14, n14⟩, -, X14, ⟨Lc14, hQ14, l14, y14, z14⟩, st14⟩ := Jvm.LawKit.callS X10 hx (y := (⟨"com/example/weftbind/weftbind/LevelPricesScaledPinLaw", "product", "(II)D"⟩ : MethodName)) hown (mvT hZ (hw _ (List.mem_of_getElem? (i := 5) rfl))) (mvT hZ (hw _ (List.mem_of_getElem? (i := 6) rfl))) (mvT hZ (hw _ (List.mem_of_getElem? (i := 7) rfl))) (mvT hZ (hw _ (List.mem_of_getElem? (i := 8) rfl))) (by decide) (backOf (W := 2) (rm2 l Z a0 hw [] p1 p4 T10.heap n0 Z10) hZ (hw _ (List.mem_of_getElem? (i := 8) rfl)) (hw _ (List.mem_of_getElem? (i := 7) rfl)) (by decide) (by decide)) (g := (mkF m 76 #[.val (.int p1), .val (.int p2), .val (.int p3), .val (.int p4), .val (.ref b1), .val (.double (FP.i2d p4)), .second, .val (.ref b8), .val (.ref b9), .val (.ref b10)] [(.int p4), (.int p1), (.double (FP.dmul (FP.i2d p4) (FP.i2d p1)))])) rfl (by rw [hml]; rfl) (argsL := [(.int p1), (.int p4)]) (rest := [(.double (FP.dmul (FP.i2d p4) (FP.i2d p1)))]) (lenOf pd_1 rfl) rfl (by show 2 * 0 + _ ≤ _; exact Nat.le_of_eq rfl) (hb hby at_76) (fun _ _ => ⟨rfl, rfl, Nat.le_of_ble_eq_true rfl, Nat.le_of_ble_eq_true rfl⟩)
  dsimp only [Pt.U, Pt.locs, Pt.cells, Pt.slots] at X14 l14 y14 z14 st14 hQ14
  subst l14 y14 z14
  obtain ⟨rfl, N14q, e14⟩ := hQ14
  have N14 := Fr.app N10 N14q
  refine own_go (fun _ k => st14 _ k) ?_
  show own_Ends p e below s _ _ _ (T14.setTop (mkF m 79 #[.val (.int p1), .val (.int p2), .val (.int p3), .val (.int p4), .val (.ref b1), .val (.double (FP.i2d p4)), .second, .val (.ref b8), .val (.ref b9), .val (.ref b10)] [(.double (FP.l2d (p1.toInt64 * p4.toInt64))), (.double (FP.dmul (FP.i2d p4) (FP.i2d p1)))]))
  refine own_go (fun _ k => XS.dcmpS X14.here hx rfl (v := (0 : Int32)) (hb hby at_79) rfl (own_prod _ _) <| XS.ifNo X14.here hx rfl (hb hby at_80) rfl ((if0 _ _).trans (teq (by decide)).2) <| XS.aload X14.here hx rfl (hb hby at_83) rfl rfl <| XT.iconstV X14.here hx rfl (1 : Int32) (hb hby at_85) rfl <| k) ?_
  show own_Ends p e below s _ _ _ (T14.setTop (mkF m 86 #[.val (.int p1), .val (.int p2), .val (.int p3), .val (.int p4), .val (.ref b1), .val (.double (FP.i2d p4)), .second, .val (.ref b8), .val (.ref b9), .val (.ref b10)] [(.int (1 : Int32)), (.ref b10)]))
  obtain ⟨clb10_86_15, Arb10_86_15, qqb10_86_15, Szb10_86_15, Ngb10_86_15, Hsb10_86_15, Gfb10_86_15⟩ := id Vb10
  have hinb10_86_15 : ¬ ((1 : Int32) < 0 ∨ clb10_86_15.slots.size ≤ ((1 : Int32)).toNatClampNeg) := inb_of Szb10_86_15 ⟨by decide, by decide⟩
  have hatb10_86_15 : clb10_86_15.slots[((1 : Int32)).toNatClampNeg]? = some (.double (FP.dmul (FP.i2d p4) (FP.i2d p2))) := Hsb10_86_15.at hinb10_86_15 rfl
  refine own_go (fun _ k => X14.daload hx (j := (1 : Int32)) (v := (.double (FP.dmul (FP.i2d p4) (FP.i2d p2)))) (by first | exact Arb10_86_15.1 | (rw [e14]; exact Arb10_86_15.1)) (State.isArrayOf_alike hZ.alike Arb10_86_15.2.1) Arb10_86_15.2.2 hinb10_86_15 hatb10_86_15 (g := (mkF m 86 #[.val (.int p1), .val (.int p2), .val (.int p3), .val (.int p4), .val (.ref b1), .val (.double (FP.i2d p4)), .second, .val (.ref b8), .val (.ref b9), .val (.ref b10)] [(.int (1 : Int32)), (.ref b10)])) rfl rfl (hb hby at_86) _ k) ?_
  show own_Ends p e below s _ _ _ (T14.setTop (mkF m 87 #[.val (.int p1), .val (.int p2), .val (.int p3), .val (.int p4), .val (.ref b1), .val (.double (FP.i2d p4)), .second, .val (.ref b8), .val (.ref b9), .val (.ref b10)] [(.double (FP.dmul (FP.i2d p4) (FP.i2d p2)))]))
  refine own_go (fun _ k => XS.iloadN X14.here hx rfl (hb hby at_87) rfl <| XS.iloadN X14.here hx rfl (hb hby at_88) rfl <| k) ?_
  show own_Ends p e below s _ _ _ (T14.setTop (mkF m 89 #[.val (.int p1), .val (.int p2), .val (.int p3), .val (.int p4), .val (.ref b1), .val (.double (FP.i2d p4)), .second, .val (.ref b8), .val (.ref b9), .val (.ref b10)] [(.int p4), (.int p2), (.double (FP.dmul (FP.i2d p4) (FP.i2d p2)))]))
  obtain ⟨_, _, ⟨T16, L16, k16, n16⟩, -, X16, ⟨Lc16, hQ16, l16, y16, z16⟩, st16⟩ := Jvm.LawKit.callS X14 hx (y := (⟨"com/example/weftbind/weftbind/LevelPricesScaledPinLaw", "product", "(II)D"⟩ : MethodName)) hown (mvT hZ (hw _ (List.mem_of_getElem? (i := 5) rfl))) (mvT hZ (hw _ (List.mem_of_getElem? (i := 6) rfl))) (mvT hZ (hw _ (List.mem_of_getElem? (i := 7) rfl))) (mvT hZ (hw _ (List.mem_of_getElem? (i := 8) rfl))) (by decide) (backOf (W := 2) (rm2 l Z a0 hw [] p2 p4 T10.heap n0 Z10) hZ (hw _ (List.mem_of_getElem? (i := 8) rfl)) (hw _ (List.mem_of_getElem? (i := 7) rfl)) (by decide) (by decide)) (g := (mkF m 89 #[.val (.int p1), .val (.int p2), .val (.int p3), .val (.int p4), .val (.ref b1), .val (.double (FP.i2d p4)), .second, .val (.ref b8), .val (.ref b9), .val (.ref b10)] [(.int p4), (.int p2), (.double (FP.dmul (FP.i2d p4) (FP.i2d p2)))])) rfl (by rw [hml]; rfl) (argsL := [(.int p2), (.int p4)]) (rest := [(.double (FP.dmul (FP.i2d p4) (FP.i2d p2)))]) (lenOf pd_1 rfl) rfl (by show 2 * 0 + _ ≤ _; exact Nat.le_of_eq rfl) (hb hby at_89) (fun _ _ => ⟨rfl, e14, Nat.le_of_ble_eq_true rfl, Nat.le_of_ble_eq_true rfl⟩)
  dsimp only [Pt.U, Pt.locs, Pt.cells, Pt.slots] at X16 l16 y16 z16 st16 hQ16
  subst l16 y16 z16
  obtain ⟨rfl, N16q, e16⟩ := hQ16
  have N16 := Fr.app N14 N16q
  refine own_go (fun _ k => st16 _ k) ?_
  show own_Ends p e below s _ _ _ (T16.setTop (mkF m 92 #[.val (.int p1), .val (.int p2), .val (.int p3), .val (.int p4), .val (.ref b1), .val (.double (FP.i2d p4)), .second, .val (.ref b8), .val (.ref b9), .val (.ref b10)] [(.double (FP.l2d (p2.toInt64 * p4.toInt64))), (.double (FP.dmul (FP.i2d p4) (FP.i2d p2)))]))
  refine own_go (fun _ k => XS.dcmpS X16.here hx rfl (v := (0 : Int32)) (hb hby at_92) rfl (own_prod _ _) <| XS.ifNo X16.here hx rfl (hb hby at_93) rfl ((if0 _ _).trans (teq (by decide)).2) <| XS.aload X16.here hx rfl (hb hby at_96) rfl rfl <| XT.iconstV X16.here hx rfl (2 : Int32) (hb hby at_98) rfl <| k) ?_
  show own_Ends p e below s _ _ _ (T16.setTop (mkF m 99 #[.val (.int p1), .val (.int p2), .val (.int p3), .val (.int p4), .val (.ref b1), .val (.double (FP.i2d p4)), .second, .val (.ref b8), .val (.ref b9), .val (.ref b10)] [(.int (2 : Int32)), (.ref b10)]))
  obtain ⟨clb10_99_17, Arb10_99_17, qqb10_99_17, Szb10_99_17, Ngb10_99_17, Hsb10_99_17, Gfb10_99_17⟩ := id Vb10
  have hinb10_99_17 : ¬ ((2 : Int32) < 0 ∨ clb10_99_17.slots.size ≤ ((2 : Int32)).toNatClampNeg) := inb_of Szb10_99_17 ⟨by decide, by decide⟩
  have hatb10_99_17 : clb10_99_17.slots[((2 : Int32)).toNatClampNeg]? = some (.double (FP.dmul (FP.i2d p4) (FP.i2d p3))) := Hsb10_99_17.at hinb10_99_17 rfl
  refine own_go (fun _ k => X16.daload hx (j := (2 : Int32)) (v := (.double (FP.dmul (FP.i2d p4) (FP.i2d p3)))) (by first | exact Arb10_99_17.1 | (rw [e16]; exact Arb10_99_17.1)) (State.isArrayOf_alike hZ.alike Arb10_99_17.2.1) Arb10_99_17.2.2 hinb10_99_17 hatb10_99_17 (g := (mkF m 99 #[.val (.int p1), .val (.int p2), .val (.int p3), .val (.int p4), .val (.ref b1), .val (.double (FP.i2d p4)), .second, .val (.ref b8), .val (.ref b9), .val (.ref b10)] [(.int (2 : Int32)), (.ref b10)])) rfl rfl (hb hby at_99) _ k) ?_
  show own_Ends p e below s _ _ _ (T16.setTop (mkF m 100 #[.val (.int p1), .val (.int p2), .val (.int p3), .val (.int p4), .val (.ref b1), .val (.double (FP.i2d p4)), .second, .val (.ref b8), .val (.ref b9), .val (.ref b10)] [(.double (FP.dmul (FP.i2d p4) (FP.i2d p3)))]))
  refine own_go (fun _ k => XS.iloadN X16.here hx rfl (hb hby at_100) rfl <| XS.iloadN X16.here hx rfl (hb hby at_101) rfl <| k) ?_
  show own_Ends p e below s _ _ _ (T16.setTop (mkF m 102 #[.val (.int p1), .val (.int p2), .val (.int p3), .val (.int p4), .val (.ref b1), .val (.double (FP.i2d p4)), .second, .val (.ref b8), .val (.ref b9), .val (.ref b10)] [(.int p4), (.int p3), (.double (FP.dmul (FP.i2d p4) (FP.i2d p3)))]))
  obtain ⟨_, _, ⟨T18, L18, k18, n18⟩, -, X18, ⟨Lc18, hQ18, l18, y18, z18⟩, st18⟩ := Jvm.LawKit.callS X16 hx (y := (⟨"com/example/weftbind/weftbind/LevelPricesScaledPinLaw", "product", "(II)D"⟩ : MethodName)) hown (mvT hZ (hw _ (List.mem_of_getElem? (i := 5) rfl))) (mvT hZ (hw _ (List.mem_of_getElem? (i := 6) rfl))) (mvT hZ (hw _ (List.mem_of_getElem? (i := 7) rfl))) (mvT hZ (hw _ (List.mem_of_getElem? (i := 8) rfl))) (by decide) (backOf (W := 2) (rm2 l Z a0 hw [] p3 p4 T10.heap n0 Z10) hZ (hw _ (List.mem_of_getElem? (i := 8) rfl)) (hw _ (List.mem_of_getElem? (i := 7) rfl)) (by decide) (by decide)) (g := (mkF m 102 #[.val (.int p1), .val (.int p2), .val (.int p3), .val (.int p4), .val (.ref b1), .val (.double (FP.i2d p4)), .second, .val (.ref b8), .val (.ref b9), .val (.ref b10)] [(.int p4), (.int p3), (.double (FP.dmul (FP.i2d p4) (FP.i2d p3)))])) rfl (by rw [hml]; rfl) (argsL := [(.int p3), (.int p4)]) (rest := [(.double (FP.dmul (FP.i2d p4) (FP.i2d p3)))]) (lenOf pd_1 rfl) rfl (by show 2 * 0 + _ ≤ _; exact Nat.le_of_eq rfl) (hb hby at_102) (fun _ _ => ⟨rfl, e16, Nat.le_of_ble_eq_true rfl, Nat.le_of_ble_eq_true rfl⟩)
  dsimp only [Pt.U, Pt.locs, Pt.cells, Pt.slots] at X18 l18 y18 z18 st18 hQ18
  subst l18 y18 z18
  obtain ⟨rfl, N18q, e18⟩ := hQ18
  have N18 := Fr.app N16 N18q
  refine own_go (fun _ k => st18 _ k) ?_
  show own_Ends p e below s _ _ _ (T18.setTop (mkF m 105 #[.val (.int p1), .val (.int p2), .val (.int p3), .val (.int p4), .val (.ref b1), .val (.double (FP.i2d p4)), .second, .val (.ref b8), .val (.ref b9), .val (.ref b10)] [(.double (FP.l2d (p3.toInt64 * p4.toInt64))), (.double (FP.dmul (FP.i2d p4) (FP.i2d p3)))]))
  refine own_go (fun _ k => XS.dcmpS X18.here hx rfl (v := (0 : Int32)) (hb hby at_105) rfl (own_prod _ _) <| XS.ifNo X18.here hx rfl (hb hby at_106) rfl ((if0 _ _).trans (teq (by decide)).2) <| XS.aload X18.here hx rfl (hb hby at_109) rfl rfl <| XT.iconstV X18.here hx rfl (0 : Int32) (hb hby at_111) rfl <| k) ?_
  show own_Ends p e below s _ _ _ (T18.setTop (mkF m 112 #[.val (.int p1), .val (.int p2), .val (.int p3), .val (.int p4), .val (.ref b1), .val (.double (FP.i2d p4)), .second, .val (.ref b8), .val (.ref b9), .val (.ref b10)] [(.int (0 : Int32)), (.ref b1)]))
  obtain ⟨clb1_112_19, Arb1_112_19, qqb1_112_19, Szb1_112_19, Ngb1_112_19, Hsb1_112_19, Gfb1_112_19⟩ := id V_b1'10
  have hinb1_112_19 : ¬ ((0 : Int32) < 0 ∨ clb1_112_19.slots.size ≤ ((0 : Int32)).toNatClampNeg) := inb_of Szb1_112_19 ⟨by decide, by decide⟩
  have hatb1_112_19 : clb1_112_19.slots[((0 : Int32)).toNatClampNeg]? = some (.double (FP.i2d p1)) := Hsb1_112_19.at hinb1_112_19 rfl
  refine own_go (fun _ k => X18.daload hx (j := (0 : Int32)) (v := (.double (FP.i2d p1))) (by first | exact Arb1_112_19.1 | (rw [e18]; exact Arb1_112_19.1)) (State.isArrayOf_alike hZ.alike Arb1_112_19.2.1) Arb1_112_19.2.2 hinb1_112_19 hatb1_112_19 (g := (mkF m 112 #[.val (.int p1), .val (.int p2), .val (.int p3), .val (.int p4), .val (.ref b1), .val (.double (FP.i2d p4)), .second, .val (.ref b8), .val (.ref b9), .val (.ref b10)] [(.int (0 : Int32)), (.ref b1)])) rfl rfl (hb hby at_112) _ k) ?_
  show own_Ends p e below s _ _ _ (T18.setTop (mkF m 113 #[.val (.int p1), .val (.int p2), .val (.int p3), .val (.int p4), .val (.ref b1), .val (.double (FP.i2d p4)), .second, .val (.ref b8), .val (.ref b9), .val (.ref b10)] [(.double (FP.i2d p1))]))
  refine own_go (fun _ k => XS.iloadN X18.here hx rfl (hb hby at_113) rfl <| XS.i2dS X18.here hx rfl (hb hby at_114) rfl rfl <| XS.dcmpS X18.here hx rfl (v := (0 : Int32)) (hb hby at_115) rfl (dcmpV_self (nn_w (i2d_w _)) _) <| XS.ifNo X18.here hx rfl (hb hby at_116) rfl ((if0 _ _).trans (teq (by decide)).2) <| XS.aload X18.here hx rfl (hb hby at_119) rfl rfl <| XT.iconstV X18.here hx rfl (1 : Int32) (hb hby at_121) rfl <| k) ?_
  show own_Ends p e below s _ _ _ (T18.setTop (mkF m 122 #[.val (.int p1), .val (.int p2), .val (.int p3), .val (.int p4), .val (.ref b1), .val (.double (FP.i2d p4)), .second, .val (.ref b8), .val (.ref b9), .val (.ref b10)] [(.int (1 : Int32)), (.ref b1)]))
  obtain ⟨clb1_122_20, Arb1_122_20, qqb1_122_20, Szb1_122_20, Ngb1_122_20, Hsb1_122_20, Gfb1_122_20⟩ := id V_b1'10
  have hinb1_122_20 : ¬ ((1 : Int32) < 0 ∨ clb1_122_20.slots.size ≤ ((1 : Int32)).toNatClampNeg) := inb_of Szb1_122_20 ⟨by decide, by decide⟩
  have hatb1_122_20 : clb1_122_20.slots[((1 : Int32)).toNatClampNeg]? = some (.double (FP.i2d p2)) := Hsb1_122_20.at hinb1_122_20 rfl
  refine own_go (fun _ k => X18.daload hx (j := (1 : Int32)) (v := (.double (FP.i2d p2))) (by first | exact Arb1_122_20.1 | (rw [e18]; exact Arb1_122_20.1)) (State.isArrayOf_alike hZ.alike Arb1_122_20.2.1) Arb1_122_20.2.2 hinb1_122_20 hatb1_122_20 (g := (mkF m 122 #[.val (.int p1), .val (.int p2), .val (.int p3), .val (.int p4), .val (.ref b1), .val (.double (FP.i2d p4)), .second, .val (.ref b8), .val (.ref b9), .val (.ref b10)] [(.int (1 : Int32)), (.ref b1)])) rfl rfl (hb hby at_122) _ k) ?_
  show own_Ends p e below s _ _ _ (T18.setTop (mkF m 123 #[.val (.int p1), .val (.int p2), .val (.int p3), .val (.int p4), .val (.ref b1), .val (.double (FP.i2d p4)), .second, .val (.ref b8), .val (.ref b9), .val (.ref b10)] [(.double (FP.i2d p2))]))
  refine own_go (fun _ k => XS.iloadN X18.here hx rfl (hb hby at_123) rfl <| XS.i2dS X18.here hx rfl (hb hby at_124) rfl rfl <| XS.dcmpS X18.here hx rfl (v := (0 : Int32)) (hb hby at_125) rfl (dcmpV_self (nn_w (i2d_w _)) _) <| XS.ifNo X18.here hx rfl (hb hby at_126) rfl ((if0 _ _).trans (teq (by decide)).2) <| XS.aload X18.here hx rfl (hb hby at_129) rfl rfl <| XT.iconstV X18.here hx rfl (2 : Int32) (hb hby at_131) rfl <| k) ?_
  show own_Ends p e below s _ _ _ (T18.setTop (mkF m 132 #[.val (.int p1), .val (.int p2), .val (.int p3), .val (.int p4), .val (.ref b1), .val (.double (FP.i2d p4)), .second, .val (.ref b8), .val (.ref b9), .val (.ref b10)] [(.int (2 : Int32)), (.ref b1)]))
  obtain ⟨clb1_132_21, Arb1_132_21, qqb1_132_21, Szb1_132_21, Ngb1_132_21, Hsb1_132_21, Gfb1_132_21⟩ := id V_b1'10
  have hinb1_132_21 : ¬ ((2 : Int32) < 0 ∨ clb1_132_21.slots.size ≤ ((2 : Int32)).toNatClampNeg) := inb_of Szb1_132_21 ⟨by decide, by decide⟩
  have hatb1_132_21 : clb1_132_21.slots[((2 : Int32)).toNatClampNeg]? = some (.double (FP.i2d p3)) := Hsb1_132_21.at hinb1_132_21 rfl
  refine own_go (fun _ k => X18.daload hx (j := (2 : Int32)) (v := (.double (FP.i2d p3))) (by first | exact Arb1_132_21.1 | (rw [e18]; exact Arb1_132_21.1)) (State.isArrayOf_alike hZ.alike Arb1_132_21.2.1) Arb1_132_21.2.2 hinb1_132_21 hatb1_132_21 (g := (mkF m 132 #[.val (.int p1), .val (.int p2), .val (.int p3), .val (.int p4), .val (.ref b1), .val (.double (FP.i2d p4)), .second, .val (.ref b8), .val (.ref b9), .val (.ref b10)] [(.int (2 : Int32)), (.ref b1)])) rfl rfl (hb hby at_132) _ k) ?_
  show own_Ends p e below s _ _ _ (T18.setTop (mkF m 133 #[.val (.int p1), .val (.int p2), .val (.int p3), .val (.int p4), .val (.ref b1), .val (.double (FP.i2d p4)), .second, .val (.ref b8), .val (.ref b9), .val (.ref b10)] [(.double (FP.i2d p3))]))
  refine own_go (fun _ k => XS.iloadN X18.here hx rfl (hb hby at_133) rfl <| XS.i2dS X18.here hx rfl (hb hby at_134) rfl rfl <| XS.dcmpS X18.here hx rfl (v := (0 : Int32)) (hb hby at_135) rfl (dcmpV_self (nn_w (i2d_w _)) _) <| XS.ifNo X18.here hx rfl (hb hby at_136) rfl ((if0 _ _).trans (teq (by decide)).2) <| XT.iconstV X18.here hx rfl (1 : Int32) (hb hby at_139) rfl <| XS.goto X18.here hx rfl (pc0 := 140) (pc' := 144) rfl (hb hby at_140) (by decide) (by decide) <| k) ?_
  show own_Ends p e below s _ _ _ (T18.setTop (mkF m 144 #[.val (.int p1), .val (.int p2), .val (.int p3), .val (.int p4), .val (.ref b1), .val (.double (FP.i2d p4)), .second, .val (.ref b8), .val (.ref b9), .val (.ref b10)] [(.int (1 : Int32))]))
  exact own_retN X18 hx (t := .boolean) hrt (by simp) (hb hby at_144) hlk (show nar .boolean (1 : Int32) = (1 : Int32) from by decide) (by rw [e18]; exact ⟨rfl, N18⟩) (by decide) (by decide)
set_option maxRecDepth 65536 in
set_option maxHeartbeats 40000000 in
theorem comes_1 {Post : Tables → Env → Array Value → State → Outcome → State → Prop} (hpost : ∀ tb e args s v u, (limb_1_1.after args s (.returned v) u = true ∧ limb_1_2.after args s (.returned v) u = true ∧ True) → FrameEnd s (.returned v) u (Jvm.fieldLocs frame_1_writes args s ++ Jvm.arrayLocs frame_1_arrays args s ++ Jvm.staticLocs frame_1_statics s) 16 128 → Post tb e args s (.returned v) u) :
    ArmFor flags0 classFile x code maxLocals ret World_1 tables_1 room_1 Calls_1 rest_1 Pre_1 Post := by
  intro l hfl _ _ p e ha hc hk s m args below hf hA hF happ hP
  obtain ⟨hcalls, hrest, hpre⟩ := hP
  obtain ⟨-, -, -, hnamed, -, -, -, hat⟩ := (Spec.applies_iff hf).mp happ
  obtain ⟨hg, hn⟩ := and_e (Cond.before_iff.mp (show (Jvm.Cond.and given_1 narrow_1).before args s = true from hpre))
  obtain ⟨g1, g2⟩ := and_e hg
  obtain ⟨g3, g4⟩ := and_e g2
  obtain ⟨g5, g6⟩ := and_e g4
  obtain ⟨g7, g8⟩ := and_e g6
  obtain ⟨w0, w1, w2, w3, rfl⟩ : ∃ w0 w1 w2 w3 : Value, args = #[w0, w1, w2, w3] := by
    have hs : args.size = 4 := by simpa [Cond.value, given_1] using g1
    obtain ⟨L⟩ := args
    match L, hs with
    | [w0, w1, w2, w3], _ => exact ⟨w0, w1, w2, w3, rfl⟩
  have hw := fun d (hd : d ∈ tables_1) => atoms_spec (ws := Jvm.Cond.code x code maxLocals ret :: tables_1) hat d (List.mem_cons_of_mem _ hd)
  have hfit : Fit s := fun {y c} hc i hi => by
    obtain ⟨ha, rfl⟩ := Array.getElem?_eq_some_iff.mp hc
    have q := List.all_eq_true.mp ((Array.all_eq_true_iff_forall_mem.mp hF) _ (Array.getElem_mem ha)) i (List.mem_range.mpr hi)
    simpa [Array.getElem?_eq_getElem hi] using q
  obtain ⟨i0, ei0⟩ := is_v g3
  obtain rfl : w0 = (.int i0) := Option.some.inj ei0
  obtain ⟨i1, ei1⟩ := is_v g5
  obtain rfl : w1 = (.int i1) := Option.some.inj ei1
  obtain ⟨i2, ei2⟩ := is_v g7
  obtain rfl : w2 = (.int i2) := Option.some.inj ei2
  obtain ⟨i3, ei3⟩ := is_v g8
  obtain rfl : w3 = (.int i3) := Option.some.inj ei3
  obtain ⟨n, o, h1, h2, h3, _, L, rfl, ⟨rfl, N⟩, hq⟩ := rm0 l s _ hw tables_1 i0 i1 i2 i3  s.heap s.heap.size (Nat.le_refl _)  p e ha hc hk s m _ below hf ((Spec.applies_iff_loose hf).mp happ).1 ⟨rfl, State.Warmed39.refl s, rfl⟩ trivial
  refine ⟨n, _, h1, h2, h3, hpost _ _ _ _ _ _ ⟨Cond.after_iff.mpr rfl, Cond.after_iff.mpr (eq_i res_at (Term.int_eval (1)) rfl), trivial⟩ ⟨hq.1, hq.2.1, (hq.2.2.sift fun y hy => Or.inr (N y hy)).mono (by decide) (by decide)⟩⟩
theorem main_1_1 : Claimed_1_1 := comes_1 fun _ _ _ _ _ _ h hF => ⟨h.1, hF⟩
theorem main_1_2 : Claimed_1_2 := comes_1 fun _ _ _ _ _ _ h hF => ⟨h.2.1, hF⟩
end Jvm.Pilot.@@N@@
namespace Jvm.Pilot.@@N@@
open Jvm Jvm.ClassFile Sem Op Lib Jvm.Free Jvm.Stand Jvm.Pilot.@@N@@.Jvm.D
/-! MADE BY PROGRAM (witnessworld.py) out of the Statement's table words and the real class files: 11 classes; the members and pool entries that the words name. The judged class is class 1, her method 2. -/
namespace start1
open Jvm.ClassFile
def u (s : String) : CpInfo := .utf8 (stringToUtf16 s)
/-- a pool by its gaps: so many unusable entries, then the entry; so many at the end -/
def gap : Nat → List CpInfo → List CpInfo
  | 0, r => r
  | n + 1, r => .unusable :: gap n r
def poolList (es : List (Nat × CpInfo)) (last : Nat) : List CpInfo := es.foldr (fun e r => gap e.1 (e.2 :: r)) (gap last [])
def pool (es : List (Nat × CpInfo)) (last : Nat) : Array CpInfo := ⟨poolList es last⟩
def fileOf (pool : Array CpInfo) (this : Nat) (attrs : Array Attribute := #[]) (ms : Array MethodInfo := #[]) (fl : Nat := 33) (sup : Nat := 0) (ifs : Array Nat := #[]) (fds : Array FieldInfo := #[]) : ClassFile where
  minorVersion := 0
  majorVersion := 65
  constantPool := pool
  accessFlags := fl
  thisClass := this
  superClass := sup
  interfaces := ifs
  fields := fds
  methods := ms
  attributes := attrs
def plain (name : String) (sup : Option ClassId) : Class where
  name := name
  kind := .ordinary
  loader := none
  accessFlags := 33
  super := sup
  interfaces := #[]
  cf := none
  fields := #[]
  methods := #[]
  instanceTypes := #[]
  staticTypes := #[]
  resolved := #[]
  callSites := []
  init := .initialized
  statics := none
  mirror := none

def pool0 : Array CpInfo := pool [(5, u "<init>"), (0, u "()V"), (1, .class_ 10), (1, u "java/lang/Object")] 113

def k0m0 : Method := { name := "<init>", desc := "()V", sig := { parameters := [], returnType := none }, accessFlags := 1, code := none }
/-- java/lang/Object -/
def k0 : Class := { plain "java/lang/Object" none with
  accessFlags := 33
  interfaces := #[]
  cf := some (fileOf pool0 8 #[] #[{ accessFlags := 1, nameIndex := 5, descriptorIndex := 6, attributes := #[] }] 33 0 #[] #[])
  fields := #[]
  methods := #[k0m0]
  instanceTypes := #[]
  staticTypes := #[]
  resolved := Array.replicate 124 none
  statics := none }

def pool1 : Array CpInfo := pool [(2, .class_ 4), (1, u "java/lang/Object"), (0, u "<init>"), (0, u "()V"), (0, .methodref 8 9), (0, .class_ 10), (0, .nameAndType 11 12), (0, u "com/example/weftbind/weftbind/LevelPrices"), (0, u "scaled"), (0, u "([DD)[D"), (0, .methodref 14 15), (0, .class_ 16), (0, .nameAndType 17 18), (0, u "com/example/weftbind/weftbind/LevelPricesScaledPinLaw"), (0, u "product"), (0, u "(II)D"), (2, u "law"), (0, u "(IIII)Z")] 5

def k1m0 : Method := { name := "<init>", desc := "()V", sig := { parameters := [], returnType := none }, accessFlags := 2, code := none }
def k1c1 : Code := { maxStack := 4, maxLocals := 2, code := method_2_code, exceptionTable := #[], attributes := #[] }
def k1m1 : Method := { name := "product", desc := "(II)D", sig := { parameters := [.int, .int], returnType := some .double }, accessFlags := 10, code := some k1c1 }
def k1c2 : Code := { maxStack := 4, maxLocals := 10, code := code, exceptionTable := #[], attributes := #[] }
def k1m2 : Method := { name := "law", desc := "(IIII)Z", sig := { parameters := [.int, .int, .int, .int], returnType := some .boolean }, accessFlags := 9, code := some k1c2 }
/-- com/example/weftbind/weftbind/LevelPricesScaledPinLaw -/
def k1 : Class := { plain "com/example/weftbind/weftbind/LevelPricesScaledPinLaw" (some 0) with
  accessFlags := 49
  interfaces := #[]
  cf := some (fileOf pool1 14 #[] #[{ accessFlags := 2, nameIndex := 5, descriptorIndex := 6, attributes := #[] }, { accessFlags := 10, nameIndex := 17, descriptorIndex := 18, attributes := #[] }, { accessFlags := 9, nameIndex := 21, descriptorIndex := 22, attributes := #[] }] 49 2 #[] #[])
  fields := #[]
  methods := #[k1m0, k1m1, k1m2]
  instanceTypes := #[]
  staticTypes := #[]
  resolved := Array.replicate 28 none
  statics := none }

def pool2 : Array CpInfo := pool [(2, .class_ 4), (1, u "java/lang/Object"), (6, u "tasks"), (2, .class_ 16), (1, u "com/example/weftbind/weftbind/LevelPrices"), (0, u "I"), (2, u "directions"), (20, u "order"), (0, u "[I"), (12, u "rooms"), (0, u "[D"), (12, u "costs"), (0, u "[[[D"), (3, u "logBenefits"), (2, u "pricedFrom"), (5, u "pricedAfter"), (2, u "pricedAt"), (14, u "corners"), (0, u "[[[I"), (9, u "leastFinite"), (0, u "D"), (2, u "benefitless"), (0, u "Z"), (49, u "pricedRoom"), (43, u "TRIALS"), (2, u "LEAST_STEP"), (23, u "scaled"), (0, u "([DD)[D")] 13

def k2c0 : Code := { maxStack := 6, maxLocals := 5, code := prog_94_method_21_code, exceptionTable := #[], attributes := #[] }
def k2m0 : Method := { name := "scaled", desc := "([DD)[D", sig := { parameters := [(.array .double), .double], returnType := some (.array .double) }, accessFlags := 8, code := some k2c0 }
/-- com/example/weftbind/weftbind/LevelPrices -/
def k2 : Class := { plain "com/example/weftbind/weftbind/LevelPrices" (some 0) with
  accessFlags := 32
  interfaces := #[]
  cf := some (fileOf pool2 14 #[] #[{ accessFlags := 8, nameIndex := 238, descriptorIndex := 239, attributes := #[] }] 32 2 #[] #[{ accessFlags := 24, nameIndex := 211, descriptorIndex := 17, attributes := #[] }, { accessFlags := 24, nameIndex := 214, descriptorIndex := 113, attributes := #[] }, { accessFlags := 18, nameIndex := 11, descriptorIndex := 17, attributes := #[] }, { accessFlags := 18, nameIndex := 20, descriptorIndex := 17, attributes := #[] }, { accessFlags := 18, nameIndex := 41, descriptorIndex := 42, attributes := #[] }, { accessFlags := 18, nameIndex := 55, descriptorIndex := 56, attributes := #[] }, { accessFlags := 18, nameIndex := 101, descriptorIndex := 102, attributes := #[] }, { accessFlags := 18, nameIndex := 69, descriptorIndex := 70, attributes := #[] }, { accessFlags := 18, nameIndex := 74, descriptorIndex := 70, attributes := #[] }, { accessFlags := 18, nameIndex := 112, descriptorIndex := 113, attributes := #[] }, { accessFlags := 18, nameIndex := 116, descriptorIndex := 117, attributes := #[] }, { accessFlags := 18, nameIndex := 77, descriptorIndex := 70, attributes := #[] }, { accessFlags := 18, nameIndex := 86, descriptorIndex := 56, attributes := #[] }, { accessFlags := 18, nameIndex := 83, descriptorIndex := 56, attributes := #[] }, { accessFlags := 2, nameIndex := 167, descriptorIndex := 113, attributes := #[] }])
  fields := #[{ name := "TRIALS", type := .int, accessFlags := 24, slot := 0, constantValue := 0 }, { name := "LEAST_STEP", type := .double, accessFlags := 24, slot := 1, constantValue := 0 }, { name := "tasks", type := .int, accessFlags := 18, slot := 0, constantValue := 0 }, { name := "directions", type := .int, accessFlags := 18, slot := 1, constantValue := 0 }, { name := "order", type := (.array .int), accessFlags := 18, slot := 2, constantValue := 0 }, { name := "rooms", type := (.array .double), accessFlags := 18, slot := 3, constantValue := 0 }, { name := "corners", type := (.array (.array (.array .int))), accessFlags := 18, slot := 4, constantValue := 0 }, { name := "costs", type := (.array (.array (.array .double))), accessFlags := 18, slot := 5, constantValue := 0 }, { name := "logBenefits", type := (.array (.array (.array .double))), accessFlags := 18, slot := 6, constantValue := 0 }, { name := "leastFinite", type := .double, accessFlags := 18, slot := 7, constantValue := 0 }, { name := "benefitless", type := .boolean, accessFlags := 18, slot := 8, constantValue := 0 }, { name := "pricedFrom", type := (.array (.array (.array .double))), accessFlags := 18, slot := 9, constantValue := 0 }, { name := "pricedAt", type := (.array .double), accessFlags := 18, slot := 10, constantValue := 0 }, { name := "pricedAfter", type := (.array .double), accessFlags := 18, slot := 11, constantValue := 0 }, { name := "pricedRoom", type := .double, accessFlags := 2, slot := 12, constantValue := 0 }]
  methods := #[k2m0]
  instanceTypes := #[.int, .int, (.array .int), (.array .double), (.array (.array (.array .int))), (.array (.array (.array .double))), (.array (.array (.array .double))), .double, .boolean, (.array (.array (.array .double))), (.array .double), (.array .double), .double]
  staticTypes := #[.int, .double]
  resolved := Array.replicate 253 none
  statics := none }

def pool3 : Array CpInfo := pool [(1, u "java/lang/Cloneable"), (0, .class_ 1), (0, u "java/lang/Object"), (0, .class_ 3)] 3

/-- java/lang/Cloneable -/
def k3 : Class := { plain "java/lang/Cloneable" (some 0) with
  accessFlags := 1537
  interfaces := #[]
  cf := some (fileOf pool3 2 #[] #[] 1537 4 #[] #[])
  fields := #[]
  methods := #[]
  instanceTypes := #[]
  staticTypes := #[]
  resolved := Array.replicate 8 none
  statics := none }

def pool4 : Array CpInfo := pool [(1, u "java/io/Serializable"), (0, .class_ 1), (0, u "java/lang/Object"), (0, .class_ 3)] 3

/-- java/io/Serializable -/
def k4 : Class := { plain "java/io/Serializable" (some 0) with
  accessFlags := 1537
  interfaces := #[]
  cf := some (fileOf pool4 2 #[] #[] 1537 4 #[] #[])
  fields := #[]
  methods := #[]
  instanceTypes := #[]
  staticTypes := #[]
  resolved := Array.replicate 8 none
  statics := none }

/-- the primitive byte -/
def k5 : Class := { plain "byte" none with kind := .primitive 'B', accessFlags := 0x411 }
/-- [B -/
def k6 : Class := { plain "[B" (some 0) with kind := .array 5 .byte, interfaces := #[3, 4], accessFlags := 1041 }

/-- the primitive double -/
def k7 : Class := { plain "double" none with kind := .primitive 'D', accessFlags := 0x411 }
/-- [D -/
def k8 : Class := { plain "[D" (some 0) with kind := .array 7 .double, interfaces := #[3, 4], accessFlags := 1041 }

/-- the primitive int -/
def k9 : Class := { plain "int" none with kind := .primitive 'I', accessFlags := 0x411 }
/-- [I -/
def k10 : Class := { plain "[I" (some 0) with kind := .array 9 .int, interfaces := #[3, 4], accessFlags := 1041 }

def heap : Heap := #[]
def classes : Array Class := #[k0, k1, k2, k3, k4, k5, k6, k7, k8, k9, k10]
def interned : List (Array UInt16 × Addr) := []
def slotsUsed : Nat := 0
def theMethod : MethodId := ⟨1, 2⟩
def args0 : Array Value := #[.int 5, .int 6, .int 7, .int 8]
def aboutOver (below : List Frame) : State where
  vm := { classes := classes, interned := interned.toArray }
  heap := heap
  slotsUsed := slotsUsed
  threads := #[{ frames := .invoking theMethod args0 :: below }]
def below0 : List Frame := [.native { method := ⟨0, 0⟩, args := #[] }]
def about1 : State := aboutOver below0
def p0 : Program := .bare "" "" ""
def e0 : Env := launch0.env 0 0 0
theorem w_frames : about1.frames = Frame.invoking theMethod args0 :: below0 := rfl
set_option maxRecDepth 65536 in
theorem w_args : argsFit about1.vm theMethod args0 = true := by decide +kernel
set_option maxRecDepth 65536 in
theorem w_heap : heapFits about1 = true := by decide +kernel
set_option maxRecDepth 65536 in
theorem w_runnable : about1.curStatus? = some .runnable := by decide +kernel
set_option maxRecDepth 65536 in
theorem w_alone : about1.alone = true := by decide +kernel
set_option maxRecDepth 65536 in
theorem w_named : about1.methodNamed? x = some theMethod := by decide +kernel
set_option maxRecDepth 65536 in
theorem w_hears : about1.hears theMethod below0 = true := by decide +kernel
set_option maxRecDepth 65536 in
theorem w_ripe : about1.ripe theMethod args0 below0 = true := by decide +kernel
theorem w_running : about1.status = .running := rfl
set_option maxRecDepth 65536 in
theorem w_room : about1.hasRoom e0.platform room_1 = true :=
  launch0.hasRoom_least _ room_1 (by decide +kernel) (by decide +kernel) (by decide +kernel) (by decide +kernel) (by decide +kernel) (by decide +kernel)
theorem allAtoms_all (ts : List Jvm.Cond) (a : Array Jvm.Value) (st : Jvm.State) : (allAtoms ts).before a st = ts.all (fun c => c.before a st) := by
  induction ts with
  | nil => rfl
  | cons c t ih =>
    show (Jvm.Cond.and c (allAtoms t)).before a st = _
    rw [Jvm.Cond.before_and, ih, List.all_cons]
def words1 : List Jvm.Cond := Jvm.Cond.code x code maxLocals ret :: tables_1
/-- a 'code' word, met by the world's own term for the bytes: nothing is compared byte by byte -/
theorem code_word {y : MethodName} {bytes : ByteArray} {mx : Nat} {rt : Option FieldType} {a : Array Value} {s : State} {m : MethodId} {meth : Method} {c : Code} (h1 : s.methodNamed? y = some m) (h2 : s.vm.method? m = some meth) (h3 : meth.code = some c) (h4 : c.code = bytes)
    (h5 : (c.maxLocals == mx && c.exceptionTable.isEmpty && decide (c.maxStack ≤ mostOperands) && decide (meth.sig.returnType = rt) && !meth.locks && decide (parseMethodDescriptor y.desc = some meth.sig)) = true) : (Jvm.Cond.code y bytes mx rt).before a s = true := by
  simp only [Bool.and_eq_true, beq_iff_eq, Bool.not_eq_true', decide_eq_true_eq] at h5
  obtain ⟨⟨⟨⟨⟨g1, g2⟩, g3⟩, g4⟩, g5⟩, g6⟩ := h5
  simp [Cond.before, Cond.holds, Cond.value, h1, h2, h3, h4, g1, g2, g3, g4, g5, g6]
def isCode : Jvm.Cond → Bool
  | .code _ _ _ _ => true
  | _ => false
theorem all_split {L : List Jvm.Cond} {P : Jvm.Cond → Bool} (h1 : L.all (fun c => isCode c || P c) = true) (h2 : ∀ c ∈ L.filter isCode, P c = true) : L.all P = true := by
  refine List.all_eq_true.mpr fun c hc => ?_
  have h := List.all_eq_true.mp h1 c hc
  rcases Bool.eq_false_or_eq_true (isCode c) with hi | hi
  · exact h2 c (List.mem_filter.mpr ⟨hc, hi⟩)
  · simpa [hi] using h
set_option maxRecDepth 65536 in
theorem w_c0 : (Jvm.Cond.code x code maxLocals ret).before args0 about1 = true := code_word (m := ⟨1, 2⟩) (meth := k1m2) (c := k1c2) (by decide +kernel) rfl rfl rfl (by decide +kernel)
set_option maxRecDepth 65536 in
theorem w_c1 : (Jvm.Cond.code ({ cls := "com/example/weftbind/weftbind/LevelPrices", name := "scaled", desc := "([DD)[D" } : Jvm.MethodName) prog_94_method_21_code (5 : Nat) (Option.some (Jvm.ClassFile.FieldType.array Jvm.ClassFile.FieldType.double))).before args0 about1 = true := code_word (m := ⟨2, 0⟩) (meth := k2m0) (c := k2c0) (by decide +kernel) rfl rfl rfl (by decide +kernel)
set_option maxRecDepth 65536 in
theorem w_c2 : (Jvm.Cond.code ({ cls := "com/example/weftbind/weftbind/LevelPricesScaledPinLaw", name := "product", desc := "(II)D" } : Jvm.MethodName) method_2_code (2 : Nat) (Option.some Jvm.ClassFile.FieldType.double)).before args0 about1 = true := code_word (m := ⟨1, 1⟩) (meth := k1m1) (c := k1c1) (by decide +kernel) rfl rfl rfl (by decide +kernel)
def codes1 : List Jvm.Cond := [Jvm.Cond.code x code maxLocals ret, Jvm.Cond.code ({ cls := "com/example/weftbind/weftbind/LevelPrices", name := "scaled", desc := "([DD)[D" } : Jvm.MethodName) prog_94_method_21_code (5 : Nat) (Option.some (Jvm.ClassFile.FieldType.array Jvm.ClassFile.FieldType.double)), Jvm.Cond.code ({ cls := "com/example/weftbind/weftbind/LevelPricesScaledPinLaw", name := "product", desc := "(II)D" } : Jvm.MethodName) method_2_code (2 : Nat) (Option.some Jvm.ClassFile.FieldType.double)]
set_option maxRecDepth 65536 in
theorem codes_eq : words1.filter isCode = codes1 := rfl
theorem w_codes : ∀ c ∈ words1.filter isCode, c.before args0 about1 = true := by
  rw [codes_eq]
  intro c hc
  simp only [codes1, List.mem_cons, List.not_mem_nil, or_false] at hc
  rcases hc with rfl | rfl | rfl
  · exact w_c0
  · exact w_c1
  · exact w_c2
set_option maxRecDepth 65536 in
theorem w_t1 : words1.all (fun c => isCode c || c.before args0 about1) = true := by decide +kernel
theorem w_tables : (allAtoms (Jvm.Cond.code x code maxLocals ret :: tables_1)).before args0 about1 = true := by
  rw [allAtoms_all]
  show words1.all (fun c => c.before args0 about1) = true
  refine all_split ?_ w_codes
  rw [w_t1]
set_option maxRecDepth 65536 in
theorem w_case : (Jvm.Cond.and given_1 narrow_1).before args0 about1 = true := by decide +kernel
theorem w_applies : (headSpec (Jvm.Cond.code x code maxLocals ret :: tables_1) room_1).applies x e0.platform about1 = true :=
  (Spec.applies_iff w_frames).mpr ⟨w_running, w_runnable, w_alone, w_named, w_hears, w_ripe, w_room, w_tables⟩
theorem atStart : AtStart classFile x code maxLocals ret World_1 tables_1 room_1 Calls_1 rest_1 Pre_1 launch0 p0 e0 about1 theMethod args0 below0 :=
  ⟨lists_1, trivial, launch0.admits_env _ _ _, launch0.least_env, fairChoices_fair.cas, fairChoices_fair.clock, w_frames, w_args, w_heap, w_applies, trivial, trivial, w_case⟩
end start1
theorem witness_1 : WitnessClaimed_1 := ⟨start1.p0, start1.e0, start1.about1, start1.theMethod, start1.args0, start1.below0, start1.atStart⟩
end Jvm.Pilot.@@N@@
