import JvmDerived
import JvmDerived.Pilot.@@N@@Statement
import JvmDerived.Pilot.@@N@@Code
set_option linter.unusedVariables false
set_option linter.unusedSimpArgs false
namespace Jvm.Pilot.@@N@@
open Jvm Jvm.ClassFile Sem Op Lib Jvm.Free Jvm.Stand Jvm.LawKit Jvm.RoadKit Bundle Jvm.Pilot.@@N@@.Jvm.D
/-! the walk's goal in continuation style -/
def own_Ends (p : Program) (e : Env) (below : List Frame) (s : State) (Q : Option Value → Heap → List Loc → Prop) (k n : Nat) (t : State) : Prop :=
  ∃ s₂ o, Steps p.tables e below t s₂ ∧ s₂.status = .running ∧ Ended s₂ below o ∧ ∃ v L, o = .returned v ∧ Q v s₂.heap L ∧ FrameEnd s o s₂ L k n
section OwnEnds
variable {p : Program} {l : Launch} {e : Env} {R : Room} {s : State} {m : MethodId} {args : Array Value} {below : List Frame} {meth : Method} {c : Code} {T : State} {locs : List Loc} {cells slots : Nat} {Q : Option Value → Heap → List Loc → Prop} {k n : Nat}
theorem own_go {t t' : State} (h : ∀ u, Steps p.tables e below t' u → Steps p.tables e below t u) (g : own_Ends p e below s Q k n t') : own_Ends p e below s Q k n t := by
  obtain ⟨s₂, o, h1, h2⟩ := g
  exact ⟨s₂, o, h _ h1, h2⟩
theorem own_retN (X : Stand p l e R s m args below meth c T locs cells slots) (hx : p.tables.exec = Jvm.exec) {pc : Nat} {Ls : Array Slot} {z w : Int32} {t : FieldType} {rest : List Value} (hret : meth.sig.returnType = some t) (ht : t = .boolean ∨ t = .byte ∨ t = .char ∨ t = .short)
    (hd : decode c.code pc = .ok (.ireturn, 1)) (hlk : meth.locks = false) (hz : nar t z = w) (hQ : Q (some (.int w)) T.heap locs) (hk : cells ≤ k) (hn : slots ≤ n) : own_Ends p e below s Q k n (T.setTop (mkF m pc Ls (.int z :: rest))) := by
  subst hz
  obtain ⟨fs, hr, hrun, hended, hW, hsame⟩ := X.leave (v := some (.int (nar t z))) (fun h => by rw [hret] at h; cases h) hlk
  exact ⟨_, _, retN X hx hret ht hd hr, hrun, hended, _, _, rfl, hQ, ⟨_, rfl⟩, hW, hsame.mono hk hn⟩
theorem own_ret (X : Stand p l e R s m args below meth c T locs cells slots) (hx : p.tables.exec = Jvm.exec) {pc : Nat} {Ls : Array Slot} {w : Value} {t : FieldType} {i : Instr} {rest : List Value} (hret : meth.sig.returnType = some t) (hn' : narrow t w = w)
    (hi : (i = .ireturn ∧ (t = .int ∨ t = .boolean ∨ t = .byte ∨ t = .char ∨ t = .short) ∧ ∃ z, w = .int z) ∨ (i = .lreturn ∧ t = .long ∧ ∃ z, w = .long z) ∨ (i = .dreturn ∧ t = .double ∧ ∃ z, w = .double z) ∨ (i = .freturn ∧ t = .float ∧ ∃ z, w = .float z) ∨ (i = .areturn ∧ t.isReference = true ∧ w.isRef = true))
    (hd : decode c.code pc = .ok (i, 1)) (hlk : meth.locks = false) (hQ : Q (some w) T.heap locs) (hk : cells ≤ k) (hn : slots ≤ n) : own_Ends p e below s Q k n (T.setTop (mkF m pc Ls (w :: rest))) := by
  obtain ⟨fs, hr, hrun, hended, hW, hsame⟩ := X.leave (v := some w) (fun h => by rw [hret] at h; cases h) hlk
  exact ⟨_, _, retOut X hx hret hn' hi hd hr, hrun, hended, _, _, rfl, hQ, ⟨_, rfl⟩, hW, hsame.mono hk hn⟩
theorem own_ret0 (X : Stand p l e R s m args below meth c T locs cells slots) (hx : p.tables.exec = Jvm.exec) {pc : Nat} {Ls : Array Slot} (hret : meth.sig.returnType = none)
    (hd : decode c.code pc = .ok (.return_, 1)) (hlk : meth.locks = false) (hQ : Q none T.heap locs) (hk : cells ≤ k) (hn : slots ≤ n) : own_Ends p e below s Q k n (T.setTop (mkF m pc Ls [])) := by
  obtain ⟨fs, hr, hrun, hended, hW, hsame⟩ := X.leave (v := none) (fun _ => rfl) hlk
  exact ⟨_, _, X.returnOut hx hret hd hr, hrun, hended, _, _, rfl, hQ, ⟨_, rfl⟩, hW, hsame.mono hk hn⟩
end OwnEnds
theorem pd_0 : parseMethodDescriptor "([DD)I" = some ⟨[(.array .double), .double], some .int⟩ := by decide +kernel
theorem pd_1 : parseMethodDescriptor "([DIIIDD)Z" = some ⟨[(.array .double), .int, .int, .int, .double, .double], some .boolean⟩ := by decide +kernel
theorem own_b53 (x : Int32) : B53 x.toInt64 := by
  have h := rng32 x
  have h2 := c_i2l x
  exact b53 (by rw [Int64.lt_iff_toInt_lt, h2]; show (-9007199254740992 : Int) < _; omega) (by rw [Int64.lt_iff_toInt_lt, h2]; show _ < (9007199254740992 : Int); omega)
theorem own_z (x : Int32) (h : ¬ x = 0) : ¬ x.toInt64 = 0 := by
  intro q
  apply h
  rw [← Int64.toInt_inj, c_i2l] at q
  rw [← Int32.toInt_inj]
  exact q
def own_sg (sg : Int64) : Prop := sg = 1 ∨ sg = -1
theorem own_sgv {sg : Int64} (h : own_sg sg) : sg.toInt = 1 ∨ sg.toInt = -1 := by
  rcases h with rfl | rfl
  · exact Or.inl (by decide)
  · exact Or.inr (by decide)
theorem own_k {sg : Int64} (h : own_sg sg) (a : Int32) : (sg * a.toInt64).toInt = sg.toInt * a.toInt ∧ -2147483648 ≤ (sg * a.toInt64).toInt ∧ (sg * a.toInt64).toInt ≤ 2147483648 := by
  have h1 := c_lmul sg a.toInt64
  have h2 := rng32 a
  have h3 := rng64 (sg * a.toInt64)
  rw [c_i2l] at h1
  rcases own_sgv h with e | e <;> rw [e] at h1 ⊢ <;> generalize (sg * a.toInt64).toInt = y at * <;> omega
theorem own_kb {sg : Int64} (h : own_sg sg) (a : Int32) : B53 (sg * a.toInt64) := by
  have h1 := own_k h a
  exact b53 (by rw [Int64.lt_iff_toInt_lt]; show (-9007199254740992 : Int) < _; omega) (by rw [Int64.lt_iff_toInt_lt]; show _ < (9007199254740992 : Int); omega)
theorem own_sgb {sg : Int64} (h : own_sg sg) : B53 sg := by
  rcases h with rfl | rfl
  · exact b53 (by decide) (by decide)
  · exact b53 (by decide) (by decide)
theorem own_mul {sg : Int64} (h : own_sg sg) (a : Int32) : FP.dmul (FP.l2d sg) (FP.i2d a) = FP.l2d (sg * a.toInt64) ∨ (sg * a.toInt64 = 0 ∧ FP.dmul (FP.l2d sg) (FP.i2d a) = 9223372036854775808) := by
  rw [i2d_w]
  have hs : ¬ sg = 0 := by rcases h with rfl | rfl <;> decide
  by_cases ha : a = 0
  · have hz : a.toInt64 = 0 := by rw [ha]; decide
    have hp : sg * a.toInt64 = 0 := by rw [hz, Int64.mul_zero]
    rw [dmul_z (own_sgb h) (own_b53 a) (Or.inr hz), hp]
    split
    · exact Or.inr ⟨rfl, rfl⟩
    · exact Or.inl rfl
  · left
    have hk := rng32 a
    have e := c_i2l a
    have hr : -9223372036854775808 ≤ sg.toInt * a.toInt64.toInt ∧ sg.toInt * a.toInt64.toInt < 9223372036854775808 := by
      rw [e]
      rcases own_sgv h with q | q <;> rw [q] <;> omega
    exact dmul_w (own_sgb h) (own_b53 a) hs (own_z a ha) hr.1 hr.2
theorem own_nn {sg : Int64} (h : own_sg sg) (a : Int32) : Jvm.Free.Fl.NoNaN64 (FP.dmul (FP.l2d sg) (FP.i2d a)) := by
  rcases own_mul h a with q | ⟨-, q⟩
  · exact nn_w q
  · rw [q]; decide
theorem own_signedT (c : Nat) : FP.Core.signed true c = -(c : Int) := rfl
theorem own_signedF (c : Nat) : FP.Core.signed false c = (c : Int) := rfl
theorem own_inUnits0 (q e : Int) : FP.Core.inUnits 0 q e = 0 := Nat.zero_mul _
theorem own_dec1 : FP.Core.decode FP.Core.b64 ((9223372036854775808 : UInt64).toNat) = .fin true 0 FP.Core.b64.qmin := by decide +kernel
theorem own_dec0 : FP.Core.decode FP.Core.b64 ((0 : UInt64).toNat) = .fin false 0 FP.Core.b64.qmin := by decide +kernel
theorem own_cmp0 (y : UInt64) : FP.dcmp 9223372036854775808 y = FP.dcmp 0 y ∧ FP.dcmp y 9223372036854775808 = FP.dcmp y 0 := by
  constructor
  · show FP.Core.order (FP.Core.decode FP.Core.b64 ((9223372036854775808 : UInt64).toNat)) (FP.Core.decode FP.Core.b64 y.toNat) = FP.Core.order (FP.Core.decode FP.Core.b64 ((0 : UInt64).toNat)) (FP.Core.decode FP.Core.b64 y.toNat)
    rw [own_dec1, own_dec0]
    cases FP.Core.decode FP.Core.b64 y.toNat with
    | nan => rfl
    | inf s => rfl
    | fin s c q =>
      show some (compare (FP.Core.signed true (FP.Core.inUnits 0 _ _)) _) = some (compare (FP.Core.signed false (FP.Core.inUnits 0 _ _)) _)
      rw [own_inUnits0, own_signedT, own_signedF]
      rfl
  · show FP.Core.order (FP.Core.decode FP.Core.b64 y.toNat) (FP.Core.decode FP.Core.b64 ((9223372036854775808 : UInt64).toNat)) = FP.Core.order (FP.Core.decode FP.Core.b64 y.toNat) (FP.Core.decode FP.Core.b64 ((0 : UInt64).toNat))
    rw [own_dec1, own_dec0]
    cases FP.Core.decode FP.Core.b64 y.toNat with
    | nan => rfl
    | inf s => rfl
    | fin s c q =>
      show some (compare _ (FP.Core.signed true (FP.Core.inUnits 0 _ _))) = some (compare _ (FP.Core.signed false (FP.Core.inUnits 0 _ _)))
      rw [own_inUnits0, own_signedT, own_signedF]
      rfl
theorem own_cmp {sg : Int64} (h : own_sg sg) (a b : Int32) (o : CmpOp) : cmpValue (FP.dcmp (FP.dmul (FP.l2d sg) (FP.i2d a)) (FP.dmul (FP.l2d sg) (FP.i2d b))) o = lcmpW (sg * a.toInt64) (sg * b.toInt64) := by
  have e : FP.dcmp (FP.dmul (FP.l2d sg) (FP.i2d a)) (FP.dmul (FP.l2d sg) (FP.i2d b)) = FP.dcmp (FP.l2d (sg * a.toInt64)) (FP.l2d (sg * b.toInt64)) := by
    rcases own_mul h a with q | ⟨q0, q⟩ <;> rcases own_mul h b with r | ⟨r0, r⟩
    · rw [q, r]
    · rw [q, r, r0, (own_cmp0 _).2, l2d_zero]
    · rw [q, r, q0, (own_cmp0 _).1, l2d_zero]
    · rw [q, r, q0, r0]; decide +kernel
  rw [e]
  exact dcmpV_w (own_kb h a) (own_kb h b) o
def own_key (sg : Int64) (xs : List Int32) (j : Nat) : Int64 := sg * (xs.getD j 0).toInt64
def own_best (sg : Int64) (xs : List Int32) (r n : Nat) : Prop := (∀ j, j < r → own_key sg xs j < own_key sg xs r) ∧ (∀ j, r ≤ j → j < n → ¬ own_key sg xs r < own_key sg xs j)
theorem own_best_yes {sg : Int64} {xs : List Int32} {r i : Nat} (hr : r < i) (h : own_best sg xs r i) (g : own_key sg xs r < own_key sg xs i) : own_best sg xs i (i + 1) := by
  refine ⟨fun j hj => ?_, fun j h1 h2 => ?_⟩
  · rcases Nat.lt_or_ge j r with q | q
    · have := h.1 j q
      rw [Int64.lt_iff_toInt_lt] at *; omega
    · have := h.2 j q hj
      rw [Int64.lt_iff_toInt_lt] at *; omega
  · have : j = i := by omega
    subst this
    rw [Int64.lt_iff_toInt_lt]; omega
theorem own_best_no {sg : Int64} {xs : List Int32} {r i : Nat} (h : own_best sg xs r i) (g : ¬ own_key sg xs r < own_key sg xs i) : own_best sg xs r (i + 1) := by
  refine ⟨h.1, fun j h1 h2 => ?_⟩
  rcases Nat.lt_or_ge j i with q | q
  · exact h.2 j h1 q
  · have : j = i := by omega
    subst this; exact g
theorem own_best_one (sg : Int64) (xs : List Int32) : own_best sg xs 0 1 := by
  refine ⟨fun j hj => absurd hj (Nat.not_lt_zero _), fun j h1 h2 => ?_⟩
  have : j = 0 := by omega
  subst this
  rw [Int64.lt_iff_toInt_lt]; omega
theorem own_ofNat_lt {i n : Nat} (hi : i < 2 ^ 31) (hn : n < 2 ^ 31) : (Int32.ofNat i < Int32.ofNat n) ↔ i < n := by
  rw [Int32.lt_iff_toInt_lt, Int32.toInt_ofNat_small hi, Int32.toInt_ofNat_small hn]; omega
theorem own_nneg {i : Nat} (hi : i < 2 ^ 31) : ¬ Int32.ofNat i < 0 := by
  have := own_ofNat_lt (i := i) (n := 0) hi (by decide)
  intro h
  exact absurd (this.mp h) (Nat.not_lt_zero _)
theorem own_clamp {i : Nat} (hi : i < 2 ^ 31) : (Int32.ofNat i).toNatClampNeg = i := by
  show (Int32.ofNat i).toInt.toNat = i
  rw [Int32.toInt_ofNat_small hi]; exact Int.toNat_natCast i
theorem own_up (i : Nat) : Int32.ofNat i + (1 : Int32) = Int32.ofNat (i + 1) := (Int32.ofNat_add i 1).symm
def own_dbl (a : Int32) : Value := .double (FP.i2d a)
theorem own_getD (xs : List Int32) {j : Nat} (hj : j < 2 ^ 31) (hl : j < xs.length) : (xs.map own_dbl).getD (Int32.ofNat j).toNatClampNeg (.double (0 : UInt64)) = .double (FP.i2d (xs.getD j 0)) := by
  rw [own_clamp hj, List.getD_eq_getElem?_getD, List.getElem?_map, List.getD_eq_getElem?_getD, List.getElem?_eq_getElem hl]
  rfl
theorem own_n4 (x : Int32) : (1 : Int32) + (x &&& (3 : Int32)) = 1 ∨ (1 : Int32) + (x &&& (3 : Int32)) = 2 ∨ (1 : Int32) + (x &&& (3 : Int32)) = 3 ∨ (1 : Int32) + (x &&& (3 : Int32)) = 4 := by
  have h := c_mask x 3 2 (by decide) (by decide)
  have h2 := c_iadd 1 (x &&& 3)
  have h3 := rng32 (1 + (x &&& 3))
  have e1 : (1 : Int32).toInt = 1 := by decide
  have e2 : (2 : Int32).toInt = 2 := by decide
  have e3 : (3 : Int32).toInt = 3 := by decide
  have e4 : (4 : Int32).toInt = 4 := by decide
  rw [e1] at h2
  simp only [← Int32.toInt_inj, e1, e2, e3, e4]
  generalize ((1 : Int32) + (x &&& 3)).toInt = y at *
  generalize (x &&& 3).toInt = q at *
  omega
theorem d1_0 : decode prog_146_method_5_code 0 = .ok (.iconst 0, 1) := by decide +kernel
theorem d1_1 : decode prog_146_method_5_code 1 = .ok (.istore_n 3, 1) := by decide +kernel
theorem d1_2 : decode prog_146_method_5_code 2 = .ok (.iconst 1, 1) := by decide +kernel
theorem d1_3 : decode prog_146_method_5_code 3 = .ok (.istore 4, 2) := by decide +kernel
theorem d1_5 : decode prog_146_method_5_code 5 = .ok (.iload 4, 2) := by decide +kernel
theorem d1_7 : decode prog_146_method_5_code 7 = .ok (.aload_n 0, 1) := by decide +kernel
theorem d1_8 : decode prog_146_method_5_code 8 = .ok (.arraylength, 1) := by decide +kernel
theorem d1_9 : decode prog_146_method_5_code 9 = .ok (.if_icmp .ge 27, 3) := by decide +kernel
theorem d1_12 : decode prog_146_method_5_code 12 = .ok (.dload_n 1, 1) := by decide +kernel
theorem d1_13 : decode prog_146_method_5_code 13 = .ok (.aload_n 0, 1) := by decide +kernel
theorem d1_14 : decode prog_146_method_5_code 14 = .ok (.iload 4, 2) := by decide +kernel
theorem d1_16 : decode prog_146_method_5_code 16 = .ok (.daload, 1) := by decide +kernel
theorem d1_17 : decode prog_146_method_5_code 17 = .ok (.dmul, 1) := by decide +kernel
theorem d1_18 : decode prog_146_method_5_code 18 = .ok (.dload_n 1, 1) := by decide +kernel
theorem d1_19 : decode prog_146_method_5_code 19 = .ok (.aload_n 0, 1) := by decide +kernel
theorem d1_20 : decode prog_146_method_5_code 20 = .ok (.iload_n 3, 1) := by decide +kernel
theorem d1_21 : decode prog_146_method_5_code 21 = .ok (.daload, 1) := by decide +kernel
theorem d1_22 : decode prog_146_method_5_code 22 = .ok (.dmul, 1) := by decide +kernel
theorem d1_23 : decode prog_146_method_5_code 23 = .ok (.dcmp .l, 1) := by decide +kernel
theorem d1_24 : decode prog_146_method_5_code 24 = .ok (.ifCond .le 6, 3) := by decide +kernel
theorem d1_27 : decode prog_146_method_5_code 27 = .ok (.iload 4, 2) := by decide +kernel
theorem d1_29 : decode prog_146_method_5_code 29 = .ok (.istore_n 3, 1) := by decide +kernel
theorem d1_30 : decode prog_146_method_5_code 30 = .ok (.iinc 4 1, 3) := by decide +kernel
theorem d1_33 : decode prog_146_method_5_code 33 = .ok (.goto (-28), 3) := by decide +kernel
theorem d1_36 : decode prog_146_method_5_code 36 = .ok (.iload_n 3, 1) := by decide +kernel
theorem d1_37 : decode prog_146_method_5_code 37 = .ok (.ireturn, 1) := by decide +kernel
theorem pn_0 : plainName "com/example/weftbind/weftbind/RouteExtremes" = true := by first | (simp [plainName, overriddenIn]; done) | decide +kernel
theorem ef_1 (m : MethodId) (x0 : Addr) (x1 : UInt64) : entryFrame m #[(.ref x0), (.double x1)] 5 = mkF m 0 #[.val (.ref x0), .val (.double x1), .second, .unset, .unset] [] := by first | (simp [entryFrame, mkF, argsToLocals, Value.category]; done) | rfl
def Q1 (a1 : Addr) (k1 : ClassId) (xs : List Int32) (sg : Int64) (h0 : Heap) (n0 : Nat) (Z : State) (v : Option Value) (h : Heap) (L : List Loc) : Prop := ∃ r : Nat, v = some (.int (Int32.ofNat r)) ∧ Fr n0 L ∧ h = h0 ∧ r < xs.length ∧ own_best sg xs r xs.length
set_option maxRecDepth 65536 in
set_option maxHeartbeats 40000000 in
theorem rm1 (l : Launch) (Z : State) (a0 : Array Value) (hw : ∀ d ∈ tables_1, d.before a0 Z = true) (ws : List Jvm.Cond) (a1 : Addr) (k1 : ClassId) (xs : List Int32) (sg : Int64) (h0 : Heap) (n0 : Nat) (Z0 : n0 ≤ h0.size) (V1 : Arv Z h0 a1 k1 .double (Int32.ofNat xs.length) (xs.map own_dbl) (.double (0 : UInt64))) (hl : 1 ≤ xs.length ∧ xs.length ≤ 4) (hsg : own_sg sg) :
    MetFree l (⟨"com/example/weftbind/weftbind/RouteExtremes", "extremeCandidate", "([DD)I"⟩ : MethodName) (head1 (Jvm.Cond.code (⟨"com/example/weftbind/weftbind/RouteExtremes", "extremeCandidate", "([DD)I"⟩ : MethodName) prog_146_method_5_code 5 (some .int) :: ws) ({ frames := 0, cells := 0, slots := 0, locals := 0 } : Room)) (fun a U => a = #[(.ref a1), (.double (FP.l2d sg))] ∧ Z.Warmed39 U.vm ∧ U.heap = h0) (fun _ _ _ _ _ => True) (fun _ U o U' => ∃ v L, o = .returned v ∧ Q1 a1 k1 xs sg h0 n0 Z v U'.heap L ∧ FrameEnd U o U' L ({ frames := 0, cells := 0, slots := 0, locals := 0 } : Room).cells ({ frames := 0, cells := 0, slots := 0, locals := 0 } : Room).slots) := by
  refine MetFree.of_bodySF (plainFor_of_name pn_0) hisR ?_
  intro p e s m args below meth c s₁ Bd hml0 hP hK
  obtain ⟨rfl, hZ, hh⟩ := hP
  have hx := Bd.exec
  have hby := Bd.bytes
  have hml : c.maxLocals = 5 := hml0
  have hown : s.vm.findClass "com/example/weftbind/weftbind/RouteExtremes" = some m.cls := findClass_of_methodNamed Bd.named
  have hnm := (name_of_methodNamed Bd.named Bd.method).1
  have hlk := Bd.notSynchronized
  have hrt := Bd.returns
  have X0 : Stand p l e ({ frames := 0, cells := 0, slots := 0, locals := 0 } : Room) s m #[(.ref a1), (.double (FP.l2d sg))] below meth c s₁ [] 0 0 := Stand.of_body Bd
  have e0 : s₁.heap = h0 := by rw [← hh, Bd.state]; rfl
  have N0 := Fr.nil n0
  show own_Ends p e below s (Q1 a1 k1 xs sg h0 n0 Z) ({ frames := 0, cells := 0, slots := 0, locals := 0 } : Room).cells ({ frames := 0, cells := 0, slots := 0, locals := 0 } : Room).slots (s₁.setTop (entryFrame m #[(.ref a1), (.double (FP.l2d sg))] 5))
  rw [ef_1]
  refine own_go (fun _ k => XT.iconstV X0.here hx rfl (0 : Int32) (hb hby d1_0) rfl <| XS.istoreN X0.here hx rfl (hb hby d1_1) rfl (l' := #[.val (.ref a1), .val (.double (FP.l2d sg)), .second, .val (.int (0 : Int32)), .unset]) rfl <| XT.iconstV X0.here hx rfl (1 : Int32) (hb hby d1_2) rfl <| XS.istore X0.here hx rfl (hb hby d1_3) rfl (l' := #[.val (.ref a1), .val (.double (FP.l2d sg)), .second, .val (.int (0 : Int32)), .val (.int (1 : Int32))]) rfl <| k) ?_
  show own_Ends p e below s _ _ _ (s₁.setTop (mkF m 5 #[.val (.ref a1), .val (.double (FP.l2d sg)), .second, .val (.int (0 : Int32)), .val (.int (1 : Int32))] []))
  have loop : ∀ (k i r : Nat), i + k = xs.length → 1 ≤ i → r < i → own_best sg xs r i → ∀ (T : State), Stand p l e ({ frames := 0, cells := 0, slots := 0, locals := 0 } : Room) s m #[(.ref a1), (.double (FP.l2d sg))] below meth c T [] 0 0 → T.heap = h0 → own_Ends p e below s (Q1 a1 k1 xs sg h0 n0 Z) ({ frames := 0, cells := 0, slots := 0, locals := 0 } : Room).cells ({ frames := 0, cells := 0, slots := 0, locals := 0 } : Room).slots (T.setTop (mkF m 5 #[.val (.ref a1), .val (.double (FP.l2d sg)), .second, .val (.int (Int32.ofNat r)), .val (.int (Int32.ofNat i))] [])) := by
    intro k
    induction k with
    | zero =>
      intro i r hjn h1 hri hbb T XL eL
      have hjn : i = xs.length := by omega
      have hri : r < xs.length := by omega
      refine own_go (fun _ k => XS.iload XL.here hx rfl (hb hby d1_5) rfl <| XS.aloadN XL.here hx rfl (hb hby d1_7) rfl rfl <| k) ?_
      show own_Ends p e below s _ _ _ (T.setTop (mkF m 8 #[.val (.ref a1), .val (.double (FP.l2d sg)), .second, .val (.int (Int32.ofNat r)), .val (.int (Int32.ofNat i))] [(.ref a1), (.int (Int32.ofNat i))]))
      obtain ⟨cla1_8_1, Ara1_8_1, qqa1_8_1, Sza1_8_1, Nga1_8_1, Hsa1_8_1, Gfa1_8_1⟩ := id V1
      refine own_go (fun _ k => XL.arraylength hx (by first | exact Ara1_8_1.1 | (rw [eL]; exact Ara1_8_1.1)) (State.isArrayOf_alike hZ.alike Ara1_8_1.2.1) (g := (mkF m 8 #[.val (.ref a1), .val (.double (FP.l2d sg)), .second, .val (.int (Int32.ofNat r)), .val (.int (Int32.ofNat i))] [(.ref a1), (.int (Int32.ofNat i))])) rfl rfl (hb hby d1_8) _ k) ?_
      rw [len_of Sza1_8_1 Nga1_8_1]
      show own_Ends p e below s _ _ _ (T.setTop (mkF m 9 #[.val (.ref a1), .val (.double (FP.l2d sg)), .second, .val (.int (Int32.ofNat r)), .val (.int (Int32.ofNat i))] [(.int (Int32.ofNat xs.length)), (.int (Int32.ofNat i))]))
      refine own_go (fun _ k => XS.icmpYes XL.here hx rfl (pc0 := 9) (pc' := 36) rfl (hb hby d1_9) rfl (flt (fun q => absurd ((own_ofNat_lt (by omega) (by omega)).mp q) (by omega))).2.1 (by decide) (by decide) <| XS.iloadN XL.here hx rfl (hb hby d1_36) rfl <| k) ?_
      show own_Ends p e below s _ _ _ (T.setTop (mkF m 37 #[.val (.ref a1), .val (.double (FP.l2d sg)), .second, .val (.int (Int32.ofNat r)), .val (.int (Int32.ofNat i))] [(.int (Int32.ofNat r))]))
      exact own_ret XL hx hrt rfl (Or.inl ⟨rfl, Or.inl rfl, _, rfl⟩) (hb hby d1_37) hlk (by rw [eL]; exact ⟨r, rfl, N0, rfl, hri, by rw [← hjn]; exact hbb⟩) (by decide) (by decide)
    | succ k ih =>
      intro i r hjn h1 hri hbb T XL eL
      have hin : i < xs.length := by omega
      refine own_go (fun _ k => XS.iload XL.here hx rfl (hb hby d1_5) rfl <| XS.aloadN XL.here hx rfl (hb hby d1_7) rfl rfl <| k) ?_
      show own_Ends p e below s _ _ _ (T.setTop (mkF m 8 #[.val (.ref a1), .val (.double (FP.l2d sg)), .second, .val (.int (Int32.ofNat r)), .val (.int (Int32.ofNat i))] [(.ref a1), (.int (Int32.ofNat i))]))
      obtain ⟨cla1_8_2, Ara1_8_2, qqa1_8_2, Sza1_8_2, Nga1_8_2, Hsa1_8_2, Gfa1_8_2⟩ := id V1
      refine own_go (fun _ k => XL.arraylength hx (by first | exact Ara1_8_2.1 | (rw [eL]; exact Ara1_8_2.1)) (State.isArrayOf_alike hZ.alike Ara1_8_2.2.1) (g := (mkF m 8 #[.val (.ref a1), .val (.double (FP.l2d sg)), .second, .val (.int (Int32.ofNat r)), .val (.int (Int32.ofNat i))] [(.ref a1), (.int (Int32.ofNat i))])) rfl rfl (hb hby d1_8) _ k) ?_
      rw [len_of Sza1_8_2 Nga1_8_2]
      show own_Ends p e below s _ _ _ (T.setTop (mkF m 9 #[.val (.ref a1), .val (.double (FP.l2d sg)), .second, .val (.int (Int32.ofNat r)), .val (.int (Int32.ofNat i))] [(.int (Int32.ofNat xs.length)), (.int (Int32.ofNat i))]))
      refine own_go (fun _ k => XS.icmpNo XL.here hx rfl (hb hby d1_9) rfl (tlt ((own_ofNat_lt (by omega) (by omega)).mpr hin)).2.1 <| XS.dloadN XL.here hx rfl (hb hby d1_12) rfl <| XS.aloadN XL.here hx rfl (hb hby d1_13) rfl rfl <| XS.iload XL.here hx rfl (hb hby d1_14) rfl <| k) ?_
      show own_Ends p e below s _ _ _ (T.setTop (mkF m 16 #[.val (.ref a1), .val (.double (FP.l2d sg)), .second, .val (.int (Int32.ofNat r)), .val (.int (Int32.ofNat i))] [(.int (Int32.ofNat i)), (.ref a1), (.double (FP.l2d sg))]))
      obtain ⟨cla1_16_3, Ara1_16_3, qqa1_16_3, Sza1_16_3, Nga1_16_3, Hsa1_16_3, Gfa1_16_3⟩ := id V1
      have hina1_16_3 : ¬ ((Int32.ofNat i) < 0 ∨ cla1_16_3.slots.size ≤ ((Int32.ofNat i)).toNatClampNeg) := inb_of Sza1_16_3 ⟨own_nneg (by omega), (own_ofNat_lt (by omega) (by omega)).mpr hin⟩
      have hata1_16_3 : cla1_16_3.slots[((Int32.ofNat i)).toNatClampNeg]? = some (.double (FP.i2d (xs.getD i 0))) := Hsa1_16_3.at hina1_16_3 (own_getD xs (by omega) hin)
      refine own_go (fun _ k => XL.daload hx (j := (Int32.ofNat i)) (v := (.double (FP.i2d (xs.getD i 0)))) (by first | exact Ara1_16_3.1 | (rw [eL]; exact Ara1_16_3.1)) (State.isArrayOf_alike hZ.alike Ara1_16_3.2.1) Ara1_16_3.2.2 hina1_16_3 hata1_16_3 (g := (mkF m 16 #[.val (.ref a1), .val (.double (FP.l2d sg)), .second, .val (.int (Int32.ofNat r)), .val (.int (Int32.ofNat i))] [(.int (Int32.ofNat i)), (.ref a1), (.double (FP.l2d sg))])) rfl rfl (hb hby d1_16) _ k) ?_
      show own_Ends p e below s _ _ _ (T.setTop (mkF m 17 #[.val (.ref a1), .val (.double (FP.l2d sg)), .second, .val (.int (Int32.ofNat r)), .val (.int (Int32.ofNat i))] [(.double (FP.i2d (xs.getD i 0))), (.double (FP.l2d sg))]))
      refine own_go (fun _ k => XS.dmulS XL.here hx rfl (hb hby d1_17) rfl (own_nn hsg _) rfl <| XS.dloadN XL.here hx rfl (hb hby d1_18) rfl <| XS.aloadN XL.here hx rfl (hb hby d1_19) rfl rfl <| XS.iloadN XL.here hx rfl (hb hby d1_20) rfl <| k) ?_
      show own_Ends p e below s _ _ _ (T.setTop (mkF m 21 #[.val (.ref a1), .val (.double (FP.l2d sg)), .second, .val (.int (Int32.ofNat r)), .val (.int (Int32.ofNat i))] [(.int (Int32.ofNat r)), (.ref a1), (.double (FP.l2d sg)), (.double (FP.dmul (FP.l2d sg) (FP.i2d (xs.getD i 0))))]))
      obtain ⟨cla1_21_4, Ara1_21_4, qqa1_21_4, Sza1_21_4, Nga1_21_4, Hsa1_21_4, Gfa1_21_4⟩ := id V1
      have hina1_21_4 : ¬ ((Int32.ofNat r) < 0 ∨ cla1_21_4.slots.size ≤ ((Int32.ofNat r)).toNatClampNeg) := inb_of Sza1_21_4 ⟨own_nneg (by omega), (own_ofNat_lt (by omega) (by omega)).mpr (show r < xs.length by omega)⟩
      have hata1_21_4 : cla1_21_4.slots[((Int32.ofNat r)).toNatClampNeg]? = some (.double (FP.i2d (xs.getD r 0))) := Hsa1_21_4.at hina1_21_4 (own_getD xs (by omega) (show r < xs.length by omega))
      refine own_go (fun _ k => XL.daload hx (j := (Int32.ofNat r)) (v := (.double (FP.i2d (xs.getD r 0)))) (by first | exact Ara1_21_4.1 | (rw [eL]; exact Ara1_21_4.1)) (State.isArrayOf_alike hZ.alike Ara1_21_4.2.1) Ara1_21_4.2.2 hina1_21_4 hata1_21_4 (g := (mkF m 21 #[.val (.ref a1), .val (.double (FP.l2d sg)), .second, .val (.int (Int32.ofNat r)), .val (.int (Int32.ofNat i))] [(.int (Int32.ofNat r)), (.ref a1), (.double (FP.l2d sg)), (.double (FP.dmul (FP.l2d sg) (FP.i2d (xs.getD i 0))))])) rfl rfl (hb hby d1_21) _ k) ?_
      show own_Ends p e below s _ _ _ (T.setTop (mkF m 22 #[.val (.ref a1), .val (.double (FP.l2d sg)), .second, .val (.int (Int32.ofNat r)), .val (.int (Int32.ofNat i))] [(.double (FP.i2d (xs.getD r 0))), (.double (FP.l2d sg)), (.double (FP.dmul (FP.l2d sg) (FP.i2d (xs.getD i 0))))]))
      refine own_go (fun _ k => XS.dmulS XL.here hx rfl (hb hby d1_22) rfl (own_nn hsg _) rfl <| XS.dcmpS XL.here hx rfl (v := (lcmpW (own_key sg xs i) (own_key sg xs r))) (hb hby d1_23) rfl (own_cmp hsg _ _ _) <| k) ?_
      show own_Ends p e below s _ _ _ (T.setTop (mkF m 24 #[.val (.ref a1), .val (.double (FP.l2d sg)), .second, .val (.int (Int32.ofNat r)), .val (.int (Int32.ofNat i))] [(.int (lcmpW (own_key sg xs i) (own_key sg xs r)))]))
      by_cases hc24_5 : (own_key sg xs r) < (own_key sg xs i)
      · -- true
        refine own_go (fun _ k => XS.ifNo XL.here hx rfl (hb hby d1_24) rfl ((if0 _ _).trans (tlt ((lw_gt _ _).mpr hc24_5)).2.2.2) <| XS.iload XL.here hx rfl (hb hby d1_27) rfl <| XS.istoreN XL.here hx rfl (hb hby d1_29) rfl (l' := #[.val (.ref a1), .val (.double (FP.l2d sg)), .second, .val (.int (Int32.ofNat i)), .val (.int (Int32.ofNat i))]) rfl <| XT.iincV XL.here hx rfl (1 : Int32) (hb hby d1_30) rfl rfl (l' := #[.val (.ref a1), .val (.double (FP.l2d sg)), .second, .val (.int (Int32.ofNat i)), .val (.int ((Int32.ofNat i) + (1 : Int32)))]) rfl <| XS.goto XL.here hx rfl (pc0 := 33) (pc' := 5) rfl (hb hby d1_33) (by decide) (by decide) <| k) ?_
        show own_Ends p e below s _ _ _ (T.setTop (mkF m 5 #[.val (.ref a1), .val (.double (FP.l2d sg)), .second, .val (.int (Int32.ofNat i)), .val (.int ((Int32.ofNat i) + (1 : Int32)))] []))
        rw [own_up]
        exact ih (i + 1) i (by omega) (by omega) (by omega) (own_best_yes hri hbb hc24_5) _ XL eL
      · -- false
        refine own_go (fun _ k => XS.ifYes XL.here hx rfl (pc0 := 24) (pc' := 30) rfl (hb hby d1_24) rfl ((if0 _ _).trans (flt (fun q => hc24_5 ((lw_gt _ _).mp q))).2.2.2) (by decide) (by decide) <| XT.iincV XL.here hx rfl (1 : Int32) (hb hby d1_30) rfl rfl (l' := #[.val (.ref a1), .val (.double (FP.l2d sg)), .second, .val (.int (Int32.ofNat r)), .val (.int ((Int32.ofNat i) + (1 : Int32)))]) rfl <| XS.goto XL.here hx rfl (pc0 := 33) (pc' := 5) rfl (hb hby d1_33) (by decide) (by decide) <| k) ?_
        show own_Ends p e below s _ _ _ (T.setTop (mkF m 5 #[.val (.ref a1), .val (.double (FP.l2d sg)), .second, .val (.int (Int32.ofNat r)), .val (.int ((Int32.ofNat i) + (1 : Int32)))] []))
        rw [own_up]
        exact ih (i + 1) r (by omega) (by omega) (by omega) (own_best_no hbb hc24_5) _ XL eL
  exact loop (xs.length - 1) 1 0 (by omega) (Nat.le_refl 1) (by decide) (own_best_one sg xs) _ X0 e0
theorem d2_0 : decode method_3_code 0 = .ok (.iload_n 2, 1) := by decide +kernel
theorem d2_1 : decode method_3_code 1 = .ok (.iload_n 1, 1) := by decide +kernel
theorem d2_2 : decode method_3_code 2 = .ok (.if_icmp .lt 5, 3) := by decide +kernel
theorem d2_5 : decode method_3_code 5 = .ok (.iconst 1, 1) := by decide +kernel
theorem d2_6 : decode method_3_code 6 = .ok (.ireturn, 1) := by decide +kernel
theorem d2_7 : decode method_3_code 7 = .ok (.dload 4, 2) := by decide +kernel
theorem d2_9 : decode method_3_code 9 = .ok (.aload_n 0, 1) := by decide +kernel
theorem d2_10 : decode method_3_code 10 = .ok (.iload_n 2, 1) := by decide +kernel
theorem d2_11 : decode method_3_code 11 = .ok (.daload, 1) := by decide +kernel
theorem d2_12 : decode method_3_code 12 = .ok (.dmul, 1) := by decide +kernel
theorem d2_13 : decode method_3_code 13 = .ok (.dstore 8, 2) := by decide +kernel
theorem d2_15 : decode method_3_code 15 = .ok (.iload_n 2, 1) := by decide +kernel
theorem d2_16 : decode method_3_code 16 = .ok (.iload_n 3, 1) := by decide +kernel
theorem d2_17 : decode method_3_code 17 = .ok (.if_icmp .ge 17, 3) := by decide +kernel
theorem d2_20 : decode method_3_code 20 = .ok (.dload 8, 2) := by decide +kernel
theorem d2_22 : decode method_3_code 22 = .ok (.dload 6, 2) := by decide +kernel
theorem d2_24 : decode method_3_code 24 = .ok (.dcmp .g, 1) := by decide +kernel
theorem d2_25 : decode method_3_code 25 = .ok (.ifCond .ge 7, 3) := by decide +kernel
theorem d2_28 : decode method_3_code 28 = .ok (.iconst 1, 1) := by decide +kernel
theorem d2_29 : decode method_3_code 29 = .ok (.goto 4, 3) := by decide +kernel
theorem d2_32 : decode method_3_code 32 = .ok (.iconst 0, 1) := by decide +kernel
theorem d2_33 : decode method_3_code 33 = .ok (.ireturn, 1) := by decide +kernel
theorem d2_34 : decode method_3_code 34 = .ok (.dload 8, 2) := by decide +kernel
theorem d2_36 : decode method_3_code 36 = .ok (.dload 6, 2) := by decide +kernel
theorem d2_38 : decode method_3_code 38 = .ok (.dcmp .g, 1) := by decide +kernel
theorem d2_39 : decode method_3_code 39 = .ok (.ifCond .gt 7, 3) := by decide +kernel
theorem d2_42 : decode method_3_code 42 = .ok (.iconst 1, 1) := by decide +kernel
theorem d2_43 : decode method_3_code 43 = .ok (.goto 4, 3) := by decide +kernel
theorem d2_46 : decode method_3_code 46 = .ok (.iconst 0, 1) := by decide +kernel
theorem d2_47 : decode method_3_code 47 = .ok (.ireturn, 1) := by decide +kernel
theorem pn_1 : plainName "com/example/weftbind/weftbind/RouteExtremesExtremeCandidatePinLaw" = true := by first | (simp [plainName, overriddenIn]; done) | decide +kernel
theorem ef_2 (m : MethodId) (x0 : Addr) (x1 : Int32) (x2 : Int32) (x3 : Int32) (x4 : UInt64) (x5 : UInt64) : entryFrame m #[(.ref x0), (.int x1), (.int x2), (.int x3), (.double x4), (.double x5)] 10 = mkF m 0 #[.val (.ref x0), .val (.int x1), .val (.int x2), .val (.int x3), .val (.double x4), .second, .val (.double x5), .second, .unset, .unset] [] := by first | (simp [entryFrame, mkF, argsToLocals, Value.category]; done) | rfl
def Q2 (a1 : Addr) (k1 : ClassId) (xs : List Int32) (sg : Int64) (i r : Nat) (h0 : Heap) (n0 : Nat) (Z : State) (v : Option Value) (h : Heap) (L : List Loc) : Prop := v = some (.int 1) ∧ Fr n0 L ∧ h = h0
set_option maxRecDepth 65536 in
set_option maxHeartbeats 40000000 in
theorem rm2 (l : Launch) (Z : State) (a0 : Array Value) (hw : ∀ d ∈ tables_1, d.before a0 Z = true) (ws : List Jvm.Cond) (a1 : Addr) (k1 : ClassId) (xs : List Int32) (sg : Int64) (i r : Nat) (h0 : Heap) (n0 : Nat) (Z0 : n0 ≤ h0.size) (V1 : Arv Z h0 a1 k1 .double (Int32.ofNat xs.length) (xs.map own_dbl) (.double (0 : UInt64))) (hl : 1 ≤ xs.length ∧ xs.length ≤ 4) (hsg : own_sg sg) (hi : i < 4) (hr : r < xs.length) (hbb : own_best sg xs r xs.length) :
    MetFree l (⟨"com/example/weftbind/weftbind/RouteExtremesExtremeCandidatePinLaw", "ok", "([DIIIDD)Z"⟩ : MethodName) (head1 (Jvm.Cond.code (⟨"com/example/weftbind/weftbind/RouteExtremesExtremeCandidatePinLaw", "ok", "([DIIIDD)Z"⟩ : MethodName) method_3_code 10 (some .boolean) :: ws) ({ frames := 0, cells := 0, slots := 0, locals := 0 } : Room)) (fun a U => a = #[(.ref a1), (.int (Int32.ofNat xs.length)), (.int (Int32.ofNat i)), (.int (Int32.ofNat r)), (.double (FP.l2d sg)), (.double (FP.dmul (FP.l2d sg) (FP.i2d (xs.getD r 0))))] ∧ Z.Warmed39 U.vm ∧ U.heap = h0) (fun _ _ _ _ _ => True) (fun _ U o U' => ∃ v L, o = .returned v ∧ Q2 a1 k1 xs sg i r h0 n0 Z v U'.heap L ∧ FrameEnd U o U' L ({ frames := 0, cells := 0, slots := 0, locals := 0 } : Room).cells ({ frames := 0, cells := 0, slots := 0, locals := 0 } : Room).slots) := by
  refine MetFree.of_bodySF (plainFor_of_name pn_1) hisR ?_
  intro p e s m args below meth c s₁ Bd hml0 hP hK
  obtain ⟨rfl, hZ, hh⟩ := hP
  have hx := Bd.exec
  have hby := Bd.bytes
  have hml : c.maxLocals = 10 := hml0
  have hown : s.vm.findClass "com/example/weftbind/weftbind/RouteExtremesExtremeCandidatePinLaw" = some m.cls := findClass_of_methodNamed Bd.named
  have hnm := (name_of_methodNamed Bd.named Bd.method).1
  have hlk := Bd.notSynchronized
  have hrt := Bd.returns
  have X0 : Stand p l e ({ frames := 0, cells := 0, slots := 0, locals := 0 } : Room) s m #[(.ref a1), (.int (Int32.ofNat xs.length)), (.int (Int32.ofNat i)), (.int (Int32.ofNat r)), (.double (FP.l2d sg)), (.double (FP.dmul (FP.l2d sg) (FP.i2d (xs.getD r 0))))] below meth c s₁ [] 0 0 := Stand.of_body Bd
  have e0 : s₁.heap = h0 := by rw [← hh, Bd.state]; rfl
  have N0 := Fr.nil n0
  show own_Ends p e below s (Q2 a1 k1 xs sg i r h0 n0 Z) ({ frames := 0, cells := 0, slots := 0, locals := 0 } : Room).cells ({ frames := 0, cells := 0, slots := 0, locals := 0 } : Room).slots (s₁.setTop (entryFrame m #[(.ref a1), (.int (Int32.ofNat xs.length)), (.int (Int32.ofNat i)), (.int (Int32.ofNat r)), (.double (FP.l2d sg)), (.double (FP.dmul (FP.l2d sg) (FP.i2d (xs.getD r 0))))] 10))
  rw [ef_2]
  refine own_go (fun _ k => XS.iloadN X0.here hx rfl (hb hby d2_0) rfl <| XS.iloadN X0.here hx rfl (hb hby d2_1) rfl <| k) ?_
  show own_Ends p e below s _ _ _ (s₁.setTop (mkF m 2 #[.val (.ref a1), .val (.int (Int32.ofNat xs.length)), .val (.int (Int32.ofNat i)), .val (.int (Int32.ofNat r)), .val (.double (FP.l2d sg)), .second, .val (.double (FP.dmul (FP.l2d sg) (FP.i2d (xs.getD r 0)))), .second, .unset, .unset] [(.int (Int32.ofNat xs.length)), (.int (Int32.ofNat i))]))
  by_cases hc2_1 : (Int32.ofNat i) < (Int32.ofNat xs.length)
  · -- true
    refine own_go (fun _ k => XS.icmpYes X0.here hx rfl (pc0 := 2) (pc' := 7) rfl (hb hby d2_2) rfl (tlt hc2_1).1 (by decide) (by decide) <| XS.dload X0.here hx rfl (hb hby d2_7) rfl <| XS.aloadN X0.here hx rfl (hb hby d2_9) rfl rfl <| XS.iloadN X0.here hx rfl (hb hby d2_10) rfl <| k) ?_
    show own_Ends p e below s _ _ _ (s₁.setTop (mkF m 11 #[.val (.ref a1), .val (.int (Int32.ofNat xs.length)), .val (.int (Int32.ofNat i)), .val (.int (Int32.ofNat r)), .val (.double (FP.l2d sg)), .second, .val (.double (FP.dmul (FP.l2d sg) (FP.i2d (xs.getD r 0)))), .second, .unset, .unset] [(.int (Int32.ofNat i)), (.ref a1), (.double (FP.l2d sg))]))
    obtain ⟨cla1_11_2, Ara1_11_2, qqa1_11_2, Sza1_11_2, Nga1_11_2, Hsa1_11_2, Gfa1_11_2⟩ := id V1
    have hina1_11_2 : ¬ ((Int32.ofNat i) < 0 ∨ cla1_11_2.slots.size ≤ ((Int32.ofNat i)).toNatClampNeg) := inb_of Sza1_11_2 ⟨own_nneg (by omega), (own_ofNat_lt (by omega) (by omega)).mpr ((own_ofNat_lt (by omega) (by omega)).mp hc2_1)⟩
    have hata1_11_2 : cla1_11_2.slots[((Int32.ofNat i)).toNatClampNeg]? = some (.double (FP.i2d (xs.getD i 0))) := Hsa1_11_2.at hina1_11_2 (own_getD xs (by omega) ((own_ofNat_lt (by omega) (by omega)).mp hc2_1))
    refine own_go (fun _ k => X0.daload hx (j := (Int32.ofNat i)) (v := (.double (FP.i2d (xs.getD i 0)))) (by first | exact Ara1_11_2.1 | (rw [e0]; exact Ara1_11_2.1)) (State.isArrayOf_alike hZ.alike Ara1_11_2.2.1) Ara1_11_2.2.2 hina1_11_2 hata1_11_2 (g := (mkF m 11 #[.val (.ref a1), .val (.int (Int32.ofNat xs.length)), .val (.int (Int32.ofNat i)), .val (.int (Int32.ofNat r)), .val (.double (FP.l2d sg)), .second, .val (.double (FP.dmul (FP.l2d sg) (FP.i2d (xs.getD r 0)))), .second, .unset, .unset] [(.int (Int32.ofNat i)), (.ref a1), (.double (FP.l2d sg))])) rfl rfl (hb hby d2_11) _ k) ?_
    show own_Ends p e below s _ _ _ (s₁.setTop (mkF m 12 #[.val (.ref a1), .val (.int (Int32.ofNat xs.length)), .val (.int (Int32.ofNat i)), .val (.int (Int32.ofNat r)), .val (.double (FP.l2d sg)), .second, .val (.double (FP.dmul (FP.l2d sg) (FP.i2d (xs.getD r 0)))), .second, .unset, .unset] [(.double (FP.i2d (xs.getD i 0))), (.double (FP.l2d sg))]))
    refine own_go (fun _ k => XS.dmulS X0.here hx rfl (hb hby d2_12) rfl (own_nn hsg _) rfl <| XS.dstore X0.here hx rfl (hb hby d2_13) rfl (l' := #[.val (.ref a1), .val (.int (Int32.ofNat xs.length)), .val (.int (Int32.ofNat i)), .val (.int (Int32.ofNat r)), .val (.double (FP.l2d sg)), .second, .val (.double (FP.dmul (FP.l2d sg) (FP.i2d (xs.getD r 0)))), .second, .val (.double (FP.dmul (FP.l2d sg) (FP.i2d (xs.getD i 0)))), .second]) rfl <| XS.iloadN X0.here hx rfl (hb hby d2_15) rfl <| XS.iloadN X0.here hx rfl (hb hby d2_16) rfl <| k) ?_
    show own_Ends p e below s _ _ _ (s₁.setTop (mkF m 17 #[.val (.ref a1), .val (.int (Int32.ofNat xs.length)), .val (.int (Int32.ofNat i)), .val (.int (Int32.ofNat r)), .val (.double (FP.l2d sg)), .second, .val (.double (FP.dmul (FP.l2d sg) (FP.i2d (xs.getD r 0)))), .second, .val (.double (FP.dmul (FP.l2d sg) (FP.i2d (xs.getD i 0)))), .second] [(.int (Int32.ofNat r)), (.int (Int32.ofNat i))]))
    by_cases hc17_3 : (Int32.ofNat i) < (Int32.ofNat r)
    · -- true
      refine own_go (fun _ k => XS.icmpNo X0.here hx rfl (hb hby d2_17) rfl (tlt hc17_3).2.1 <| XS.dload X0.here hx rfl (hb hby d2_20) rfl <| XS.dload X0.here hx rfl (hb hby d2_22) rfl <| XS.dcmpS X0.here hx rfl (v := (lcmpW (own_key sg xs i) (own_key sg xs r))) (hb hby d2_24) rfl (own_cmp hsg _ _ _) <| XS.ifNo X0.here hx rfl (hb hby d2_25) rfl ((if0 _ _).trans (tlt ((lw_lt _ _).mpr (hbb.1 i ((own_ofNat_lt (by omega) (by omega)).mp hc17_3)))).2.1) <| XT.iconstV X0.here hx rfl (1 : Int32) (hb hby d2_28) rfl <| XS.goto X0.here hx rfl (pc0 := 29) (pc' := 33) rfl (hb hby d2_29) (by decide) (by decide) <| k) ?_
      show own_Ends p e below s _ _ _ (s₁.setTop (mkF m 33 #[.val (.ref a1), .val (.int (Int32.ofNat xs.length)), .val (.int (Int32.ofNat i)), .val (.int (Int32.ofNat r)), .val (.double (FP.l2d sg)), .second, .val (.double (FP.dmul (FP.l2d sg) (FP.i2d (xs.getD r 0)))), .second, .val (.double (FP.dmul (FP.l2d sg) (FP.i2d (xs.getD i 0)))), .second] [(.int (1 : Int32))]))
      exact own_retN X0 hx (t := .boolean) hrt (by simp) (hb hby d2_33) hlk (show nar .boolean (1 : Int32) = (1 : Int32) from by decide) (by rw [e0]; exact ⟨rfl, N0, rfl⟩) (by decide) (by decide)
    · -- false
      refine own_go (fun _ k => XS.icmpYes X0.here hx rfl (pc0 := 17) (pc' := 34) rfl (hb hby d2_17) rfl (flt hc17_3).2.1 (by decide) (by decide) <| XS.dload X0.here hx rfl (hb hby d2_34) rfl <| XS.dload X0.here hx rfl (hb hby d2_36) rfl <| XS.dcmpS X0.here hx rfl (v := (lcmpW (own_key sg xs i) (own_key sg xs r))) (hb hby d2_38) rfl (own_cmp hsg _ _ _) <| XS.ifNo X0.here hx rfl (hb hby d2_39) rfl ((if0 _ _).trans (flt (fun q => (hbb.2 i (Nat.le_of_not_lt (fun q => hc17_3 ((own_ofNat_lt (by omega) (by omega)).mpr q))) ((own_ofNat_lt (by omega) (by omega)).mp hc2_1)) ((lw_gt _ _).mp q))).2.2.1) <| XT.iconstV X0.here hx rfl (1 : Int32) (hb hby d2_42) rfl <| XS.goto X0.here hx rfl (pc0 := 43) (pc' := 47) rfl (hb hby d2_43) (by decide) (by decide) <| k) ?_
      show own_Ends p e below s _ _ _ (s₁.setTop (mkF m 47 #[.val (.ref a1), .val (.int (Int32.ofNat xs.length)), .val (.int (Int32.ofNat i)), .val (.int (Int32.ofNat r)), .val (.double (FP.l2d sg)), .second, .val (.double (FP.dmul (FP.l2d sg) (FP.i2d (xs.getD r 0)))), .second, .val (.double (FP.dmul (FP.l2d sg) (FP.i2d (xs.getD i 0)))), .second] [(.int (1 : Int32))]))
      exact own_retN X0 hx (t := .boolean) hrt (by simp) (hb hby d2_47) hlk (show nar .boolean (1 : Int32) = (1 : Int32) from by decide) (by rw [e0]; exact ⟨rfl, N0, rfl⟩) (by decide) (by decide)
  · -- false
    refine own_go (fun _ k => XS.icmpNo X0.here hx rfl (hb hby d2_2) rfl (flt hc2_1).1 <| XT.iconstV X0.here hx rfl (1 : Int32) (hb hby d2_5) rfl <| k) ?_
    show own_Ends p e below s _ _ _ (s₁.setTop (mkF m 6 #[.val (.ref a1), .val (.int (Int32.ofNat xs.length)), .val (.int (Int32.ofNat i)), .val (.int (Int32.ofNat r)), .val (.double (FP.l2d sg)), .second, .val (.double (FP.dmul (FP.l2d sg) (FP.i2d (xs.getD r 0)))), .second, .unset, .unset] [(.int (1 : Int32))]))
    exact own_retN X0 hx (t := .boolean) hrt (by simp) (hb hby d2_6) hlk (show nar .boolean (1 : Int32) = (1 : Int32) from by decide) (by rw [e0]; exact ⟨rfl, N0, rfl⟩) (by decide) (by decide)
theorem ef_0 (m : MethodId) (x0 : Int32) (x1 : Int32) (x2 : Int32) (x3 : Int32) (x4 : Int32) : entryFrame m #[(.int x0), (.int x1), (.int x2), (.int x3), (.int x4)] maxLocals = mkF m 0 #[.val (.int x0), .val (.int x1), .val (.int x2), .val (.int x3), .val (.int x4), .unset, .unset, .unset, .unset, .unset, .unset, .unset] [] := by first | (simp [entryFrame, mkF, argsToLocals, Value.category, maxLocals]; done) | rfl
def Q0 (p1 : Int32) (p2 : Int32) (p3 : Int32) (p4 : Int32) (p5 : Int32) (h0 : Heap) (n0 : Nat) (Z : State) (v : Option Value) (h : Heap) (L : List Loc) : Prop := v = some (.int 1) ∧ Fr n0 L
set_option maxRecDepth 65536 in
set_option maxHeartbeats 40000000 in
theorem rm0 (l : Launch) (Z : State) (a0 : Array Value) (hw : ∀ d ∈ tables_1, d.before a0 Z = true) (ws : List Jvm.Cond) (p1 : Int32) (p2 : Int32) (p3 : Int32) (p4 : Int32) (p5 : Int32) (h0 : Heap) (n0 : Nat) (Z0 : n0 ≤ h0.size) :
    MetFree l x (head1 (Jvm.Cond.code x code maxLocals ret :: ws) room_1) (fun a U => a = #[(.int p1), (.int p2), (.int p3), (.int p4), (.int p5)] ∧ Z.Warmed39 U.vm ∧ U.heap = h0) (fun _ _ _ _ _ => True) (fun _ U o U' => ∃ v L, o = .returned v ∧ Q0 p1 p2 p3 p4 p5 h0 n0 Z v U'.heap L ∧ FrameEnd U o U' L room_1.cells room_1.slots) := by
  refine MetFree.of_bodySF (plainFor_of_name pn_1) hisR ?_
  intro p e s m args below meth c s₁ Bd hml0 hP hK
  obtain ⟨rfl, hZ, hh⟩ := hP
  have hx := Bd.exec
  have hby := Bd.bytes
  have hml : c.maxLocals = 12 := hml0
  have hown : s.vm.findClass "com/example/weftbind/weftbind/RouteExtremesExtremeCandidatePinLaw" = some m.cls := findClass_of_methodNamed Bd.named
  have hnm := (name_of_methodNamed Bd.named Bd.method).1
  have hlk := Bd.notSynchronized
  have hrt := Bd.returns
  have X0 : Stand p l e room_1 s m #[(.int p1), (.int p2), (.int p3), (.int p4), (.int p5)] below meth c s₁ [] 0 0 := Stand.of_body Bd
  have e0 : s₁.heap = h0 := by rw [← hh, Bd.state]; rfl
  have N0 := Fr.nil n0
  show own_Ends p e below s (Q0 p1 p2 p3 p4 p5 h0 n0 Z) room_1.cells room_1.slots (s₁.setTop (entryFrame m #[(.int p1), (.int p2), (.int p3), (.int p4), (.int p5)] maxLocals))
  rw [ef_0]
  refine own_go (fun _ k => XT.iconstV X0.here hx rfl (1 : Int32) (hb hby at_0) rfl <| XS.iloadN X0.here hx rfl (hb hby at_1) rfl <| XT.iconstV X0.here hx rfl (3 : Int32) (hb hby at_2) rfl <| XS.iand X0.here hx rfl (hb hby at_3) rfl <| XS.iadd X0.here hx rfl (hb hby at_4) rfl <| XS.istore X0.here hx rfl (hb hby at_5) rfl (l' := #[.val (.int p1), .val (.int p2), .val (.int p3), .val (.int p4), .val (.int p5), .val (.int ((1 : Int32) + (p1 &&& (3 : Int32)))), .unset, .unset, .unset, .unset, .unset, .unset]) rfl <| k) ?_
  show own_Ends p e below s _ _ _ (s₁.setTop (mkF m 7 #[.val (.int p1), .val (.int p2), .val (.int p3), .val (.int p4), .val (.int p5), .val (.int ((1 : Int32) + (p1 &&& (3 : Int32)))), .unset, .unset, .unset, .unset, .unset, .unset] []))
  have J22 : ∀ sg : Int64, own_sg sg → own_Ends p e below s (Q0 p1 p2 p3 p4 p5 h0 n0 Z) room_1.cells room_1.slots (s₁.setTop (mkF m 22 #[.val (.int p1), .val (.int p2), .val (.int p3), .val (.int p4), .val (.int p5), .val (.int ((1 : Int32) + (p1 &&& (3 : Int32)))), .unset, .unset, .unset, .unset, .unset, .unset] [(.double (FP.l2d sg))])) := by
    intro sg hsg
    refine own_go (fun _ k => XS.dstore X0.here hx rfl (hb hby at_22) rfl (l' := #[.val (.int p1), .val (.int p2), .val (.int p3), .val (.int p4), .val (.int p5), .val (.int ((1 : Int32) + (p1 &&& (3 : Int32)))), .val (.double (FP.l2d sg)), .second, .unset, .unset, .unset, .unset]) rfl <| k) ?_
    show own_Ends p e below s _ _ _ (s₁.setTop (mkF m 24 #[.val (.int p1), .val (.int p2), .val (.int p3), .val (.int p4), .val (.int p5), .val (.int ((1 : Int32) + (p1 &&& (3 : Int32)))), .val (.double (FP.l2d sg)), .second, .unset, .unset, .unset, .unset] []))
    rcases own_n4 p1 with hn | hn | hn | hn
    · rw [hn]
      show own_Ends p e below s _ _ _ (s₁.setTop (mkF m 24 #[.val (.int p1), .val (.int p2), .val (.int p3), .val (.int p4), .val (.int p5), .val (.int (1 : Int32)), .val (.double (FP.l2d sg)), .second, .unset, .unset, .unset, .unset] []))
      refine own_go (fun _ k => XS.iload X0.here hx rfl (hb hby at_24) rfl <| k) ?_
      show own_Ends p e below s _ _ _ (s₁.setTop (mkF m 26 #[.val (.int p1), .val (.int p2), .val (.int p3), .val (.int p4), .val (.int p5), .val (.int (1 : Int32)), .val (.double (FP.l2d sg)), .second, .unset, .unset, .unset, .unset] [(.int (1 : Int32))]))
      obtain ⟨T1, h1, k1, X1, e1, E1, A1, st1⟩ := newP X0 hx hZ (hw _ (List.mem_of_getElem? (i := 1) rfl)) e0 (g := (mkF m 26 #[.val (.int p1), .val (.int p2), .val (.int p3), .val (.int p4), .val (.int p5), .val (.int (1 : Int32)), .val (.double (FP.l2d sg)), .second, .unset, .unset, .unset, .unset] [(.int (1 : Int32))])) rfl (hb hby at_26) rfl (by decide) (cap := 1) (by decide) (by decide) (by decide) (by decide)
      obtain ⟨b1, g1⟩ : ∃ z, z = h0.size := ⟨_, rfl⟩
      rw [← g1] at A1 st1
      refine own_go st1 ?_
      have g_b1 : n0 ≤ b1 := Nat.le_trans Z0 (Nat.le_of_eq g1.symm)
      have Z1 := Nat.le_trans Z0 E1.1
      have V_b1 : Arv Z h1 b1 k1 .double (1 : Int32) [(.double (0 : UInt64))] (.double (0 : UInt64)) := (Arv.new A1 (by decide)).pad (pad_rep [] (.double (0 : UInt64)) 1)
      show own_Ends p e below s _ _ _ (T1.setTop (mkF m 28 #[.val (.int p1), .val (.int p2), .val (.int p3), .val (.int p4), .val (.int p5), .val (.int (1 : Int32)), .val (.double (FP.l2d sg)), .second, .unset, .unset, .unset, .unset] [(.ref b1)]))
      refine own_go (fun _ k => XS.astore X1.here hx rfl (hb hby at_28) rfl rfl (l' := #[.val (.int p1), .val (.int p2), .val (.int p3), .val (.int p4), .val (.int p5), .val (.int (1 : Int32)), .val (.double (FP.l2d sg)), .second, .val (.ref b1), .unset, .unset, .unset]) rfl <| XS.aload X1.here hx rfl (hb hby at_30) rfl rfl <| XT.iconstV X1.here hx rfl (0 : Int32) (hb hby at_32) rfl <| XS.iloadN X1.here hx rfl (hb hby at_33) rfl <| XS.i2dS X1.here hx rfl (hb hby at_34) rfl rfl <| k) ?_
      show own_Ends p e below s _ _ _ (T1.setTop (mkF m 35 #[.val (.int p1), .val (.int p2), .val (.int p3), .val (.int p4), .val (.int p5), .val (.int (1 : Int32)), .val (.double (FP.l2d sg)), .second, .val (.ref b1), .unset, .unset, .unset] [(.double (FP.i2d p2)), (.int (0 : Int32)), (.ref b1)]))
      obtain ⟨clb1_35_2, Arb1_35_2, qqb1_35_2, Szb1_35_2, Ngb1_35_2, Hsb1_35_2, Gfb1_35_2⟩ := id V_b1
      have hinb1_35_2 : ¬ ((0 : Int32) < 0 ∨ clb1_35_2.slots.size ≤ ((0 : Int32)).toNatClampNeg) := inb_of Szb1_35_2 ⟨by decide, by decide⟩
      obtain ⟨T3, h3, X3, e3, W3, st3⟩ := stD X1 hx hZ e1 Arb1_35_2 (j := (0 : Int32)) hinb1_35_2 (g := (mkF m 35 #[.val (.int p1), .val (.int p2), .val (.int p3), .val (.int p4), .val (.int p5), .val (.int (1 : Int32)), .val (.double (FP.l2d sg)), .second, .val (.ref b1), .unset, .unset, .unset] [(.double (FP.i2d p2)), (.int (0 : Int32)), (.ref b1)])) rfl rfl (hb hby at_35)
      refine own_go st3 ?_
      have Z3 := Nat.le_trans Z1 (Keep.of_wr W3).1
      have N3 := Fr.snoc X3 N0 g_b1
      have V_b1'3 : Arv Z h3 b1 k1 .double (1 : Int32) [(.double (FP.i2d p2))] (.double (0 : UInt64)) := Arv.set Arb1_35_2 qqb1_35_2 Szb1_35_2 Ngb1_35_2 Hsb1_35_2 Gfb1_35_2 rfl W3 0 rfl (Nat.le_of_ble_eq_true rfl)
      show own_Ends p e below s _ _ _ (T3.setTop (mkF m 36 #[.val (.int p1), .val (.int p2), .val (.int p3), .val (.int p4), .val (.int p5), .val (.int (1 : Int32)), .val (.double (FP.l2d sg)), .second, .val (.ref b1), .unset, .unset, .unset] []))
      refine own_go (fun _ k => XS.iload X3.here hx rfl (hb hby at_36) rfl <| XT.iconstV X3.here hx rfl (1 : Int32) (hb hby at_38) rfl <| XS.icmpYes X3.here hx rfl (pc0 := 39) (pc' := 48) rfl (hb hby at_39) rfl (flt (by decide)).2.2.2 (by decide) (by decide) <| XS.iload X3.here hx rfl (hb hby at_48) rfl <| XT.iconstV X3.here hx rfl (2 : Int32) (hb hby at_50) rfl <| XS.icmpYes X3.here hx rfl (pc0 := 51) (pc' := 60) rfl (hb hby at_51) rfl (flt (by decide)).2.2.2 (by decide) (by decide) <| XS.iload X3.here hx rfl (hb hby at_60) rfl <| XT.iconstV X3.here hx rfl (3 : Int32) (hb hby at_62) rfl <| XS.icmpYes X3.here hx rfl (pc0 := 63) (pc' := 73) rfl (hb hby at_63) rfl (flt (by decide)).2.2.2 (by decide) (by decide) <| XS.aload X3.here hx rfl (hb hby at_73) rfl rfl <| k) ?_
      show own_Ends p e below s _ _ _ (T3.setTop (mkF m 75 #[.val (.int p1), .val (.int p2), .val (.int p3), .val (.int p4), .val (.int p5), .val (.int (1 : Int32)), .val (.double (FP.l2d sg)), .second, .val (.ref b1), .unset, .unset, .unset] [(.ref b1)]))
      refine own_go (fun _ k => XS.dload X3.here hx rfl (hb hby at_75) rfl <| k) ?_
      show own_Ends p e below s _ _ _ (T3.setTop (mkF m 77 #[.val (.int p1), .val (.int p2), .val (.int p3), .val (.int p4), .val (.int p5), .val (.int (1 : Int32)), .val (.double (FP.l2d sg)), .second, .val (.ref b1), .unset, .unset, .unset] [(.double (FP.l2d sg)), (.ref b1)]))
      obtain ⟨_, _, ⟨T4, L4, k4, n4⟩, -, X4, ⟨Lc4, hQ4, l4, y4, z4⟩, st4⟩ := Jvm.LawKit.callS X3 hx (y := (⟨"com/example/weftbind/weftbind/RouteExtremes", "extremeCandidate", "([DD)I"⟩ : MethodName)) hown (mvT hZ (hw _ (List.mem_of_getElem? (i := 2) rfl))) (mvT hZ (hw _ (List.mem_of_getElem? (i := 3) rfl))) (mvT hZ (hw _ (List.mem_of_getElem? (i := 4) rfl))) (mvT hZ (hw _ (List.mem_of_getElem? (i := 5) rfl))) (by decide) (backOf (W := 0) (rm1 l Z a0 hw [] b1 k1 [p2] sg h3 n0 Z3 V_b1'3 (by simp) hsg) hZ (hw _ (List.mem_of_getElem? (i := 5) rfl)) (hw _ (List.mem_of_getElem? (i := 4) rfl)) (by decide) (by decide)) (g := (mkF m 77 #[.val (.int p1), .val (.int p2), .val (.int p3), .val (.int p4), .val (.int p5), .val (.int (1 : Int32)), .val (.double (FP.l2d sg)), .second, .val (.ref b1), .unset, .unset, .unset] [(.double (FP.l2d sg)), (.ref b1)])) rfl (by rw [hml]; rfl) (argsL := [(.ref b1), (.double (FP.l2d sg))]) (rest := []) (lenOf pd_0 rfl) rfl (by show 2 * 0 + _ ≤ _; exact Nat.le_of_eq rfl) (hb hby at_77) (fun _ _ => ⟨rfl, e3, Nat.le_of_ble_eq_true rfl, Nat.le_of_ble_eq_true rfl⟩)
      dsimp only [Pt.U, Pt.locs, Pt.cells, Pt.slots] at X4 l4 y4 z4 st4 hQ4
      subst l4 y4 z4
      obtain ⟨r, rfl, N4q, e4, hr, hbb⟩ := hQ4
      have N4 := Fr.app N3 N4q
      refine own_go (fun _ k => st4 _ k) ?_
      show own_Ends p e below s _ _ _ (T4.setTop (mkF m 80 #[.val (.int p1), .val (.int p2), .val (.int p3), .val (.int p4), .val (.int p5), .val (.int (1 : Int32)), .val (.double (FP.l2d sg)), .second, .val (.ref b1), .unset, .unset, .unset] [(.int (Int32.ofNat r))]))
      refine own_go (fun _ k => XS.istore X4.here hx rfl (hb hby at_80) rfl (l' := #[.val (.int p1), .val (.int p2), .val (.int p3), .val (.int p4), .val (.int p5), .val (.int (1 : Int32)), .val (.double (FP.l2d sg)), .second, .val (.ref b1), .val (.int (Int32.ofNat r)), .unset, .unset]) rfl <| XS.iload X4.here hx rfl (hb hby at_82) rfl <| XS.ifNo X4.here hx rfl (hb hby at_84) rfl ((if0 _ _).trans (flt (own_nneg (Nat.lt_trans hr (by simp)))).1) <| XS.iload X4.here hx rfl (hb hby at_87) rfl <| XS.iload X4.here hx rfl (hb hby at_89) rfl <| XS.icmpYes X4.here hx rfl (pc0 := 91) (pc' := 96) rfl (hb hby at_91) rfl (tlt ((own_ofNat_lt (n := 1) (Nat.lt_trans hr (by simp)) (by decide)).mpr hr)).1 (by decide) (by decide) <| XS.dload X4.here hx rfl (hb hby at_96) rfl <| XS.aload X4.here hx rfl (hb hby at_98) rfl rfl <| XS.iload X4.here hx rfl (hb hby at_100) rfl <| k) ?_
      show own_Ends p e below s _ _ _ (T4.setTop (mkF m 102 #[.val (.int p1), .val (.int p2), .val (.int p3), .val (.int p4), .val (.int p5), .val (.int (1 : Int32)), .val (.double (FP.l2d sg)), .second, .val (.ref b1), .val (.int (Int32.ofNat r)), .unset, .unset] [(.int (Int32.ofNat r)), (.ref b1), (.double (FP.l2d sg))]))
      obtain ⟨clb1_102_5, Arb1_102_5, qqb1_102_5, Szb1_102_5, Ngb1_102_5, Hsb1_102_5, Gfb1_102_5⟩ := id V_b1'3
      have hinb1_102_5 : ¬ ((Int32.ofNat r) < 0 ∨ clb1_102_5.slots.size ≤ ((Int32.ofNat r)).toNatClampNeg) := inb_of Szb1_102_5 ⟨own_nneg (Nat.lt_trans hr (by simp)), (own_ofNat_lt (n := 1) (Nat.lt_trans hr (by simp)) (by decide)).mpr hr⟩
      have hatb1_102_5 : clb1_102_5.slots[((Int32.ofNat r)).toNatClampNeg]? = some (.double (FP.i2d ([p2].getD r 0))) := Hsb1_102_5.at hinb1_102_5 (own_getD [p2] (Nat.lt_trans hr (by simp)) hr)
      refine own_go (fun _ k => X4.daload hx (j := (Int32.ofNat r)) (v := (.double (FP.i2d ([p2].getD r 0)))) (by first | exact Arb1_102_5.1 | (rw [e4]; exact Arb1_102_5.1)) (State.isArrayOf_alike hZ.alike Arb1_102_5.2.1) Arb1_102_5.2.2 hinb1_102_5 hatb1_102_5 (g := (mkF m 102 #[.val (.int p1), .val (.int p2), .val (.int p3), .val (.int p4), .val (.int p5), .val (.int (1 : Int32)), .val (.double (FP.l2d sg)), .second, .val (.ref b1), .val (.int (Int32.ofNat r)), .unset, .unset] [(.int (Int32.ofNat r)), (.ref b1), (.double (FP.l2d sg))])) rfl rfl (hb hby at_102) _ k) ?_
      show own_Ends p e below s _ _ _ (T4.setTop (mkF m 103 #[.val (.int p1), .val (.int p2), .val (.int p3), .val (.int p4), .val (.int p5), .val (.int (1 : Int32)), .val (.double (FP.l2d sg)), .second, .val (.ref b1), .val (.int (Int32.ofNat r)), .unset, .unset] [(.double (FP.i2d ([p2].getD r 0))), (.double (FP.l2d sg))]))
      refine own_go (fun _ k => XS.dmulS X4.here hx rfl (hb hby at_103) rfl (own_nn hsg _) rfl <| XS.dstore X4.here hx rfl (hb hby at_104) rfl (l' := #[.val (.int p1), .val (.int p2), .val (.int p3), .val (.int p4), .val (.int p5), .val (.int (1 : Int32)), .val (.double (FP.l2d sg)), .second, .val (.ref b1), .val (.int (Int32.ofNat r)), .val (.double (FP.dmul (FP.l2d sg) (FP.i2d ([p2].getD r 0)))), .second]) rfl <| XS.aload X4.here hx rfl (hb hby at_106) rfl rfl <| XS.iload X4.here hx rfl (hb hby at_108) rfl <| XT.iconstV X4.here hx rfl (0 : Int32) (hb hby at_110) rfl <| XS.iload X4.here hx rfl (hb hby at_111) rfl <| XS.dload X4.here hx rfl (hb hby at_113) rfl <| XS.dload X4.here hx rfl (hb hby at_115) rfl <| k) ?_
      show own_Ends p e below s _ _ _ (T4.setTop (mkF m 117 #[.val (.int p1), .val (.int p2), .val (.int p3), .val (.int p4), .val (.int p5), .val (.int (1 : Int32)), .val (.double (FP.l2d sg)), .second, .val (.ref b1), .val (.int (Int32.ofNat r)), .val (.double (FP.dmul (FP.l2d sg) (FP.i2d ([p2].getD r 0)))), .second] [(.double (FP.dmul (FP.l2d sg) (FP.i2d ([p2].getD r 0)))), (.double (FP.l2d sg)), (.int (Int32.ofNat r)), (.int (0 : Int32)), (.int (1 : Int32)), (.ref b1)]))
      obtain ⟨_, _, ⟨T6, L6, k6, n6⟩, -, X6, ⟨Lc6, hQ6, l6, y6, z6⟩, st6⟩ := Jvm.LawKit.callS X4 hx (y := (⟨"com/example/weftbind/weftbind/RouteExtremesExtremeCandidatePinLaw", "ok", "([DIIIDD)Z"⟩ : MethodName)) hown (mvT hZ (hw _ (List.mem_of_getElem? (i := 6) rfl))) (mvT hZ (hw _ (List.mem_of_getElem? (i := 7) rfl))) (mvT hZ (hw _ (List.mem_of_getElem? (i := 8) rfl))) (mvT hZ (hw _ (List.mem_of_getElem? (i := 9) rfl))) (by decide) (backOf (W := 0) (rm2 l Z a0 hw [] b1 k1 [p2] sg 0 r h3 n0 Z3 V_b1'3 (by simp) hsg (by simp) hr hbb) hZ (hw _ (List.mem_of_getElem? (i := 9) rfl)) (hw _ (List.mem_of_getElem? (i := 8) rfl)) (by decide) (by decide)) (g := (mkF m 117 #[.val (.int p1), .val (.int p2), .val (.int p3), .val (.int p4), .val (.int p5), .val (.int (1 : Int32)), .val (.double (FP.l2d sg)), .second, .val (.ref b1), .val (.int (Int32.ofNat r)), .val (.double (FP.dmul (FP.l2d sg) (FP.i2d ([p2].getD r 0)))), .second] [(.double (FP.dmul (FP.l2d sg) (FP.i2d ([p2].getD r 0)))), (.double (FP.l2d sg)), (.int (Int32.ofNat r)), (.int (0 : Int32)), (.int (1 : Int32)), (.ref b1)])) rfl (by rw [hml]; rfl) (argsL := [(.ref b1), (.int (1 : Int32)), (.int (0 : Int32)), (.int (Int32.ofNat r)), (.double (FP.l2d sg)), (.double (FP.dmul (FP.l2d sg) (FP.i2d ([p2].getD r 0))))]) (rest := []) (lenOf pd_1 rfl) rfl (by show 2 * 0 + _ ≤ _; exact Nat.le_of_eq rfl) (hb hby at_117) (fun _ _ => ⟨rfl, e4, Nat.le_of_ble_eq_true rfl, Nat.le_of_ble_eq_true rfl⟩)
      dsimp only [Pt.U, Pt.locs, Pt.cells, Pt.slots] at X6 l6 y6 z6 st6 hQ6
      subst l6 y6 z6
      obtain ⟨rfl, N6q, e6⟩ := hQ6
      have N6 := Fr.app N4 N6q
      refine own_go (fun _ k => st6 _ k) ?_
      show own_Ends p e below s _ _ _ (T6.setTop (mkF m 120 #[.val (.int p1), .val (.int p2), .val (.int p3), .val (.int p4), .val (.int p5), .val (.int (1 : Int32)), .val (.double (FP.l2d sg)), .second, .val (.ref b1), .val (.int (Int32.ofNat r)), .val (.double (FP.dmul (FP.l2d sg) (FP.i2d ([p2].getD r 0)))), .second] [(.int (1 : Int32))]))
      refine own_go (fun _ k => XS.ifNo X6.here hx rfl (hb hby at_120) rfl ((if0 _ _).trans (feq (by decide)).1) <| XS.aload X6.here hx rfl (hb hby at_123) rfl rfl <| XS.iload X6.here hx rfl (hb hby at_125) rfl <| XT.iconstV X6.here hx rfl (1 : Int32) (hb hby at_127) rfl <| XS.iload X6.here hx rfl (hb hby at_128) rfl <| XS.dload X6.here hx rfl (hb hby at_130) rfl <| XS.dload X6.here hx rfl (hb hby at_132) rfl <| k) ?_
      show own_Ends p e below s _ _ _ (T6.setTop (mkF m 134 #[.val (.int p1), .val (.int p2), .val (.int p3), .val (.int p4), .val (.int p5), .val (.int (1 : Int32)), .val (.double (FP.l2d sg)), .second, .val (.ref b1), .val (.int (Int32.ofNat r)), .val (.double (FP.dmul (FP.l2d sg) (FP.i2d ([p2].getD r 0)))), .second] [(.double (FP.dmul (FP.l2d sg) (FP.i2d ([p2].getD r 0)))), (.double (FP.l2d sg)), (.int (Int32.ofNat r)), (.int (1 : Int32)), (.int (1 : Int32)), (.ref b1)]))
      obtain ⟨_, _, ⟨T7, L7, k7, n7⟩, -, X7, ⟨Lc7, hQ7, l7, y7, z7⟩, st7⟩ := Jvm.LawKit.callS X6 hx (y := (⟨"com/example/weftbind/weftbind/RouteExtremesExtremeCandidatePinLaw", "ok", "([DIIIDD)Z"⟩ : MethodName)) hown (mvT hZ (hw _ (List.mem_of_getElem? (i := 6) rfl))) (mvT hZ (hw _ (List.mem_of_getElem? (i := 7) rfl))) (mvT hZ (hw _ (List.mem_of_getElem? (i := 8) rfl))) (mvT hZ (hw _ (List.mem_of_getElem? (i := 9) rfl))) (by decide) (backOf (W := 0) (rm2 l Z a0 hw [] b1 k1 [p2] sg 1 r h3 n0 Z3 V_b1'3 (by simp) hsg (by simp) hr hbb) hZ (hw _ (List.mem_of_getElem? (i := 9) rfl)) (hw _ (List.mem_of_getElem? (i := 8) rfl)) (by decide) (by decide)) (g := (mkF m 134 #[.val (.int p1), .val (.int p2), .val (.int p3), .val (.int p4), .val (.int p5), .val (.int (1 : Int32)), .val (.double (FP.l2d sg)), .second, .val (.ref b1), .val (.int (Int32.ofNat r)), .val (.double (FP.dmul (FP.l2d sg) (FP.i2d ([p2].getD r 0)))), .second] [(.double (FP.dmul (FP.l2d sg) (FP.i2d ([p2].getD r 0)))), (.double (FP.l2d sg)), (.int (Int32.ofNat r)), (.int (1 : Int32)), (.int (1 : Int32)), (.ref b1)])) rfl (by rw [hml]; rfl) (argsL := [(.ref b1), (.int (1 : Int32)), (.int (1 : Int32)), (.int (Int32.ofNat r)), (.double (FP.l2d sg)), (.double (FP.dmul (FP.l2d sg) (FP.i2d ([p2].getD r 0))))]) (rest := []) (lenOf pd_1 rfl) rfl (by show 2 * 0 + _ ≤ _; exact Nat.le_of_eq rfl) (hb hby at_134) (fun _ _ => ⟨rfl, e6, Nat.le_of_ble_eq_true rfl, Nat.le_of_ble_eq_true rfl⟩)
      dsimp only [Pt.U, Pt.locs, Pt.cells, Pt.slots] at X7 l7 y7 z7 st7 hQ7
      subst l7 y7 z7
      obtain ⟨rfl, N7q, e7⟩ := hQ7
      have N7 := Fr.app N6 N7q
      refine own_go (fun _ k => st7 _ k) ?_
      show own_Ends p e below s _ _ _ (T7.setTop (mkF m 137 #[.val (.int p1), .val (.int p2), .val (.int p3), .val (.int p4), .val (.int p5), .val (.int (1 : Int32)), .val (.double (FP.l2d sg)), .second, .val (.ref b1), .val (.int (Int32.ofNat r)), .val (.double (FP.dmul (FP.l2d sg) (FP.i2d ([p2].getD r 0)))), .second] [(.int (1 : Int32))]))
      refine own_go (fun _ k => XS.ifNo X7.here hx rfl (hb hby at_137) rfl ((if0 _ _).trans (feq (by decide)).1) <| XS.aload X7.here hx rfl (hb hby at_140) rfl rfl <| XS.iload X7.here hx rfl (hb hby at_142) rfl <| XT.iconstV X7.here hx rfl (2 : Int32) (hb hby at_144) rfl <| XS.iload X7.here hx rfl (hb hby at_145) rfl <| XS.dload X7.here hx rfl (hb hby at_147) rfl <| XS.dload X7.here hx rfl (hb hby at_149) rfl <| k) ?_
      show own_Ends p e below s _ _ _ (T7.setTop (mkF m 151 #[.val (.int p1), .val (.int p2), .val (.int p3), .val (.int p4), .val (.int p5), .val (.int (1 : Int32)), .val (.double (FP.l2d sg)), .second, .val (.ref b1), .val (.int (Int32.ofNat r)), .val (.double (FP.dmul (FP.l2d sg) (FP.i2d ([p2].getD r 0)))), .second] [(.double (FP.dmul (FP.l2d sg) (FP.i2d ([p2].getD r 0)))), (.double (FP.l2d sg)), (.int (Int32.ofNat r)), (.int (2 : Int32)), (.int (1 : Int32)), (.ref b1)]))
      obtain ⟨_, _, ⟨T8, L8, k8, n8⟩, -, X8, ⟨Lc8, hQ8, l8, y8, z8⟩, st8⟩ := Jvm.LawKit.callS X7 hx (y := (⟨"com/example/weftbind/weftbind/RouteExtremesExtremeCandidatePinLaw", "ok", "([DIIIDD)Z"⟩ : MethodName)) hown (mvT hZ (hw _ (List.mem_of_getElem? (i := 6) rfl))) (mvT hZ (hw _ (List.mem_of_getElem? (i := 7) rfl))) (mvT hZ (hw _ (List.mem_of_getElem? (i := 8) rfl))) (mvT hZ (hw _ (List.mem_of_getElem? (i := 9) rfl))) (by decide) (backOf (W := 0) (rm2 l Z a0 hw [] b1 k1 [p2] sg 2 r h3 n0 Z3 V_b1'3 (by simp) hsg (by simp) hr hbb) hZ (hw _ (List.mem_of_getElem? (i := 9) rfl)) (hw _ (List.mem_of_getElem? (i := 8) rfl)) (by decide) (by decide)) (g := (mkF m 151 #[.val (.int p1), .val (.int p2), .val (.int p3), .val (.int p4), .val (.int p5), .val (.int (1 : Int32)), .val (.double (FP.l2d sg)), .second, .val (.ref b1), .val (.int (Int32.ofNat r)), .val (.double (FP.dmul (FP.l2d sg) (FP.i2d ([p2].getD r 0)))), .second] [(.double (FP.dmul (FP.l2d sg) (FP.i2d ([p2].getD r 0)))), (.double (FP.l2d sg)), (.int (Int32.ofNat r)), (.int (2 : Int32)), (.int (1 : Int32)), (.ref b1)])) rfl (by rw [hml]; rfl) (argsL := [(.ref b1), (.int (1 : Int32)), (.int (2 : Int32)), (.int (Int32.ofNat r)), (.double (FP.l2d sg)), (.double (FP.dmul (FP.l2d sg) (FP.i2d ([p2].getD r 0))))]) (rest := []) (lenOf pd_1 rfl) rfl (by show 2 * 0 + _ ≤ _; exact Nat.le_of_eq rfl) (hb hby at_151) (fun _ _ => ⟨rfl, e7, Nat.le_of_ble_eq_true rfl, Nat.le_of_ble_eq_true rfl⟩)
      dsimp only [Pt.U, Pt.locs, Pt.cells, Pt.slots] at X8 l8 y8 z8 st8 hQ8
      subst l8 y8 z8
      obtain ⟨rfl, N8q, e8⟩ := hQ8
      have N8 := Fr.app N7 N8q
      refine own_go (fun _ k => st8 _ k) ?_
      show own_Ends p e below s _ _ _ (T8.setTop (mkF m 154 #[.val (.int p1), .val (.int p2), .val (.int p3), .val (.int p4), .val (.int p5), .val (.int (1 : Int32)), .val (.double (FP.l2d sg)), .second, .val (.ref b1), .val (.int (Int32.ofNat r)), .val (.double (FP.dmul (FP.l2d sg) (FP.i2d ([p2].getD r 0)))), .second] [(.int (1 : Int32))]))
      refine own_go (fun _ k => XS.ifNo X8.here hx rfl (hb hby at_154) rfl ((if0 _ _).trans (feq (by decide)).1) <| XS.aload X8.here hx rfl (hb hby at_157) rfl rfl <| XS.iload X8.here hx rfl (hb hby at_159) rfl <| XT.iconstV X8.here hx rfl (3 : Int32) (hb hby at_161) rfl <| XS.iload X8.here hx rfl (hb hby at_162) rfl <| XS.dload X8.here hx rfl (hb hby at_164) rfl <| XS.dload X8.here hx rfl (hb hby at_166) rfl <| k) ?_
      show own_Ends p e below s _ _ _ (T8.setTop (mkF m 168 #[.val (.int p1), .val (.int p2), .val (.int p3), .val (.int p4), .val (.int p5), .val (.int (1 : Int32)), .val (.double (FP.l2d sg)), .second, .val (.ref b1), .val (.int (Int32.ofNat r)), .val (.double (FP.dmul (FP.l2d sg) (FP.i2d ([p2].getD r 0)))), .second] [(.double (FP.dmul (FP.l2d sg) (FP.i2d ([p2].getD r 0)))), (.double (FP.l2d sg)), (.int (Int32.ofNat r)), (.int (3 : Int32)), (.int (1 : Int32)), (.ref b1)]))
      obtain ⟨_, _, ⟨T9, L9, k9, n9⟩, -, X9, ⟨Lc9, hQ9, l9, y9, z9⟩, st9⟩ := Jvm.LawKit.callS X8 hx (y := (⟨"com/example/weftbind/weftbind/RouteExtremesExtremeCandidatePinLaw", "ok", "([DIIIDD)Z"⟩ : MethodName)) hown (mvT hZ (hw _ (List.mem_of_getElem? (i := 6) rfl))) (mvT hZ (hw _ (List.mem_of_getElem? (i := 7) rfl))) (mvT hZ (hw _ (List.mem_of_getElem? (i := 8) rfl))) (mvT hZ (hw _ (List.mem_of_getElem? (i := 9) rfl))) (by decide) (backOf (W := 0) (rm2 l Z a0 hw [] b1 k1 [p2] sg 3 r h3 n0 Z3 V_b1'3 (by simp) hsg (by simp) hr hbb) hZ (hw _ (List.mem_of_getElem? (i := 9) rfl)) (hw _ (List.mem_of_getElem? (i := 8) rfl)) (by decide) (by decide)) (g := (mkF m 168 #[.val (.int p1), .val (.int p2), .val (.int p3), .val (.int p4), .val (.int p5), .val (.int (1 : Int32)), .val (.double (FP.l2d sg)), .second, .val (.ref b1), .val (.int (Int32.ofNat r)), .val (.double (FP.dmul (FP.l2d sg) (FP.i2d ([p2].getD r 0)))), .second] [(.double (FP.dmul (FP.l2d sg) (FP.i2d ([p2].getD r 0)))), (.double (FP.l2d sg)), (.int (Int32.ofNat r)), (.int (3 : Int32)), (.int (1 : Int32)), (.ref b1)])) rfl (by rw [hml]; rfl) (argsL := [(.ref b1), (.int (1 : Int32)), (.int (3 : Int32)), (.int (Int32.ofNat r)), (.double (FP.l2d sg)), (.double (FP.dmul (FP.l2d sg) (FP.i2d ([p2].getD r 0))))]) (rest := []) (lenOf pd_1 rfl) rfl (by show 2 * 0 + _ ≤ _; exact Nat.le_of_eq rfl) (hb hby at_168) (fun _ _ => ⟨rfl, e8, Nat.le_of_ble_eq_true rfl, Nat.le_of_ble_eq_true rfl⟩)
      dsimp only [Pt.U, Pt.locs, Pt.cells, Pt.slots] at X9 l9 y9 z9 st9 hQ9
      subst l9 y9 z9
      obtain ⟨rfl, N9q, e9⟩ := hQ9
      have N9 := Fr.app N8 N9q
      refine own_go (fun _ k => st9 _ k) ?_
      show own_Ends p e below s _ _ _ (T9.setTop (mkF m 171 #[.val (.int p1), .val (.int p2), .val (.int p3), .val (.int p4), .val (.int p5), .val (.int (1 : Int32)), .val (.double (FP.l2d sg)), .second, .val (.ref b1), .val (.int (Int32.ofNat r)), .val (.double (FP.dmul (FP.l2d sg) (FP.i2d ([p2].getD r 0)))), .second] [(.int (1 : Int32))]))
      refine own_go (fun _ k => XS.ifNo X9.here hx rfl (hb hby at_171) rfl ((if0 _ _).trans (feq (by decide)).1) <| XT.iconstV X9.here hx rfl (1 : Int32) (hb hby at_174) rfl <| XS.goto X9.here hx rfl (pc0 := 175) (pc' := 179) rfl (hb hby at_175) (by decide) (by decide) <| k) ?_
      show own_Ends p e below s _ _ _ (T9.setTop (mkF m 179 #[.val (.int p1), .val (.int p2), .val (.int p3), .val (.int p4), .val (.int p5), .val (.int (1 : Int32)), .val (.double (FP.l2d sg)), .second, .val (.ref b1), .val (.int (Int32.ofNat r)), .val (.double (FP.dmul (FP.l2d sg) (FP.i2d ([p2].getD r 0)))), .second] [(.int (1 : Int32))]))
      exact own_retN X9 hx (t := .boolean) hrt (by simp) (hb hby at_179) hlk (show nar .boolean (1 : Int32) = (1 : Int32) from by decide) (by rw [e9]; exact ⟨rfl, N9⟩) (by decide) (by decide)
    · rw [hn]
      show own_Ends p e below s _ _ _ (s₁.setTop (mkF m 24 #[.val (.int p1), .val (.int p2), .val (.int p3), .val (.int p4), .val (.int p5), .val (.int (2 : Int32)), .val (.double (FP.l2d sg)), .second, .unset, .unset, .unset, .unset] []))
      refine own_go (fun _ k => XS.iload X0.here hx rfl (hb hby at_24) rfl <| k) ?_
      show own_Ends p e below s _ _ _ (s₁.setTop (mkF m 26 #[.val (.int p1), .val (.int p2), .val (.int p3), .val (.int p4), .val (.int p5), .val (.int (2 : Int32)), .val (.double (FP.l2d sg)), .second, .unset, .unset, .unset, .unset] [(.int (2 : Int32))]))
      obtain ⟨T10, h10, k10, X10, e10, E10, A10, st10⟩ := newP X0 hx hZ (hw _ (List.mem_of_getElem? (i := 1) rfl)) e0 (g := (mkF m 26 #[.val (.int p1), .val (.int p2), .val (.int p3), .val (.int p4), .val (.int p5), .val (.int (2 : Int32)), .val (.double (FP.l2d sg)), .second, .unset, .unset, .unset, .unset] [(.int (2 : Int32))])) rfl (hb hby at_26) rfl (by decide) (cap := 2) (by decide) (by decide) (by decide) (by decide)
      obtain ⟨b10, g10⟩ : ∃ z, z = h0.size := ⟨_, rfl⟩
      rw [← g10] at A10 st10
      refine own_go st10 ?_
      have g_b10 : n0 ≤ b10 := Nat.le_trans Z0 (Nat.le_of_eq g10.symm)
      have Z10 := Nat.le_trans Z0 E10.1
      have V_b10 : Arv Z h10 b10 k10 .double (2 : Int32) [(.double (0 : UInt64)), (.double (0 : UInt64))] (.double (0 : UInt64)) := (Arv.new A10 (by decide)).pad (pad_rep [] (.double (0 : UInt64)) 2)
      show own_Ends p e below s _ _ _ (T10.setTop (mkF m 28 #[.val (.int p1), .val (.int p2), .val (.int p3), .val (.int p4), .val (.int p5), .val (.int (2 : Int32)), .val (.double (FP.l2d sg)), .second, .unset, .unset, .unset, .unset] [(.ref b10)]))
      refine own_go (fun _ k => XS.astore X10.here hx rfl (hb hby at_28) rfl rfl (l' := #[.val (.int p1), .val (.int p2), .val (.int p3), .val (.int p4), .val (.int p5), .val (.int (2 : Int32)), .val (.double (FP.l2d sg)), .second, .val (.ref b10), .unset, .unset, .unset]) rfl <| XS.aload X10.here hx rfl (hb hby at_30) rfl rfl <| XT.iconstV X10.here hx rfl (0 : Int32) (hb hby at_32) rfl <| XS.iloadN X10.here hx rfl (hb hby at_33) rfl <| XS.i2dS X10.here hx rfl (hb hby at_34) rfl rfl <| k) ?_
      show own_Ends p e below s _ _ _ (T10.setTop (mkF m 35 #[.val (.int p1), .val (.int p2), .val (.int p3), .val (.int p4), .val (.int p5), .val (.int (2 : Int32)), .val (.double (FP.l2d sg)), .second, .val (.ref b10), .unset, .unset, .unset] [(.double (FP.i2d p2)), (.int (0 : Int32)), (.ref b10)]))
      obtain ⟨clb10_35_11, Arb10_35_11, qqb10_35_11, Szb10_35_11, Ngb10_35_11, Hsb10_35_11, Gfb10_35_11⟩ := id V_b10
      have hinb10_35_11 : ¬ ((0 : Int32) < 0 ∨ clb10_35_11.slots.size ≤ ((0 : Int32)).toNatClampNeg) := inb_of Szb10_35_11 ⟨by decide, by decide⟩
      obtain ⟨T12, h12, X12, e12, W12, st12⟩ := stD X10 hx hZ e10 Arb10_35_11 (j := (0 : Int32)) hinb10_35_11 (g := (mkF m 35 #[.val (.int p1), .val (.int p2), .val (.int p3), .val (.int p4), .val (.int p5), .val (.int (2 : Int32)), .val (.double (FP.l2d sg)), .second, .val (.ref b10), .unset, .unset, .unset] [(.double (FP.i2d p2)), (.int (0 : Int32)), (.ref b10)])) rfl rfl (hb hby at_35)
      refine own_go st12 ?_
      have Z12 := Nat.le_trans Z10 (Keep.of_wr W12).1
      have N12 := Fr.snoc X12 N0 g_b10
      have V_b10'12 : Arv Z h12 b10 k10 .double (2 : Int32) [(.double (FP.i2d p2)), (.double (0 : UInt64))] (.double (0 : UInt64)) := Arv.set Arb10_35_11 qqb10_35_11 Szb10_35_11 Ngb10_35_11 Hsb10_35_11 Gfb10_35_11 rfl W12 0 rfl (Nat.le_of_ble_eq_true rfl)
      show own_Ends p e below s _ _ _ (T12.setTop (mkF m 36 #[.val (.int p1), .val (.int p2), .val (.int p3), .val (.int p4), .val (.int p5), .val (.int (2 : Int32)), .val (.double (FP.l2d sg)), .second, .val (.ref b10), .unset, .unset, .unset] []))
      refine own_go (fun _ k => XS.iload X12.here hx rfl (hb hby at_36) rfl <| XT.iconstV X12.here hx rfl (1 : Int32) (hb hby at_38) rfl <| XS.icmpNo X12.here hx rfl (hb hby at_39) rfl (tlt (by decide)).2.2.2 <| XS.aload X12.here hx rfl (hb hby at_42) rfl rfl <| XT.iconstV X12.here hx rfl (1 : Int32) (hb hby at_44) rfl <| XS.iloadN X12.here hx rfl (hb hby at_45) rfl <| XS.i2dS X12.here hx rfl (hb hby at_46) rfl rfl <| k) ?_
      show own_Ends p e below s _ _ _ (T12.setTop (mkF m 47 #[.val (.int p1), .val (.int p2), .val (.int p3), .val (.int p4), .val (.int p5), .val (.int (2 : Int32)), .val (.double (FP.l2d sg)), .second, .val (.ref b10), .unset, .unset, .unset] [(.double (FP.i2d p3)), (.int (1 : Int32)), (.ref b10)]))
      obtain ⟨clb10_47_13, Arb10_47_13, qqb10_47_13, Szb10_47_13, Ngb10_47_13, Hsb10_47_13, Gfb10_47_13⟩ := id V_b10'12
      have hinb10_47_13 : ¬ ((1 : Int32) < 0 ∨ clb10_47_13.slots.size ≤ ((1 : Int32)).toNatClampNeg) := inb_of Szb10_47_13 ⟨by decide, by decide⟩
      obtain ⟨T14, h14, X14, e14, W14, st14⟩ := stD X12 hx hZ e12 Arb10_47_13 (j := (1 : Int32)) hinb10_47_13 (g := (mkF m 47 #[.val (.int p1), .val (.int p2), .val (.int p3), .val (.int p4), .val (.int p5), .val (.int (2 : Int32)), .val (.double (FP.l2d sg)), .second, .val (.ref b10), .unset, .unset, .unset] [(.double (FP.i2d p3)), (.int (1 : Int32)), (.ref b10)])) rfl rfl (hb hby at_47)
      refine own_go st14 ?_
      have Z14 := Nat.le_trans Z12 (Keep.of_wr W14).1
      have N14 := Fr.snoc X14 N12 g_b10
      have V_b10'14 : Arv Z h14 b10 k10 .double (2 : Int32) [(.double (FP.i2d p2)), (.double (FP.i2d p3))] (.double (0 : UInt64)) := Arv.set Arb10_47_13 qqb10_47_13 Szb10_47_13 Ngb10_47_13 Hsb10_47_13 Gfb10_47_13 rfl W14 1 rfl (Nat.le_of_ble_eq_true rfl)
      show own_Ends p e below s _ _ _ (T14.setTop (mkF m 48 #[.val (.int p1), .val (.int p2), .val (.int p3), .val (.int p4), .val (.int p5), .val (.int (2 : Int32)), .val (.double (FP.l2d sg)), .second, .val (.ref b10), .unset, .unset, .unset] []))
      refine own_go (fun _ k => XS.iload X14.here hx rfl (hb hby at_48) rfl <| XT.iconstV X14.here hx rfl (2 : Int32) (hb hby at_50) rfl <| XS.icmpYes X14.here hx rfl (pc0 := 51) (pc' := 60) rfl (hb hby at_51) rfl (flt (by decide)).2.2.2 (by decide) (by decide) <| XS.iload X14.here hx rfl (hb hby at_60) rfl <| XT.iconstV X14.here hx rfl (3 : Int32) (hb hby at_62) rfl <| XS.icmpYes X14.here hx rfl (pc0 := 63) (pc' := 73) rfl (hb hby at_63) rfl (flt (by decide)).2.2.2 (by decide) (by decide) <| XS.aload X14.here hx rfl (hb hby at_73) rfl rfl <| XS.dload X14.here hx rfl (hb hby at_75) rfl <| k) ?_
      show own_Ends p e below s _ _ _ (T14.setTop (mkF m 77 #[.val (.int p1), .val (.int p2), .val (.int p3), .val (.int p4), .val (.int p5), .val (.int (2 : Int32)), .val (.double (FP.l2d sg)), .second, .val (.ref b10), .unset, .unset, .unset] [(.double (FP.l2d sg)), (.ref b10)]))
      obtain ⟨_, _, ⟨T15, L15, k15, n15⟩, -, X15, ⟨Lc15, hQ15, l15, y15, z15⟩, st15⟩ := Jvm.LawKit.callS X14 hx (y := (⟨"com/example/weftbind/weftbind/RouteExtremes", "extremeCandidate", "([DD)I"⟩ : MethodName)) hown (mvT hZ (hw _ (List.mem_of_getElem? (i := 2) rfl))) (mvT hZ (hw _ (List.mem_of_getElem? (i := 3) rfl))) (mvT hZ (hw _ (List.mem_of_getElem? (i := 4) rfl))) (mvT hZ (hw _ (List.mem_of_getElem? (i := 5) rfl))) (by decide) (backOf (W := 0) (rm1 l Z a0 hw [] b10 k10 [p2, p3] sg h14 n0 Z14 V_b10'14 (by simp) hsg) hZ (hw _ (List.mem_of_getElem? (i := 5) rfl)) (hw _ (List.mem_of_getElem? (i := 4) rfl)) (by decide) (by decide)) (g := (mkF m 77 #[.val (.int p1), .val (.int p2), .val (.int p3), .val (.int p4), .val (.int p5), .val (.int (2 : Int32)), .val (.double (FP.l2d sg)), .second, .val (.ref b10), .unset, .unset, .unset] [(.double (FP.l2d sg)), (.ref b10)])) rfl (by rw [hml]; rfl) (argsL := [(.ref b10), (.double (FP.l2d sg))]) (rest := []) (lenOf pd_0 rfl) rfl (by show 2 * 0 + _ ≤ _; exact Nat.le_of_eq rfl) (hb hby at_77) (fun _ _ => ⟨rfl, e14, Nat.le_of_ble_eq_true rfl, Nat.le_of_ble_eq_true rfl⟩)
      dsimp only [Pt.U, Pt.locs, Pt.cells, Pt.slots] at X15 l15 y15 z15 st15 hQ15
      subst l15 y15 z15
      obtain ⟨r, rfl, N15q, e15, hr, hbb⟩ := hQ15
      have N15 := Fr.app N14 N15q
      refine own_go (fun _ k => st15 _ k) ?_
      show own_Ends p e below s _ _ _ (T15.setTop (mkF m 80 #[.val (.int p1), .val (.int p2), .val (.int p3), .val (.int p4), .val (.int p5), .val (.int (2 : Int32)), .val (.double (FP.l2d sg)), .second, .val (.ref b10), .unset, .unset, .unset] [(.int (Int32.ofNat r))]))
      refine own_go (fun _ k => XS.istore X15.here hx rfl (hb hby at_80) rfl (l' := #[.val (.int p1), .val (.int p2), .val (.int p3), .val (.int p4), .val (.int p5), .val (.int (2 : Int32)), .val (.double (FP.l2d sg)), .second, .val (.ref b10), .val (.int (Int32.ofNat r)), .unset, .unset]) rfl <| XS.iload X15.here hx rfl (hb hby at_82) rfl <| XS.ifNo X15.here hx rfl (hb hby at_84) rfl ((if0 _ _).trans (flt (own_nneg (Nat.lt_trans hr (by simp)))).1) <| XS.iload X15.here hx rfl (hb hby at_87) rfl <| XS.iload X15.here hx rfl (hb hby at_89) rfl <| XS.icmpYes X15.here hx rfl (pc0 := 91) (pc' := 96) rfl (hb hby at_91) rfl (tlt ((own_ofNat_lt (n := 2) (Nat.lt_trans hr (by simp)) (by decide)).mpr hr)).1 (by decide) (by decide) <| XS.dload X15.here hx rfl (hb hby at_96) rfl <| XS.aload X15.here hx rfl (hb hby at_98) rfl rfl <| XS.iload X15.here hx rfl (hb hby at_100) rfl <| k) ?_
      show own_Ends p e below s _ _ _ (T15.setTop (mkF m 102 #[.val (.int p1), .val (.int p2), .val (.int p3), .val (.int p4), .val (.int p5), .val (.int (2 : Int32)), .val (.double (FP.l2d sg)), .second, .val (.ref b10), .val (.int (Int32.ofNat r)), .unset, .unset] [(.int (Int32.ofNat r)), (.ref b10), (.double (FP.l2d sg))]))
      obtain ⟨clb10_102_16, Arb10_102_16, qqb10_102_16, Szb10_102_16, Ngb10_102_16, Hsb10_102_16, Gfb10_102_16⟩ := id V_b10'14
      have hinb10_102_16 : ¬ ((Int32.ofNat r) < 0 ∨ clb10_102_16.slots.size ≤ ((Int32.ofNat r)).toNatClampNeg) := inb_of Szb10_102_16 ⟨own_nneg (Nat.lt_trans hr (by simp)), (own_ofNat_lt (n := 2) (Nat.lt_trans hr (by simp)) (by decide)).mpr hr⟩
      have hatb10_102_16 : clb10_102_16.slots[((Int32.ofNat r)).toNatClampNeg]? = some (.double (FP.i2d ([p2, p3].getD r 0))) := Hsb10_102_16.at hinb10_102_16 (own_getD [p2, p3] (Nat.lt_trans hr (by simp)) hr)
      refine own_go (fun _ k => X15.daload hx (j := (Int32.ofNat r)) (v := (.double (FP.i2d ([p2, p3].getD r 0)))) (by first | exact Arb10_102_16.1 | (rw [e15]; exact Arb10_102_16.1)) (State.isArrayOf_alike hZ.alike Arb10_102_16.2.1) Arb10_102_16.2.2 hinb10_102_16 hatb10_102_16 (g := (mkF m 102 #[.val (.int p1), .val (.int p2), .val (.int p3), .val (.int p4), .val (.int p5), .val (.int (2 : Int32)), .val (.double (FP.l2d sg)), .second, .val (.ref b10), .val (.int (Int32.ofNat r)), .unset, .unset] [(.int (Int32.ofNat r)), (.ref b10), (.double (FP.l2d sg))])) rfl rfl (hb hby at_102) _ k) ?_
      show own_Ends p e below s _ _ _ (T15.setTop (mkF m 103 #[.val (.int p1), .val (.int p2), .val (.int p3), .val (.int p4), .val (.int p5), .val (.int (2 : Int32)), .val (.double (FP.l2d sg)), .second, .val (.ref b10), .val (.int (Int32.ofNat r)), .unset, .unset] [(.double (FP.i2d ([p2, p3].getD r 0))), (.double (FP.l2d sg))]))
      refine own_go (fun _ k => XS.dmulS X15.here hx rfl (hb hby at_103) rfl (own_nn hsg _) rfl <| XS.dstore X15.here hx rfl (hb hby at_104) rfl (l' := #[.val (.int p1), .val (.int p2), .val (.int p3), .val (.int p4), .val (.int p5), .val (.int (2 : Int32)), .val (.double (FP.l2d sg)), .second, .val (.ref b10), .val (.int (Int32.ofNat r)), .val (.double (FP.dmul (FP.l2d sg) (FP.i2d ([p2, p3].getD r 0)))), .second]) rfl <| XS.aload X15.here hx rfl (hb hby at_106) rfl rfl <| XS.iload X15.here hx rfl (hb hby at_108) rfl <| XT.iconstV X15.here hx rfl (0 : Int32) (hb hby at_110) rfl <| XS.iload X15.here hx rfl (hb hby at_111) rfl <| XS.dload X15.here hx rfl (hb hby at_113) rfl <| XS.dload X15.here hx rfl (hb hby at_115) rfl <| k) ?_
      show own_Ends p e below s _ _ _ (T15.setTop (mkF m 117 #[.val (.int p1), .val (.int p2), .val (.int p3), .val (.int p4), .val (.int p5), .val (.int (2 : Int32)), .val (.double (FP.l2d sg)), .second, .val (.ref b10), .val (.int (Int32.ofNat r)), .val (.double (FP.dmul (FP.l2d sg) (FP.i2d ([p2, p3].getD r 0)))), .second] [(.double (FP.dmul (FP.l2d sg) (FP.i2d ([p2, p3].getD r 0)))), (.double (FP.l2d sg)), (.int (Int32.ofNat r)), (.int (0 : Int32)), (.int (2 : Int32)), (.ref b10)]))
      obtain ⟨_, _, ⟨T17, L17, k17, n17⟩, -, X17, ⟨Lc17, hQ17, l17, y17, z17⟩, st17⟩ := Jvm.LawKit.callS X15 hx (y := (⟨"com/example/weftbind/weftbind/RouteExtremesExtremeCandidatePinLaw", "ok", "([DIIIDD)Z"⟩ : MethodName)) hown (mvT hZ (hw _ (List.mem_of_getElem? (i := 6) rfl))) (mvT hZ (hw _ (List.mem_of_getElem? (i := 7) rfl))) (mvT hZ (hw _ (List.mem_of_getElem? (i := 8) rfl))) (mvT hZ (hw _ (List.mem_of_getElem? (i := 9) rfl))) (by decide) (backOf (W := 0) (rm2 l Z a0 hw [] b10 k10 [p2, p3] sg 0 r h14 n0 Z14 V_b10'14 (by simp) hsg (by simp) hr hbb) hZ (hw _ (List.mem_of_getElem? (i := 9) rfl)) (hw _ (List.mem_of_getElem? (i := 8) rfl)) (by decide) (by decide)) (g := (mkF m 117 #[.val (.int p1), .val (.int p2), .val (.int p3), .val (.int p4), .val (.int p5), .val (.int (2 : Int32)), .val (.double (FP.l2d sg)), .second, .val (.ref b10), .val (.int (Int32.ofNat r)), .val (.double (FP.dmul (FP.l2d sg) (FP.i2d ([p2, p3].getD r 0)))), .second] [(.double (FP.dmul (FP.l2d sg) (FP.i2d ([p2, p3].getD r 0)))), (.double (FP.l2d sg)), (.int (Int32.ofNat r)), (.int (0 : Int32)), (.int (2 : Int32)), (.ref b10)])) rfl (by rw [hml]; rfl) (argsL := [(.ref b10), (.int (2 : Int32)), (.int (0 : Int32)), (.int (Int32.ofNat r)), (.double (FP.l2d sg)), (.double (FP.dmul (FP.l2d sg) (FP.i2d ([p2, p3].getD r 0))))]) (rest := []) (lenOf pd_1 rfl) rfl (by show 2 * 0 + _ ≤ _; exact Nat.le_of_eq rfl) (hb hby at_117) (fun _ _ => ⟨rfl, e15, Nat.le_of_ble_eq_true rfl, Nat.le_of_ble_eq_true rfl⟩)
      dsimp only [Pt.U, Pt.locs, Pt.cells, Pt.slots] at X17 l17 y17 z17 st17 hQ17
      subst l17 y17 z17
      obtain ⟨rfl, N17q, e17⟩ := hQ17
      have N17 := Fr.app N15 N17q
      refine own_go (fun _ k => st17 _ k) ?_
      show own_Ends p e below s _ _ _ (T17.setTop (mkF m 120 #[.val (.int p1), .val (.int p2), .val (.int p3), .val (.int p4), .val (.int p5), .val (.int (2 : Int32)), .val (.double (FP.l2d sg)), .second, .val (.ref b10), .val (.int (Int32.ofNat r)), .val (.double (FP.dmul (FP.l2d sg) (FP.i2d ([p2, p3].getD r 0)))), .second] [(.int (1 : Int32))]))
      refine own_go (fun _ k => XS.ifNo X17.here hx rfl (hb hby at_120) rfl ((if0 _ _).trans (feq (by decide)).1) <| XS.aload X17.here hx rfl (hb hby at_123) rfl rfl <| XS.iload X17.here hx rfl (hb hby at_125) rfl <| XT.iconstV X17.here hx rfl (1 : Int32) (hb hby at_127) rfl <| XS.iload X17.here hx rfl (hb hby at_128) rfl <| XS.dload X17.here hx rfl (hb hby at_130) rfl <| XS.dload X17.here hx rfl (hb hby at_132) rfl <| k) ?_
      show own_Ends p e below s _ _ _ (T17.setTop (mkF m 134 #[.val (.int p1), .val (.int p2), .val (.int p3), .val (.int p4), .val (.int p5), .val (.int (2 : Int32)), .val (.double (FP.l2d sg)), .second, .val (.ref b10), .val (.int (Int32.ofNat r)), .val (.double (FP.dmul (FP.l2d sg) (FP.i2d ([p2, p3].getD r 0)))), .second] [(.double (FP.dmul (FP.l2d sg) (FP.i2d ([p2, p3].getD r 0)))), (.double (FP.l2d sg)), (.int (Int32.ofNat r)), (.int (1 : Int32)), (.int (2 : Int32)), (.ref b10)]))
      obtain ⟨_, _, ⟨T18, L18, k18, n18⟩, -, X18, ⟨Lc18, hQ18, l18, y18, z18⟩, st18⟩ := Jvm.LawKit.callS X17 hx (y := (⟨"com/example/weftbind/weftbind/RouteExtremesExtremeCandidatePinLaw", "ok", "([DIIIDD)Z"⟩ : MethodName)) hown (mvT hZ (hw _ (List.mem_of_getElem? (i := 6) rfl))) (mvT hZ (hw _ (List.mem_of_getElem? (i := 7) rfl))) (mvT hZ (hw _ (List.mem_of_getElem? (i := 8) rfl))) (mvT hZ (hw _ (List.mem_of_getElem? (i := 9) rfl))) (by decide) (backOf (W := 0) (rm2 l Z a0 hw [] b10 k10 [p2, p3] sg 1 r h14 n0 Z14 V_b10'14 (by simp) hsg (by simp) hr hbb) hZ (hw _ (List.mem_of_getElem? (i := 9) rfl)) (hw _ (List.mem_of_getElem? (i := 8) rfl)) (by decide) (by decide)) (g := (mkF m 134 #[.val (.int p1), .val (.int p2), .val (.int p3), .val (.int p4), .val (.int p5), .val (.int (2 : Int32)), .val (.double (FP.l2d sg)), .second, .val (.ref b10), .val (.int (Int32.ofNat r)), .val (.double (FP.dmul (FP.l2d sg) (FP.i2d ([p2, p3].getD r 0)))), .second] [(.double (FP.dmul (FP.l2d sg) (FP.i2d ([p2, p3].getD r 0)))), (.double (FP.l2d sg)), (.int (Int32.ofNat r)), (.int (1 : Int32)), (.int (2 : Int32)), (.ref b10)])) rfl (by rw [hml]; rfl) (argsL := [(.ref b10), (.int (2 : Int32)), (.int (1 : Int32)), (.int (Int32.ofNat r)), (.double (FP.l2d sg)), (.double (FP.dmul (FP.l2d sg) (FP.i2d ([p2, p3].getD r 0))))]) (rest := []) (lenOf pd_1 rfl) rfl (by show 2 * 0 + _ ≤ _; exact Nat.le_of_eq rfl) (hb hby at_134) (fun _ _ => ⟨rfl, e17, Nat.le_of_ble_eq_true rfl, Nat.le_of_ble_eq_true rfl⟩)
      dsimp only [Pt.U, Pt.locs, Pt.cells, Pt.slots] at X18 l18 y18 z18 st18 hQ18
      subst l18 y18 z18
      obtain ⟨rfl, N18q, e18⟩ := hQ18
      have N18 := Fr.app N17 N18q
      refine own_go (fun _ k => st18 _ k) ?_
      show own_Ends p e below s _ _ _ (T18.setTop (mkF m 137 #[.val (.int p1), .val (.int p2), .val (.int p3), .val (.int p4), .val (.int p5), .val (.int (2 : Int32)), .val (.double (FP.l2d sg)), .second, .val (.ref b10), .val (.int (Int32.ofNat r)), .val (.double (FP.dmul (FP.l2d sg) (FP.i2d ([p2, p3].getD r 0)))), .second] [(.int (1 : Int32))]))
      refine own_go (fun _ k => XS.ifNo X18.here hx rfl (hb hby at_137) rfl ((if0 _ _).trans (feq (by decide)).1) <| XS.aload X18.here hx rfl (hb hby at_140) rfl rfl <| XS.iload X18.here hx rfl (hb hby at_142) rfl <| XT.iconstV X18.here hx rfl (2 : Int32) (hb hby at_144) rfl <| XS.iload X18.here hx rfl (hb hby at_145) rfl <| XS.dload X18.here hx rfl (hb hby at_147) rfl <| XS.dload X18.here hx rfl (hb hby at_149) rfl <| k) ?_
      show own_Ends p e below s _ _ _ (T18.setTop (mkF m 151 #[.val (.int p1), .val (.int p2), .val (.int p3), .val (.int p4), .val (.int p5), .val (.int (2 : Int32)), .val (.double (FP.l2d sg)), .second, .val (.ref b10), .val (.int (Int32.ofNat r)), .val (.double (FP.dmul (FP.l2d sg) (FP.i2d ([p2, p3].getD r 0)))), .second] [(.double (FP.dmul (FP.l2d sg) (FP.i2d ([p2, p3].getD r 0)))), (.double (FP.l2d sg)), (.int (Int32.ofNat r)), (.int (2 : Int32)), (.int (2 : Int32)), (.ref b10)]))
      obtain ⟨_, _, ⟨T19, L19, k19, n19⟩, -, X19, ⟨Lc19, hQ19, l19, y19, z19⟩, st19⟩ := Jvm.LawKit.callS X18 hx (y := (⟨"com/example/weftbind/weftbind/RouteExtremesExtremeCandidatePinLaw", "ok", "([DIIIDD)Z"⟩ : MethodName)) hown (mvT hZ (hw _ (List.mem_of_getElem? (i := 6) rfl))) (mvT hZ (hw _ (List.mem_of_getElem? (i := 7) rfl))) (mvT hZ (hw _ (List.mem_of_getElem? (i := 8) rfl))) (mvT hZ (hw _ (List.mem_of_getElem? (i := 9) rfl))) (by decide) (backOf (W := 0) (rm2 l Z a0 hw [] b10 k10 [p2, p3] sg 2 r h14 n0 Z14 V_b10'14 (by simp) hsg (by simp) hr hbb) hZ (hw _ (List.mem_of_getElem? (i := 9) rfl)) (hw _ (List.mem_of_getElem? (i := 8) rfl)) (by decide) (by decide)) (g := (mkF m 151 #[.val (.int p1), .val (.int p2), .val (.int p3), .val (.int p4), .val (.int p5), .val (.int (2 : Int32)), .val (.double (FP.l2d sg)), .second, .val (.ref b10), .val (.int (Int32.ofNat r)), .val (.double (FP.dmul (FP.l2d sg) (FP.i2d ([p2, p3].getD r 0)))), .second] [(.double (FP.dmul (FP.l2d sg) (FP.i2d ([p2, p3].getD r 0)))), (.double (FP.l2d sg)), (.int (Int32.ofNat r)), (.int (2 : Int32)), (.int (2 : Int32)), (.ref b10)])) rfl (by rw [hml]; rfl) (argsL := [(.ref b10), (.int (2 : Int32)), (.int (2 : Int32)), (.int (Int32.ofNat r)), (.double (FP.l2d sg)), (.double (FP.dmul (FP.l2d sg) (FP.i2d ([p2, p3].getD r 0))))]) (rest := []) (lenOf pd_1 rfl) rfl (by show 2 * 0 + _ ≤ _; exact Nat.le_of_eq rfl) (hb hby at_151) (fun _ _ => ⟨rfl, e18, Nat.le_of_ble_eq_true rfl, Nat.le_of_ble_eq_true rfl⟩)
      dsimp only [Pt.U, Pt.locs, Pt.cells, Pt.slots] at X19 l19 y19 z19 st19 hQ19
      subst l19 y19 z19
      obtain ⟨rfl, N19q, e19⟩ := hQ19
      have N19 := Fr.app N18 N19q
      refine own_go (fun _ k => st19 _ k) ?_
      show own_Ends p e below s _ _ _ (T19.setTop (mkF m 154 #[.val (.int p1), .val (.int p2), .val (.int p3), .val (.int p4), .val (.int p5), .val (.int (2 : Int32)), .val (.double (FP.l2d sg)), .second, .val (.ref b10), .val (.int (Int32.ofNat r)), .val (.double (FP.dmul (FP.l2d sg) (FP.i2d ([p2, p3].getD r 0)))), .second] [(.int (1 : Int32))]))
      refine own_go (fun _ k => XS.ifNo X19.here hx rfl (hb hby at_154) rfl ((if0 _ _).trans (feq (by decide)).1) <| XS.aload X19.here hx rfl (hb hby at_157) rfl rfl <| XS.iload X19.here hx rfl (hb hby at_159) rfl <| XT.iconstV X19.here hx rfl (3 : Int32) (hb hby at_161) rfl <| XS.iload X19.here hx rfl (hb hby at_162) rfl <| XS.dload X19.here hx rfl (hb hby at_164) rfl <| XS.dload X19.here hx rfl (hb hby at_166) rfl <| k) ?_
      show own_Ends p e below s _ _ _ (T19.setTop (mkF m 168 #[.val (.int p1), .val (.int p2), .val (.int p3), .val (.int p4), .val (.int p5), .val (.int (2 : Int32)), .val (.double (FP.l2d sg)), .second, .val (.ref b10), .val (.int (Int32.ofNat r)), .val (.double (FP.dmul (FP.l2d sg) (FP.i2d ([p2, p3].getD r 0)))), .second] [(.double (FP.dmul (FP.l2d sg) (FP.i2d ([p2, p3].getD r 0)))), (.double (FP.l2d sg)), (.int (Int32.ofNat r)), (.int (3 : Int32)), (.int (2 : Int32)), (.ref b10)]))
      obtain ⟨_, _, ⟨T20, L20, k20, n20⟩, -, X20, ⟨Lc20, hQ20, l20, y20, z20⟩, st20⟩ := Jvm.LawKit.callS X19 hx (y := (⟨"com/example/weftbind/weftbind/RouteExtremesExtremeCandidatePinLaw", "ok", "([DIIIDD)Z"⟩ : MethodName)) hown (mvT hZ (hw _ (List.mem_of_getElem? (i := 6) rfl))) (mvT hZ (hw _ (List.mem_of_getElem? (i := 7) rfl))) (mvT hZ (hw _ (List.mem_of_getElem? (i := 8) rfl))) (mvT hZ (hw _ (List.mem_of_getElem? (i := 9) rfl))) (by decide) (backOf (W := 0) (rm2 l Z a0 hw [] b10 k10 [p2, p3] sg 3 r h14 n0 Z14 V_b10'14 (by simp) hsg (by simp) hr hbb) hZ (hw _ (List.mem_of_getElem? (i := 9) rfl)) (hw _ (List.mem_of_getElem? (i := 8) rfl)) (by decide) (by decide)) (g := (mkF m 168 #[.val (.int p1), .val (.int p2), .val (.int p3), .val (.int p4), .val (.int p5), .val (.int (2 : Int32)), .val (.double (FP.l2d sg)), .second, .val (.ref b10), .val (.int (Int32.ofNat r)), .val (.double (FP.dmul (FP.l2d sg) (FP.i2d ([p2, p3].getD r 0)))), .second] [(.double (FP.dmul (FP.l2d sg) (FP.i2d ([p2, p3].getD r 0)))), (.double (FP.l2d sg)), (.int (Int32.ofNat r)), (.int (3 : Int32)), (.int (2 : Int32)), (.ref b10)])) rfl (by rw [hml]; rfl) (argsL := [(.ref b10), (.int (2 : Int32)), (.int (3 : Int32)), (.int (Int32.ofNat r)), (.double (FP.l2d sg)), (.double (FP.dmul (FP.l2d sg) (FP.i2d ([p2, p3].getD r 0))))]) (rest := []) (lenOf pd_1 rfl) rfl (by show 2 * 0 + _ ≤ _; exact Nat.le_of_eq rfl) (hb hby at_168) (fun _ _ => ⟨rfl, e19, Nat.le_of_ble_eq_true rfl, Nat.le_of_ble_eq_true rfl⟩)
      dsimp only [Pt.U, Pt.locs, Pt.cells, Pt.slots] at X20 l20 y20 z20 st20 hQ20
      subst l20 y20 z20
      obtain ⟨rfl, N20q, e20⟩ := hQ20
      have N20 := Fr.app N19 N20q
      refine own_go (fun _ k => st20 _ k) ?_
      show own_Ends p e below s _ _ _ (T20.setTop (mkF m 171 #[.val (.int p1), .val (.int p2), .val (.int p3), .val (.int p4), .val (.int p5), .val (.int (2 : Int32)), .val (.double (FP.l2d sg)), .second, .val (.ref b10), .val (.int (Int32.ofNat r)), .val (.double (FP.dmul (FP.l2d sg) (FP.i2d ([p2, p3].getD r 0)))), .second] [(.int (1 : Int32))]))
      refine own_go (fun _ k => XS.ifNo X20.here hx rfl (hb hby at_171) rfl ((if0 _ _).trans (feq (by decide)).1) <| XT.iconstV X20.here hx rfl (1 : Int32) (hb hby at_174) rfl <| XS.goto X20.here hx rfl (pc0 := 175) (pc' := 179) rfl (hb hby at_175) (by decide) (by decide) <| k) ?_
      show own_Ends p e below s _ _ _ (T20.setTop (mkF m 179 #[.val (.int p1), .val (.int p2), .val (.int p3), .val (.int p4), .val (.int p5), .val (.int (2 : Int32)), .val (.double (FP.l2d sg)), .second, .val (.ref b10), .val (.int (Int32.ofNat r)), .val (.double (FP.dmul (FP.l2d sg) (FP.i2d ([p2, p3].getD r 0)))), .second] [(.int (1 : Int32))]))
      exact own_retN X20 hx (t := .boolean) hrt (by simp) (hb hby at_179) hlk (show nar .boolean (1 : Int32) = (1 : Int32) from by decide) (by rw [e20]; exact ⟨rfl, N20⟩) (by decide) (by decide)
    · rw [hn]
      show own_Ends p e below s _ _ _ (s₁.setTop (mkF m 24 #[.val (.int p1), .val (.int p2), .val (.int p3), .val (.int p4), .val (.int p5), .val (.int (3 : Int32)), .val (.double (FP.l2d sg)), .second, .unset, .unset, .unset, .unset] []))
      refine own_go (fun _ k => XS.iload X0.here hx rfl (hb hby at_24) rfl <| k) ?_
      show own_Ends p e below s _ _ _ (s₁.setTop (mkF m 26 #[.val (.int p1), .val (.int p2), .val (.int p3), .val (.int p4), .val (.int p5), .val (.int (3 : Int32)), .val (.double (FP.l2d sg)), .second, .unset, .unset, .unset, .unset] [(.int (3 : Int32))]))
      obtain ⟨T21, h21, k21, X21, e21, E21, A21, st21⟩ := newP X0 hx hZ (hw _ (List.mem_of_getElem? (i := 1) rfl)) e0 (g := (mkF m 26 #[.val (.int p1), .val (.int p2), .val (.int p3), .val (.int p4), .val (.int p5), .val (.int (3 : Int32)), .val (.double (FP.l2d sg)), .second, .unset, .unset, .unset, .unset] [(.int (3 : Int32))])) rfl (hb hby at_26) rfl (by decide) (cap := 3) (by decide) (by decide) (by decide) (by decide)
      obtain ⟨b21, g21⟩ : ∃ z, z = h0.size := ⟨_, rfl⟩
      rw [← g21] at A21 st21
      refine own_go st21 ?_
      have g_b21 : n0 ≤ b21 := Nat.le_trans Z0 (Nat.le_of_eq g21.symm)
      have Z21 := Nat.le_trans Z0 E21.1
      have V_b21 : Arv Z h21 b21 k21 .double (3 : Int32) [(.double (0 : UInt64)), (.double (0 : UInt64)), (.double (0 : UInt64))] (.double (0 : UInt64)) := (Arv.new A21 (by decide)).pad (pad_rep [] (.double (0 : UInt64)) 3)
      show own_Ends p e below s _ _ _ (T21.setTop (mkF m 28 #[.val (.int p1), .val (.int p2), .val (.int p3), .val (.int p4), .val (.int p5), .val (.int (3 : Int32)), .val (.double (FP.l2d sg)), .second, .unset, .unset, .unset, .unset] [(.ref b21)]))
      refine own_go (fun _ k => XS.astore X21.here hx rfl (hb hby at_28) rfl rfl (l' := #[.val (.int p1), .val (.int p2), .val (.int p3), .val (.int p4), .val (.int p5), .val (.int (3 : Int32)), .val (.double (FP.l2d sg)), .second, .val (.ref b21), .unset, .unset, .unset]) rfl <| XS.aload X21.here hx rfl (hb hby at_30) rfl rfl <| XT.iconstV X21.here hx rfl (0 : Int32) (hb hby at_32) rfl <| XS.iloadN X21.here hx rfl (hb hby at_33) rfl <| XS.i2dS X21.here hx rfl (hb hby at_34) rfl rfl <| k) ?_
      show own_Ends p e below s _ _ _ (T21.setTop (mkF m 35 #[.val (.int p1), .val (.int p2), .val (.int p3), .val (.int p4), .val (.int p5), .val (.int (3 : Int32)), .val (.double (FP.l2d sg)), .second, .val (.ref b21), .unset, .unset, .unset] [(.double (FP.i2d p2)), (.int (0 : Int32)), (.ref b21)]))
      obtain ⟨clb21_35_22, Arb21_35_22, qqb21_35_22, Szb21_35_22, Ngb21_35_22, Hsb21_35_22, Gfb21_35_22⟩ := id V_b21
      have hinb21_35_22 : ¬ ((0 : Int32) < 0 ∨ clb21_35_22.slots.size ≤ ((0 : Int32)).toNatClampNeg) := inb_of Szb21_35_22 ⟨by decide, by decide⟩
      obtain ⟨T23, h23, X23, e23, W23, st23⟩ := stD X21 hx hZ e21 Arb21_35_22 (j := (0 : Int32)) hinb21_35_22 (g := (mkF m 35 #[.val (.int p1), .val (.int p2), .val (.int p3), .val (.int p4), .val (.int p5), .val (.int (3 : Int32)), .val (.double (FP.l2d sg)), .second, .val (.ref b21), .unset, .unset, .unset] [(.double (FP.i2d p2)), (.int (0 : Int32)), (.ref b21)])) rfl rfl (hb hby at_35)
      refine own_go st23 ?_
      have Z23 := Nat.le_trans Z21 (Keep.of_wr W23).1
      have N23 := Fr.snoc X23 N0 g_b21
      have V_b21'23 : Arv Z h23 b21 k21 .double (3 : Int32) [(.double (FP.i2d p2)), (.double (0 : UInt64)), (.double (0 : UInt64))] (.double (0 : UInt64)) := Arv.set Arb21_35_22 qqb21_35_22 Szb21_35_22 Ngb21_35_22 Hsb21_35_22 Gfb21_35_22 rfl W23 0 rfl (Nat.le_of_ble_eq_true rfl)
      show own_Ends p e below s _ _ _ (T23.setTop (mkF m 36 #[.val (.int p1), .val (.int p2), .val (.int p3), .val (.int p4), .val (.int p5), .val (.int (3 : Int32)), .val (.double (FP.l2d sg)), .second, .val (.ref b21), .unset, .unset, .unset] []))
      refine own_go (fun _ k => XS.iload X23.here hx rfl (hb hby at_36) rfl <| XT.iconstV X23.here hx rfl (1 : Int32) (hb hby at_38) rfl <| XS.icmpNo X23.here hx rfl (hb hby at_39) rfl (tlt (by decide)).2.2.2 <| XS.aload X23.here hx rfl (hb hby at_42) rfl rfl <| XT.iconstV X23.here hx rfl (1 : Int32) (hb hby at_44) rfl <| XS.iloadN X23.here hx rfl (hb hby at_45) rfl <| XS.i2dS X23.here hx rfl (hb hby at_46) rfl rfl <| k) ?_
      show own_Ends p e below s _ _ _ (T23.setTop (mkF m 47 #[.val (.int p1), .val (.int p2), .val (.int p3), .val (.int p4), .val (.int p5), .val (.int (3 : Int32)), .val (.double (FP.l2d sg)), .second, .val (.ref b21), .unset, .unset, .unset] [(.double (FP.i2d p3)), (.int (1 : Int32)), (.ref b21)]))
      obtain ⟨clb21_47_24, Arb21_47_24, qqb21_47_24, Szb21_47_24, Ngb21_47_24, Hsb21_47_24, Gfb21_47_24⟩ := id V_b21'23
      have hinb21_47_24 : ¬ ((1 : Int32) < 0 ∨ clb21_47_24.slots.size ≤ ((1 : Int32)).toNatClampNeg) := inb_of Szb21_47_24 ⟨by decide, by decide⟩
      obtain ⟨T25, h25, X25, e25, W25, st25⟩ := stD X23 hx hZ e23 Arb21_47_24 (j := (1 : Int32)) hinb21_47_24 (g := (mkF m 47 #[.val (.int p1), .val (.int p2), .val (.int p3), .val (.int p4), .val (.int p5), .val (.int (3 : Int32)), .val (.double (FP.l2d sg)), .second, .val (.ref b21), .unset, .unset, .unset] [(.double (FP.i2d p3)), (.int (1 : Int32)), (.ref b21)])) rfl rfl (hb hby at_47)
      refine own_go st25 ?_
      have Z25 := Nat.le_trans Z23 (Keep.of_wr W25).1
      have N25 := Fr.snoc X25 N23 g_b21
      have V_b21'25 : Arv Z h25 b21 k21 .double (3 : Int32) [(.double (FP.i2d p2)), (.double (FP.i2d p3)), (.double (0 : UInt64))] (.double (0 : UInt64)) := Arv.set Arb21_47_24 qqb21_47_24 Szb21_47_24 Ngb21_47_24 Hsb21_47_24 Gfb21_47_24 rfl W25 1 rfl (Nat.le_of_ble_eq_true rfl)
      show own_Ends p e below s _ _ _ (T25.setTop (mkF m 48 #[.val (.int p1), .val (.int p2), .val (.int p3), .val (.int p4), .val (.int p5), .val (.int (3 : Int32)), .val (.double (FP.l2d sg)), .second, .val (.ref b21), .unset, .unset, .unset] []))
      refine own_go (fun _ k => XS.iload X25.here hx rfl (hb hby at_48) rfl <| XT.iconstV X25.here hx rfl (2 : Int32) (hb hby at_50) rfl <| XS.icmpNo X25.here hx rfl (hb hby at_51) rfl (tlt (by decide)).2.2.2 <| XS.aload X25.here hx rfl (hb hby at_54) rfl rfl <| XT.iconstV X25.here hx rfl (2 : Int32) (hb hby at_56) rfl <| XS.iloadN X25.here hx rfl (hb hby at_57) rfl <| XS.i2dS X25.here hx rfl (hb hby at_58) rfl rfl <| k) ?_
      show own_Ends p e below s _ _ _ (T25.setTop (mkF m 59 #[.val (.int p1), .val (.int p2), .val (.int p3), .val (.int p4), .val (.int p5), .val (.int (3 : Int32)), .val (.double (FP.l2d sg)), .second, .val (.ref b21), .unset, .unset, .unset] [(.double (FP.i2d p4)), (.int (2 : Int32)), (.ref b21)]))
      obtain ⟨clb21_59_26, Arb21_59_26, qqb21_59_26, Szb21_59_26, Ngb21_59_26, Hsb21_59_26, Gfb21_59_26⟩ := id V_b21'25
      have hinb21_59_26 : ¬ ((2 : Int32) < 0 ∨ clb21_59_26.slots.size ≤ ((2 : Int32)).toNatClampNeg) := inb_of Szb21_59_26 ⟨by decide, by decide⟩
      obtain ⟨T27, h27, X27, e27, W27, st27⟩ := stD X25 hx hZ e25 Arb21_59_26 (j := (2 : Int32)) hinb21_59_26 (g := (mkF m 59 #[.val (.int p1), .val (.int p2), .val (.int p3), .val (.int p4), .val (.int p5), .val (.int (3 : Int32)), .val (.double (FP.l2d sg)), .second, .val (.ref b21), .unset, .unset, .unset] [(.double (FP.i2d p4)), (.int (2 : Int32)), (.ref b21)])) rfl rfl (hb hby at_59)
      refine own_go st27 ?_
      have Z27 := Nat.le_trans Z25 (Keep.of_wr W27).1
      have N27 := Fr.snoc X27 N25 g_b21
      have V_b21'27 : Arv Z h27 b21 k21 .double (3 : Int32) [(.double (FP.i2d p2)), (.double (FP.i2d p3)), (.double (FP.i2d p4))] (.double (0 : UInt64)) := Arv.set Arb21_59_26 qqb21_59_26 Szb21_59_26 Ngb21_59_26 Hsb21_59_26 Gfb21_59_26 rfl W27 2 rfl (Nat.le_of_ble_eq_true rfl)
      show own_Ends p e below s _ _ _ (T27.setTop (mkF m 60 #[.val (.int p1), .val (.int p2), .val (.int p3), .val (.int p4), .val (.int p5), .val (.int (3 : Int32)), .val (.double (FP.l2d sg)), .second, .val (.ref b21), .unset, .unset, .unset] []))
      refine own_go (fun _ k => XS.iload X27.here hx rfl (hb hby at_60) rfl <| XT.iconstV X27.here hx rfl (3 : Int32) (hb hby at_62) rfl <| XS.icmpYes X27.here hx rfl (pc0 := 63) (pc' := 73) rfl (hb hby at_63) rfl (flt (by decide)).2.2.2 (by decide) (by decide) <| XS.aload X27.here hx rfl (hb hby at_73) rfl rfl <| XS.dload X27.here hx rfl (hb hby at_75) rfl <| k) ?_
      show own_Ends p e below s _ _ _ (T27.setTop (mkF m 77 #[.val (.int p1), .val (.int p2), .val (.int p3), .val (.int p4), .val (.int p5), .val (.int (3 : Int32)), .val (.double (FP.l2d sg)), .second, .val (.ref b21), .unset, .unset, .unset] [(.double (FP.l2d sg)), (.ref b21)]))
      obtain ⟨_, _, ⟨T28, L28, k28, n28⟩, -, X28, ⟨Lc28, hQ28, l28, y28, z28⟩, st28⟩ := Jvm.LawKit.callS X27 hx (y := (⟨"com/example/weftbind/weftbind/RouteExtremes", "extremeCandidate", "([DD)I"⟩ : MethodName)) hown (mvT hZ (hw _ (List.mem_of_getElem? (i := 2) rfl))) (mvT hZ (hw _ (List.mem_of_getElem? (i := 3) rfl))) (mvT hZ (hw _ (List.mem_of_getElem? (i := 4) rfl))) (mvT hZ (hw _ (List.mem_of_getElem? (i := 5) rfl))) (by decide) (backOf (W := 0) (rm1 l Z a0 hw [] b21 k21 [p2, p3, p4] sg h27 n0 Z27 V_b21'27 (by simp) hsg) hZ (hw _ (List.mem_of_getElem? (i := 5) rfl)) (hw _ (List.mem_of_getElem? (i := 4) rfl)) (by decide) (by decide)) (g := (mkF m 77 #[.val (.int p1), .val (.int p2), .val (.int p3), .val (.int p4), .val (.int p5), .val (.int (3 : Int32)), .val (.double (FP.l2d sg)), .second, .val (.ref b21), .unset, .unset, .unset] [(.double (FP.l2d sg)), (.ref b21)])) rfl (by rw [hml]; rfl) (argsL := [(.ref b21), (.double (FP.l2d sg))]) (rest := []) (lenOf pd_0 rfl) rfl (by show 2 * 0 + _ ≤ _; exact Nat.le_of_eq rfl) (hb hby at_77) (fun _ _ => ⟨rfl, e27, Nat.le_of_ble_eq_true rfl, Nat.le_of_ble_eq_true rfl⟩)
      dsimp only [Pt.U, Pt.locs, Pt.cells, Pt.slots] at X28 l28 y28 z28 st28 hQ28
      subst l28 y28 z28
      obtain ⟨r, rfl, N28q, e28, hr, hbb⟩ := hQ28
      have N28 := Fr.app N27 N28q
      refine own_go (fun _ k => st28 _ k) ?_
      show own_Ends p e below s _ _ _ (T28.setTop (mkF m 80 #[.val (.int p1), .val (.int p2), .val (.int p3), .val (.int p4), .val (.int p5), .val (.int (3 : Int32)), .val (.double (FP.l2d sg)), .second, .val (.ref b21), .unset, .unset, .unset] [(.int (Int32.ofNat r))]))
      refine own_go (fun _ k => XS.istore X28.here hx rfl (hb hby at_80) rfl (l' := #[.val (.int p1), .val (.int p2), .val (.int p3), .val (.int p4), .val (.int p5), .val (.int (3 : Int32)), .val (.double (FP.l2d sg)), .second, .val (.ref b21), .val (.int (Int32.ofNat r)), .unset, .unset]) rfl <| XS.iload X28.here hx rfl (hb hby at_82) rfl <| XS.ifNo X28.here hx rfl (hb hby at_84) rfl ((if0 _ _).trans (flt (own_nneg (Nat.lt_trans hr (by simp)))).1) <| XS.iload X28.here hx rfl (hb hby at_87) rfl <| XS.iload X28.here hx rfl (hb hby at_89) rfl <| XS.icmpYes X28.here hx rfl (pc0 := 91) (pc' := 96) rfl (hb hby at_91) rfl (tlt ((own_ofNat_lt (n := 3) (Nat.lt_trans hr (by simp)) (by decide)).mpr hr)).1 (by decide) (by decide) <| XS.dload X28.here hx rfl (hb hby at_96) rfl <| XS.aload X28.here hx rfl (hb hby at_98) rfl rfl <| XS.iload X28.here hx rfl (hb hby at_100) rfl <| k) ?_
      show own_Ends p e below s _ _ _ (T28.setTop (mkF m 102 #[.val (.int p1), .val (.int p2), .val (.int p3), .val (.int p4), .val (.int p5), .val (.int (3 : Int32)), .val (.double (FP.l2d sg)), .second, .val (.ref b21), .val (.int (Int32.ofNat r)), .unset, .unset] [(.int (Int32.ofNat r)), (.ref b21), (.double (FP.l2d sg))]))
      obtain ⟨clb21_102_29, Arb21_102_29, qqb21_102_29, Szb21_102_29, Ngb21_102_29, Hsb21_102_29, Gfb21_102_29⟩ := id V_b21'27
      have hinb21_102_29 : ¬ ((Int32.ofNat r) < 0 ∨ clb21_102_29.slots.size ≤ ((Int32.ofNat r)).toNatClampNeg) := inb_of Szb21_102_29 ⟨own_nneg (Nat.lt_trans hr (by simp)), (own_ofNat_lt (n := 3) (Nat.lt_trans hr (by simp)) (by decide)).mpr hr⟩
      have hatb21_102_29 : clb21_102_29.slots[((Int32.ofNat r)).toNatClampNeg]? = some (.double (FP.i2d ([p2, p3, p4].getD r 0))) := Hsb21_102_29.at hinb21_102_29 (own_getD [p2, p3, p4] (Nat.lt_trans hr (by simp)) hr)
      refine own_go (fun _ k => X28.daload hx (j := (Int32.ofNat r)) (v := (.double (FP.i2d ([p2, p3, p4].getD r 0)))) (by first | exact Arb21_102_29.1 | (rw [e28]; exact Arb21_102_29.1)) (State.isArrayOf_alike hZ.alike Arb21_102_29.2.1) Arb21_102_29.2.2 hinb21_102_29 hatb21_102_29 (g := (mkF m 102 #[.val (.int p1), .val (.int p2), .val (.int p3), .val (.int p4), .val (.int p5), .val (.int (3 : Int32)), .val (.double (FP.l2d sg)), .second, .val (.ref b21), .val (.int (Int32.ofNat r)), .unset, .unset] [(.int (Int32.ofNat r)), (.ref b21), (.double (FP.l2d sg))])) rfl rfl (hb hby at_102) _ k) ?_
      show own_Ends p e below s _ _ _ (T28.setTop (mkF m 103 #[.val (.int p1), .val (.int p2), .val (.int p3), .val (.int p4), .val (.int p5), .val (.int (3 : Int32)), .val (.double (FP.l2d sg)), .second, .val (.ref b21), .val (.int (Int32.ofNat r)), .unset, .unset] [(.double (FP.i2d ([p2, p3, p4].getD r 0))), (.double (FP.l2d sg))]))
      refine own_go (fun _ k => XS.dmulS X28.here hx rfl (hb hby at_103) rfl (own_nn hsg _) rfl <| XS.dstore X28.here hx rfl (hb hby at_104) rfl (l' := #[.val (.int p1), .val (.int p2), .val (.int p3), .val (.int p4), .val (.int p5), .val (.int (3 : Int32)), .val (.double (FP.l2d sg)), .second, .val (.ref b21), .val (.int (Int32.ofNat r)), .val (.double (FP.dmul (FP.l2d sg) (FP.i2d ([p2, p3, p4].getD r 0)))), .second]) rfl <| XS.aload X28.here hx rfl (hb hby at_106) rfl rfl <| XS.iload X28.here hx rfl (hb hby at_108) rfl <| XT.iconstV X28.here hx rfl (0 : Int32) (hb hby at_110) rfl <| XS.iload X28.here hx rfl (hb hby at_111) rfl <| XS.dload X28.here hx rfl (hb hby at_113) rfl <| XS.dload X28.here hx rfl (hb hby at_115) rfl <| k) ?_
      show own_Ends p e below s _ _ _ (T28.setTop (mkF m 117 #[.val (.int p1), .val (.int p2), .val (.int p3), .val (.int p4), .val (.int p5), .val (.int (3 : Int32)), .val (.double (FP.l2d sg)), .second, .val (.ref b21), .val (.int (Int32.ofNat r)), .val (.double (FP.dmul (FP.l2d sg) (FP.i2d ([p2, p3, p4].getD r 0)))), .second] [(.double (FP.dmul (FP.l2d sg) (FP.i2d ([p2, p3, p4].getD r 0)))), (.double (FP.l2d sg)), (.int (Int32.ofNat r)), (.int (0 : Int32)), (.int (3 : Int32)), (.ref b21)]))
      obtain ⟨_, _, ⟨T30, L30, k30, n30⟩, -, X30, ⟨Lc30, hQ30, l30, y30, z30⟩, st30⟩ := Jvm.LawKit.callS X28 hx (y := (⟨"com/example/weftbind/weftbind/RouteExtremesExtremeCandidatePinLaw", "ok", "([DIIIDD)Z"⟩ : MethodName)) hown (mvT hZ (hw _ (List.mem_of_getElem? (i := 6) rfl))) (mvT hZ (hw _ (List.mem_of_getElem? (i := 7) rfl))) (mvT hZ (hw _ (List.mem_of_getElem? (i := 8) rfl))) (mvT hZ (hw _ (List.mem_of_getElem? (i := 9) rfl))) (by decide) (backOf (W := 0) (rm2 l Z a0 hw [] b21 k21 [p2, p3, p4] sg 0 r h27 n0 Z27 V_b21'27 (by simp) hsg (by simp) hr hbb) hZ (hw _ (List.mem_of_getElem? (i := 9) rfl)) (hw _ (List.mem_of_getElem? (i := 8) rfl)) (by decide) (by decide)) (g := (mkF m 117 #[.val (.int p1), .val (.int p2), .val (.int p3), .val (.int p4), .val (.int p5), .val (.int (3 : Int32)), .val (.double (FP.l2d sg)), .second, .val (.ref b21), .val (.int (Int32.ofNat r)), .val (.double (FP.dmul (FP.l2d sg) (FP.i2d ([p2, p3, p4].getD r 0)))), .second] [(.double (FP.dmul (FP.l2d sg) (FP.i2d ([p2, p3, p4].getD r 0)))), (.double (FP.l2d sg)), (.int (Int32.ofNat r)), (.int (0 : Int32)), (.int (3 : Int32)), (.ref b21)])) rfl (by rw [hml]; rfl) (argsL := [(.ref b21), (.int (3 : Int32)), (.int (0 : Int32)), (.int (Int32.ofNat r)), (.double (FP.l2d sg)), (.double (FP.dmul (FP.l2d sg) (FP.i2d ([p2, p3, p4].getD r 0))))]) (rest := []) (lenOf pd_1 rfl) rfl (by show 2 * 0 + _ ≤ _; exact Nat.le_of_eq rfl) (hb hby at_117) (fun _ _ => ⟨rfl, e28, Nat.le_of_ble_eq_true rfl, Nat.le_of_ble_eq_true rfl⟩)
      dsimp only [Pt.U, Pt.locs, Pt.cells, Pt.slots] at X30 l30 y30 z30 st30 hQ30
      subst l30 y30 z30
      obtain ⟨rfl, N30q, e30⟩ := hQ30
      have N30 := Fr.app N28 N30q
      refine own_go (fun _ k => st30 _ k) ?_
      show own_Ends p e below s _ _ _ (T30.setTop (mkF m 120 #[.val (.int p1), .val (.int p2), .val (.int p3), .val (.int p4), .val (.int p5), .val (.int (3 : Int32)), .val (.double (FP.l2d sg)), .second, .val (.ref b21), .val (.int (Int32.ofNat r)), .val (.double (FP.dmul (FP.l2d sg) (FP.i2d ([p2, p3, p4].getD r 0)))), .second] [(.int (1 : Int32))]))
      refine own_go (fun _ k => XS.ifNo X30.here hx rfl (hb hby at_120) rfl ((if0 _ _).trans (feq (by decide)).1) <| XS.aload X30.here hx rfl (hb hby at_123) rfl rfl <| XS.iload X30.here hx rfl (hb hby at_125) rfl <| XT.iconstV X30.here hx rfl (1 : Int32) (hb hby at_127) rfl <| XS.iload X30.here hx rfl (hb hby at_128) rfl <| XS.dload X30.here hx rfl (hb hby at_130) rfl <| XS.dload X30.here hx rfl (hb hby at_132) rfl <| k) ?_
      show own_Ends p e below s _ _ _ (T30.setTop (mkF m 134 #[.val (.int p1), .val (.int p2), .val (.int p3), .val (.int p4), .val (.int p5), .val (.int (3 : Int32)), .val (.double (FP.l2d sg)), .second, .val (.ref b21), .val (.int (Int32.ofNat r)), .val (.double (FP.dmul (FP.l2d sg) (FP.i2d ([p2, p3, p4].getD r 0)))), .second] [(.double (FP.dmul (FP.l2d sg) (FP.i2d ([p2, p3, p4].getD r 0)))), (.double (FP.l2d sg)), (.int (Int32.ofNat r)), (.int (1 : Int32)), (.int (3 : Int32)), (.ref b21)]))
      obtain ⟨_, _, ⟨T31, L31, k31, n31⟩, -, X31, ⟨Lc31, hQ31, l31, y31, z31⟩, st31⟩ := Jvm.LawKit.callS X30 hx (y := (⟨"com/example/weftbind/weftbind/RouteExtremesExtremeCandidatePinLaw", "ok", "([DIIIDD)Z"⟩ : MethodName)) hown (mvT hZ (hw _ (List.mem_of_getElem? (i := 6) rfl))) (mvT hZ (hw _ (List.mem_of_getElem? (i := 7) rfl))) (mvT hZ (hw _ (List.mem_of_getElem? (i := 8) rfl))) (mvT hZ (hw _ (List.mem_of_getElem? (i := 9) rfl))) (by decide) (backOf (W := 0) (rm2 l Z a0 hw [] b21 k21 [p2, p3, p4] sg 1 r h27 n0 Z27 V_b21'27 (by simp) hsg (by simp) hr hbb) hZ (hw _ (List.mem_of_getElem? (i := 9) rfl)) (hw _ (List.mem_of_getElem? (i := 8) rfl)) (by decide) (by decide)) (g := (mkF m 134 #[.val (.int p1), .val (.int p2), .val (.int p3), .val (.int p4), .val (.int p5), .val (.int (3 : Int32)), .val (.double (FP.l2d sg)), .second, .val (.ref b21), .val (.int (Int32.ofNat r)), .val (.double (FP.dmul (FP.l2d sg) (FP.i2d ([p2, p3, p4].getD r 0)))), .second] [(.double (FP.dmul (FP.l2d sg) (FP.i2d ([p2, p3, p4].getD r 0)))), (.double (FP.l2d sg)), (.int (Int32.ofNat r)), (.int (1 : Int32)), (.int (3 : Int32)), (.ref b21)])) rfl (by rw [hml]; rfl) (argsL := [(.ref b21), (.int (3 : Int32)), (.int (1 : Int32)), (.int (Int32.ofNat r)), (.double (FP.l2d sg)), (.double (FP.dmul (FP.l2d sg) (FP.i2d ([p2, p3, p4].getD r 0))))]) (rest := []) (lenOf pd_1 rfl) rfl (by show 2 * 0 + _ ≤ _; exact Nat.le_of_eq rfl) (hb hby at_134) (fun _ _ => ⟨rfl, e30, Nat.le_of_ble_eq_true rfl, Nat.le_of_ble_eq_true rfl⟩)
      dsimp only [Pt.U, Pt.locs, Pt.cells, Pt.slots] at X31 l31 y31 z31 st31 hQ31
      subst l31 y31 z31
      obtain ⟨rfl, N31q, e31⟩ := hQ31
      have N31 := Fr.app N30 N31q
      refine own_go (fun _ k => st31 _ k) ?_
      show own_Ends p e below s _ _ _ (T31.setTop (mkF m 137 #[.val (.int p1), .val (.int p2), .val (.int p3), .val (.int p4), .val (.int p5), .val (.int (3 : Int32)), .val (.double (FP.l2d sg)), .second, .val (.ref b21), .val (.int (Int32.ofNat r)), .val (.double (FP.dmul (FP.l2d sg) (FP.i2d ([p2, p3, p4].getD r 0)))), .second] [(.int (1 : Int32))]))
      refine own_go (fun _ k => XS.ifNo X31.here hx rfl (hb hby at_137) rfl ((if0 _ _).trans (feq (by decide)).1) <| XS.aload X31.here hx rfl (hb hby at_140) rfl rfl <| XS.iload X31.here hx rfl (hb hby at_142) rfl <| XT.iconstV X31.here hx rfl (2 : Int32) (hb hby at_144) rfl <| XS.iload X31.here hx rfl (hb hby at_145) rfl <| XS.dload X31.here hx rfl (hb hby at_147) rfl <| XS.dload X31.here hx rfl (hb hby at_149) rfl <| k) ?_
      show own_Ends p e below s _ _ _ (T31.setTop (mkF m 151 #[.val (.int p1), .val (.int p2), .val (.int p3), .val (.int p4), .val (.int p5), .val (.int (3 : Int32)), .val (.double (FP.l2d sg)), .second, .val (.ref b21), .val (.int (Int32.ofNat r)), .val (.double (FP.dmul (FP.l2d sg) (FP.i2d ([p2, p3, p4].getD r 0)))), .second] [(.double (FP.dmul (FP.l2d sg) (FP.i2d ([p2, p3, p4].getD r 0)))), (.double (FP.l2d sg)), (.int (Int32.ofNat r)), (.int (2 : Int32)), (.int (3 : Int32)), (.ref b21)]))
      obtain ⟨_, _, ⟨T32, L32, k32, n32⟩, -, X32, ⟨Lc32, hQ32, l32, y32, z32⟩, st32⟩ := Jvm.LawKit.callS X31 hx (y := (⟨"com/example/weftbind/weftbind/RouteExtremesExtremeCandidatePinLaw", "ok", "([DIIIDD)Z"⟩ : MethodName)) hown (mvT hZ (hw _ (List.mem_of_getElem? (i := 6) rfl))) (mvT hZ (hw _ (List.mem_of_getElem? (i := 7) rfl))) (mvT hZ (hw _ (List.mem_of_getElem? (i := 8) rfl))) (mvT hZ (hw _ (List.mem_of_getElem? (i := 9) rfl))) (by decide) (backOf (W := 0) (rm2 l Z a0 hw [] b21 k21 [p2, p3, p4] sg 2 r h27 n0 Z27 V_b21'27 (by simp) hsg (by simp) hr hbb) hZ (hw _ (List.mem_of_getElem? (i := 9) rfl)) (hw _ (List.mem_of_getElem? (i := 8) rfl)) (by decide) (by decide)) (g := (mkF m 151 #[.val (.int p1), .val (.int p2), .val (.int p3), .val (.int p4), .val (.int p5), .val (.int (3 : Int32)), .val (.double (FP.l2d sg)), .second, .val (.ref b21), .val (.int (Int32.ofNat r)), .val (.double (FP.dmul (FP.l2d sg) (FP.i2d ([p2, p3, p4].getD r 0)))), .second] [(.double (FP.dmul (FP.l2d sg) (FP.i2d ([p2, p3, p4].getD r 0)))), (.double (FP.l2d sg)), (.int (Int32.ofNat r)), (.int (2 : Int32)), (.int (3 : Int32)), (.ref b21)])) rfl (by rw [hml]; rfl) (argsL := [(.ref b21), (.int (3 : Int32)), (.int (2 : Int32)), (.int (Int32.ofNat r)), (.double (FP.l2d sg)), (.double (FP.dmul (FP.l2d sg) (FP.i2d ([p2, p3, p4].getD r 0))))]) (rest := []) (lenOf pd_1 rfl) rfl (by show 2 * 0 + _ ≤ _; exact Nat.le_of_eq rfl) (hb hby at_151) (fun _ _ => ⟨rfl, e31, Nat.le_of_ble_eq_true rfl, Nat.le_of_ble_eq_true rfl⟩)
      dsimp only [Pt.U, Pt.locs, Pt.cells, Pt.slots] at X32 l32 y32 z32 st32 hQ32
      subst l32 y32 z32
      obtain ⟨rfl, N32q, e32⟩ := hQ32
      have N32 := Fr.app N31 N32q
      refine own_go (fun _ k => st32 _ k) ?_
      show own_Ends p e below s _ _ _ (T32.setTop (mkF m 154 #[.val (.int p1), .val (.int p2), .val (.int p3), .val (.int p4), .val (.int p5), .val (.int (3 : Int32)), .val (.double (FP.l2d sg)), .second, .val (.ref b21), .val (.int (Int32.ofNat r)), .val (.double (FP.dmul (FP.l2d sg) (FP.i2d ([p2, p3, p4].getD r 0)))), .second] [(.int (1 : Int32))]))
      refine own_go (fun _ k => XS.ifNo X32.here hx rfl (hb hby at_154) rfl ((if0 _ _).trans (feq (by decide)).1) <| XS.aload X32.here hx rfl (hb hby at_157) rfl rfl <| XS.iload X32.here hx rfl (hb hby at_159) rfl <| XT.iconstV X32.here hx rfl (3 : Int32) (hb hby at_161) rfl <| XS.iload X32.here hx rfl (hb hby at_162) rfl <| XS.dload X32.here hx rfl (hb hby at_164) rfl <| XS.dload X32.here hx rfl (hb hby at_166) rfl <| k) ?_
      show own_Ends p e below s _ _ _ (T32.setTop (mkF m 168 #[.val (.int p1), .val (.int p2), .val (.int p3), .val (.int p4), .val (.int p5), .val (.int (3 : Int32)), .val (.double (FP.l2d sg)), .second, .val (.ref b21), .val (.int (Int32.ofNat r)), .val (.double (FP.dmul (FP.l2d sg) (FP.i2d ([p2, p3, p4].getD r 0)))), .second] [(.double (FP.dmul (FP.l2d sg) (FP.i2d ([p2, p3, p4].getD r 0)))), (.double (FP.l2d sg)), (.int (Int32.ofNat r)), (.int (3 : Int32)), (.int (3 : Int32)), (.ref b21)]))
      obtain ⟨_, _, ⟨T33, L33, k33, n33⟩, -, X33, ⟨Lc33, hQ33, l33, y33, z33⟩, st33⟩ := Jvm.LawKit.callS X32 hx (y := (⟨"com/example/weftbind/weftbind/RouteExtremesExtremeCandidatePinLaw", "ok", "([DIIIDD)Z"⟩ : MethodName)) hown (mvT hZ (hw _ (List.mem_of_getElem? (i := 6) rfl))) (mvT hZ (hw _ (List.mem_of_getElem? (i := 7) rfl))) (mvT hZ (hw _ (List.mem_of_getElem? (i := 8) rfl))) (mvT hZ (hw _ (List.mem_of_getElem? (i := 9) rfl))) (by decide) (backOf (W := 0) (rm2 l Z a0 hw [] b21 k21 [p2, p3, p4] sg 3 r h27 n0 Z27 V_b21'27 (by simp) hsg (by simp) hr hbb) hZ (hw _ (List.mem_of_getElem? (i := 9) rfl)) (hw _ (List.mem_of_getElem? (i := 8) rfl)) (by decide) (by decide)) (g := (mkF m 168 #[.val (.int p1), .val (.int p2), .val (.int p3), .val (.int p4), .val (.int p5), .val (.int (3 : Int32)), .val (.double (FP.l2d sg)), .second, .val (.ref b21), .val (.int (Int32.ofNat r)), .val (.double (FP.dmul (FP.l2d sg) (FP.i2d ([p2, p3, p4].getD r 0)))), .second] [(.double (FP.dmul (FP.l2d sg) (FP.i2d ([p2, p3, p4].getD r 0)))), (.double (FP.l2d sg)), (.int (Int32.ofNat r)), (.int (3 : Int32)), (.int (3 : Int32)), (.ref b21)])) rfl (by rw [hml]; rfl) (argsL := [(.ref b21), (.int (3 : Int32)), (.int (3 : Int32)), (.int (Int32.ofNat r)), (.double (FP.l2d sg)), (.double (FP.dmul (FP.l2d sg) (FP.i2d ([p2, p3, p4].getD r 0))))]) (rest := []) (lenOf pd_1 rfl) rfl (by show 2 * 0 + _ ≤ _; exact Nat.le_of_eq rfl) (hb hby at_168) (fun _ _ => ⟨rfl, e32, Nat.le_of_ble_eq_true rfl, Nat.le_of_ble_eq_true rfl⟩)
      dsimp only [Pt.U, Pt.locs, Pt.cells, Pt.slots] at X33 l33 y33 z33 st33 hQ33
      subst l33 y33 z33
      obtain ⟨rfl, N33q, e33⟩ := hQ33
      have N33 := Fr.app N32 N33q
      refine own_go (fun _ k => st33 _ k) ?_
      show own_Ends p e below s _ _ _ (T33.setTop (mkF m 171 #[.val (.int p1), .val (.int p2), .val (.int p3), .val (.int p4), .val (.int p5), .val (.int (3 : Int32)), .val (.double (FP.l2d sg)), .second, .val (.ref b21), .val (.int (Int32.ofNat r)), .val (.double (FP.dmul (FP.l2d sg) (FP.i2d ([p2, p3, p4].getD r 0)))), .second] [(.int (1 : Int32))]))
      refine own_go (fun _ k => XS.ifNo X33.here hx rfl (hb hby at_171) rfl ((if0 _ _).trans (feq (by decide)).1) <| XT.iconstV X33.here hx rfl (1 : Int32) (hb hby at_174) rfl <| XS.goto X33.here hx rfl (pc0 := 175) (pc' := 179) rfl (hb hby at_175) (by decide) (by decide) <| k) ?_
      show own_Ends p e below s _ _ _ (T33.setTop (mkF m 179 #[.val (.int p1), .val (.int p2), .val (.int p3), .val (.int p4), .val (.int p5), .val (.int (3 : Int32)), .val (.double (FP.l2d sg)), .second, .val (.ref b21), .val (.int (Int32.ofNat r)), .val (.double (FP.dmul (FP.l2d sg) (FP.i2d ([p2, p3, p4].getD r 0)))), .second] [(.int (1 : Int32))]))
      exact own_retN X33 hx (t := .boolean) hrt (by simp) (hb hby at_179) hlk (show nar .boolean (1 : Int32) = (1 : Int32) from by decide) (by rw [e33]; exact ⟨rfl, N33⟩) (by decide) (by decide)
    · rw [hn]
      show own_Ends p e below s _ _ _ (s₁.setTop (mkF m 24 #[.val (.int p1), .val (.int p2), .val (.int p3), .val (.int p4), .val (.int p5), .val (.int (4 : Int32)), .val (.double (FP.l2d sg)), .second, .unset, .unset, .unset, .unset] []))
      refine own_go (fun _ k => XS.iload X0.here hx rfl (hb hby at_24) rfl <| k) ?_
      show own_Ends p e below s _ _ _ (s₁.setTop (mkF m 26 #[.val (.int p1), .val (.int p2), .val (.int p3), .val (.int p4), .val (.int p5), .val (.int (4 : Int32)), .val (.double (FP.l2d sg)), .second, .unset, .unset, .unset, .unset] [(.int (4 : Int32))]))
      obtain ⟨T34, h34, k34, X34, e34, E34, A34, st34⟩ := newP X0 hx hZ (hw _ (List.mem_of_getElem? (i := 1) rfl)) e0 (g := (mkF m 26 #[.val (.int p1), .val (.int p2), .val (.int p3), .val (.int p4), .val (.int p5), .val (.int (4 : Int32)), .val (.double (FP.l2d sg)), .second, .unset, .unset, .unset, .unset] [(.int (4 : Int32))])) rfl (hb hby at_26) rfl (by decide) (cap := 4) (by decide) (by decide) (by decide) (by decide)
      obtain ⟨b34, g34⟩ : ∃ z, z = h0.size := ⟨_, rfl⟩
      rw [← g34] at A34 st34
      refine own_go st34 ?_
      have g_b34 : n0 ≤ b34 := Nat.le_trans Z0 (Nat.le_of_eq g34.symm)
      have Z34 := Nat.le_trans Z0 E34.1
      have V_b34 : Arv Z h34 b34 k34 .double (4 : Int32) [(.double (0 : UInt64)), (.double (0 : UInt64)), (.double (0 : UInt64)), (.double (0 : UInt64))] (.double (0 : UInt64)) := (Arv.new A34 (by decide)).pad (pad_rep [] (.double (0 : UInt64)) 4)
      show own_Ends p e below s _ _ _ (T34.setTop (mkF m 28 #[.val (.int p1), .val (.int p2), .val (.int p3), .val (.int p4), .val (.int p5), .val (.int (4 : Int32)), .val (.double (FP.l2d sg)), .second, .unset, .unset, .unset, .unset] [(.ref b34)]))
      refine own_go (fun _ k => XS.astore X34.here hx rfl (hb hby at_28) rfl rfl (l' := #[.val (.int p1), .val (.int p2), .val (.int p3), .val (.int p4), .val (.int p5), .val (.int (4 : Int32)), .val (.double (FP.l2d sg)), .second, .val (.ref b34), .unset, .unset, .unset]) rfl <| XS.aload X34.here hx rfl (hb hby at_30) rfl rfl <| XT.iconstV X34.here hx rfl (0 : Int32) (hb hby at_32) rfl <| XS.iloadN X34.here hx rfl (hb hby at_33) rfl <| XS.i2dS X34.here hx rfl (hb hby at_34) rfl rfl <| k) ?_
      show own_Ends p e below s _ _ _ (T34.setTop (mkF m 35 #[.val (.int p1), .val (.int p2), .val (.int p3), .val (.int p4), .val (.int p5), .val (.int (4 : Int32)), .val (.double (FP.l2d sg)), .second, .val (.ref b34), .unset, .unset, .unset] [(.double (FP.i2d p2)), (.int (0 : Int32)), (.ref b34)]))
      obtain ⟨clb34_35_35, Arb34_35_35, qqb34_35_35, Szb34_35_35, Ngb34_35_35, Hsb34_35_35, Gfb34_35_35⟩ := id V_b34
      have hinb34_35_35 : ¬ ((0 : Int32) < 0 ∨ clb34_35_35.slots.size ≤ ((0 : Int32)).toNatClampNeg) := inb_of Szb34_35_35 ⟨by decide, by decide⟩
      obtain ⟨T36, h36, X36, e36, W36, st36⟩ := stD X34 hx hZ e34 Arb34_35_35 (j := (0 : Int32)) hinb34_35_35 (g := (mkF m 35 #[.val (.int p1), .val (.int p2), .val (.int p3), .val (.int p4), .val (.int p5), .val (.int (4 : Int32)), .val (.double (FP.l2d sg)), .second, .val (.ref b34), .unset, .unset, .unset] [(.double (FP.i2d p2)), (.int (0 : Int32)), (.ref b34)])) rfl rfl (hb hby at_35)
      refine own_go st36 ?_
      have Z36 := Nat.le_trans Z34 (Keep.of_wr W36).1
      have N36 := Fr.snoc X36 N0 g_b34
      have V_b34'36 : Arv Z h36 b34 k34 .double (4 : Int32) [(.double (FP.i2d p2)), (.double (0 : UInt64)), (.double (0 : UInt64)), (.double (0 : UInt64))] (.double (0 : UInt64)) := Arv.set Arb34_35_35 qqb34_35_35 Szb34_35_35 Ngb34_35_35 Hsb34_35_35 Gfb34_35_35 rfl W36 0 rfl (Nat.le_of_ble_eq_true rfl)
      show own_Ends p e below s _ _ _ (T36.setTop (mkF m 36 #[.val (.int p1), .val (.int p2), .val (.int p3), .val (.int p4), .val (.int p5), .val (.int (4 : Int32)), .val (.double (FP.l2d sg)), .second, .val (.ref b34), .unset, .unset, .unset] []))
      refine own_go (fun _ k => XS.iload X36.here hx rfl (hb hby at_36) rfl <| XT.iconstV X36.here hx rfl (1 : Int32) (hb hby at_38) rfl <| XS.icmpNo X36.here hx rfl (hb hby at_39) rfl (tlt (by decide)).2.2.2 <| XS.aload X36.here hx rfl (hb hby at_42) rfl rfl <| XT.iconstV X36.here hx rfl (1 : Int32) (hb hby at_44) rfl <| XS.iloadN X36.here hx rfl (hb hby at_45) rfl <| XS.i2dS X36.here hx rfl (hb hby at_46) rfl rfl <| k) ?_
      show own_Ends p e below s _ _ _ (T36.setTop (mkF m 47 #[.val (.int p1), .val (.int p2), .val (.int p3), .val (.int p4), .val (.int p5), .val (.int (4 : Int32)), .val (.double (FP.l2d sg)), .second, .val (.ref b34), .unset, .unset, .unset] [(.double (FP.i2d p3)), (.int (1 : Int32)), (.ref b34)]))
      obtain ⟨clb34_47_37, Arb34_47_37, qqb34_47_37, Szb34_47_37, Ngb34_47_37, Hsb34_47_37, Gfb34_47_37⟩ := id V_b34'36
      have hinb34_47_37 : ¬ ((1 : Int32) < 0 ∨ clb34_47_37.slots.size ≤ ((1 : Int32)).toNatClampNeg) := inb_of Szb34_47_37 ⟨by decide, by decide⟩
      obtain ⟨T38, h38, X38, e38, W38, st38⟩ := stD X36 hx hZ e36 Arb34_47_37 (j := (1 : Int32)) hinb34_47_37 (g := (mkF m 47 #[.val (.int p1), .val (.int p2), .val (.int p3), .val (.int p4), .val (.int p5), .val (.int (4 : Int32)), .val (.double (FP.l2d sg)), .second, .val (.ref b34), .unset, .unset, .unset] [(.double (FP.i2d p3)), (.int (1 : Int32)), (.ref b34)])) rfl rfl (hb hby at_47)
      refine own_go st38 ?_
      have Z38 := Nat.le_trans Z36 (Keep.of_wr W38).1
      have N38 := Fr.snoc X38 N36 g_b34
      have V_b34'38 : Arv Z h38 b34 k34 .double (4 : Int32) [(.double (FP.i2d p2)), (.double (FP.i2d p3)), (.double (0 : UInt64)), (.double (0 : UInt64))] (.double (0 : UInt64)) := Arv.set Arb34_47_37 qqb34_47_37 Szb34_47_37 Ngb34_47_37 Hsb34_47_37 Gfb34_47_37 rfl W38 1 rfl (Nat.le_of_ble_eq_true rfl)
      show own_Ends p e below s _ _ _ (T38.setTop (mkF m 48 #[.val (.int p1), .val (.int p2), .val (.int p3), .val (.int p4), .val (.int p5), .val (.int (4 : Int32)), .val (.double (FP.l2d sg)), .second, .val (.ref b34), .unset, .unset, .unset] []))
      refine own_go (fun _ k => XS.iload X38.here hx rfl (hb hby at_48) rfl <| XT.iconstV X38.here hx rfl (2 : Int32) (hb hby at_50) rfl <| XS.icmpNo X38.here hx rfl (hb hby at_51) rfl (tlt (by decide)).2.2.2 <| XS.aload X38.here hx rfl (hb hby at_54) rfl rfl <| XT.iconstV X38.here hx rfl (2 : Int32) (hb hby at_56) rfl <| XS.iloadN X38.here hx rfl (hb hby at_57) rfl <| XS.i2dS X38.here hx rfl (hb hby at_58) rfl rfl <| k) ?_
      show own_Ends p e below s _ _ _ (T38.setTop (mkF m 59 #[.val (.int p1), .val (.int p2), .val (.int p3), .val (.int p4), .val (.int p5), .val (.int (4 : Int32)), .val (.double (FP.l2d sg)), .second, .val (.ref b34), .unset, .unset, .unset] [(.double (FP.i2d p4)), (.int (2 : Int32)), (.ref b34)]))
      obtain ⟨clb34_59_39, Arb34_59_39, qqb34_59_39, Szb34_59_39, Ngb34_59_39, Hsb34_59_39, Gfb34_59_39⟩ := id V_b34'38
      have hinb34_59_39 : ¬ ((2 : Int32) < 0 ∨ clb34_59_39.slots.size ≤ ((2 : Int32)).toNatClampNeg) := inb_of Szb34_59_39 ⟨by decide, by decide⟩
      obtain ⟨T40, h40, X40, e40, W40, st40⟩ := stD X38 hx hZ e38 Arb34_59_39 (j := (2 : Int32)) hinb34_59_39 (g := (mkF m 59 #[.val (.int p1), .val (.int p2), .val (.int p3), .val (.int p4), .val (.int p5), .val (.int (4 : Int32)), .val (.double (FP.l2d sg)), .second, .val (.ref b34), .unset, .unset, .unset] [(.double (FP.i2d p4)), (.int (2 : Int32)), (.ref b34)])) rfl rfl (hb hby at_59)
      refine own_go st40 ?_
      have Z40 := Nat.le_trans Z38 (Keep.of_wr W40).1
      have N40 := Fr.snoc X40 N38 g_b34
      have V_b34'40 : Arv Z h40 b34 k34 .double (4 : Int32) [(.double (FP.i2d p2)), (.double (FP.i2d p3)), (.double (FP.i2d p4)), (.double (0 : UInt64))] (.double (0 : UInt64)) := Arv.set Arb34_59_39 qqb34_59_39 Szb34_59_39 Ngb34_59_39 Hsb34_59_39 Gfb34_59_39 rfl W40 2 rfl (Nat.le_of_ble_eq_true rfl)
      show own_Ends p e below s _ _ _ (T40.setTop (mkF m 60 #[.val (.int p1), .val (.int p2), .val (.int p3), .val (.int p4), .val (.int p5), .val (.int (4 : Int32)), .val (.double (FP.l2d sg)), .second, .val (.ref b34), .unset, .unset, .unset] []))
      refine own_go (fun _ k => XS.iload X40.here hx rfl (hb hby at_60) rfl <| XT.iconstV X40.here hx rfl (3 : Int32) (hb hby at_62) rfl <| XS.icmpNo X40.here hx rfl (hb hby at_63) rfl (tlt (by decide)).2.2.2 <| XS.aload X40.here hx rfl (hb hby at_66) rfl rfl <| XT.iconstV X40.here hx rfl (3 : Int32) (hb hby at_68) rfl <| XS.iload X40.here hx rfl (hb hby at_69) rfl <| XS.i2dS X40.here hx rfl (hb hby at_71) rfl rfl <| k) ?_
      show own_Ends p e below s _ _ _ (T40.setTop (mkF m 72 #[.val (.int p1), .val (.int p2), .val (.int p3), .val (.int p4), .val (.int p5), .val (.int (4 : Int32)), .val (.double (FP.l2d sg)), .second, .val (.ref b34), .unset, .unset, .unset] [(.double (FP.i2d p5)), (.int (3 : Int32)), (.ref b34)]))
      obtain ⟨clb34_72_41, Arb34_72_41, qqb34_72_41, Szb34_72_41, Ngb34_72_41, Hsb34_72_41, Gfb34_72_41⟩ := id V_b34'40
      have hinb34_72_41 : ¬ ((3 : Int32) < 0 ∨ clb34_72_41.slots.size ≤ ((3 : Int32)).toNatClampNeg) := inb_of Szb34_72_41 ⟨by decide, by decide⟩
      obtain ⟨T42, h42, X42, e42, W42, st42⟩ := stD X40 hx hZ e40 Arb34_72_41 (j := (3 : Int32)) hinb34_72_41 (g := (mkF m 72 #[.val (.int p1), .val (.int p2), .val (.int p3), .val (.int p4), .val (.int p5), .val (.int (4 : Int32)), .val (.double (FP.l2d sg)), .second, .val (.ref b34), .unset, .unset, .unset] [(.double (FP.i2d p5)), (.int (3 : Int32)), (.ref b34)])) rfl rfl (hb hby at_72)
      refine own_go st42 ?_
      have Z42 := Nat.le_trans Z40 (Keep.of_wr W42).1
      have N42 := Fr.snoc X42 N40 g_b34
      have V_b34'42 : Arv Z h42 b34 k34 .double (4 : Int32) [(.double (FP.i2d p2)), (.double (FP.i2d p3)), (.double (FP.i2d p4)), (.double (FP.i2d p5))] (.double (0 : UInt64)) := Arv.set Arb34_72_41 qqb34_72_41 Szb34_72_41 Ngb34_72_41 Hsb34_72_41 Gfb34_72_41 rfl W42 3 rfl (Nat.le_of_ble_eq_true rfl)
      show own_Ends p e below s _ _ _ (T42.setTop (mkF m 73 #[.val (.int p1), .val (.int p2), .val (.int p3), .val (.int p4), .val (.int p5), .val (.int (4 : Int32)), .val (.double (FP.l2d sg)), .second, .val (.ref b34), .unset, .unset, .unset] []))
      refine own_go (fun _ k => XS.aload X42.here hx rfl (hb hby at_73) rfl rfl <| XS.dload X42.here hx rfl (hb hby at_75) rfl <| k) ?_
      show own_Ends p e below s _ _ _ (T42.setTop (mkF m 77 #[.val (.int p1), .val (.int p2), .val (.int p3), .val (.int p4), .val (.int p5), .val (.int (4 : Int32)), .val (.double (FP.l2d sg)), .second, .val (.ref b34), .unset, .unset, .unset] [(.double (FP.l2d sg)), (.ref b34)]))
      obtain ⟨_, _, ⟨T43, L43, k43, n43⟩, -, X43, ⟨Lc43, hQ43, l43, y43, z43⟩, st43⟩ := Jvm.LawKit.callS X42 hx (y := (⟨"com/example/weftbind/weftbind/RouteExtremes", "extremeCandidate", "([DD)I"⟩ : MethodName)) hown (mvT hZ (hw _ (List.mem_of_getElem? (i := 2) rfl))) (mvT hZ (hw _ (List.mem_of_getElem? (i := 3) rfl))) (mvT hZ (hw _ (List.mem_of_getElem? (i := 4) rfl))) (mvT hZ (hw _ (List.mem_of_getElem? (i := 5) rfl))) (by decide) (backOf (W := 0) (rm1 l Z a0 hw [] b34 k34 [p2, p3, p4, p5] sg h42 n0 Z42 V_b34'42 (by simp) hsg) hZ (hw _ (List.mem_of_getElem? (i := 5) rfl)) (hw _ (List.mem_of_getElem? (i := 4) rfl)) (by decide) (by decide)) (g := (mkF m 77 #[.val (.int p1), .val (.int p2), .val (.int p3), .val (.int p4), .val (.int p5), .val (.int (4 : Int32)), .val (.double (FP.l2d sg)), .second, .val (.ref b34), .unset, .unset, .unset] [(.double (FP.l2d sg)), (.ref b34)])) rfl (by rw [hml]; rfl) (argsL := [(.ref b34), (.double (FP.l2d sg))]) (rest := []) (lenOf pd_0 rfl) rfl (by show 2 * 0 + _ ≤ _; exact Nat.le_of_eq rfl) (hb hby at_77) (fun _ _ => ⟨rfl, e42, Nat.le_of_ble_eq_true rfl, Nat.le_of_ble_eq_true rfl⟩)
      dsimp only [Pt.U, Pt.locs, Pt.cells, Pt.slots] at X43 l43 y43 z43 st43 hQ43
      subst l43 y43 z43
      obtain ⟨r, rfl, N43q, e43, hr, hbb⟩ := hQ43
      have N43 := Fr.app N42 N43q
      refine own_go (fun _ k => st43 _ k) ?_
      show own_Ends p e below s _ _ _ (T43.setTop (mkF m 80 #[.val (.int p1), .val (.int p2), .val (.int p3), .val (.int p4), .val (.int p5), .val (.int (4 : Int32)), .val (.double (FP.l2d sg)), .second, .val (.ref b34), .unset, .unset, .unset] [(.int (Int32.ofNat r))]))
      refine own_go (fun _ k => XS.istore X43.here hx rfl (hb hby at_80) rfl (l' := #[.val (.int p1), .val (.int p2), .val (.int p3), .val (.int p4), .val (.int p5), .val (.int (4 : Int32)), .val (.double (FP.l2d sg)), .second, .val (.ref b34), .val (.int (Int32.ofNat r)), .unset, .unset]) rfl <| XS.iload X43.here hx rfl (hb hby at_82) rfl <| XS.ifNo X43.here hx rfl (hb hby at_84) rfl ((if0 _ _).trans (flt (own_nneg (Nat.lt_trans hr (by simp)))).1) <| XS.iload X43.here hx rfl (hb hby at_87) rfl <| XS.iload X43.here hx rfl (hb hby at_89) rfl <| XS.icmpYes X43.here hx rfl (pc0 := 91) (pc' := 96) rfl (hb hby at_91) rfl (tlt ((own_ofNat_lt (n := 4) (Nat.lt_trans hr (by simp)) (by decide)).mpr hr)).1 (by decide) (by decide) <| XS.dload X43.here hx rfl (hb hby at_96) rfl <| XS.aload X43.here hx rfl (hb hby at_98) rfl rfl <| XS.iload X43.here hx rfl (hb hby at_100) rfl <| k) ?_
      show own_Ends p e below s _ _ _ (T43.setTop (mkF m 102 #[.val (.int p1), .val (.int p2), .val (.int p3), .val (.int p4), .val (.int p5), .val (.int (4 : Int32)), .val (.double (FP.l2d sg)), .second, .val (.ref b34), .val (.int (Int32.ofNat r)), .unset, .unset] [(.int (Int32.ofNat r)), (.ref b34), (.double (FP.l2d sg))]))
      obtain ⟨clb34_102_44, Arb34_102_44, qqb34_102_44, Szb34_102_44, Ngb34_102_44, Hsb34_102_44, Gfb34_102_44⟩ := id V_b34'42
      have hinb34_102_44 : ¬ ((Int32.ofNat r) < 0 ∨ clb34_102_44.slots.size ≤ ((Int32.ofNat r)).toNatClampNeg) := inb_of Szb34_102_44 ⟨own_nneg (Nat.lt_trans hr (by simp)), (own_ofNat_lt (n := 4) (Nat.lt_trans hr (by simp)) (by decide)).mpr hr⟩
      have hatb34_102_44 : clb34_102_44.slots[((Int32.ofNat r)).toNatClampNeg]? = some (.double (FP.i2d ([p2, p3, p4, p5].getD r 0))) := Hsb34_102_44.at hinb34_102_44 (own_getD [p2, p3, p4, p5] (Nat.lt_trans hr (by simp)) hr)
      refine own_go (fun _ k => X43.daload hx (j := (Int32.ofNat r)) (v := (.double (FP.i2d ([p2, p3, p4, p5].getD r 0)))) (by first | exact Arb34_102_44.1 | (rw [e43]; exact Arb34_102_44.1)) (State.isArrayOf_alike hZ.alike Arb34_102_44.2.1) Arb34_102_44.2.2 hinb34_102_44 hatb34_102_44 (g := (mkF m 102 #[.val (.int p1), .val (.int p2), .val (.int p3), .val (.int p4), .val (.int p5), .val (.int (4 : Int32)), .val (.double (FP.l2d sg)), .second, .val (.ref b34), .val (.int (Int32.ofNat r)), .unset, .unset] [(.int (Int32.ofNat r)), (.ref b34), (.double (FP.l2d sg))])) rfl rfl (hb hby at_102) _ k) ?_
      show own_Ends p e below s _ _ _ (T43.setTop (mkF m 103 #[.val (.int p1), .val (.int p2), .val (.int p3), .val (.int p4), .val (.int p5), .val (.int (4 : Int32)), .val (.double (FP.l2d sg)), .second, .val (.ref b34), .val (.int (Int32.ofNat r)), .unset, .unset] [(.double (FP.i2d ([p2, p3, p4, p5].getD r 0))), (.double (FP.l2d sg))]))
      refine own_go (fun _ k => XS.dmulS X43.here hx rfl (hb hby at_103) rfl (own_nn hsg _) rfl <| XS.dstore X43.here hx rfl (hb hby at_104) rfl (l' := #[.val (.int p1), .val (.int p2), .val (.int p3), .val (.int p4), .val (.int p5), .val (.int (4 : Int32)), .val (.double (FP.l2d sg)), .second, .val (.ref b34), .val (.int (Int32.ofNat r)), .val (.double (FP.dmul (FP.l2d sg) (FP.i2d ([p2, p3, p4, p5].getD r 0)))), .second]) rfl <| XS.aload X43.here hx rfl (hb hby at_106) rfl rfl <| XS.iload X43.here hx rfl (hb hby at_108) rfl <| XT.iconstV X43.here hx rfl (0 : Int32) (hb hby at_110) rfl <| XS.iload X43.here hx rfl (hb hby at_111) rfl <| XS.dload X43.here hx rfl (hb hby at_113) rfl <| XS.dload X43.here hx rfl (hb hby at_115) rfl <| k) ?_
      show own_Ends p e below s _ _ _ (T43.setTop (mkF m 117 #[.val (.int p1), .val (.int p2), .val (.int p3), .val (.int p4), .val (.int p5), .val (.int (4 : Int32)), .val (.double (FP.l2d sg)), .second, .val (.ref b34), .val (.int (Int32.ofNat r)), .val (.double (FP.dmul (FP.l2d sg) (FP.i2d ([p2, p3, p4, p5].getD r 0)))), .second] [(.double (FP.dmul (FP.l2d sg) (FP.i2d ([p2, p3, p4, p5].getD r 0)))), (.double (FP.l2d sg)), (.int (Int32.ofNat r)), (.int (0 : Int32)), (.int (4 : Int32)), (.ref b34)]))
      obtain ⟨_, _, ⟨T45, L45, k45, n45⟩, -, X45, ⟨Lc45, hQ45, l45, y45, z45⟩, st45⟩ := Jvm.LawKit.callS X43 hx (y := (⟨"com/example/weftbind/weftbind/RouteExtremesExtremeCandidatePinLaw", "ok", "([DIIIDD)Z"⟩ : MethodName)) hown (mvT hZ (hw _ (List.mem_of_getElem? (i := 6) rfl))) (mvT hZ (hw _ (List.mem_of_getElem? (i := 7) rfl))) (mvT hZ (hw _ (List.mem_of_getElem? (i := 8) rfl))) (mvT hZ (hw _ (List.mem_of_getElem? (i := 9) rfl))) (by decide) (backOf (W := 0) (rm2 l Z a0 hw [] b34 k34 [p2, p3, p4, p5] sg 0 r h42 n0 Z42 V_b34'42 (by simp) hsg (by simp) hr hbb) hZ (hw _ (List.mem_of_getElem? (i := 9) rfl)) (hw _ (List.mem_of_getElem? (i := 8) rfl)) (by decide) (by decide)) (g := (mkF m 117 #[.val (.int p1), .val (.int p2), .val (.int p3), .val (.int p4), .val (.int p5), .val (.int (4 : Int32)), .val (.double (FP.l2d sg)), .second, .val (.ref b34), .val (.int (Int32.ofNat r)), .val (.double (FP.dmul (FP.l2d sg) (FP.i2d ([p2, p3, p4, p5].getD r 0)))), .second] [(.double (FP.dmul (FP.l2d sg) (FP.i2d ([p2, p3, p4, p5].getD r 0)))), (.double (FP.l2d sg)), (.int (Int32.ofNat r)), (.int (0 : Int32)), (.int (4 : Int32)), (.ref b34)])) rfl (by rw [hml]; rfl) (argsL := [(.ref b34), (.int (4 : Int32)), (.int (0 : Int32)), (.int (Int32.ofNat r)), (.double (FP.l2d sg)), (.double (FP.dmul (FP.l2d sg) (FP.i2d ([p2, p3, p4, p5].getD r 0))))]) (rest := []) (lenOf pd_1 rfl) rfl (by show 2 * 0 + _ ≤ _; exact Nat.le_of_eq rfl) (hb hby at_117) (fun _ _ => ⟨rfl, e43, Nat.le_of_ble_eq_true rfl, Nat.le_of_ble_eq_true rfl⟩)
      dsimp only [Pt.U, Pt.locs, Pt.cells, Pt.slots] at X45 l45 y45 z45 st45 hQ45
      subst l45 y45 z45
      obtain ⟨rfl, N45q, e45⟩ := hQ45
      have N45 := Fr.app N43 N45q
      refine own_go (fun _ k => st45 _ k) ?_
      show own_Ends p e below s _ _ _ (T45.setTop (mkF m 120 #[.val (.int p1), .val (.int p2), .val (.int p3), .val (.int p4), .val (.int p5), .val (.int (4 : Int32)), .val (.double (FP.l2d sg)), .second, .val (.ref b34), .val (.int (Int32.ofNat r)), .val (.double (FP.dmul (FP.l2d sg) (FP.i2d ([p2, p3, p4, p5].getD r 0)))), .second] [(.int (1 : Int32))]))
      refine own_go (fun _ k => XS.ifNo X45.here hx rfl (hb hby at_120) rfl ((if0 _ _).trans (feq (by decide)).1) <| XS.aload X45.here hx rfl (hb hby at_123) rfl rfl <| XS.iload X45.here hx rfl (hb hby at_125) rfl <| XT.iconstV X45.here hx rfl (1 : Int32) (hb hby at_127) rfl <| XS.iload X45.here hx rfl (hb hby at_128) rfl <| XS.dload X45.here hx rfl (hb hby at_130) rfl <| XS.dload X45.here hx rfl (hb hby at_132) rfl <| k) ?_
      show own_Ends p e below s _ _ _ (T45.setTop (mkF m 134 #[.val (.int p1), .val (.int p2), .val (.int p3), .val (.int p4), .val (.int p5), .val (.int (4 : Int32)), .val (.double (FP.l2d sg)), .second, .val (.ref b34), .val (.int (Int32.ofNat r)), .val (.double (FP.dmul (FP.l2d sg) (FP.i2d ([p2, p3, p4, p5].getD r 0)))), .second] [(.double (FP.dmul (FP.l2d sg) (FP.i2d ([p2, p3, p4, p5].getD r 0)))), (.double (FP.l2d sg)), (.int (Int32.ofNat r)), (.int (1 : Int32)), (.int (4 : Int32)), (.ref b34)]))
      obtain ⟨_, _, ⟨T46, L46, k46, n46⟩, -, X46, ⟨Lc46, hQ46, l46, y46, z46⟩, st46⟩ := Jvm.LawKit.callS X45 hx (y := (⟨"com/example/weftbind/weftbind/RouteExtremesExtremeCandidatePinLaw", "ok", "([DIIIDD)Z"⟩ : MethodName)) hown (mvT hZ (hw _ (List.mem_of_getElem? (i := 6) rfl))) (mvT hZ (hw _ (List.mem_of_getElem? (i := 7) rfl))) (mvT hZ (hw _ (List.mem_of_getElem? (i := 8) rfl))) (mvT hZ (hw _ (List.mem_of_getElem? (i := 9) rfl))) (by decide) (backOf (W := 0) (rm2 l Z a0 hw [] b34 k34 [p2, p3, p4, p5] sg 1 r h42 n0 Z42 V_b34'42 (by simp) hsg (by simp) hr hbb) hZ (hw _ (List.mem_of_getElem? (i := 9) rfl)) (hw _ (List.mem_of_getElem? (i := 8) rfl)) (by decide) (by decide)) (g := (mkF m 134 #[.val (.int p1), .val (.int p2), .val (.int p3), .val (.int p4), .val (.int p5), .val (.int (4 : Int32)), .val (.double (FP.l2d sg)), .second, .val (.ref b34), .val (.int (Int32.ofNat r)), .val (.double (FP.dmul (FP.l2d sg) (FP.i2d ([p2, p3, p4, p5].getD r 0)))), .second] [(.double (FP.dmul (FP.l2d sg) (FP.i2d ([p2, p3, p4, p5].getD r 0)))), (.double (FP.l2d sg)), (.int (Int32.ofNat r)), (.int (1 : Int32)), (.int (4 : Int32)), (.ref b34)])) rfl (by rw [hml]; rfl) (argsL := [(.ref b34), (.int (4 : Int32)), (.int (1 : Int32)), (.int (Int32.ofNat r)), (.double (FP.l2d sg)), (.double (FP.dmul (FP.l2d sg) (FP.i2d ([p2, p3, p4, p5].getD r 0))))]) (rest := []) (lenOf pd_1 rfl) rfl (by show 2 * 0 + _ ≤ _; exact Nat.le_of_eq rfl) (hb hby at_134) (fun _ _ => ⟨rfl, e45, Nat.le_of_ble_eq_true rfl, Nat.le_of_ble_eq_true rfl⟩)
      dsimp only [Pt.U, Pt.locs, Pt.cells, Pt.slots] at X46 l46 y46 z46 st46 hQ46
      subst l46 y46 z46
      obtain ⟨rfl, N46q, e46⟩ := hQ46
      have N46 := Fr.app N45 N46q
      refine own_go (fun _ k => st46 _ k) ?_
      show own_Ends p e below s _ _ _ (T46.setTop (mkF m 137 #[.val (.int p1), .val (.int p2), .val (.int p3), .val (.int p4), .val (.int p5), .val (.int (4 : Int32)), .val (.double (FP.l2d sg)), .second, .val (.ref b34), .val (.int (Int32.ofNat r)), .val (.double (FP.dmul (FP.l2d sg) (FP.i2d ([p2, p3, p4, p5].getD r 0)))), .second] [(.int (1 : Int32))]))
      refine own_go (fun _ k => XS.ifNo X46.here hx rfl (hb hby at_137) rfl ((if0 _ _).trans (feq (by decide)).1) <| XS.aload X46.here hx rfl (hb hby at_140) rfl rfl <| XS.iload X46.here hx rfl (hb hby at_142) rfl <| XT.iconstV X46.here hx rfl (2 : Int32) (hb hby at_144) rfl <| XS.iload X46.here hx rfl (hb hby at_145) rfl <| XS.dload X46.here hx rfl (hb hby at_147) rfl <| XS.dload X46.here hx rfl (hb hby at_149) rfl <| k) ?_
      show own_Ends p e below s _ _ _ (T46.setTop (mkF m 151 #[.val (.int p1), .val (.int p2), .val (.int p3), .val (.int p4), .val (.int p5), .val (.int (4 : Int32)), .val (.double (FP.l2d sg)), .second, .val (.ref b34), .val (.int (Int32.ofNat r)), .val (.double (FP.dmul (FP.l2d sg) (FP.i2d ([p2, p3, p4, p5].getD r 0)))), .second] [(.double (FP.dmul (FP.l2d sg) (FP.i2d ([p2, p3, p4, p5].getD r 0)))), (.double (FP.l2d sg)), (.int (Int32.ofNat r)), (.int (2 : Int32)), (.int (4 : Int32)), (.ref b34)]))
      obtain ⟨_, _, ⟨T47, L47, k47, n47⟩, -, X47, ⟨Lc47, hQ47, l47, y47, z47⟩, st47⟩ := Jvm.LawKit.callS X46 hx (y := (⟨"com/example/weftbind/weftbind/RouteExtremesExtremeCandidatePinLaw", "ok", "([DIIIDD)Z"⟩ : MethodName)) hown (mvT hZ (hw _ (List.mem_of_getElem? (i := 6) rfl))) (mvT hZ (hw _ (List.mem_of_getElem? (i := 7) rfl))) (mvT hZ (hw _ (List.mem_of_getElem? (i := 8) rfl))) (mvT hZ (hw _ (List.mem_of_getElem? (i := 9) rfl))) (by decide) (backOf (W := 0) (rm2 l Z a0 hw [] b34 k34 [p2, p3, p4, p5] sg 2 r h42 n0 Z42 V_b34'42 (by simp) hsg (by simp) hr hbb) hZ (hw _ (List.mem_of_getElem? (i := 9) rfl)) (hw _ (List.mem_of_getElem? (i := 8) rfl)) (by decide) (by decide)) (g := (mkF m 151 #[.val (.int p1), .val (.int p2), .val (.int p3), .val (.int p4), .val (.int p5), .val (.int (4 : Int32)), .val (.double (FP.l2d sg)), .second, .val (.ref b34), .val (.int (Int32.ofNat r)), .val (.double (FP.dmul (FP.l2d sg) (FP.i2d ([p2, p3, p4, p5].getD r 0)))), .second] [(.double (FP.dmul (FP.l2d sg) (FP.i2d ([p2, p3, p4, p5].getD r 0)))), (.double (FP.l2d sg)), (.int (Int32.ofNat r)), (.int (2 : Int32)), (.int (4 : Int32)), (.ref b34)])) rfl (by rw [hml]; rfl) (argsL := [(.ref b34), (.int (4 : Int32)), (.int (2 : Int32)), (.int (Int32.ofNat r)), (.double (FP.l2d sg)), (.double (FP.dmul (FP.l2d sg) (FP.i2d ([p2, p3, p4, p5].getD r 0))))]) (rest := []) (lenOf pd_1 rfl) rfl (by show 2 * 0 + _ ≤ _; exact Nat.le_of_eq rfl) (hb hby at_151) (fun _ _ => ⟨rfl, e46, Nat.le_of_ble_eq_true rfl, Nat.le_of_ble_eq_true rfl⟩)
      dsimp only [Pt.U, Pt.locs, Pt.cells, Pt.slots] at X47 l47 y47 z47 st47 hQ47
      subst l47 y47 z47
      obtain ⟨rfl, N47q, e47⟩ := hQ47
      have N47 := Fr.app N46 N47q
      refine own_go (fun _ k => st47 _ k) ?_
      show own_Ends p e below s _ _ _ (T47.setTop (mkF m 154 #[.val (.int p1), .val (.int p2), .val (.int p3), .val (.int p4), .val (.int p5), .val (.int (4 : Int32)), .val (.double (FP.l2d sg)), .second, .val (.ref b34), .val (.int (Int32.ofNat r)), .val (.double (FP.dmul (FP.l2d sg) (FP.i2d ([p2, p3, p4, p5].getD r 0)))), .second] [(.int (1 : Int32))]))
      refine own_go (fun _ k => XS.ifNo X47.here hx rfl (hb hby at_154) rfl ((if0 _ _).trans (feq (by decide)).1) <| XS.aload X47.here hx rfl (hb hby at_157) rfl rfl <| XS.iload X47.here hx rfl (hb hby at_159) rfl <| XT.iconstV X47.here hx rfl (3 : Int32) (hb hby at_161) rfl <| XS.iload X47.here hx rfl (hb hby at_162) rfl <| XS.dload X47.here hx rfl (hb hby at_164) rfl <| XS.dload X47.here hx rfl (hb hby at_166) rfl <| k) ?_
      show own_Ends p e below s _ _ _ (T47.setTop (mkF m 168 #[.val (.int p1), .val (.int p2), .val (.int p3), .val (.int p4), .val (.int p5), .val (.int (4 : Int32)), .val (.double (FP.l2d sg)), .second, .val (.ref b34), .val (.int (Int32.ofNat r)), .val (.double (FP.dmul (FP.l2d sg) (FP.i2d ([p2, p3, p4, p5].getD r 0)))), .second] [(.double (FP.dmul (FP.l2d sg) (FP.i2d ([p2, p3, p4, p5].getD r 0)))), (.double (FP.l2d sg)), (.int (Int32.ofNat r)), (.int (3 : Int32)), (.int (4 : Int32)), (.ref b34)]))
      obtain ⟨_, _, ⟨T48, L48, k48, n48⟩, -, X48, ⟨Lc48, hQ48, l48, y48, z48⟩, st48⟩ := Jvm.LawKit.callS X47 hx (y := (⟨"com/example/weftbind/weftbind/RouteExtremesExtremeCandidatePinLaw", "ok", "([DIIIDD)Z"⟩ : MethodName)) hown (mvT hZ (hw _ (List.mem_of_getElem? (i := 6) rfl))) (mvT hZ (hw _ (List.mem_of_getElem? (i := 7) rfl))) (mvT hZ (hw _ (List.mem_of_getElem? (i := 8) rfl))) (mvT hZ (hw _ (List.mem_of_getElem? (i := 9) rfl))) (by decide) (backOf (W := 0) (rm2 l Z a0 hw [] b34 k34 [p2, p3, p4, p5] sg 3 r h42 n0 Z42 V_b34'42 (by simp) hsg (by simp) hr hbb) hZ (hw _ (List.mem_of_getElem? (i := 9) rfl)) (hw _ (List.mem_of_getElem? (i := 8) rfl)) (by decide) (by decide)) (g := (mkF m 168 #[.val (.int p1), .val (.int p2), .val (.int p3), .val (.int p4), .val (.int p5), .val (.int (4 : Int32)), .val (.double (FP.l2d sg)), .second, .val (.ref b34), .val (.int (Int32.ofNat r)), .val (.double (FP.dmul (FP.l2d sg) (FP.i2d ([p2, p3, p4, p5].getD r 0)))), .second] [(.double (FP.dmul (FP.l2d sg) (FP.i2d ([p2, p3, p4, p5].getD r 0)))), (.double (FP.l2d sg)), (.int (Int32.ofNat r)), (.int (3 : Int32)), (.int (4 : Int32)), (.ref b34)])) rfl (by rw [hml]; rfl) (argsL := [(.ref b34), (.int (4 : Int32)), (.int (3 : Int32)), (.int (Int32.ofNat r)), (.double (FP.l2d sg)), (.double (FP.dmul (FP.l2d sg) (FP.i2d ([p2, p3, p4, p5].getD r 0))))]) (rest := []) (lenOf pd_1 rfl) rfl (by show 2 * 0 + _ ≤ _; exact Nat.le_of_eq rfl) (hb hby at_168) (fun _ _ => ⟨rfl, e47, Nat.le_of_ble_eq_true rfl, Nat.le_of_ble_eq_true rfl⟩)
      dsimp only [Pt.U, Pt.locs, Pt.cells, Pt.slots] at X48 l48 y48 z48 st48 hQ48
      subst l48 y48 z48
      obtain ⟨rfl, N48q, e48⟩ := hQ48
      have N48 := Fr.app N47 N48q
      refine own_go (fun _ k => st48 _ k) ?_
      show own_Ends p e below s _ _ _ (T48.setTop (mkF m 171 #[.val (.int p1), .val (.int p2), .val (.int p3), .val (.int p4), .val (.int p5), .val (.int (4 : Int32)), .val (.double (FP.l2d sg)), .second, .val (.ref b34), .val (.int (Int32.ofNat r)), .val (.double (FP.dmul (FP.l2d sg) (FP.i2d ([p2, p3, p4, p5].getD r 0)))), .second] [(.int (1 : Int32))]))
      refine own_go (fun _ k => XS.ifNo X48.here hx rfl (hb hby at_171) rfl ((if0 _ _).trans (feq (by decide)).1) <| XT.iconstV X48.here hx rfl (1 : Int32) (hb hby at_174) rfl <| XS.goto X48.here hx rfl (pc0 := 175) (pc' := 179) rfl (hb hby at_175) (by decide) (by decide) <| k) ?_
      show own_Ends p e below s _ _ _ (T48.setTop (mkF m 179 #[.val (.int p1), .val (.int p2), .val (.int p3), .val (.int p4), .val (.int p5), .val (.int (4 : Int32)), .val (.double (FP.l2d sg)), .second, .val (.ref b34), .val (.int (Int32.ofNat r)), .val (.double (FP.dmul (FP.l2d sg) (FP.i2d ([p2, p3, p4, p5].getD r 0)))), .second] [(.int (1 : Int32))]))
      exact own_retN X48 hx (t := .boolean) hrt (by simp) (hb hby at_179) hlk (show nar .boolean (1 : Int32) = (1 : Int32) from by decide) (by rw [e48]; exact ⟨rfl, N48⟩) (by decide) (by decide)
  refine own_go (fun _ k => XS.iloadN X0.here hx rfl (hb hby at_7) rfl <| XT.iconstV X0.here hx rfl (2 : Int32) (hb hby at_8) rfl <| XS.ishr X0.here hx rfl (hb hby at_9) rfl <| XT.iconstV X0.here hx rfl (1 : Int32) (hb hby at_10) rfl <| XS.iand X0.here hx rfl (hb hby at_11) rfl <| k) ?_
  show own_Ends p e below s _ _ _ (s₁.setTop (mkF m 12 #[.val (.int p1), .val (.int p2), .val (.int p3), .val (.int p4), .val (.int p5), .val (.int ((1 : Int32) + (p1 &&& (3 : Int32)))), .unset, .unset, .unset, .unset, .unset, .unset] [(.int ((p1 >>> ((2 : Int32) &&& 31)) &&& (1 : Int32)))]))
  by_cases hc12_49 : ((p1 >>> ((2 : Int32) &&& 31)) &&& (1 : Int32)) = (0 : Int32)
  · -- true
    refine own_go (fun _ k => XS.ifYes X0.here hx rfl (pc0 := 12) (pc' := 19) rfl (hb hby at_12) rfl ((if0 _ _).trans (teq hc12_49).1) (by decide) (by decide) <| k) ?_
    show own_Ends p e below s _ _ _ (s₁.setTop (mkF m 19 #[.val (.int p1), .val (.int p2), .val (.int p3), .val (.int p4), .val (.int p5), .val (.int ((1 : Int32) + (p1 &&& (3 : Int32)))), .unset, .unset, .unset, .unset, .unset, .unset] []))
    refine own_go (X0.ldc2DoubleC hx hown (mvT hZ (hw _ (List.mem_of_getElem? (i := 0) rfl))) (g := (mkF m 19 #[.val (.int p1), .val (.int p2), .val (.int p3), .val (.int p4), .val (.int p5), .val (.int ((1 : Int32) + (p1 &&& (3 : Int32)))), .unset, .unset, .unset, .unset, .unset, .unset] [])) rfl (hb hby at_19)) ?_
    show own_Ends p e below s _ _ _ (s₁.setTop (mkF m 22 #[.val (.int p1), .val (.int p2), .val (.int p3), .val (.int p4), .val (.int p5), .val (.int ((1 : Int32) + (p1 &&& (3 : Int32)))), .unset, .unset, .unset, .unset, .unset, .unset] [(.double (13830554455654793216 : UInt64))]))
    rw [show (13830554455654793216 : UInt64) = FP.l2d (-1) from by decide +kernel]
    exact J22 (-1) (Or.inr rfl)
  · -- false
    refine own_go (fun _ k => XS.ifNo X0.here hx rfl (hb hby at_12) rfl ((if0 _ _).trans (feq hc12_49).1) <| XS.dconst1 X0.here hx rfl (v := (4607182418800017408 : UInt64)) (hb hby at_15) rfl <| XS.goto X0.here hx rfl (pc0 := 16) (pc' := 22) rfl (hb hby at_16) (by decide) (by decide) <| k) ?_
    show own_Ends p e below s _ _ _ (s₁.setTop (mkF m 22 #[.val (.int p1), .val (.int p2), .val (.int p3), .val (.int p4), .val (.int p5), .val (.int ((1 : Int32) + (p1 &&& (3 : Int32)))), .unset, .unset, .unset, .unset, .unset, .unset] [(.double (4607182418800017408 : UInt64))]))
    rw [show (4607182418800017408 : UInt64) = FP.l2d 1 from by decide +kernel]
    exact J22 1 (Or.inl rfl)
set_option maxRecDepth 65536 in
set_option maxHeartbeats 40000000 in
theorem comes_1 {Post : Tables → Env → Array Value → State → Outcome → State → Prop} (hpost : ∀ tb e args s v u, (limb_1_1.after args s (.returned v) u = true ∧ limb_1_2.after args s (.returned v) u = true ∧ True) → FrameEnd s (.returned v) u (Jvm.fieldLocs frame_1_writes args s ++ Jvm.arrayLocs frame_1_arrays args s ++ Jvm.staticLocs frame_1_statics s) 16 128 → Post tb e args s (.returned v) u) :
    ArmFor flags0 classFile x code maxLocals ret World_1 tables_1 room_1 Calls_1 rest_1 Pre_1 Post := by
  intro l hfl _ _ p e ha hc hk s m args below hf hA hF happ hP
  obtain ⟨hcalls, hrest, hpre⟩ := hP
  obtain ⟨-, -, -, hnamed, -, -, -, hat⟩ := (Spec.applies_iff hf).mp happ
  obtain ⟨hg, hn⟩ := and_e (Cond.before_iff.mp (show (Jvm.Cond.and given_1 narrow_1).before args s = true from hpre))
  obtain ⟨g1, g2⟩ := and_e hg
  obtain ⟨g3, g4⟩ := and_e g2
  obtain ⟨g5, g6⟩ := and_e g4
  obtain ⟨g7, g8⟩ := and_e g6
  obtain ⟨g9, g10⟩ := and_e g8
  obtain ⟨w0, w1, w2, w3, w4, rfl⟩ : ∃ w0 w1 w2 w3 w4 : Value, args = #[w0, w1, w2, w3, w4] := by
    have hs : args.size = 5 := by simpa [Cond.value, given_1] using g1
    obtain ⟨L⟩ := args
    match L, hs with
    | [w0, w1, w2, w3, w4], _ => exact ⟨w0, w1, w2, w3, w4, rfl⟩
  have hw := fun d (hd : d ∈ tables_1) => atoms_spec (ws := Jvm.Cond.code x code maxLocals ret :: tables_1) hat d (List.mem_cons_of_mem _ hd)
  have hfit : Fit s := fun {y c} hc i hi => by
    obtain ⟨ha, rfl⟩ := Array.getElem?_eq_some_iff.mp hc
    have q := List.all_eq_true.mp ((Array.all_eq_true_iff_forall_mem.mp hF) _ (Array.getElem_mem ha)) i (List.mem_range.mpr hi)
    simpa [Array.getElem?_eq_getElem hi] using q
  obtain ⟨i0, ei0⟩ := is_v g3
  obtain rfl : w0 = (.int i0) := Option.some.inj ei0
  obtain ⟨i1, ei1⟩ := is_v g5
  obtain rfl : w1 = (.int i1) := Option.some.inj ei1
  obtain ⟨i2, ei2⟩ := is_v g7
  obtain rfl : w2 = (.int i2) := Option.some.inj ei2
  obtain ⟨i3, ei3⟩ := is_v g9
  obtain rfl : w3 = (.int i3) := Option.some.inj ei3
  obtain ⟨i4, ei4⟩ := is_v g10
  obtain rfl : w4 = (.int i4) := Option.some.inj ei4
  obtain ⟨n, o, h1, h2, h3, _, L, rfl, ⟨rfl, N⟩, hq⟩ := rm0 l s _ hw tables_1 i0 i1 i2 i3 i4  s.heap s.heap.size (Nat.le_refl _)  p e ha hc hk s m _ below hf ((Spec.applies_iff_loose hf).mp happ).1 ⟨rfl, State.Warmed39.refl s, rfl⟩ trivial
  refine ⟨n, _, h1, h2, h3, hpost _ _ _ _ _ _ ⟨Cond.after_iff.mpr rfl, Cond.after_iff.mpr (eq_i res_at (Term.int_eval (1)) rfl), trivial⟩ ⟨hq.1, hq.2.1, (hq.2.2.sift fun y hy => Or.inr (N y hy)).mono (by decide) (by decide)⟩⟩
theorem main_1_1 : Claimed_1_1 := comes_1 fun _ _ _ _ _ _ h hF => ⟨h.1, hF⟩
theorem main_1_2 : Claimed_1_2 := comes_1 fun _ _ _ _ _ _ h hF => ⟨h.2.1, hF⟩
end Jvm.Pilot.@@N@@
namespace Jvm.Pilot.@@N@@
open Jvm Jvm.ClassFile Sem Op Lib Jvm.Free Jvm.Stand Jvm.Pilot.@@N@@.Jvm.D
/-! MADE BY PROGRAM (witnessworld.py) out of the Statement's table words and the real class files: 11 classes; the members and pool entries that the words name. The judged class is class 1, her method 1. -/
namespace start1
open Jvm.ClassFile
def u (s : String) : CpInfo := .utf8 (stringToUtf16 s)
/-- a pool by its gaps: so many unusable entries, then the entry; so many at the end -/
def gap : Nat → List CpInfo → List CpInfo
  | 0, r => r
  | n + 1, r => .unusable :: gap n r
def poolList (es : List (Nat × CpInfo)) (last : Nat) : List CpInfo := es.foldr (fun e r => gap e.1 (e.2 :: r)) (gap last [])
def pool (es : List (Nat × CpInfo)) (last : Nat) : Array CpInfo := ⟨poolList es last⟩
def fileOf (pool : Array CpInfo) (this : Nat) (attrs : Array Attribute := #[]) (ms : Array MethodInfo := #[]) (fl : Nat := 33) (sup : Nat := 0) (ifs : Array Nat := #[]) (fds : Array FieldInfo := #[]) : ClassFile where
  minorVersion := 0
  majorVersion := 65
  constantPool := pool
  accessFlags := fl
  thisClass := this
  superClass := sup
  interfaces := ifs
  fields := fds
  methods := ms
  attributes := attrs
def plain (name : String) (sup : Option ClassId) : Class where
  name := name
  kind := .ordinary
  loader := none
  accessFlags := 33
  super := sup
  interfaces := #[]
  cf := none
  fields := #[]
  methods := #[]
  instanceTypes := #[]
  staticTypes := #[]
  resolved := #[]
  callSites := []
  init := .initialized
  statics := none
  mirror := none

def pool0 : Array CpInfo := pool [(5, u "<init>"), (0, u "()V"), (1, .class_ 10), (1, u "java/lang/Object")] 113

def k0m0 : Method := { name := "<init>", desc := "()V", sig := { parameters := [], returnType := none }, accessFlags := 1, code := none }
/-- java/lang/Object -/
def k0 : Class := { plain "java/lang/Object" none with
  accessFlags := 33
  interfaces := #[]
  cf := some (fileOf pool0 8 #[] #[{ accessFlags := 1, nameIndex := 5, descriptorIndex := 6, attributes := #[] }] 33 0 #[] #[])
  fields := #[]
  methods := #[k0m0]
  instanceTypes := #[]
  staticTypes := #[]
  resolved := Array.replicate 124 none
  statics := none }

def pool1 : Array CpInfo := pool [(2, .class_ 4), (1, u "java/lang/Object"), (0, u "<init>"), (0, u "()V"), (0, .double 13830554455654793216), (1, .methodref 10 11), (0, .class_ 12), (0, .nameAndType 13 14), (0, u "com/example/weftbind/weftbind/RouteExtremes"), (0, u "extremeCandidate"), (0, u "([DD)I"), (0, .methodref 16 17), (0, .class_ 18), (0, .nameAndType 19 20), (0, u "com/example/weftbind/weftbind/RouteExtremesExtremeCandidatePinLaw"), (0, u "ok"), (0, u "([DIIIDD)Z"), (2, u "law"), (0, u "(IIIII)Z")] 5

def k1m0 : Method := { name := "<init>", desc := "()V", sig := { parameters := [], returnType := none }, accessFlags := 2, code := none }
def k1c1 : Code := { maxStack := 8, maxLocals := 12, code := code, exceptionTable := #[], attributes := #[] }
def k1m1 : Method := { name := "law", desc := "(IIIII)Z", sig := { parameters := [.int, .int, .int, .int, .int], returnType := some .boolean }, accessFlags := 9, code := some k1c1 }
def k1c2 : Code := { maxStack := 4, maxLocals := 10, code := method_3_code, exceptionTable := #[], attributes := #[] }
def k1m2 : Method := { name := "ok", desc := "([DIIIDD)Z", sig := { parameters := [(.array .double), .int, .int, .int, .double, .double], returnType := some .boolean }, accessFlags := 10, code := some k1c2 }
/-- com/example/weftbind/weftbind/RouteExtremesExtremeCandidatePinLaw -/
def k1 : Class := { plain "com/example/weftbind/weftbind/RouteExtremesExtremeCandidatePinLaw" (some 0) with
  accessFlags := 49
  interfaces := #[]
  cf := some (fileOf pool1 16 #[] #[{ accessFlags := 2, nameIndex := 5, descriptorIndex := 6, attributes := #[] }, { accessFlags := 9, nameIndex := 23, descriptorIndex := 24, attributes := #[] }, { accessFlags := 10, nameIndex := 19, descriptorIndex := 20, attributes := #[] }] 49 2 #[] #[])
  fields := #[]
  methods := #[k1m0, k1m1, k1m2]
  instanceTypes := #[]
  staticTypes := #[]
  resolved := Array.replicate 30 none
  statics := none }

def pool2 : Array CpInfo := pool [(2, .class_ 4), (1, u "java/lang/Object"), (3, .class_ 10), (1, u "com/example/weftbind/weftbind/RouteExtremes"), (0, u "problem"), (0, u "Lcom/example/weftbind/weftbind/Problem;"), (2, u "kind"), (0, u "Lcom/example/weftbind/weftbind/AttributeKind;"), (2, u "values"), (0, u "[[D"), (7, u "counts"), (0, u "Z"), (17, .class_ 48), (0, u "com/example/weftbind/weftbind/RouteExtremes$Walk"), (57, u "extremeCandidate"), (0, u "([DD)I"), (3, .class_ 112), (0, u "com/example/weftbind/weftbind/RouteExtremes$Reach")] 6

def k2c0 : Code := { maxStack := 6, maxLocals := 5, code := prog_146_method_5_code, exceptionTable := #[], attributes := #[] }
def k2m0 : Method := { name := "extremeCandidate", desc := "([DD)I", sig := { parameters := [(.array .double), .double], returnType := some .int }, accessFlags := 8, code := some k2c0 }
/-- com/example/weftbind/weftbind/RouteExtremes -/
def k2 : Class := { plain "com/example/weftbind/weftbind/RouteExtremes" (some 0) with
  accessFlags := 32
  interfaces := #[]
  cf := some (fileOf pool2 8 #[.nestMembers #[47, 111]] #[{ accessFlags := 8, nameIndex := 106, descriptorIndex := 107, attributes := #[] }] 32 2 #[] #[{ accessFlags := 18, nameIndex := 11, descriptorIndex := 12, attributes := #[] }, { accessFlags := 18, nameIndex := 15, descriptorIndex := 16, attributes := #[] }, { accessFlags := 18, nameIndex := 19, descriptorIndex := 20, attributes := #[] }, { accessFlags := 18, nameIndex := 28, descriptorIndex := 29, attributes := #[] }])
  fields := #[{ name := "problem", type := (.object "com/example/weftbind/weftbind/Problem"), accessFlags := 18, slot := 0, constantValue := 0 }, { name := "kind", type := (.object "com/example/weftbind/weftbind/AttributeKind"), accessFlags := 18, slot := 1, constantValue := 0 }, { name := "values", type := (.array (.array .double)), accessFlags := 18, slot := 2, constantValue := 0 }, { name := "counts", type := .boolean, accessFlags := 18, slot := 3, constantValue := 0 }]
  methods := #[k2m0]
  instanceTypes := #[(.object "com/example/weftbind/weftbind/Problem"), (.object "com/example/weftbind/weftbind/AttributeKind"), (.array (.array .double)), .boolean]
  staticTypes := #[]
  resolved := Array.replicate 119 none
  statics := none }

def pool3 : Array CpInfo := pool [(1, u "java/lang/Cloneable"), (0, .class_ 1), (0, u "java/lang/Object"), (0, .class_ 3)] 3

/-- java/lang/Cloneable -/
def k3 : Class := { plain "java/lang/Cloneable" (some 0) with
  accessFlags := 1537
  interfaces := #[]
  cf := some (fileOf pool3 2 #[] #[] 1537 4 #[] #[])
  fields := #[]
  methods := #[]
  instanceTypes := #[]
  staticTypes := #[]
  resolved := Array.replicate 8 none
  statics := none }

def pool4 : Array CpInfo := pool [(1, u "java/io/Serializable"), (0, .class_ 1), (0, u "java/lang/Object"), (0, .class_ 3)] 3

/-- java/io/Serializable -/
def k4 : Class := { plain "java/io/Serializable" (some 0) with
  accessFlags := 1537
  interfaces := #[]
  cf := some (fileOf pool4 2 #[] #[] 1537 4 #[] #[])
  fields := #[]
  methods := #[]
  instanceTypes := #[]
  staticTypes := #[]
  resolved := Array.replicate 8 none
  statics := none }

/-- the primitive byte -/
def k5 : Class := { plain "byte" none with kind := .primitive 'B', accessFlags := 0x411 }
/-- [B -/
def k6 : Class := { plain "[B" (some 0) with kind := .array 5 .byte, interfaces := #[3, 4], accessFlags := 1041 }

/-- the primitive double -/
def k7 : Class := { plain "double" none with kind := .primitive 'D', accessFlags := 0x411 }
/-- [D -/
def k8 : Class := { plain "[D" (some 0) with kind := .array 7 .double, interfaces := #[3, 4], accessFlags := 1041 }

/-- the primitive int -/
def k9 : Class := { plain "int" none with kind := .primitive 'I', accessFlags := 0x411 }
/-- [I -/
def k10 : Class := { plain "[I" (some 0) with kind := .array 9 .int, interfaces := #[3, 4], accessFlags := 1041 }

def heap : Heap := #[]
def classes : Array Class := #[k0, k1, k2, k3, k4, k5, k6, k7, k8, k9, k10]
def interned : List (Array UInt16 × Addr) := []
def slotsUsed : Nat := 0
def theMethod : MethodId := ⟨1, 1⟩
def args0 : Array Value := #[.int 5, .int 6, .int 7, .int 8, .int 8]
def aboutOver (below : List Frame) : State where
  vm := { classes := classes, interned := interned.toArray }
  heap := heap
  slotsUsed := slotsUsed
  threads := #[{ frames := .invoking theMethod args0 :: below }]
def below0 : List Frame := [.native { method := ⟨0, 0⟩, args := #[] }]
def about1 : State := aboutOver below0
def p0 : Program := .bare "" "" ""
def e0 : Env := launch0.env 0 0 0
theorem w_frames : about1.frames = Frame.invoking theMethod args0 :: below0 := rfl
set_option maxRecDepth 65536 in
theorem w_args : argsFit about1.vm theMethod args0 = true := by decide +kernel
set_option maxRecDepth 65536 in
theorem w_heap : heapFits about1 = true := by decide +kernel
set_option maxRecDepth 65536 in
theorem w_runnable : about1.curStatus? = some .runnable := by decide +kernel
set_option maxRecDepth 65536 in
theorem w_alone : about1.alone = true := by decide +kernel
set_option maxRecDepth 65536 in
theorem w_named : about1.methodNamed? x = some theMethod := by decide +kernel
set_option maxRecDepth 65536 in
theorem w_hears : about1.hears theMethod below0 = true := by decide +kernel
set_option maxRecDepth 65536 in
theorem w_ripe : about1.ripe theMethod args0 below0 = true := by decide +kernel
theorem w_running : about1.status = .running := rfl
set_option maxRecDepth 65536 in
theorem w_room : about1.hasRoom e0.platform room_1 = true :=
  launch0.hasRoom_least _ room_1 (by decide +kernel) (by decide +kernel) (by decide +kernel) (by decide +kernel) (by decide +kernel) (by decide +kernel)
theorem allAtoms_all (ts : List Jvm.Cond) (a : Array Jvm.Value) (st : Jvm.State) : (allAtoms ts).before a st = ts.all (fun c => c.before a st) := by
  induction ts with
  | nil => rfl
  | cons c t ih =>
    show (Jvm.Cond.and c (allAtoms t)).before a st = _
    rw [Jvm.Cond.before_and, ih, List.all_cons]
def words1 : List Jvm.Cond := Jvm.Cond.code x code maxLocals ret :: tables_1
/-- a 'code' word, met by the world's own term for the bytes: nothing is compared byte by byte -/
theorem code_word {y : MethodName} {bytes : ByteArray} {mx : Nat} {rt : Option FieldType} {a : Array Value} {s : State} {m : MethodId} {meth : Method} {c : Code} (h1 : s.methodNamed? y = some m) (h2 : s.vm.method? m = some meth) (h3 : meth.code = some c) (h4 : c.code = bytes)
    (h5 : (c.maxLocals == mx && c.exceptionTable.isEmpty && decide (c.maxStack ≤ mostOperands) && decide (meth.sig.returnType = rt) && !meth.locks && decide (parseMethodDescriptor y.desc = some meth.sig)) = true) : (Jvm.Cond.code y bytes mx rt).before a s = true := by
  simp only [Bool.and_eq_true, beq_iff_eq, Bool.not_eq_true', decide_eq_true_eq] at h5
  obtain ⟨⟨⟨⟨⟨g1, g2⟩, g3⟩, g4⟩, g5⟩, g6⟩ := h5
  simp [Cond.before, Cond.holds, Cond.value, h1, h2, h3, h4, g1, g2, g3, g4, g5, g6]
def isCode : Jvm.Cond → Bool
  | .code _ _ _ _ => true
  | _ => false
theorem all_split {L : List Jvm.Cond} {P : Jvm.Cond → Bool} (h1 : L.all (fun c => isCode c || P c) = true) (h2 : ∀ c ∈ L.filter isCode, P c = true) : L.all P = true := by
  refine List.all_eq_true.mpr fun c hc => ?_
  have h := List.all_eq_true.mp h1 c hc
  rcases Bool.eq_false_or_eq_true (isCode c) with hi | hi
  · exact h2 c (List.mem_filter.mpr ⟨hc, hi⟩)
  · simpa [hi] using h
set_option maxRecDepth 65536 in
theorem w_c0 : (Jvm.Cond.code x code maxLocals ret).before args0 about1 = true := code_word (m := ⟨1, 1⟩) (meth := k1m1) (c := k1c1) (by decide +kernel) rfl rfl rfl (by decide +kernel)
set_option maxRecDepth 65536 in
theorem w_c1 : (Jvm.Cond.code ({ cls := "com/example/weftbind/weftbind/RouteExtremes", name := "extremeCandidate", desc := "([DD)I" } : Jvm.MethodName) prog_146_method_5_code (5 : Nat) (Option.some Jvm.ClassFile.FieldType.int)).before args0 about1 = true := code_word (m := ⟨2, 0⟩) (meth := k2m0) (c := k2c0) (by decide +kernel) rfl rfl rfl (by decide +kernel)
set_option maxRecDepth 65536 in
theorem w_c2 : (Jvm.Cond.code ({ cls := "com/example/weftbind/weftbind/RouteExtremesExtremeCandidatePinLaw", name := "ok", desc := "([DIIIDD)Z" } : Jvm.MethodName) method_3_code (10 : Nat) (Option.some Jvm.ClassFile.FieldType.boolean)).before args0 about1 = true := code_word (m := ⟨1, 2⟩) (meth := k1m2) (c := k1c2) (by decide +kernel) rfl rfl rfl (by decide +kernel)
def codes1 : List Jvm.Cond := [Jvm.Cond.code x code maxLocals ret, Jvm.Cond.code ({ cls := "com/example/weftbind/weftbind/RouteExtremes", name := "extremeCandidate", desc := "([DD)I" } : Jvm.MethodName) prog_146_method_5_code (5 : Nat) (Option.some Jvm.ClassFile.FieldType.int), Jvm.Cond.code ({ cls := "com/example/weftbind/weftbind/RouteExtremesExtremeCandidatePinLaw", name := "ok", desc := "([DIIIDD)Z" } : Jvm.MethodName) method_3_code (10 : Nat) (Option.some Jvm.ClassFile.FieldType.boolean)]
set_option maxRecDepth 65536 in
theorem codes_eq : words1.filter isCode = codes1 := rfl
theorem w_codes : ∀ c ∈ words1.filter isCode, c.before args0 about1 = true := by
  rw [codes_eq]
  intro c hc
  simp only [codes1, List.mem_cons, List.not_mem_nil, or_false] at hc
  rcases hc with rfl | rfl | rfl
  · exact w_c0
  · exact w_c1
  · exact w_c2
set_option maxRecDepth 65536 in
theorem w_t1 : words1.all (fun c => isCode c || c.before args0 about1) = true := by decide +kernel
theorem w_tables : (allAtoms (Jvm.Cond.code x code maxLocals ret :: tables_1)).before args0 about1 = true := by
  rw [allAtoms_all]
  show words1.all (fun c => c.before args0 about1) = true
  refine all_split ?_ w_codes
  rw [w_t1]
set_option maxRecDepth 65536 in
theorem w_case : (Jvm.Cond.and given_1 narrow_1).before args0 about1 = true := by decide +kernel
theorem w_applies : (headSpec (Jvm.Cond.code x code maxLocals ret :: tables_1) room_1).applies x e0.platform about1 = true :=
  (Spec.applies_iff w_frames).mpr ⟨w_running, w_runnable, w_alone, w_named, w_hears, w_ripe, w_room, w_tables⟩
theorem atStart : AtStart classFile x code maxLocals ret World_1 tables_1 room_1 Calls_1 rest_1 Pre_1 launch0 p0 e0 about1 theMethod args0 below0 :=
  ⟨lists_1, trivial, launch0.admits_env _ _ _, launch0.least_env, fairChoices_fair.cas, fairChoices_fair.clock, w_frames, w_args, w_heap, w_applies, trivial, trivial, w_case⟩
end start1
theorem witness_1 : WitnessClaimed_1 := ⟨start1.p0, start1.e0, start1.about1, start1.theMethod, start1.args0, start1.below0, start1.atStart⟩
end Jvm.Pilot.@@N@@
