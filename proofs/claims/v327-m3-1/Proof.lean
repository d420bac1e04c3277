import JvmDerived
import JvmDerived.Pilot.@@N@@Statement
import JvmDerived.Pilot.@@N@@Code
set_option linter.unusedVariables false
set_option linter.unusedSimpArgs false
namespace Jvm.Pilot.@@N@@
open Jvm Jvm.ClassFile Sem Op Lib Jvm.Free Jvm.Stand Jvm.LawKit Jvm.RoadKit Bundle Jvm.Pilot.@@N@@.Jvm.D
/-! the walk's goal in continuation style -/
def own_Ends (p : Program) (e : Env) (below : List Frame) (s : State) (Q : Option Value → Heap → List Loc → Prop) (k n : Nat) (t : State) : Prop :=
  ∃ s₂ o, Steps p.tables e below t s₂ ∧ s₂.status = .running ∧ Ended s₂ below o ∧ ∃ v L, o = .returned v ∧ Q v s₂.heap L ∧ FrameEnd s o s₂ L k n
section OwnEnds
variable {p : Program} {l : Launch} {e : Env} {R : Room} {s : State} {m : MethodId} {args : Array Value} {below : List Frame} {meth : Method} {c : Code} {T : State} {locs : List Loc} {cells slots : Nat} {Q : Option Value → Heap → List Loc → Prop} {k n : Nat}
theorem own_go {t t' : State} (h : ∀ u, Steps p.tables e below t' u → Steps p.tables e below t u) (g : own_Ends p e below s Q k n t') : own_Ends p e below s Q k n t := by
  obtain ⟨s₂, o, h1, h2⟩ := g
  exact ⟨s₂, o, h _ h1, h2⟩
theorem own_retN (X : Stand p l e R s m args below meth c T locs cells slots) (hx : p.tables.exec = Jvm.exec) {pc : Nat} {Ls : Array Slot} {z w : Int32} {t : FieldType} {rest : List Value} (hret : meth.sig.returnType = some t) (ht : t = .boolean ∨ t = .byte ∨ t = .char ∨ t = .short)
    (hd : decode c.code pc = .ok (.ireturn, 1)) (hlk : meth.locks = false) (hz : nar t z = w) (hQ : Q (some (.int w)) T.heap locs) (hk : cells ≤ k) (hn : slots ≤ n) : own_Ends p e below s Q k n (T.setTop (mkF m pc Ls (.int z :: rest))) := by
  subst hz
  obtain ⟨fs, hr, hrun, hended, hW, hsame⟩ := X.leave (v := some (.int (nar t z))) (fun h => by rw [hret] at h; cases h) hlk
  exact ⟨_, _, retN X hx hret ht hd hr, hrun, hended, _, _, rfl, hQ, ⟨_, rfl⟩, hW, hsame.mono hk hn⟩
theorem own_ret (X : Stand p l e R s m args below meth c T locs cells slots) (hx : p.tables.exec = Jvm.exec) {pc : Nat} {Ls : Array Slot} {w : Value} {t : FieldType} {i : Instr} {rest : List Value} (hret : meth.sig.returnType = some t) (hn' : narrow t w = w)
    (hi : (i = .ireturn ∧ (t = .int ∨ t = .boolean ∨ t = .byte ∨ t = .char ∨ t = .short) ∧ ∃ z, w = .int z) ∨ (i = .lreturn ∧ t = .long ∧ ∃ z, w = .long z) ∨ (i = .dreturn ∧ t = .double ∧ ∃ z, w = .double z) ∨ (i = .freturn ∧ t = .float ∧ ∃ z, w = .float z) ∨ (i = .areturn ∧ t.isReference = true ∧ w.isRef = true))
    (hd : decode c.code pc = .ok (i, 1)) (hlk : meth.locks = false) (hQ : Q (some w) T.heap locs) (hk : cells ≤ k) (hn : slots ≤ n) : own_Ends p e below s Q k n (T.setTop (mkF m pc Ls (w :: rest))) := by
  obtain ⟨fs, hr, hrun, hended, hW, hsame⟩ := X.leave (v := some w) (fun h => by rw [hret] at h; cases h) hlk
  exact ⟨_, _, retOut X hx hret hn' hi hd hr, hrun, hended, _, _, rfl, hQ, ⟨_, rfl⟩, hW, hsame.mono hk hn⟩
theorem own_ret0 (X : Stand p l e R s m args below meth c T locs cells slots) (hx : p.tables.exec = Jvm.exec) {pc : Nat} {Ls : Array Slot} (hret : meth.sig.returnType = none)
    (hd : decode c.code pc = .ok (.return_, 1)) (hlk : meth.locks = false) (hQ : Q none T.heap locs) (hk : cells ≤ k) (hn : slots ≤ n) : own_Ends p e below s Q k n (T.setTop (mkF m pc Ls [])) := by
  obtain ⟨fs, hr, hrun, hended, hW, hsame⟩ := X.leave (v := none) (fun _ => rfl) hlk
  exact ⟨_, _, X.returnOut hx hret hd hr, hrun, hended, _, _, rfl, hQ, ⟨_, rfl⟩, hW, hsame.mono hk hn⟩
end OwnEnds
/-! the same, where String constants are resolved on the way (the wide frame) -/
def own_EndsW (p : Program) (e : Env) (below : List Frame) (s : State) (Q : Option Value → Heap → List Loc → Prop) (k n : Nat) (t : State) : Prop :=
  ∃ s₂ o, Steps p.tables e below t s₂ ∧ s₂.status = .running ∧ Ended s₂ below o ∧ ∃ v L, o = .returned v ∧ Q v s₂.heap L ∧ ReturnedEndW s o s₂ L k n
section OwnEndsW
variable {p : Program} {l : Launch} {e : Env} {R : Room} {s : State} {vm0 : Vm} {k0 : Nat} {m : MethodId} {args : Array Value} {below : List Frame} {meth : Method} {c : Code} {T : State} {locs : List Loc} {cells slots : Nat} {Q : Option Value → Heap → List Loc → Prop} {k n : Nat}
theorem own_goW {t t' : State} (h : ∀ u, Steps p.tables e below t' u → Steps p.tables e below t u) (g : own_EndsW p e below s Q k n t') : own_EndsW p e below s Q k n t := by
  obtain ⟨s₂, o, h1, h2⟩ := g
  exact ⟨s₂, o, h _ h1, h2⟩
theorem own_leaveW (X : Stand p l e R (s.setVm vm0) m args below meth c T locs cells slots) (hS : s.Since vm0 k0) (hk : k0 ≤ T.heap.size) {v : Option Value} (hv : meth.sig.returnType = none → v = none) (hlk : meth.locks = false) (hc : cells ≤ k) (hn : slots ≤ n) :
    ∃ fs, (∀ (f : JFrame) (acts : List Action), f.method = m → f.locked = none → f.entered = [] → (doReturn e (T.setTop f) acts v).1 = T.setFrames fs) ∧ (T.setFrames fs).status = .running ∧ Ended (T.setFrames fs) below (.returned v) ∧ ReturnedEndW s (.returned v) (T.setFrames fs) locs k n := by
  obtain ⟨fs, hr, hrun, hended, hW, hsame⟩ := X.leave (v := v) hv hlk
  have h := hS.ended (U := T.setFrames fs) hW hk (hsame.mono hc hn)
  exact ⟨fs, hr, hrun, hended, ⟨v, rfl⟩, h.1, h.2.1, h.2.2⟩
theorem own_retNW (X : Stand p l e R (s.setVm vm0) m args below meth c T locs cells slots) (hx : p.tables.exec = Jvm.exec) {pc : Nat} {Ls : Array Slot} {z w : Int32} {t : FieldType} {rest : List Value} (hret : meth.sig.returnType = some t) (ht : t = .boolean ∨ t = .byte ∨ t = .char ∨ t = .short) (hS : s.Since vm0 k0) (hk0 : k0 ≤ T.heap.size)
    (hd : decode c.code pc = .ok (.ireturn, 1)) (hlk : meth.locks = false) (hz : nar t z = w) (hQ : Q (some (.int w)) T.heap locs) (hk : cells ≤ k) (hn : slots ≤ n) : own_EndsW p e below s Q k n (T.setTop (mkF m pc Ls (.int z :: rest))) := by
  subst hz
  obtain ⟨fs, hr, hrun, hended, hend⟩ := own_leaveW X hS hk0 (v := some (.int (nar t z))) (fun h => by rw [hret] at h; cases h) hlk hk hn
  exact ⟨_, _, retN X hx hret ht hd hr, hrun, hended, _, _, rfl, hQ, hend⟩
theorem own_retW (X : Stand p l e R (s.setVm vm0) m args below meth c T locs cells slots) (hx : p.tables.exec = Jvm.exec) {pc : Nat} {Ls : Array Slot} {w : Value} {t : FieldType} {i : Instr} {rest : List Value} (hret : meth.sig.returnType = some t) (hn' : narrow t w = w)
    (hi : (i = .ireturn ∧ (t = .int ∨ t = .boolean ∨ t = .byte ∨ t = .char ∨ t = .short) ∧ ∃ z, w = .int z) ∨ (i = .lreturn ∧ t = .long ∧ ∃ z, w = .long z) ∨ (i = .dreturn ∧ t = .double ∧ ∃ z, w = .double z) ∨ (i = .freturn ∧ t = .float ∧ ∃ z, w = .float z) ∨ (i = .areturn ∧ t.isReference = true ∧ w.isRef = true))
    (hS : s.Since vm0 k0) (hk0 : k0 ≤ T.heap.size) (hd : decode c.code pc = .ok (i, 1)) (hlk : meth.locks = false) (hQ : Q (some w) T.heap locs) (hk : cells ≤ k) (hn : slots ≤ n) : own_EndsW p e below s Q k n (T.setTop (mkF m pc Ls (w :: rest))) := by
  obtain ⟨fs, hr, hrun, hended, hend⟩ := own_leaveW X hS hk0 (v := some w) (fun h => by rw [hret] at h; cases h) hlk hk hn
  exact ⟨_, _, retOut X hx hret hn' hi hd hr, hrun, hended, _, _, rfl, hQ, hend⟩
theorem own_ret0W (X : Stand p l e R (s.setVm vm0) m args below meth c T locs cells slots) (hx : p.tables.exec = Jvm.exec) {pc : Nat} {Ls : Array Slot} (hret : meth.sig.returnType = none) (hS : s.Since vm0 k0) (hk0 : k0 ≤ T.heap.size)
    (hd : decode c.code pc = .ok (.return_, 1)) (hlk : meth.locks = false) (hQ : Q none T.heap locs) (hk : cells ≤ k) (hn : slots ≤ n) : own_EndsW p e below s Q k n (T.setTop (mkF m pc Ls [])) := by
  obtain ⟨fs, hr, hrun, hended, hend⟩ := own_leaveW X hS hk0 (v := none) (fun _ => rfl) hlk hk hn
  exact ⟨_, _, X.returnOut hx hret hd hr, hrun, hended, _, _, rfl, hQ, hend⟩
end OwnEndsW
theorem pd_0 : parseMethodDescriptor "(I)C" = some ⟨[.int], some .char⟩ := by decide +kernel
theorem pd_1 : parseMethodDescriptor "(ICCCC)[C" = some ⟨[.int, .char, .char, .char, .char], some (.array .char)⟩ := by decide +kernel
theorem pd_2 : parseMethodDescriptor "([CI)Z" = some ⟨[(.array .char), .int], some .boolean⟩ := by decide +kernel
theorem pd_3 : parseMethodDescriptor "([C)V" = some ⟨[(.array .char)], none⟩ := by decide +kernel
theorem pd_4 : parseMethodDescriptor "([CIILjava/lang/Void;)V" = some ⟨[(.array .char), .int, .int, (.object "java/lang/Void")], none⟩ := by decide +kernel
theorem pd_5 : parseMethodDescriptor "()V" = some ⟨[], none⟩ := by decide +kernel
theorem pd_6 : parseMethodDescriptor "(Ljava/lang/String;)Z" = some ⟨[(.object "java/lang/String")], some .boolean⟩ := by decide +kernel
theorem pd_7 : parseMethodDescriptor "()I" = some ⟨[], some .int⟩ := by decide +kernel
theorem pd_8 : parseMethodDescriptor "()B" = some ⟨[], some .byte⟩ := by decide +kernel
theorem pd_9 : parseMethodDescriptor "(C)Z" = some ⟨[.char], some .boolean⟩ := by decide +kernel
theorem pd_10 : parseMethodDescriptor "([CII)[B" = some ⟨[(.array .char), .int, .int], some (.array .byte)⟩ := by decide +kernel
theorem pd_11 : parseMethodDescriptor "([CI[BII)I" = some ⟨[(.array .char), .int, (.array .byte), .int, .int], some .int⟩ := by decide +kernel
theorem pd_12 : parseMethodDescriptor "(I)[B" = some ⟨[.int], some (.array .byte)⟩ := by decide +kernel
theorem pd_13 : parseMethodDescriptor "(I)I" = some ⟨[.int], some .int⟩ := by decide +kernel
theorem pd_14 : parseMethodDescriptor "([BII)V" = some ⟨[(.array .byte), .int, .int], none⟩ := by decide +kernel
theorem pd_15 : parseMethodDescriptor "([BI)C" = some ⟨[(.array .byte), .int], some .char⟩ := by decide +kernel
theorem pd_16 : parseMethodDescriptor "([BI)B" = some ⟨[(.array .byte), .int], some .byte⟩ := by decide +kernel
theorem pd_17 : parseMethodDescriptor "()Z" = some ⟨[], some .boolean⟩ := by decide +kernel
theorem pd_18 : parseMethodDescriptor "(II)V" = some ⟨[.int, .int], none⟩ := by decide +kernel
theorem pd_19 : parseMethodDescriptor "(IILjava/util/function/BiFunction;)I" = some ⟨[.int, .int, (.object "java/util/function/BiFunction")], some .int⟩ := by decide +kernel
theorem pd_20 : parseMethodDescriptor "([BII)I" = some ⟨[(.array .byte), .int, .int], some .int⟩ := by decide +kernel
theorem pd_21 : parseMethodDescriptor "([BIIZ)I" = some ⟨[(.array .byte), .int, .int, .boolean], some .int⟩ := by decide +kernel
theorem pd_22 : parseMethodDescriptor "(CC)I" = some ⟨[.char, .char], some .int⟩ := by decide +kernel
theorem own_ofNat_lt {i n : Nat} (hi : i < 2 ^ 31) (hn : n < 2 ^ 31) : (Int32.ofNat i < Int32.ofNat n) ↔ i < n := by
  rw [Int32.lt_iff_toInt_lt, Int32.toInt_ofNat_small hi, Int32.toInt_ofNat_small hn]; omega
theorem own_nneg {i : Nat} (hi : i < 2 ^ 31) : ¬ Int32.ofNat i < 0 := by
  have := own_ofNat_lt (i := i) (n := 0) hi (by decide)
  intro h
  exact absurd (this.mp h) (Nat.not_lt_zero _)
theorem own_clamp {i : Nat} (hi : i < 2 ^ 31) : (Int32.ofNat i).toNatClampNeg = i := by
  show (Int32.ofNat i).toInt.toNat = i
  rw [Int32.toInt_ofNat_small hi]; exact Int.toNat_natCast i
theorem own_up (i : Nat) : Int32.ofNat i + (1 : Int32) = Int32.ofNat (i + 1) := (Int32.ofNat_add i 1).symm
theorem own_getD (xs : List Int32) {j : Nat} (hj : j < 2 ^ 31) : (xs.map Value.int).getD (Int32.ofNat j).toNatClampNeg (.int (0 : Int32)) = .int (xs.getD j 0) := by
  rw [own_clamp hj, List.getD_eq_getElem?_getD, List.getElem?_map, List.getD_eq_getElem?_getD]
  cases xs[j]? <;> rfl
theorem own_e0 : ((0:Int32) &&& 31) = 0 := by decide
theorem own_e8 : ((8:Int32) &&& 31) = 8 := by decide
theorem own_bb (x : BitVec 32) : (BitVec.setWidth 32 (BitVec.setWidth 16 (((BitVec.signExtend 32 (BitVec.signExtend 8 (BitVec.signExtend 32 (BitVec.signExtend 8 x)))) &&& 255#32) ||| (((BitVec.signExtend 32 (BitVec.signExtend 8 (BitVec.signExtend 32 (BitVec.signExtend 8 (x.sshiftRight 8))))) &&& 255#32) <<< 8)))) = BitVec.setWidth 32 (BitVec.setWidth 16 x) := by
  have h255 : ∀ i, (255#32).getLsbD i = decide (i < 8) := by
    intro i
    by_cases h : i < 32
    · revert i; decide
    · rw [BitVec.getLsbD_of_ge _ _ (by omega)]; simp; omega
  apply BitVec.eq_of_getLsbD_eq
  intro i hi
  simp only [BitVec.getLsbD_setWidth, BitVec.getLsbD_or, BitVec.getLsbD_and, BitVec.getLsbD_shiftLeft, BitVec.getLsbD_signExtend, BitVec.getLsbD_sshiftRight, h255]
  by_cases h8 : i < 8
  · simp [h8, hi, show i < 16 by omega]
  · by_cases h16 : i < 16
    · simp [h8, hi, h16, show i - 8 < 8 by omega, show i - 8 < 32 by omega, show 8 + (i - 8) = i by omega]
    · simp [h16]
theorem own_r8 (x : Int32) : (x >>> (8 : Int32)).toBitVec = x.toBitVec.sshiftRight 8 := by
  rw [Int32.toBitVec_shiftRight]; rfl
theorem own_l8 (x : Int32) : (x <<< (8 : Int32)).toBitVec = x.toBitVec <<< 8 := by
  rw [Int32.toBitVec_shiftLeft]; rfl
def own_loI (c : Int32) : Int32 := nar .byte ((c >>> ((0 : Int32) &&& 31)).toInt8.toInt32)
def own_hiI (c : Int32) : Int32 := nar .byte ((c >>> ((8 : Int32) &&& 31)).toInt8.toInt32)
def own_laI (c : Int32) : Int32 := nar .byte (c.toInt8.toInt32)
theorem own_u16 (c : Int32) : (((own_loI c &&& (255 : Int32)) <<< ((0:Int32) &&& 31)) ||| ((own_hiI c &&& (255 : Int32)) <<< ((8:Int32) &&& 31))).toUInt32.toUInt16.toUInt32.toInt32 = nar .char c := by
  unfold own_loI own_hiI
  rw [own_e0, own_e8]
  apply Int32.toBitVec_inj.mp
  have h := own_bb c.toBitVec
  have s0 : ∀ x : Int32, x >>> (0 : Int32) = x := fun x => Int32.shiftRight_zero
  have l0 : ∀ x : Int32, x <<< (0 : Int32) = x := fun x => Int32.shiftLeft_zero
  rw [s0, l0]
  show BitVec.setWidth 32 (BitVec.setWidth 16 (((BitVec.signExtend 32 (BitVec.signExtend 8 (BitVec.signExtend 32 (BitVec.signExtend 8 c.toBitVec)))) &&& 255#32) ||| ((nar .byte ((c >>> (8 : Int32)).toInt8.toInt32) &&& (255 : Int32)) <<< (8 : Int32)).toBitVec)) = BitVec.setWidth 32 (BitVec.setWidth 16 c.toBitVec)
  rw [own_l8]
  show BitVec.setWidth 32 (BitVec.setWidth 16 (((BitVec.signExtend 32 (BitVec.signExtend 8 (BitVec.signExtend 32 (BitVec.signExtend 8 c.toBitVec)))) &&& 255#32) ||| (((BitVec.signExtend 32 (BitVec.signExtend 8 (BitVec.signExtend 32 (BitVec.signExtend 8 (c >>> (8 : Int32)).toBitVec)))) &&& 255#32) <<< 8))) = BitVec.setWidth 32 (BitVec.setWidth 16 c.toBitVec)
  rw [own_r8]
  exact h
theorem own_lat0 : ∀ k : Fin 256, (own_laI (Int32.ofNat k.val) &&& (255 : Int32)).toUInt32.toUInt16.toUInt32.toInt32 = Int32.ofNat k.val := by decide +kernel
theorem own_chn (x : Int32) : 0 ≤ (nar .char x).toInt ∧ (nar .char x).toInt ≤ 65535 := by
  have h := fits_nar_char x
  simpa [fits, Int32.le_iff_toInt_le, show (0 : Int32).toInt = 0 from by decide, show (65535 : Int32).toInt = 65535 from by decide] using h
theorem own_charid {c : Int32} (h : 0 ≤ c.toInt ∧ c.toInt ≤ 65535) : nar .char c = c := by
  apply Int32.toBitVec_inj.mp
  apply BitVec.eq_of_toNat_eq
  show (BitVec.setWidth 32 (BitVec.setWidth 16 c.toBitVec)).toNat = _
  rw [BitVec.toNat_setWidth, BitVec.toNat_setWidth]
  have h1 : (c.toInt : Int) = c.toBitVec.toInt := rfl
  rw [BitVec.toInt_eq_toNat_cond] at h1
  split at h1 <;> omega
theorem own_nn (x : Int32) : nar .char (nar .char x) = nar .char x := own_charid (own_chn x)
theorem own_gc {c : Int32} (h : nar .char c = c) : nar .char ((((own_loI c &&& (255 : Int32)) <<< ((0:Int32) &&& 31)) ||| ((own_hiI c &&& (255 : Int32)) <<< ((8:Int32) &&& 31))).toUInt32.toUInt16.toUInt32.toInt32) = c := by
  rw [own_u16, h, h]
theorem own_back (c : Int32) (h : 0 ≤ c.toInt) : c = Int32.ofNat c.toInt.toNat := by
  rw [← Int32.toInt_inj]
  have := rng32 c
  rw [Int32.toInt_ofNat_small (by omega)]
  omega
theorem own_lat {c : Int32} (h : nar .char c = c) (hl : ¬ (255 : Int32) < c) : nar .char ((own_laI c &&& (255 : Int32)).toUInt32.toUInt16.toUInt32.toInt32) = c := by
  have h1 := own_chn c
  rw [h] at h1
  have e : (255 : Int32).toInt = 255 := by decide
  rw [Int32.lt_iff_toInt_lt, e] at hl
  have q := own_lat0 ⟨c.toInt.toNat, by omega⟩
  dsimp only at q
  rw [← own_back c h1.1] at q
  rw [q, h]
theorem own_dbl {n : Nat} (h : n < 2 ^ 20) : Int32.ofNat n <<< ((1 : Int32) &&& 31) = Int32.ofNat (2 * n) := by
  have e1 : ((1:Int32) &&& 31) = 1 := by decide
  rw [e1]
  apply Int32.toBitVec_inj.mp
  rw [Int32.toBitVec_shiftLeft]
  apply BitVec.eq_of_toNat_eq
  show ((Int32.ofNat n).toBitVec <<< 1).toNat = (Int32.ofNat (2 * n)).toBitVec.toNat
  rw [BitVec.toNat_shiftLeft]
  show ((n % 2 ^ 32) <<< 1) % 2 ^ 32 = (2 * n) % 2 ^ 32
  rw [Nat.shiftLeft_eq]
  omega
def own_lh (c : Int32) : List Value := [.int (own_loI c), .int (own_hiI c)]
def own_bv (c : Int32) : Value := .int (own_laI c)
def own_zz (kc : Int32) (n : Nat) : Int32 := if kc = 0 then Int32.ofNat n else Int32.ofNat (2 * n)
def own_vs (kc : Int32) (cs : List Int32) : List Value := if kc = 0 then cs.map own_bv else cs.flatMap own_lh
def own_KC (kc : Int32) (cs : List Int32) : Prop := (kc = 0 ∧ ∀ c ∈ cs, ¬ (255 : Int32) < c) ∨ kc = 1
def own_Ch (cs : List Int32) : Prop := ∀ c ∈ cs, nar .char c = c
theorem own_mem {cs : List Int32} {i : Nat} (h : i < cs.length) : cs.getD i 0 ∈ cs := by
  rw [List.getD_eq_getElem?_getD, List.getElem?_eq_getElem h]
  exact List.getElem_mem h
theorem own_take (cs : List Int32) {i : Nat} (h : i < cs.length) : cs.take (i + 1) = cs.take i ++ [cs.getD i 0] := by
  rw [List.take_add_one, List.getElem?_eq_getElem h, List.getD_eq_getElem?_getD, List.getElem?_eq_getElem h]; rfl
theorem own_fm (cs : List Int32) {i : Nat} (h : i < cs.length) : (cs.take i).flatMap own_lh ++ [.int (own_loI (cs.getD i 0))] ++ [.int (own_hiI (cs.getD i 0))] = (cs.take (i + 1)).flatMap own_lh := by
  rw [own_take cs h, List.flatMap_append]; simp [own_lh]
theorem own_fml (cs : List Int32) : (cs.flatMap own_lh).length = 2 * cs.length := by
  induction cs with
  | nil => rfl
  | cons c cs ih => rw [List.flatMap_cons, List.length_append, ih]; simp [own_lh]; omega
theorem own_fmt (cs : List Int32) {i : Nat} (h : i ≤ cs.length) : ((cs.take i).flatMap own_lh).length = 2 * i := by
  rw [own_fml, List.length_take]; omega
theorem own_fm0 (cs : List Int32) : ∀ {i : Nat}, i < cs.length → (cs.flatMap own_lh).getD (2 * i) (.int (0 : Int32)) = .int (own_loI (cs.getD i 0)) ∧ (cs.flatMap own_lh).getD (2 * i + 1) (.int (0 : Int32)) = .int (own_hiI (cs.getD i 0)) := by
  induction cs with
  | nil => intro i h; exact absurd h (Nat.not_lt_zero _)
  | cons c cs ih =>
    intro i h
    cases i with
    | zero => exact ⟨rfl, rfl⟩
    | succ i =>
      have q := ih (i := i) (by simpa using h)
      rw [show 2 * (i + 1) = 2 * i + 2 by omega, show 2 * i + 2 + 1 = 2 * i + 1 + 2 by omega]
      exact q
theorem own_la (cs : List Int32) {i : Nat} (h : i < cs.length) : (cs.map own_bv).getD i (.int (0 : Int32)) = .int (own_laI (cs.getD i 0)) := by
  rw [List.getD_eq_getElem?_getD, List.getElem?_map, List.getElem?_eq_getElem h, List.getD_eq_getElem?_getD, List.getElem?_eq_getElem h]; rfl
theorem own_snoc {Z : State} {h h' : Heap} {a : Addr} {k : ClassId} {ty : FieldType} {z j : Int32} {vs : List Value} {dv v : Value} {c : Cell} (A : Arr Z h a c ty) (q1 : c.cls = k) (S : c.slots.size = z.toNatClampNeg) (q3 : ¬ z < 0) (H : Has c vs dv) (G : ∀ i, i < c.slots.size → fits ty (vs.getD i dv) = true) (hv : fits ty v = true) (W : Wr h h' a j.toNatClampNeg v) (hj : j.toNatClampNeg = vs.length) : Arv Z h' a k ty z (vs ++ [v]) dv := by
  have P := pad_rep vs dv 1
  have r := Arv.set (vs := vs ++ List.replicate 1 dv) A q1 S q3 (fun i hi => by rw [P]; exact H i hi) (fun i hi => by rw [P]; exact G i hi) hv W vs.length hj (by simp)
  have e : (vs ++ List.replicate 1 dv).set vs.length v = vs ++ [v] := by simp [List.set_append]
  rw [e] at r
  exact r
def own_cal (n z : Int32) : Int32 := nar .byte ((((n - z).toUInt32 >>> ((31 : Int32) &&& 31).toUInt32).toInt32).toInt8.toInt32)
theorem own_cal1 : ∀ n : Fin 64, (own_cal (Int32.ofNat n.val) (Int32.ofNat n.val) = 0 ∧ (1 ≤ n.val → own_cal (Int32.ofNat n.val) (Int32.ofNat (2 * n.val)) = 1)) := by decide +kernel
theorem own_calk {kc : Int32} {cs : List Int32} (h : own_KC kc cs) (h1 : 1 ≤ cs.length) (h2 : cs.length < 64) : own_cal (Int32.ofNat cs.length) (own_zz kc cs.length) = kc := by
  have q := own_cal1 ⟨cs.length, h2⟩
  rcases h with ⟨rfl, -⟩ | rfl
  · exact q.1
  · exact q.2 h1
theorem own_kcb {kc : Int32} {cs : List Int32} (h : own_KC kc cs) : nar .byte kc = kc := by
  rcases h with ⟨rfl, -⟩ | rfl <;> decide
theorem own_zz0 {kc : Int32} {n : Nat} (h1 : 1 ≤ n) (h2 : n < 64) : ¬ own_zz kc n = 0 := by
  unfold own_zz
  split
  · intro h
    have q := congrArg Int32.toInt h
    rw [Int32.toInt_ofNat_small (by omega)] at q
    have e : (0 : Int32).toInt = 0 := by decide
    omega
  · intro h
    have q := congrArg Int32.toInt h
    rw [Int32.toInt_ofNat_small (by omega)] at q
    have e : (0 : Int32).toInt = 0 := by decide
    omega
theorem own_len1 : ∀ n : Fin 64, Int32.ofNat n.val >>> ((0 : Int32) &&& 31) = Int32.ofNat n.val ∧ Int32.ofNat (2 * n.val) >>> ((1 : Int32) &&& 31) = Int32.ofNat n.val := by decide +kernel
theorem own_lenk {kc : Int32} {cs : List Int32} (h : own_KC kc cs) (h2 : cs.length < 64) : own_zz kc cs.length >>> (kc &&& 31) = Int32.ofNat cs.length := by
  have q := own_len1 ⟨cs.length, h2⟩
  rcases h with ⟨rfl, -⟩ | rfl
  · exact q.1
  · exact q.2
def own_St (Z : State) (vc : Int32) (vf : Value) : Prop := ¬ vc = 0 ∧ Sta Z Z.heap "java/lang/String" "COMPACT_STRINGS" "Z" (.int vc) ∧ Sta Z Z.heap "java/lang/StringUTF16" "$assertionsDisabled" "Z" (.int (1 : Int32)) ∧ Sta Z Z.heap "java/lang/StringUTF16" "HI_BYTE_SHIFT" "I" (.int (0 : Int32)) ∧ Sta Z Z.heap "java/lang/StringUTF16" "LO_BYTE_SHIFT" "I" (.int (8 : Int32)) ∧ Sta Z Z.heap "jdk/internal/util/Preconditions" "SIOOBE_FORMATTER" "Ljava/util/function/BiFunction;" vf ∧ vf.isRef = true
theorem d16_0 : decode jdk_52_method_3_code 0 = .ok (.iload_n 0, 1) := by decide +kernel
theorem d16_1 : decode jdk_52_method_3_code 1 = .ok (.ifCond .ge 11, 3) := by decide +kernel
theorem d16_4 : decode jdk_52_method_3_code 4 = .ok (.new 17, 3) := by decide +kernel
theorem d16_7 : decode jdk_52_method_3_code 7 = .ok (.dup, 1) := by decide +kernel
theorem d16_8 : decode jdk_52_method_3_code 8 = .ok (.invokespecial 19, 3) := by decide +kernel
theorem d16_11 : decode jdk_52_method_3_code 11 = .ok (.athrow, 1) := by decide +kernel
theorem d16_12 : decode jdk_52_method_3_code 12 = .ok (.iload_n 0, 1) := by decide +kernel
theorem d16_13 : decode jdk_52_method_3_code 13 = .ok (.ldc 20, 2) := by decide +kernel
theorem d16_15 : decode jdk_52_method_3_code 15 = .ok (.if_icmp .lt 40, 3) := by decide +kernel
theorem d16_18 : decode jdk_52_method_3_code 18 = .ok (.new 21, 3) := by decide +kernel
theorem d16_21 : decode jdk_52_method_3_code 21 = .ok (.dup, 1) := by decide +kernel
theorem d16_22 : decode jdk_52_method_3_code 22 = .ok (.new 23, 3) := by decide +kernel
theorem d16_25 : decode jdk_52_method_3_code 25 = .ok (.dup, 1) := by decide +kernel
theorem d16_26 : decode jdk_52_method_3_code 26 = .ok (.invokespecial 25, 3) := by decide +kernel
theorem d16_29 : decode jdk_52_method_3_code 29 = .ok (.ldc 26, 2) := by decide +kernel
theorem d16_31 : decode jdk_52_method_3_code 31 = .ok (.invokevirtual 28, 3) := by decide +kernel
theorem d16_34 : decode jdk_52_method_3_code 34 = .ok (.iload_n 0, 1) := by decide +kernel
theorem d16_35 : decode jdk_52_method_3_code 35 = .ok (.invokevirtual 32, 3) := by decide +kernel
theorem d16_38 : decode jdk_52_method_3_code 38 = .ok (.ldc 35, 2) := by decide +kernel
theorem d16_40 : decode jdk_52_method_3_code 40 = .ok (.invokevirtual 28, 3) := by decide +kernel
theorem d16_43 : decode jdk_52_method_3_code 43 = .ok (.ldc 20, 2) := by decide +kernel
theorem d16_45 : decode jdk_52_method_3_code 45 = .ok (.invokevirtual 32, 3) := by decide +kernel
theorem d16_48 : decode jdk_52_method_3_code 48 = .ok (.invokevirtual 37, 3) := by decide +kernel
theorem d16_51 : decode jdk_52_method_3_code 51 = .ok (.invokespecial 41, 3) := by decide +kernel
theorem d16_54 : decode jdk_52_method_3_code 54 = .ok (.athrow, 1) := by decide +kernel
theorem d16_55 : decode jdk_52_method_3_code 55 = .ok (.iload_n 0, 1) := by decide +kernel
theorem d16_56 : decode jdk_52_method_3_code 56 = .ok (.iconst 1, 1) := by decide +kernel
theorem d16_57 : decode jdk_52_method_3_code 57 = .ok (.ishl, 1) := by decide +kernel
theorem d16_58 : decode jdk_52_method_3_code 58 = .ok (.ireturn, 1) := by decide +kernel
theorem pn_0 : plainName "java/lang/StringUTF16" = true := by first | (simp [plainName, overriddenIn]; done) | decide +kernel
theorem ef_16 (m : MethodId) (x0 : Int32) : entryFrame m #[(.int x0)] 1 = mkF m 0 #[.val (.int x0)] [] := by first | (simp [entryFrame, mkF, argsToLocals, Value.category]; done) | rfl
def Q16 (n : Nat) (h0 : Heap) (n0 : Nat) (Z : State) (v : Option Value) (h : Heap) (L : List Loc) : Prop := v = some (.int (Int32.ofNat (2 * n))) ∧ Fr n0 L ∧ h = h0
set_option maxRecDepth 65536 in
set_option maxHeartbeats 40000000 in
theorem rm16 (l : Launch) (Z : State) (a0 : Array Value) (hw : ∀ d ∈ tables_1, d.before a0 Z = true) (ws : List Jvm.Cond) (n : Nat) (h0 : Heap) (n0 : Nat) (Z0 : n0 ≤ h0.size) (hN : n ≤ 4) :
    MetFree l (⟨"java/lang/StringUTF16", "newBytesLength", "(I)I"⟩ : MethodName) (head1 (Jvm.Cond.code (⟨"java/lang/StringUTF16", "newBytesLength", "(I)I"⟩ : MethodName) jdk_52_method_3_code 1 (some .int) :: ws) ({ frames := 0, cells := 0, slots := 0, locals := 0 } : Room)) (fun a U => a = #[(.int (Int32.ofNat n))] ∧ Z.Warmed39 U.vm ∧ U.heap = h0) (fun _ _ _ _ _ => True) (fun _ U o U' => ∃ v L, o = .returned v ∧ Q16 n h0 n0 Z v U'.heap L ∧ FrameEnd U o U' L ({ frames := 0, cells := 0, slots := 0, locals := 0 } : Room).cells ({ frames := 0, cells := 0, slots := 0, locals := 0 } : Room).slots) := by
  refine MetFree.of_bodySF (plainFor_of_name pn_0) hisR ?_
  intro p e s m args below meth c s₁ Bd hml0 hP hK
  obtain ⟨rfl, hZ, hh⟩ := hP
  have hx := Bd.exec
  have hby := Bd.bytes
  have hml : c.maxLocals = 1 := hml0
  have hown : s.vm.findClass "java/lang/StringUTF16" = some m.cls := findClass_of_methodNamed Bd.named
  have hnm := (name_of_methodNamed Bd.named Bd.method).1
  have hlk := Bd.notSynchronized
  have hrt := Bd.returns
  have X0 : Stand p l e ({ frames := 0, cells := 0, slots := 0, locals := 0 } : Room) s m #[(.int (Int32.ofNat n))] below meth c s₁ [] 0 0 := Stand.of_body Bd
  have e0 : s₁.heap = h0 := by rw [← hh, Bd.state]; rfl
  have N0 := Fr.nil n0
  show own_Ends p e below s (Q16 n h0 n0 Z) ({ frames := 0, cells := 0, slots := 0, locals := 0 } : Room).cells ({ frames := 0, cells := 0, slots := 0, locals := 0 } : Room).slots (s₁.setTop (entryFrame m #[(.int (Int32.ofNat n))] 1))
  rw [ef_16]
  refine own_go (fun _ k => XS.iloadN X0.here hx rfl (hb hby d16_0) rfl <| XS.ifYes X0.here hx rfl (pc0 := 1) (pc' := 12) rfl (hb hby d16_1) rfl ((if0 _ _).trans (flt (own_nneg (by omega))).2.1) (by decide) (by decide) <| XS.iloadN X0.here hx rfl (hb hby d16_12) rfl <| X0.ldcI hx hown (mvT hZ (hw _ (List.mem_of_getElem? (i := 75) rfl))) rfl (hb hby d16_13) <| XS.icmpYes X0.here hx rfl (pc0 := 15) (pc' := 55) rfl (hb hby d16_15) rfl (tlt ((own_ofNat_lt (n := 1073741823) (by omega) (by decide)).mpr (by omega))).1 (by decide) (by decide) <| XS.iloadN X0.here hx rfl (hb hby d16_55) rfl <| XT.iconstV X0.here hx rfl (1 : Int32) (hb hby d16_56) rfl <| XS.ishl X0.here hx rfl (hb hby d16_57) rfl <| k) ?_
  show own_Ends p e below s _ _ _ (s₁.setTop (mkF m 58 #[.val (.int (Int32.ofNat n))] [(.int ((Int32.ofNat n) <<< ((1 : Int32) &&& 31)))]))
  exact own_ret X0 hx hrt rfl (Or.inl ⟨rfl, Or.inl rfl, _, rfl⟩) (hb hby d16_58) hlk (by rw [e0]; exact ⟨by rw [own_dbl (by omega)], N0, rfl⟩) (by decide) (by decide)
theorem d15_0 : decode jdk_52_method_2_code 0 = .ok (.iload_n 0, 1) := by decide +kernel
theorem d15_1 : decode jdk_52_method_2_code 1 = .ok (.invokestatic 11, 3) := by decide +kernel
theorem d15_4 : decode jdk_52_method_2_code 4 = .ok (.newarray .byte, 2) := by decide +kernel
theorem d15_6 : decode jdk_52_method_2_code 6 = .ok (.areturn, 1) := by decide +kernel
theorem ef_15 (m : MethodId) (x0 : Int32) : entryFrame m #[(.int x0)] 1 = mkF m 0 #[.val (.int x0)] [] := by first | (simp [entryFrame, mkF, argsToLocals, Value.category]; done) | rfl
def Q15 (n : Nat) (h0 : Heap) (n0 : Nat) (Z : State) (v : Option Value) (h : Heap) (L : List Loc) : Prop := ∃ b k, v = some (.ref b) ∧ Fr n0 L ∧ Keep h0 h [] ∧ n0 ≤ b ∧ h0.size ≤ b ∧ Arv Z h b k .byte (Int32.ofNat (2 * n)) [] (.int (0 : Int32))
set_option maxRecDepth 65536 in
set_option maxHeartbeats 40000000 in
theorem rm15 (l : Launch) (Z : State) (a0 : Array Value) (hw : ∀ d ∈ tables_1, d.before a0 Z = true) (ws : List Jvm.Cond) (n : Nat) (h0 : Heap) (n0 : Nat) (Z0 : n0 ≤ h0.size) (hN : n ≤ 4) :
    MetFree l (⟨"java/lang/StringUTF16", "newBytesFor", "(I)[B"⟩ : MethodName) (head1 (Jvm.Cond.code (⟨"java/lang/StringUTF16", "newBytesFor", "(I)[B"⟩ : MethodName) jdk_52_method_2_code 1 (some (.array .byte)) :: ws) ({ frames := 1, cells := 1, slots := 8, locals := 12 } : Room)) (fun a U => a = #[(.int (Int32.ofNat n))] ∧ Z.Warmed39 U.vm ∧ U.heap = h0) (fun _ _ _ _ _ => True) (fun _ U o U' => ∃ v L, o = .returned v ∧ Q15 n h0 n0 Z v U'.heap L ∧ FrameEnd U o U' L ({ frames := 1, cells := 1, slots := 8, locals := 12 } : Room).cells ({ frames := 1, cells := 1, slots := 8, locals := 12 } : Room).slots) := by
  refine MetFree.of_bodySF (plainFor_of_name pn_0) hisR ?_
  intro p e s m args below meth c s₁ Bd hml0 hP hK
  obtain ⟨rfl, hZ, hh⟩ := hP
  have hx := Bd.exec
  have hby := Bd.bytes
  have hml : c.maxLocals = 1 := hml0
  have hown : s.vm.findClass "java/lang/StringUTF16" = some m.cls := findClass_of_methodNamed Bd.named
  have hnm := (name_of_methodNamed Bd.named Bd.method).1
  have hlk := Bd.notSynchronized
  have hrt := Bd.returns
  have X0 : Stand p l e ({ frames := 1, cells := 1, slots := 8, locals := 12 } : Room) s m #[(.int (Int32.ofNat n))] below meth c s₁ [] 0 0 := Stand.of_body Bd
  have e0 : s₁.heap = h0 := by rw [← hh, Bd.state]; rfl
  have N0 := Fr.nil n0
  show own_Ends p e below s (Q15 n h0 n0 Z) ({ frames := 1, cells := 1, slots := 8, locals := 12 } : Room).cells ({ frames := 1, cells := 1, slots := 8, locals := 12 } : Room).slots (s₁.setTop (entryFrame m #[(.int (Int32.ofNat n))] 1))
  rw [ef_15]
  have K0 : Keep h0 h0 [] := Keep.refl h0 []
  refine own_go (fun _ k => XS.iloadN X0.here hx rfl (hb hby d15_0) rfl <| k) ?_
  show own_Ends p e below s _ _ _ (s₁.setTop (mkF m 1 #[.val (.int (Int32.ofNat n))] [(.int (Int32.ofNat n))]))
  obtain ⟨_, _, ⟨T1, L1, k1, n1⟩, -, X1, ⟨Lc1, hQ1, l1, y1, z1⟩, st1⟩ := Jvm.LawKit.callS X0 hx (y := (⟨"java/lang/StringUTF16", "newBytesLength", "(I)I"⟩ : MethodName)) hown (mvT hZ (hw _ (List.mem_of_getElem? (i := 72) rfl))) (mvT hZ (hw _ (List.mem_of_getElem? (i := 73) rfl))) (mvT hZ (hw _ (List.mem_of_getElem? (i := 61) rfl))) (mvT hZ (hw _ (List.mem_of_getElem? (i := 74) rfl))) (by decide) (backOf (W := 0) (rm16 l Z a0 hw [] n h0 n0 Z0 hN) hZ (hw _ (List.mem_of_getElem? (i := 74) rfl)) (hw _ (List.mem_of_getElem? (i := 61) rfl)) (by decide) (by decide)) (g := (mkF m 1 #[.val (.int (Int32.ofNat n))] [(.int (Int32.ofNat n))])) rfl (by rw [hml]; rfl) (argsL := [(.int (Int32.ofNat n))]) (rest := []) (lenOf pd_13 rfl) rfl (by show 2 * 0 + _ ≤ _; exact Nat.le_of_eq rfl) (hb hby d15_1) (fun _ _ => ⟨rfl, e0, Nat.le_of_ble_eq_true rfl, Nat.le_of_ble_eq_true rfl⟩)
  dsimp only [Pt.U, Pt.locs, Pt.cells, Pt.slots] at X1 l1 y1 z1 st1 hQ1
  subst l1 y1 z1
  obtain ⟨rfl, N1q, e1⟩ := hQ1
  have N1 := Fr.app N0 N1q
  refine own_go (fun _ k => st1 _ k) ?_
  show own_Ends p e below s _ _ _ (T1.setTop (mkF m 4 #[.val (.int (Int32.ofNat n))] [(.int (Int32.ofNat (2 * n)))]))
  obtain ⟨T2, h2, k2, X2, e2, E2, A2, st2⟩ := newP X1 hx hZ (hw _ (List.mem_of_getElem? (i := 29) rfl)) e1 (g := (mkF m 4 #[.val (.int (Int32.ofNat n))] [(.int (Int32.ofNat (2 * n)))])) rfl (hb hby d15_4) rfl (own_nneg (by omega)) (cap := 8) (by rw [own_clamp (by omega)]; omega) (by decide) (by decide) (by decide)
  obtain ⟨b2, g2⟩ : ∃ z, z = h0.size := ⟨_, rfl⟩
  rw [← g2] at A2 st2
  refine own_go st2 ?_
  have g_b2 : n0 ≤ b2 := Nat.le_trans Z0 (Nat.le_of_eq g2.symm)
  have sz_b2 : h0.size ≤ b2 := Nat.le_trans K0.1 (Nat.le_of_eq g2.symm)
  have Z2 := Nat.le_trans Z0 E2.1
  have K2' := K0.ext E2
  have V_b2 : Arv Z h2 b2 k2 .byte (Int32.ofNat (2 * n)) [] (.int (0 : Int32)) := Arv.new A2 (own_nneg (by omega))
  show own_Ends p e below s _ _ _ (T2.setTop (mkF m 6 #[.val (.int (Int32.ofNat n))] [(.ref b2)]))
  exact own_ret X2 hx hrt rfl (Or.inr (Or.inr (Or.inr (Or.inr ⟨rfl, rfl, rfl⟩)))) (hb hby d15_6) hlk (by rw [e2]; exact ⟨_, _, rfl, N1, K2', g_b2, sz_b2, V_b2⟩) (by decide) (by decide)
theorem d17_0 : decode jdk_52_method_4_code 0 = .ok (.getstatic 44, 3) := by decide +kernel
theorem d17_3 : decode jdk_52_method_4_code 3 = .ok (.ifCond .ne 25, 3) := by decide +kernel
theorem d17_6 : decode jdk_52_method_4_code 6 = .ok (.iload_n 1, 1) := by decide +kernel
theorem d17_7 : decode jdk_52_method_4_code 7 = .ok (.ifCond .lt 11, 3) := by decide +kernel
theorem d17_10 : decode jdk_52_method_4_code 10 = .ok (.iload_n 1, 1) := by decide +kernel
theorem d17_11 : decode jdk_52_method_4_code 11 = .ok (.aload_n 0, 1) := by decide +kernel
theorem d17_12 : decode jdk_52_method_4_code 12 = .ok (.invokestatic 48, 3) := by decide +kernel
theorem d17_15 : decode jdk_52_method_4_code 15 = .ok (.if_icmp .lt 13, 3) := by decide +kernel
theorem d17_18 : decode jdk_52_method_4_code 18 = .ok (.new 52, 3) := by decide +kernel
theorem d17_21 : decode jdk_52_method_4_code 21 = .ok (.dup, 1) := by decide +kernel
theorem d17_22 : decode jdk_52_method_4_code 22 = .ok (.ldc 54, 2) := by decide +kernel
theorem d17_24 : decode jdk_52_method_4_code 24 = .ok (.invokespecial 56, 3) := by decide +kernel
theorem d17_27 : decode jdk_52_method_4_code 27 = .ok (.athrow, 1) := by decide +kernel
theorem d17_28 : decode jdk_52_method_4_code 28 = .ok (.iload_n 1, 1) := by decide +kernel
theorem d17_29 : decode jdk_52_method_4_code 29 = .ok (.iconst 1, 1) := by decide +kernel
theorem d17_30 : decode jdk_52_method_4_code 30 = .ok (.ishl, 1) := by decide +kernel
theorem d17_31 : decode jdk_52_method_4_code 31 = .ok (.istore_n 1, 1) := by decide +kernel
theorem d17_32 : decode jdk_52_method_4_code 32 = .ok (.aload_n 0, 1) := by decide +kernel
theorem d17_33 : decode jdk_52_method_4_code 33 = .ok (.iload_n 1, 1) := by decide +kernel
theorem d17_34 : decode jdk_52_method_4_code 34 = .ok (.iinc 1 1, 3) := by decide +kernel
theorem d17_37 : decode jdk_52_method_4_code 37 = .ok (.iload_n 2, 1) := by decide +kernel
theorem d17_38 : decode jdk_52_method_4_code 38 = .ok (.getstatic 59, 3) := by decide +kernel
theorem d17_41 : decode jdk_52_method_4_code 41 = .ok (.ishr, 1) := by decide +kernel
theorem d17_42 : decode jdk_52_method_4_code 42 = .ok (.i2b, 1) := by decide +kernel
theorem d17_43 : decode jdk_52_method_4_code 43 = .ok (.bastore, 1) := by decide +kernel
theorem d17_44 : decode jdk_52_method_4_code 44 = .ok (.aload_n 0, 1) := by decide +kernel
theorem d17_45 : decode jdk_52_method_4_code 45 = .ok (.iload_n 1, 1) := by decide +kernel
theorem d17_46 : decode jdk_52_method_4_code 46 = .ok (.iload_n 2, 1) := by decide +kernel
theorem d17_47 : decode jdk_52_method_4_code 47 = .ok (.getstatic 63, 3) := by decide +kernel
theorem d17_50 : decode jdk_52_method_4_code 50 = .ok (.ishr, 1) := by decide +kernel
theorem d17_51 : decode jdk_52_method_4_code 51 = .ok (.i2b, 1) := by decide +kernel
theorem d17_52 : decode jdk_52_method_4_code 52 = .ok (.bastore, 1) := by decide +kernel
theorem d17_53 : decode jdk_52_method_4_code 53 = .ok (.return_, 1) := by decide +kernel
theorem ef_17 (m : MethodId) (x0 : Addr) (x1 : Int32) (x2 : Int32) : entryFrame m #[(.ref x0), (.int x1), (.int x2)] 3 = mkF m 0 #[.val (.ref x0), .val (.int x1), .val (.int x2)] [] := by first | (simp [entryFrame, mkF, argsToLocals, Value.category]; done) | rfl
def Q17 (a1 : Addr) (p3 : Int32) (vc : Int32) (vf : Value) (i n : Nat) (ka1 : ClassId) (vs : List Value) (h0 : Heap) (n0 : Nat) (Z : State) (v : Option Value) (h : Heap) (L : List Loc) : Prop := v = none ∧ Fr n0 L ∧ Keep h0 h [a1] ∧ Arv Z h a1 ka1 .byte (Int32.ofNat (2 * n)) (vs ++ [.int (own_loI p3)] ++ [.int (own_hiI p3)]) (.int (0 : Int32))
set_option maxRecDepth 65536 in
set_option maxHeartbeats 40000000 in
theorem rm17 (l : Launch) (Z : State) (a0 : Array Value) (hw : ∀ d ∈ tables_1, d.before a0 Z = true) (ws : List Jvm.Cond) (a1 : Addr) (p3 : Int32) (vc : Int32) (vf : Value) (i n : Nat) (ka1 : ClassId) (vs : List Value) (h0 : Heap) (n0 : Nat) (Z0 : n0 ≤ h0.size) (O0 : Old Z n0 h0) (ST : own_St Z vc vf) (hN : n ≤ 4) (hi : i < n) (hl : vs.length = 2 * i) (V1 : Arv Z h0 a1 ka1 .byte (Int32.ofNat (2 * n)) vs (.int (0 : Int32))) (g1 : n0 ≤ a1) :
    MetFree l (⟨"java/lang/StringUTF16", "putChar", "([BII)V"⟩ : MethodName) (head1 (Jvm.Cond.code (⟨"java/lang/StringUTF16", "putChar", "([BII)V"⟩ : MethodName) jdk_52_method_4_code 3 none :: ws) ({ frames := 0, cells := 0, slots := 0, locals := 0 } : Room)) (fun a U => a = #[(.ref a1), (.int (Int32.ofNat i)), (.int p3)] ∧ Z.Warmed39 U.vm ∧ U.heap = h0) (fun _ _ _ _ _ => True) (fun _ U o U' => ∃ v L, o = .returned v ∧ Q17 a1 p3 vc vf i n ka1 vs h0 n0 Z v U'.heap L ∧ FrameEnd U o U' L ({ frames := 0, cells := 0, slots := 0, locals := 0 } : Room).cells ({ frames := 0, cells := 0, slots := 0, locals := 0 } : Room).slots) := by
  refine MetFree.of_bodySF (plainFor_of_name pn_0) hisR ?_
  intro p e s m args below meth c s₁ Bd hml0 hP hK
  obtain ⟨rfl, hZ, hh⟩ := hP
  have hx := Bd.exec
  have hby := Bd.bytes
  have hml : c.maxLocals = 3 := hml0
  have hown : s.vm.findClass "java/lang/StringUTF16" = some m.cls := findClass_of_methodNamed Bd.named
  have hnm := (name_of_methodNamed Bd.named Bd.method).1
  have hlk := Bd.notSynchronized
  have hrt := Bd.returns
  have X0 : Stand p l e ({ frames := 0, cells := 0, slots := 0, locals := 0 } : Room) s m #[(.ref a1), (.int (Int32.ofNat i)), (.int p3)] below meth c s₁ [] 0 0 := Stand.of_body Bd
  have e0 : s₁.heap = h0 := by rw [← hh, Bd.state]; rfl
  have N0 := Fr.nil n0
  show own_Ends p e below s (Q17 a1 p3 vc vf i n ka1 vs h0 n0 Z) ({ frames := 0, cells := 0, slots := 0, locals := 0 } : Room).cells ({ frames := 0, cells := 0, slots := 0, locals := 0 } : Room).slots (s₁.setTop (entryFrame m #[(.ref a1), (.int (Int32.ofNat i)), (.int p3)] 3))
  rw [ef_17]
  have K0 : Keep h0 h0 [a1] := Keep.refl h0 [a1]
  obtain ⟨HVC, SCS, SAD, SHI, SLO, SIO, HVF⟩ := id ST
  obtain ⟨T1, X1, e1, st1⟩ := getS2 X0 hx hZ hown (host := "") (Or.inl (hw _ (List.mem_of_getElem? (i := 79) rfl))) Via.refl e0 (SAD.ext O0.2) (g := (mkF m 0 #[.val (.ref a1), .val (.int (Int32.ofNat i)), .val (.int p3)] [])) rfl (hb hby d17_0)
  refine own_go st1 ?_
  show own_Ends p e below s _ _ _ (T1.setTop (mkF m 3 #[.val (.ref a1), .val (.int (Int32.ofNat i)), .val (.int p3)] [(.int (1 : Int32))]))
  refine own_go (fun _ k => XS.ifYes X1.here hx rfl (pc0 := 3) (pc' := 28) rfl (hb hby d17_3) rfl ((if0 _ _).trans (feq (by decide)).2) (by decide) (by decide) <| XS.iloadN X1.here hx rfl (hb hby d17_28) rfl <| XT.iconstV X1.here hx rfl (1 : Int32) (hb hby d17_29) rfl <| XS.ishl X1.here hx rfl (hb hby d17_30) rfl <| XS.istoreN X1.here hx rfl (hb hby d17_31) rfl (l' := #[.val (.ref a1), .val (.int ((Int32.ofNat i) <<< ((1 : Int32) &&& 31))), .val (.int p3)]) rfl <| k) ?_
  show own_Ends p e below s _ _ _ (T1.setTop (mkF m 32 #[.val (.ref a1), .val (.int ((Int32.ofNat i) <<< ((1 : Int32) &&& 31))), .val (.int p3)] []))
  rw [own_dbl (by omega)]
  show own_Ends p e below s _ _ _ (T1.setTop (mkF m 32 #[.val (.ref a1), .val (.int (Int32.ofNat (2 * i))), .val (.int p3)] []))
  refine own_go (fun _ k => XS.aloadN X1.here hx rfl (hb hby d17_32) rfl rfl <| XS.iloadN X1.here hx rfl (hb hby d17_33) rfl <| XT.iincV X1.here hx rfl (1 : Int32) (hb hby d17_34) rfl rfl (l' := #[.val (.ref a1), .val (.int ((Int32.ofNat (2 * i)) + (1 : Int32))), .val (.int p3)]) rfl <| k) ?_
  show own_Ends p e below s _ _ _ (T1.setTop (mkF m 37 #[.val (.ref a1), .val (.int ((Int32.ofNat (2 * i)) + (1 : Int32))), .val (.int p3)] [(.int (Int32.ofNat (2 * i))), (.ref a1)]))
  rw [own_up]
  show own_Ends p e below s _ _ _ (T1.setTop (mkF m 37 #[.val (.ref a1), .val (.int (Int32.ofNat (2 * i + 1))), .val (.int p3)] [(.int (Int32.ofNat (2 * i))), (.ref a1)]))
  refine own_go (fun _ k => XS.iloadN X1.here hx rfl (hb hby d17_37) rfl <| k) ?_
  show own_Ends p e below s _ _ _ (T1.setTop (mkF m 38 #[.val (.ref a1), .val (.int (Int32.ofNat (2 * i + 1))), .val (.int p3)] [(.int p3), (.int (Int32.ofNat (2 * i))), (.ref a1)]))
  obtain ⟨T2, X2, e2, st2⟩ := getS2 X1 hx hZ hown (host := "") (Or.inl (hw _ (List.mem_of_getElem? (i := 80) rfl))) Via.refl e1 (SHI.ext O0.2) (g := (mkF m 38 #[.val (.ref a1), .val (.int (Int32.ofNat (2 * i + 1))), .val (.int p3)] [(.int p3), (.int (Int32.ofNat (2 * i))), (.ref a1)])) rfl (hb hby d17_38)
  refine own_go st2 ?_
  show own_Ends p e below s _ _ _ (T2.setTop (mkF m 41 #[.val (.ref a1), .val (.int (Int32.ofNat (2 * i + 1))), .val (.int p3)] [(.int (0 : Int32)), (.int p3), (.int (Int32.ofNat (2 * i))), (.ref a1)]))
  refine own_go (fun _ k => XS.ishr X2.here hx rfl (hb hby d17_41) rfl <| XS.i2b X2.here hx rfl (hb hby d17_42) rfl <| k) ?_
  show own_Ends p e below s _ _ _ (T2.setTop (mkF m 43 #[.val (.ref a1), .val (.int (Int32.ofNat (2 * i + 1))), .val (.int p3)] [(.int ((p3 >>> ((0 : Int32) &&& 31)).toInt8.toInt32)), (.int (Int32.ofNat (2 * i))), (.ref a1)]))
  obtain ⟨cla1_43_3, Ara1_43_3, qqa1_43_3, Sza1_43_3, Nga1_43_3, Hsa1_43_3, Gfa1_43_3⟩ := id V1
  have hina1_43_3 : ¬ ((Int32.ofNat (2 * i)) < 0 ∨ cla1_43_3.slots.size ≤ ((Int32.ofNat (2 * i))).toNatClampNeg) := inb_of Sza1_43_3 ⟨own_nneg (by omega), (own_ofNat_lt (by omega) (by omega)).mpr (by omega)⟩
  obtain ⟨T4, h4, X4, e4, W4, st4⟩ := stB X2 hx hZ e2 Ara1_43_3 (j := (Int32.ofNat (2 * i))) hina1_43_3 (g := (mkF m 43 #[.val (.ref a1), .val (.int (Int32.ofNat (2 * i + 1))), .val (.int p3)] [(.int ((p3 >>> ((0 : Int32) &&& 31)).toInt8.toInt32)), (.int (Int32.ofNat (2 * i))), (.ref a1)])) rfl rfl (hb hby d17_43)
  refine own_go st4 ?_
  have Z4 := Nat.le_trans Z0 (Keep.of_wr W4).1
  have O4 := O0.wr W4 g1
  have K4' := K0.wr W4 (Or.inl (List.mem_of_getElem? (i := 0) rfl))
  have N4 := Fr.snoc X4 N0 g1
  have V1'4 : Arv Z h4 a1 ka1 .byte (Int32.ofNat (2 * n)) (vs ++ [.int (own_loI p3)]) (.int (0 : Int32)) := own_snoc Ara1_43_3 qqa1_43_3 Sza1_43_3 Nga1_43_3 Hsa1_43_3 Gfa1_43_3 (fits_nar_byte _) W4 (by rw [own_clamp (by omega)]; first | exact hl.symm | (rw [List.length_append, hl]; rfl))
  show own_Ends p e below s _ _ _ (T4.setTop (mkF m 44 #[.val (.ref a1), .val (.int (Int32.ofNat (2 * i + 1))), .val (.int p3)] []))
  refine own_go (fun _ k => XS.aloadN X4.here hx rfl (hb hby d17_44) rfl rfl <| XS.iloadN X4.here hx rfl (hb hby d17_45) rfl <| XS.iloadN X4.here hx rfl (hb hby d17_46) rfl <| k) ?_
  show own_Ends p e below s _ _ _ (T4.setTop (mkF m 47 #[.val (.ref a1), .val (.int (Int32.ofNat (2 * i + 1))), .val (.int p3)] [(.int p3), (.int (Int32.ofNat (2 * i + 1))), (.ref a1)]))
  obtain ⟨T5, X5, e5, st5⟩ := getS2 X4 hx hZ hown (host := "") (Or.inl (hw _ (List.mem_of_getElem? (i := 81) rfl))) Via.refl e4 (SLO.ext O4.2) (g := (mkF m 47 #[.val (.ref a1), .val (.int (Int32.ofNat (2 * i + 1))), .val (.int p3)] [(.int p3), (.int (Int32.ofNat (2 * i + 1))), (.ref a1)])) rfl (hb hby d17_47)
  refine own_go st5 ?_
  show own_Ends p e below s _ _ _ (T5.setTop (mkF m 50 #[.val (.ref a1), .val (.int (Int32.ofNat (2 * i + 1))), .val (.int p3)] [(.int (8 : Int32)), (.int p3), (.int (Int32.ofNat (2 * i + 1))), (.ref a1)]))
  refine own_go (fun _ k => XS.ishr X5.here hx rfl (hb hby d17_50) rfl <| XS.i2b X5.here hx rfl (hb hby d17_51) rfl <| k) ?_
  show own_Ends p e below s _ _ _ (T5.setTop (mkF m 52 #[.val (.ref a1), .val (.int (Int32.ofNat (2 * i + 1))), .val (.int p3)] [(.int ((p3 >>> ((8 : Int32) &&& 31)).toInt8.toInt32)), (.int (Int32.ofNat (2 * i + 1))), (.ref a1)]))
  obtain ⟨cla1_52_6, Ara1_52_6, qqa1_52_6, Sza1_52_6, Nga1_52_6, Hsa1_52_6, Gfa1_52_6⟩ := id V1'4
  have hina1_52_6 : ¬ ((Int32.ofNat (2 * i + 1)) < 0 ∨ cla1_52_6.slots.size ≤ ((Int32.ofNat (2 * i + 1))).toNatClampNeg) := inb_of Sza1_52_6 ⟨own_nneg (by omega), (own_ofNat_lt (by omega) (by omega)).mpr (by omega)⟩
  obtain ⟨T7, h7, X7, e7, W7, st7⟩ := stB X5 hx hZ e5 Ara1_52_6 (j := (Int32.ofNat (2 * i + 1))) hina1_52_6 (g := (mkF m 52 #[.val (.ref a1), .val (.int (Int32.ofNat (2 * i + 1))), .val (.int p3)] [(.int ((p3 >>> ((8 : Int32) &&& 31)).toInt8.toInt32)), (.int (Int32.ofNat (2 * i + 1))), (.ref a1)])) rfl rfl (hb hby d17_52)
  refine own_go st7 ?_
  have Z7 := Nat.le_trans Z4 (Keep.of_wr W7).1
  have O7 := O4.wr W7 g1
  have K7' := K4'.wr W7 (Or.inl (List.mem_of_getElem? (i := 0) rfl))
  have N7 := Fr.snoc X7 N4 g1
  have V1'7 : Arv Z h7 a1 ka1 .byte (Int32.ofNat (2 * n)) ((vs ++ [.int (own_loI p3)]) ++ [.int (own_hiI p3)]) (.int (0 : Int32)) := own_snoc Ara1_52_6 qqa1_52_6 Sza1_52_6 Nga1_52_6 Hsa1_52_6 Gfa1_52_6 (fits_nar_byte _) W7 (by rw [own_clamp (by omega)]; first | exact hl.symm | (rw [List.length_append, hl]; rfl))
  show own_Ends p e below s _ _ _ (T7.setTop (mkF m 53 #[.val (.ref a1), .val (.int (Int32.ofNat (2 * i + 1))), .val (.int p3)] []))
  exact own_ret0 X7 hx hrt (hb hby d17_53) hlk (by rw [e7]; exact ⟨rfl, N7, K7', V1'7⟩) (by decide) (by decide)
theorem d14_0 : decode jdk_52_method_14_code 0 = .ok (.iload_n 2, 1) := by decide +kernel
theorem d14_1 : decode jdk_52_method_14_code 1 = .ok (.invokestatic 107, 3) := by decide +kernel
theorem d14_4 : decode jdk_52_method_14_code 4 = .ok (.astore_n 3, 1) := by decide +kernel
theorem d14_5 : decode jdk_52_method_14_code 5 = .ok (.iconst 0, 1) := by decide +kernel
theorem d14_6 : decode jdk_52_method_14_code 6 = .ok (.istore 4, 2) := by decide +kernel
theorem d14_8 : decode jdk_52_method_14_code 8 = .ok (.iload 4, 2) := by decide +kernel
theorem d14_10 : decode jdk_52_method_14_code 10 = .ok (.iload_n 2, 1) := by decide +kernel
theorem d14_11 : decode jdk_52_method_14_code 11 = .ok (.if_icmp .ge 21, 3) := by decide +kernel
theorem d14_14 : decode jdk_52_method_14_code 14 = .ok (.aload_n 3, 1) := by decide +kernel
theorem d14_15 : decode jdk_52_method_14_code 15 = .ok (.iload 4, 2) := by decide +kernel
theorem d14_17 : decode jdk_52_method_14_code 17 = .ok (.aload_n 0, 1) := by decide +kernel
theorem d14_18 : decode jdk_52_method_14_code 18 = .ok (.iload_n 1, 1) := by decide +kernel
theorem d14_19 : decode jdk_52_method_14_code 19 = .ok (.caload, 1) := by decide +kernel
theorem d14_20 : decode jdk_52_method_14_code 20 = .ok (.invokestatic 111, 3) := by decide +kernel
theorem d14_23 : decode jdk_52_method_14_code 23 = .ok (.iinc 1 1, 3) := by decide +kernel
theorem d14_26 : decode jdk_52_method_14_code 26 = .ok (.iinc 4 1, 3) := by decide +kernel
theorem d14_29 : decode jdk_52_method_14_code 29 = .ok (.goto (-21), 3) := by decide +kernel
theorem d14_32 : decode jdk_52_method_14_code 32 = .ok (.aload_n 3, 1) := by decide +kernel
theorem d14_33 : decode jdk_52_method_14_code 33 = .ok (.areturn, 1) := by decide +kernel
theorem ef_14 (m : MethodId) (x0 : Addr) (x1 : Int32) (x2 : Int32) : entryFrame m #[(.ref x0), (.int x1), (.int x2)] 5 = mkF m 0 #[.val (.ref x0), .val (.int x1), .val (.int x2), .unset, .unset] [] := by first | (simp [entryFrame, mkF, argsToLocals, Value.category]; done) | rfl
def Q14 (a1 : Addr) (vc : Int32) (vf : Value) (ka1 : ClassId) (cs : List Int32) (h0 : Heap) (n0 : Nat) (Z : State) (v : Option Value) (h : Heap) (L : List Loc) : Prop := ∃ b k, v = some (.ref b) ∧ Fr n0 L ∧ Keep h0 h [] ∧ n0 ≤ b ∧ h0.size ≤ b ∧ Arv Z h b k .byte (Int32.ofNat (2 * cs.length)) (cs.flatMap own_lh) (.int (0 : Int32))
set_option maxRecDepth 65536 in
set_option maxHeartbeats 40000000 in
theorem rm14 (l : Launch) (Z : State) (a0 : Array Value) (hw : ∀ d ∈ tables_1, d.before a0 Z = true) (ws : List Jvm.Cond) (a1 : Addr) (vc : Int32) (vf : Value) (ka1 : ClassId) (cs : List Int32) (h0 : Heap) (n0 : Nat) (Z0 : n0 ≤ h0.size) (O0 : Old Z n0 h0) (ST : own_St Z vc vf) (hN : cs.length ≤ 4) (V1 : Arv Z h0 a1 ka1 .char (Int32.ofNat cs.length) (cs.map Value.int) (.int (0 : Int32))) :
    MetFree l (⟨"java/lang/StringUTF16", "toBytes", "([CII)[B"⟩ : MethodName) (head1 (Jvm.Cond.code (⟨"java/lang/StringUTF16", "toBytes", "([CII)[B"⟩ : MethodName) jdk_52_method_14_code 5 (some (.array .byte)) :: ws) ({ frames := 2, cells := 1, slots := 8, locals := 24 } : Room)) (fun a U => a = #[(.ref a1), (.int (0 : Int32)), (.int (Int32.ofNat cs.length))] ∧ Z.Warmed39 U.vm ∧ U.heap = h0) (fun _ _ _ _ _ => True) (fun _ U o U' => ∃ v L, o = .returned v ∧ Q14 a1 vc vf ka1 cs h0 n0 Z v U'.heap L ∧ FrameEnd U o U' L ({ frames := 2, cells := 1, slots := 8, locals := 24 } : Room).cells ({ frames := 2, cells := 1, slots := 8, locals := 24 } : Room).slots) := by
  refine MetFree.of_bodySF (plainFor_of_name pn_0) hisR ?_
  intro p e s m args below meth c s₁ Bd hml0 hP hK
  obtain ⟨rfl, hZ, hh⟩ := hP
  have hx := Bd.exec
  have hby := Bd.bytes
  have hml : c.maxLocals = 5 := hml0
  have hown : s.vm.findClass "java/lang/StringUTF16" = some m.cls := findClass_of_methodNamed Bd.named
  have hnm := (name_of_methodNamed Bd.named Bd.method).1
  have hlk := Bd.notSynchronized
  have hrt := Bd.returns
  have X0 : Stand p l e ({ frames := 2, cells := 1, slots := 8, locals := 24 } : Room) s m #[(.ref a1), (.int (0 : Int32)), (.int (Int32.ofNat cs.length))] below meth c s₁ [] 0 0 := Stand.of_body Bd
  have e0 : s₁.heap = h0 := by rw [← hh, Bd.state]; rfl
  have N0 := Fr.nil n0
  show own_Ends p e below s (Q14 a1 vc vf ka1 cs h0 n0 Z) ({ frames := 2, cells := 1, slots := 8, locals := 24 } : Room).cells ({ frames := 2, cells := 1, slots := 8, locals := 24 } : Room).slots (s₁.setTop (entryFrame m #[(.ref a1), (.int (0 : Int32)), (.int (Int32.ofNat cs.length))] 5))
  rw [ef_14]
  have K0 : Keep h0 h0 [] := Keep.refl h0 []
  obtain ⟨HVC, SCS, SAD, SHI, SLO, SIO, HVF⟩ := id ST
  refine own_go (fun _ k => XS.iloadN X0.here hx rfl (hb hby d14_0) rfl <| k) ?_
  show own_Ends p e below s _ _ _ (s₁.setTop (mkF m 1 #[.val (.ref a1), .val (.int (0 : Int32)), .val (.int (Int32.ofNat cs.length)), .unset, .unset] [(.int (Int32.ofNat cs.length))]))
  obtain ⟨_, _, ⟨T1, L1, k1, n1⟩, -, X1, ⟨Lc1, hQ1, l1, y1, z1⟩, st1⟩ := Jvm.LawKit.callS X0 hx (y := (⟨"java/lang/StringUTF16", "newBytesFor", "(I)[B"⟩ : MethodName)) hown (mvT hZ (hw _ (List.mem_of_getElem? (i := 69) rfl))) (mvT hZ (hw _ (List.mem_of_getElem? (i := 70) rfl))) (mvT hZ (hw _ (List.mem_of_getElem? (i := 61) rfl))) (mvT hZ (hw _ (List.mem_of_getElem? (i := 71) rfl))) (by decide) (backOf (W := 0) (rm15 l Z a0 hw [] cs.length h0 n0 Z0 hN) hZ (hw _ (List.mem_of_getElem? (i := 71) rfl)) (hw _ (List.mem_of_getElem? (i := 61) rfl)) (by decide) (by decide)) (g := (mkF m 1 #[.val (.ref a1), .val (.int (0 : Int32)), .val (.int (Int32.ofNat cs.length)), .unset, .unset] [(.int (Int32.ofNat cs.length))])) rfl (by rw [hml]; rfl) (argsL := [(.int (Int32.ofNat cs.length))]) (rest := []) (lenOf pd_12 rfl) rfl (by show 2 * 0 + _ ≤ _; exact Nat.le_of_eq rfl) (hb hby d14_1) (fun _ _ => ⟨rfl, e0, Nat.le_of_ble_eq_true rfl, Nat.le_of_ble_eq_true rfl⟩)
  dsimp only [Pt.U, Pt.locs, Pt.cells, Pt.slots] at X1 l1 y1 z1 st1 hQ1
  subst l1 y1 z1
  obtain ⟨b1, kb1, rfl, N1q, K1, g1, sz1, Vb1⟩ := hQ1
  have N1 := Fr.app N0 N1q
  refine own_go (fun _ k => st1 _ k) ?_
  have V1'1 := V1.keep K1 nin0
  have Z1 := Nat.le_trans Z0 K1.1
  have O1 := O0.keep K1 all0
  have K1' := K0.trans K1 all0
  show own_Ends p e below s _ _ _ (T1.setTop (mkF m 4 #[.val (.ref a1), .val (.int (0 : Int32)), .val (.int (Int32.ofNat cs.length)), .unset, .unset] [(.ref b1)]))
  have ne_a1_b1 : a1 ≠ b1 := Nat.ne_of_lt (Nat.lt_of_lt_of_le V1.lt sz1)
  have szk1 : h0.size ≤ b1 := Nat.le_trans K0.1 sz1
  refine own_go (fun _ k => XS.astoreN X1.here hx rfl (hb hby d14_4) rfl rfl (l' := #[.val (.ref a1), .val (.int (0 : Int32)), .val (.int (Int32.ofNat cs.length)), .val (.ref b1), .unset]) rfl <| XT.iconstV X1.here hx rfl (0 : Int32) (hb hby d14_5) rfl <| XS.istore X1.here hx rfl (hb hby d14_6) rfl (l' := #[.val (.ref a1), .val (.int (0 : Int32)), .val (.int (Int32.ofNat cs.length)), .val (.ref b1), .val (.int (0 : Int32))]) rfl <| k) ?_
  show own_Ends p e below s _ _ _ (T1.setTop (mkF m 8 #[.val (.ref a1), .val (.int (0 : Int32)), .val (.int (Int32.ofNat cs.length)), .val (.ref b1), .val (.int (0 : Int32))] []))
  have XN2 : Stand p l e ({ frames := 2, cells := 1, slots := 8, locals := 24 } : Room) s m #[(.ref a1), (.int (0 : Int32)), (.int (Int32.ofNat cs.length))] below meth c T1 _ 1 8 := X1
  have loop : ∀ (k i : Nat), i + k = cs.length → ∀ (T : State) (h : Heap) (locs : List Loc), Stand p l e ({ frames := 2, cells := 1, slots := 8, locals := 24 } : Room) s m #[(.ref a1), (.int (0 : Int32)), (.int (Int32.ofNat cs.length))] below meth c T locs 1 8 → T.heap = h → Fr n0 locs → Keep h0 h [] → Arv Z h b1 kb1 .byte (Int32.ofNat (2 * cs.length)) ((cs.take i).flatMap own_lh) (.int (0 : Int32)) → own_Ends p e below s (Q14 a1 vc vf ka1 cs h0 n0 Z) ({ frames := 2, cells := 1, slots := 8, locals := 24 } : Room).cells ({ frames := 2, cells := 1, slots := 8, locals := 24 } : Room).slots (T.setTop (mkF m 8 #[.val (.ref a1), .val (.int (Int32.ofNat i)), .val (.int (Int32.ofNat cs.length)), .val (.ref b1), .val (.int (Int32.ofNat i))] [])) := by
    intro k
    induction k with
    | zero =>
      intro i hi T h locs XM eM NM KM VM
      have V1 := V1.keep KM nin0
      have ZM := Nat.le_trans Z0 KM.1
      have OM := O0.keep KM all0
      obtain rfl : i = cs.length := by omega
      rw [List.take_length] at VM
      show own_Ends p e below s _ _ _ (T.setTop (mkF m 8 #[.val (.ref a1), .val (.int (Int32.ofNat cs.length)), .val (.int (Int32.ofNat cs.length)), .val (.ref b1), .val (.int (Int32.ofNat cs.length))] []))
      refine own_go (fun _ k => XS.iload XM.here hx rfl (hb hby d14_8) rfl <| XS.iloadN XM.here hx rfl (hb hby d14_10) rfl <| XS.icmpYes XM.here hx rfl (pc0 := 11) (pc' := 32) rfl (hb hby d14_11) rfl (flt (fun q => absurd ((own_ofNat_lt (by omega) (by omega)).mp q) (Nat.lt_irrefl _))).2.1 (by decide) (by decide) <| XS.aloadN XM.here hx rfl (hb hby d14_32) rfl rfl <| k) ?_
      show own_Ends p e below s _ _ _ (T.setTop (mkF m 33 #[.val (.ref a1), .val (.int (Int32.ofNat cs.length)), .val (.int (Int32.ofNat cs.length)), .val (.ref b1), .val (.int (Int32.ofNat cs.length))] [(.ref b1)]))
      exact own_ret XM hx hrt rfl (Or.inr (Or.inr (Or.inr (Or.inr ⟨rfl, rfl, rfl⟩)))) (hb hby d14_33) hlk (by rw [eM]; exact ⟨_, _, rfl, NM, KM, g1, szk1, VM⟩) (by decide) (by decide)
    | succ k ih =>
      intro i hi T h locs XM eM NM KM VM
      have V1 := V1.keep KM nin0
      have ZM := Nat.le_trans Z0 KM.1
      have OM := O0.keep KM all0
      refine own_go (fun _ k => XS.iload XM.here hx rfl (hb hby d14_8) rfl <| XS.iloadN XM.here hx rfl (hb hby d14_10) rfl <| XS.icmpNo XM.here hx rfl (hb hby d14_11) rfl (tlt ((own_ofNat_lt (by omega) (by omega)).mpr (by omega))).2.1 <| XS.aloadN XM.here hx rfl (hb hby d14_14) rfl rfl <| XS.iload XM.here hx rfl (hb hby d14_15) rfl <| XS.aloadN XM.here hx rfl (hb hby d14_17) rfl rfl <| XS.iloadN XM.here hx rfl (hb hby d14_18) rfl <| k) ?_
      show own_Ends p e below s _ _ _ (T.setTop (mkF m 19 #[.val (.ref a1), .val (.int (Int32.ofNat i)), .val (.int (Int32.ofNat cs.length)), .val (.ref b1), .val (.int (Int32.ofNat i))] [(.int (Int32.ofNat i)), (.ref a1), (.int (Int32.ofNat i)), (.ref b1)]))
      obtain ⟨cla1_19_3, Ara1_19_3, qqa1_19_3, Sza1_19_3, Nga1_19_3, Hsa1_19_3, Gfa1_19_3⟩ := id V1
      have hina1_19_3 : ¬ ((Int32.ofNat i) < 0 ∨ cla1_19_3.slots.size ≤ ((Int32.ofNat i)).toNatClampNeg) := inb_of Sza1_19_3 ⟨own_nneg (by omega), (own_ofNat_lt (by omega) (by omega)).mpr (by omega)⟩
      have hata1_19_3 : cla1_19_3.slots[((Int32.ofNat i)).toNatClampNeg]? = some (.int (cs.getD i 0)) := Hsa1_19_3.at hina1_19_3 (own_getD cs (by omega))
      refine own_go (fun _ k => XM.caload hx (j := (Int32.ofNat i)) (v := (.int (cs.getD i 0))) (by first | exact Ara1_19_3.1 | (rw [eM]; exact Ara1_19_3.1)) (State.isArrayOf_alike hZ.alike Ara1_19_3.2.1) Ara1_19_3.2.2 hina1_19_3 hata1_19_3 (g := (mkF m 19 #[.val (.ref a1), .val (.int (Int32.ofNat i)), .val (.int (Int32.ofNat cs.length)), .val (.ref b1), .val (.int (Int32.ofNat i))] [(.int (Int32.ofNat i)), (.ref a1), (.int (Int32.ofNat i)), (.ref b1)])) rfl rfl (hb hby d14_19) _ k) ?_
      show own_Ends p e below s _ _ _ (T.setTop (mkF m 20 #[.val (.ref a1), .val (.int (Int32.ofNat i)), .val (.int (Int32.ofNat cs.length)), .val (.ref b1), .val (.int (Int32.ofNat i))] [(.int (cs.getD i 0)), (.int (Int32.ofNat i)), (.ref b1)]))
      obtain ⟨_, _, ⟨T4, L4, k4, n4⟩, -, X4, ⟨Lc4, hQ4, l4, y4, z4⟩, st4⟩ := Jvm.LawKit.callS XM hx (y := (⟨"java/lang/StringUTF16", "putChar", "([BII)V"⟩ : MethodName)) hown (mvT hZ (hw _ (List.mem_of_getElem? (i := 76) rfl))) (mvT hZ (hw _ (List.mem_of_getElem? (i := 77) rfl))) (mvT hZ (hw _ (List.mem_of_getElem? (i := 61) rfl))) (mvT hZ (hw _ (List.mem_of_getElem? (i := 78) rfl))) (by decide) (backOf (W := 0) (rm17 l Z a0 hw [] b1 (cs.getD i 0) vc vf i cs.length kb1 ((cs.take i).flatMap own_lh) h n0 ZM OM ST hN (by omega) (own_fmt cs (by omega)) VM g1) hZ (hw _ (List.mem_of_getElem? (i := 78) rfl)) (hw _ (List.mem_of_getElem? (i := 61) rfl)) (by decide) (by decide)) (g := (mkF m 20 #[.val (.ref a1), .val (.int (Int32.ofNat i)), .val (.int (Int32.ofNat cs.length)), .val (.ref b1), .val (.int (Int32.ofNat i))] [(.int (cs.getD i 0)), (.int (Int32.ofNat i)), (.ref b1)])) rfl (by rw [hml]; rfl) (argsL := [(.ref b1), (.int (Int32.ofNat i)), (.int (cs.getD i 0))]) (rest := []) (lenOf pd_14 rfl) rfl (by show 2 * 0 + _ ≤ _; exact Nat.le_of_eq rfl) (hb hby d14_20) (fun _ _ => ⟨rfl, eM, Nat.le_of_ble_eq_true rfl, Nat.le_of_ble_eq_true rfl⟩)
      dsimp only [Pt.U, Pt.locs, Pt.cells, Pt.slots] at X4 l4 y4 z4 st4 hQ4
      subst l4 y4 z4
      obtain ⟨rfl, N4q, K4, Vp4⟩ := hQ4
      have N4 := Fr.app NM N4q
      refine own_go (fun _ k => st4 _ k) ?_
      have V1'4 := V1.keep K4 (ninS ne_a1_b1 nin0)
      have Z4 := Nat.le_trans ZM K4.1
      have O4 := OM.keep K4 (allS g1 all0)
      have K4' := KM.trans K4 (allS (Or.inr szk1) all0)
      show own_Ends p e below s _ _ _ (T4.setTop (mkF m 23 #[.val (.ref a1), .val (.int (Int32.ofNat i)), .val (.int (Int32.ofNat cs.length)), .val (.ref b1), .val (.int (Int32.ofNat i))] []))
      refine own_go (fun _ k => XT.iincV X4.here hx rfl (1 : Int32) (hb hby d14_23) rfl rfl (l' := #[.val (.ref a1), .val (.int ((Int32.ofNat i) + (1 : Int32))), .val (.int (Int32.ofNat cs.length)), .val (.ref b1), .val (.int (Int32.ofNat i))]) rfl <| XT.iincV X4.here hx rfl (1 : Int32) (hb hby d14_26) rfl rfl (l' := #[.val (.ref a1), .val (.int ((Int32.ofNat i) + (1 : Int32))), .val (.int (Int32.ofNat cs.length)), .val (.ref b1), .val (.int ((Int32.ofNat i) + (1 : Int32)))]) rfl <| XS.goto X4.here hx rfl (pc0 := 29) (pc' := 8) rfl (hb hby d14_29) (by decide) (by decide) <| k) ?_
      show own_Ends p e below s _ _ _ (T4.setTop (mkF m 8 #[.val (.ref a1), .val (.int ((Int32.ofNat i) + (1 : Int32))), .val (.int (Int32.ofNat cs.length)), .val (.ref b1), .val (.int ((Int32.ofNat i) + (1 : Int32)))] []))
      rw [own_fm cs (by omega)] at Vp4
      rw [own_up]
      exact ih (i + 1) (by omega) _ _ _ X4 rfl N4 K4' Vp4
  exact loop cs.length 0 (by omega) _ _ _ XN2 rfl N1 K1' Vb1
theorem d18_0 : decode jdk_52_method_5_code 0 = .ok (.getstatic 44, 3) := by decide +kernel
theorem d18_3 : decode jdk_52_method_5_code 3 = .ok (.ifCond .ne 25, 3) := by decide +kernel
theorem d18_6 : decode jdk_52_method_5_code 6 = .ok (.iload_n 1, 1) := by decide +kernel
theorem d18_7 : decode jdk_52_method_5_code 7 = .ok (.ifCond .lt 11, 3) := by decide +kernel
theorem d18_10 : decode jdk_52_method_5_code 10 = .ok (.iload_n 1, 1) := by decide +kernel
theorem d18_11 : decode jdk_52_method_5_code 11 = .ok (.aload_n 0, 1) := by decide +kernel
theorem d18_12 : decode jdk_52_method_5_code 12 = .ok (.invokestatic 48, 3) := by decide +kernel
theorem d18_15 : decode jdk_52_method_5_code 15 = .ok (.if_icmp .lt 13, 3) := by decide +kernel
theorem d18_18 : decode jdk_52_method_5_code 18 = .ok (.new 52, 3) := by decide +kernel
theorem d18_21 : decode jdk_52_method_5_code 21 = .ok (.dup, 1) := by decide +kernel
theorem d18_22 : decode jdk_52_method_5_code 22 = .ok (.ldc 54, 2) := by decide +kernel
theorem d18_24 : decode jdk_52_method_5_code 24 = .ok (.invokespecial 56, 3) := by decide +kernel
theorem d18_27 : decode jdk_52_method_5_code 27 = .ok (.athrow, 1) := by decide +kernel
theorem d18_28 : decode jdk_52_method_5_code 28 = .ok (.iload_n 1, 1) := by decide +kernel
theorem d18_29 : decode jdk_52_method_5_code 29 = .ok (.iconst 1, 1) := by decide +kernel
theorem d18_30 : decode jdk_52_method_5_code 30 = .ok (.ishl, 1) := by decide +kernel
theorem d18_31 : decode jdk_52_method_5_code 31 = .ok (.istore_n 1, 1) := by decide +kernel
theorem d18_32 : decode jdk_52_method_5_code 32 = .ok (.aload_n 0, 1) := by decide +kernel
theorem d18_33 : decode jdk_52_method_5_code 33 = .ok (.iload_n 1, 1) := by decide +kernel
theorem d18_34 : decode jdk_52_method_5_code 34 = .ok (.iinc 1 1, 3) := by decide +kernel
theorem d18_37 : decode jdk_52_method_5_code 37 = .ok (.baload, 1) := by decide +kernel
theorem d18_38 : decode jdk_52_method_5_code 38 = .ok (.sipush 255, 3) := by decide +kernel
theorem d18_41 : decode jdk_52_method_5_code 41 = .ok (.iand, 1) := by decide +kernel
theorem d18_42 : decode jdk_52_method_5_code 42 = .ok (.getstatic 59, 3) := by decide +kernel
theorem d18_45 : decode jdk_52_method_5_code 45 = .ok (.ishl, 1) := by decide +kernel
theorem d18_46 : decode jdk_52_method_5_code 46 = .ok (.aload_n 0, 1) := by decide +kernel
theorem d18_47 : decode jdk_52_method_5_code 47 = .ok (.iload_n 1, 1) := by decide +kernel
theorem d18_48 : decode jdk_52_method_5_code 48 = .ok (.baload, 1) := by decide +kernel
theorem d18_49 : decode jdk_52_method_5_code 49 = .ok (.sipush 255, 3) := by decide +kernel
theorem d18_52 : decode jdk_52_method_5_code 52 = .ok (.iand, 1) := by decide +kernel
theorem d18_53 : decode jdk_52_method_5_code 53 = .ok (.getstatic 63, 3) := by decide +kernel
theorem d18_56 : decode jdk_52_method_5_code 56 = .ok (.ishl, 1) := by decide +kernel
theorem d18_57 : decode jdk_52_method_5_code 57 = .ok (.ior, 1) := by decide +kernel
theorem d18_58 : decode jdk_52_method_5_code 58 = .ok (.i2c, 1) := by decide +kernel
theorem d18_59 : decode jdk_52_method_5_code 59 = .ok (.ireturn, 1) := by decide +kernel
theorem ef_18 (m : MethodId) (x0 : Addr) (x1 : Int32) : entryFrame m #[(.ref x0), (.int x1)] 2 = mkF m 0 #[.val (.ref x0), .val (.int x1)] [] := by first | (simp [entryFrame, mkF, argsToLocals, Value.category]; done) | rfl
def Q18 (a1 : Addr) (vc : Int32) (vf : Value) (ka1 : ClassId) (cs : List Int32) (i : Nat) (h0 : Heap) (n0 : Nat) (Z : State) (v : Option Value) (h : Heap) (L : List Loc) : Prop := v = some (.int (cs.getD i 0)) ∧ Fr n0 L ∧ h = h0
set_option maxRecDepth 65536 in
set_option maxHeartbeats 40000000 in
theorem rm18 (l : Launch) (Z : State) (a0 : Array Value) (hw : ∀ d ∈ tables_1, d.before a0 Z = true) (ws : List Jvm.Cond) (a1 : Addr) (vc : Int32) (vf : Value) (ka1 : ClassId) (cs : List Int32) (i : Nat) (h0 : Heap) (n0 : Nat) (Z0 : n0 ≤ h0.size) (O0 : Old Z n0 h0) (ST : own_St Z vc vf) (hN : cs.length ≤ 4) (hC : own_Ch cs) (hi : i < cs.length) (V1 : Arv Z h0 a1 ka1 .byte (Int32.ofNat (2 * cs.length)) (cs.flatMap own_lh) (.int (0 : Int32))) :
    MetFree l (⟨"java/lang/StringUTF16", "getChar", "([BI)C"⟩ : MethodName) (head1 (Jvm.Cond.code (⟨"java/lang/StringUTF16", "getChar", "([BI)C"⟩ : MethodName) jdk_52_method_5_code 2 (some .char) :: ws) ({ frames := 0, cells := 0, slots := 0, locals := 0 } : Room)) (fun a U => a = #[(.ref a1), (.int (Int32.ofNat i))] ∧ Z.Warmed39 U.vm ∧ U.heap = h0) (fun _ _ _ _ _ => True) (fun _ U o U' => ∃ v L, o = .returned v ∧ Q18 a1 vc vf ka1 cs i h0 n0 Z v U'.heap L ∧ FrameEnd U o U' L ({ frames := 0, cells := 0, slots := 0, locals := 0 } : Room).cells ({ frames := 0, cells := 0, slots := 0, locals := 0 } : Room).slots) := by
  refine MetFree.of_bodySF (plainFor_of_name pn_0) hisR ?_
  intro p e s m args below meth c s₁ Bd hml0 hP hK
  obtain ⟨rfl, hZ, hh⟩ := hP
  have hx := Bd.exec
  have hby := Bd.bytes
  have hml : c.maxLocals = 2 := hml0
  have hown : s.vm.findClass "java/lang/StringUTF16" = some m.cls := findClass_of_methodNamed Bd.named
  have hnm := (name_of_methodNamed Bd.named Bd.method).1
  have hlk := Bd.notSynchronized
  have hrt := Bd.returns
  have X0 : Stand p l e ({ frames := 0, cells := 0, slots := 0, locals := 0 } : Room) s m #[(.ref a1), (.int (Int32.ofNat i))] below meth c s₁ [] 0 0 := Stand.of_body Bd
  have e0 : s₁.heap = h0 := by rw [← hh, Bd.state]; rfl
  have N0 := Fr.nil n0
  show own_Ends p e below s (Q18 a1 vc vf ka1 cs i h0 n0 Z) ({ frames := 0, cells := 0, slots := 0, locals := 0 } : Room).cells ({ frames := 0, cells := 0, slots := 0, locals := 0 } : Room).slots (s₁.setTop (entryFrame m #[(.ref a1), (.int (Int32.ofNat i))] 2))
  rw [ef_18]
  obtain ⟨HVC, SCS, SAD, SHI, SLO, SIO, HVF⟩ := id ST
  obtain ⟨T1, X1, e1, st1⟩ := getS2 X0 hx hZ hown (host := "") (Or.inl (hw _ (List.mem_of_getElem? (i := 79) rfl))) Via.refl e0 (SAD.ext O0.2) (g := (mkF m 0 #[.val (.ref a1), .val (.int (Int32.ofNat i))] [])) rfl (hb hby d18_0)
  refine own_go st1 ?_
  show own_Ends p e below s _ _ _ (T1.setTop (mkF m 3 #[.val (.ref a1), .val (.int (Int32.ofNat i))] [(.int (1 : Int32))]))
  refine own_go (fun _ k => XS.ifYes X1.here hx rfl (pc0 := 3) (pc' := 28) rfl (hb hby d18_3) rfl ((if0 _ _).trans (feq (by decide)).2) (by decide) (by decide) <| XS.iloadN X1.here hx rfl (hb hby d18_28) rfl <| XT.iconstV X1.here hx rfl (1 : Int32) (hb hby d18_29) rfl <| XS.ishl X1.here hx rfl (hb hby d18_30) rfl <| XS.istoreN X1.here hx rfl (hb hby d18_31) rfl (l' := #[.val (.ref a1), .val (.int ((Int32.ofNat i) <<< ((1 : Int32) &&& 31)))]) rfl <| k) ?_
  show own_Ends p e below s _ _ _ (T1.setTop (mkF m 32 #[.val (.ref a1), .val (.int ((Int32.ofNat i) <<< ((1 : Int32) &&& 31)))] []))
  rw [own_dbl (by omega)]
  show own_Ends p e below s _ _ _ (T1.setTop (mkF m 32 #[.val (.ref a1), .val (.int (Int32.ofNat (2 * i)))] []))
  refine own_go (fun _ k => XS.aloadN X1.here hx rfl (hb hby d18_32) rfl rfl <| XS.iloadN X1.here hx rfl (hb hby d18_33) rfl <| XT.iincV X1.here hx rfl (1 : Int32) (hb hby d18_34) rfl rfl (l' := #[.val (.ref a1), .val (.int ((Int32.ofNat (2 * i)) + (1 : Int32)))]) rfl <| k) ?_
  show own_Ends p e below s _ _ _ (T1.setTop (mkF m 37 #[.val (.ref a1), .val (.int ((Int32.ofNat (2 * i)) + (1 : Int32)))] [(.int (Int32.ofNat (2 * i))), (.ref a1)]))
  rw [own_up]
  show own_Ends p e below s _ _ _ (T1.setTop (mkF m 37 #[.val (.ref a1), .val (.int (Int32.ofNat (2 * i + 1)))] [(.int (Int32.ofNat (2 * i))), (.ref a1)]))
  obtain ⟨cla1_37_2, Ara1_37_2, qqa1_37_2, Sza1_37_2, Nga1_37_2, Hsa1_37_2, Gfa1_37_2⟩ := id V1
  have hina1_37_2 : ¬ ((Int32.ofNat (2 * i)) < 0 ∨ cla1_37_2.slots.size ≤ ((Int32.ofNat (2 * i))).toNatClampNeg) := inb_of Sza1_37_2 ⟨own_nneg (by omega), (own_ofNat_lt (by omega) (by omega)).mpr (by omega)⟩
  have hata1_37_2 : cla1_37_2.slots[((Int32.ofNat (2 * i))).toNatClampNeg]? = some (.int (own_loI (cs.getD i 0))) := Hsa1_37_2.at hina1_37_2 (by rw [own_clamp (by omega)]; exact (own_fm0 cs hi).1)
  refine own_go (fun _ k => X1.baloadBytes hx (j := (Int32.ofNat (2 * i))) (v := (.int (own_loI (cs.getD i 0)))) (by first | exact Ara1_37_2.1 | (rw [e1]; exact Ara1_37_2.1)) (State.isArrayOf_alike hZ.alike Ara1_37_2.2.1) Ara1_37_2.2.2 hina1_37_2 hata1_37_2 (g := (mkF m 37 #[.val (.ref a1), .val (.int (Int32.ofNat (2 * i + 1)))] [(.int (Int32.ofNat (2 * i))), (.ref a1)])) rfl rfl (hb hby d18_37) _ k) ?_
  show own_Ends p e below s _ _ _ (T1.setTop (mkF m 38 #[.val (.ref a1), .val (.int (Int32.ofNat (2 * i + 1)))] [(.int (own_loI (cs.getD i 0)))]))
  refine own_go (fun _ k => XT.sipushV X1.here hx rfl (255 : Int32) (hb hby d18_38) rfl <| XS.iand X1.here hx rfl (hb hby d18_41) rfl <| k) ?_
  show own_Ends p e below s _ _ _ (T1.setTop (mkF m 42 #[.val (.ref a1), .val (.int (Int32.ofNat (2 * i + 1)))] [(.int ((own_loI (cs.getD i 0)) &&& (255 : Int32)))]))
  obtain ⟨T3, X3, e3, st3⟩ := getS2 X1 hx hZ hown (host := "") (Or.inl (hw _ (List.mem_of_getElem? (i := 80) rfl))) Via.refl e1 (SHI.ext O0.2) (g := (mkF m 42 #[.val (.ref a1), .val (.int (Int32.ofNat (2 * i + 1)))] [(.int ((own_loI (cs.getD i 0)) &&& (255 : Int32)))])) rfl (hb hby d18_42)
  refine own_go st3 ?_
  show own_Ends p e below s _ _ _ (T3.setTop (mkF m 45 #[.val (.ref a1), .val (.int (Int32.ofNat (2 * i + 1)))] [(.int (0 : Int32)), (.int ((own_loI (cs.getD i 0)) &&& (255 : Int32)))]))
  refine own_go (fun _ k => XS.ishl X3.here hx rfl (hb hby d18_45) rfl <| XS.aloadN X3.here hx rfl (hb hby d18_46) rfl rfl <| XS.iloadN X3.here hx rfl (hb hby d18_47) rfl <| k) ?_
  show own_Ends p e below s _ _ _ (T3.setTop (mkF m 48 #[.val (.ref a1), .val (.int (Int32.ofNat (2 * i + 1)))] [(.int (Int32.ofNat (2 * i + 1))), (.ref a1), (.int (((own_loI (cs.getD i 0)) &&& (255 : Int32)) <<< ((0 : Int32) &&& 31)))]))
  obtain ⟨cla1_48_4, Ara1_48_4, qqa1_48_4, Sza1_48_4, Nga1_48_4, Hsa1_48_4, Gfa1_48_4⟩ := id V1
  have hina1_48_4 : ¬ ((Int32.ofNat (2 * i + 1)) < 0 ∨ cla1_48_4.slots.size ≤ ((Int32.ofNat (2 * i + 1))).toNatClampNeg) := inb_of Sza1_48_4 ⟨own_nneg (by omega), (own_ofNat_lt (by omega) (by omega)).mpr (by omega)⟩
  have hata1_48_4 : cla1_48_4.slots[((Int32.ofNat (2 * i + 1))).toNatClampNeg]? = some (.int (own_hiI (cs.getD i 0))) := Hsa1_48_4.at hina1_48_4 (by rw [own_clamp (by omega)]; exact (own_fm0 cs hi).2)
  refine own_go (fun _ k => X3.baloadBytes hx (j := (Int32.ofNat (2 * i + 1))) (v := (.int (own_hiI (cs.getD i 0)))) (by first | exact Ara1_48_4.1 | (rw [e3]; exact Ara1_48_4.1)) (State.isArrayOf_alike hZ.alike Ara1_48_4.2.1) Ara1_48_4.2.2 hina1_48_4 hata1_48_4 (g := (mkF m 48 #[.val (.ref a1), .val (.int (Int32.ofNat (2 * i + 1)))] [(.int (Int32.ofNat (2 * i + 1))), (.ref a1), (.int (((own_loI (cs.getD i 0)) &&& (255 : Int32)) <<< ((0 : Int32) &&& 31)))])) rfl rfl (hb hby d18_48) _ k) ?_
  show own_Ends p e below s _ _ _ (T3.setTop (mkF m 49 #[.val (.ref a1), .val (.int (Int32.ofNat (2 * i + 1)))] [(.int (own_hiI (cs.getD i 0))), (.int (((own_loI (cs.getD i 0)) &&& (255 : Int32)) <<< ((0 : Int32) &&& 31)))]))
  refine own_go (fun _ k => XT.sipushV X3.here hx rfl (255 : Int32) (hb hby d18_49) rfl <| XS.iand X3.here hx rfl (hb hby d18_52) rfl <| k) ?_
  show own_Ends p e below s _ _ _ (T3.setTop (mkF m 53 #[.val (.ref a1), .val (.int (Int32.ofNat (2 * i + 1)))] [(.int ((own_hiI (cs.getD i 0)) &&& (255 : Int32))), (.int (((own_loI (cs.getD i 0)) &&& (255 : Int32)) <<< ((0 : Int32) &&& 31)))]))
  obtain ⟨T5, X5, e5, st5⟩ := getS2 X3 hx hZ hown (host := "") (Or.inl (hw _ (List.mem_of_getElem? (i := 81) rfl))) Via.refl e3 (SLO.ext O0.2) (g := (mkF m 53 #[.val (.ref a1), .val (.int (Int32.ofNat (2 * i + 1)))] [(.int ((own_hiI (cs.getD i 0)) &&& (255 : Int32))), (.int (((own_loI (cs.getD i 0)) &&& (255 : Int32)) <<< ((0 : Int32) &&& 31)))])) rfl (hb hby d18_53)
  refine own_go st5 ?_
  show own_Ends p e below s _ _ _ (T5.setTop (mkF m 56 #[.val (.ref a1), .val (.int (Int32.ofNat (2 * i + 1)))] [(.int (8 : Int32)), (.int ((own_hiI (cs.getD i 0)) &&& (255 : Int32))), (.int (((own_loI (cs.getD i 0)) &&& (255 : Int32)) <<< ((0 : Int32) &&& 31)))]))
  refine own_go (fun _ k => XS.ishl X5.here hx rfl (hb hby d18_56) rfl <| XS.ior X5.here hx rfl (hb hby d18_57) rfl <| XS.i2c X5.here hx rfl (hb hby d18_58) rfl <| k) ?_
  show own_Ends p e below s _ _ _ (T5.setTop (mkF m 59 #[.val (.ref a1), .val (.int (Int32.ofNat (2 * i + 1)))] [(.int (((((own_loI (cs.getD i 0)) &&& (255 : Int32)) <<< ((0 : Int32) &&& 31)) ||| (((own_hiI (cs.getD i 0)) &&& (255 : Int32)) <<< ((8 : Int32) &&& 31))).toUInt32.toUInt16.toUInt32.toInt32))]))
  exact own_retN X5 hx (t := .char) hrt (by simp) (hb hby d18_59) hlk (show nar .char (((((own_loI (cs.getD i 0)) &&& (255 : Int32)) <<< ((0 : Int32) &&& 31)) ||| (((own_hiI (cs.getD i 0)) &&& (255 : Int32)) <<< ((8 : Int32) &&& 31))).toUInt32.toUInt16.toUInt32.toInt32) = cs.getD i 0 from own_gc (hC _ (own_mem hi))) (by rw [e5]; exact ⟨rfl, N0, rfl⟩) (by decide) (by decide)
theorem d13_0 : decode jdk_52_method_21_code 0 = .ok (.iconst 0, 1) := by decide +kernel
theorem d13_1 : decode jdk_52_method_21_code 1 = .ok (.istore 5, 2) := by decide +kernel
theorem d13_3 : decode jdk_52_method_21_code 3 = .ok (.iload 5, 2) := by decide +kernel
theorem d13_5 : decode jdk_52_method_21_code 5 = .ok (.iload 4, 2) := by decide +kernel
theorem d13_7 : decode jdk_52_method_21_code 7 = .ok (.if_icmp .ge 37, 3) := by decide +kernel
theorem d13_10 : decode jdk_52_method_21_code 10 = .ok (.aload_n 0, 1) := by decide +kernel
theorem d13_11 : decode jdk_52_method_21_code 11 = .ok (.iload_n 1, 1) := by decide +kernel
theorem d13_12 : decode jdk_52_method_21_code 12 = .ok (.caload, 1) := by decide +kernel
theorem d13_13 : decode jdk_52_method_21_code 13 = .ok (.istore 6, 2) := by decide +kernel
theorem d13_15 : decode jdk_52_method_21_code 15 = .ok (.iload 6, 2) := by decide +kernel
theorem d13_17 : decode jdk_52_method_21_code 17 = .ok (.sipush 255, 3) := by decide +kernel
theorem d13_20 : decode jdk_52_method_21_code 20 = .ok (.if_icmp .le 6, 3) := by decide +kernel
theorem d13_23 : decode jdk_52_method_21_code 23 = .ok (.iload 5, 2) := by decide +kernel
theorem d13_25 : decode jdk_52_method_21_code 25 = .ok (.ireturn, 1) := by decide +kernel
theorem d13_26 : decode jdk_52_method_21_code 26 = .ok (.aload_n 2, 1) := by decide +kernel
theorem d13_27 : decode jdk_52_method_21_code 27 = .ok (.iload_n 3, 1) := by decide +kernel
theorem d13_28 : decode jdk_52_method_21_code 28 = .ok (.iload 6, 2) := by decide +kernel
theorem d13_30 : decode jdk_52_method_21_code 30 = .ok (.i2b, 1) := by decide +kernel
theorem d13_31 : decode jdk_52_method_21_code 31 = .ok (.bastore, 1) := by decide +kernel
theorem d13_32 : decode jdk_52_method_21_code 32 = .ok (.iinc 1 1, 3) := by decide +kernel
theorem d13_35 : decode jdk_52_method_21_code 35 = .ok (.iinc 3 1, 3) := by decide +kernel
theorem d13_38 : decode jdk_52_method_21_code 38 = .ok (.iinc 5 1, 3) := by decide +kernel
theorem d13_41 : decode jdk_52_method_21_code 41 = .ok (.goto (-38), 3) := by decide +kernel
theorem d13_44 : decode jdk_52_method_21_code 44 = .ok (.iload 4, 2) := by decide +kernel
theorem d13_46 : decode jdk_52_method_21_code 46 = .ok (.ireturn, 1) := by decide +kernel
theorem ef_13 (m : MethodId) (x0 : Addr) (x1 : Int32) (x2 : Addr) (x3 : Int32) (x4 : Int32) : entryFrame m #[(.ref x0), (.int x1), (.ref x2), (.int x3), (.int x4)] 7 = mkF m 0 #[.val (.ref x0), .val (.int x1), .val (.ref x2), .val (.int x3), .val (.int x4), .unset, .unset] [] := by first | (simp [entryFrame, mkF, argsToLocals, Value.category]; done) | rfl
def Q13 (a1 : Addr) (a3 : Addr) (ka1 ka3 : ClassId) (cs : List Int32) (h0 : Heap) (n0 : Nat) (Z : State) (v : Option Value) (h : Heap) (L : List Loc) : Prop := ∃ r : Nat, v = some (.int (Int32.ofNat r)) ∧ Fr n0 L ∧ Keep h0 h [a3] ∧ ((r = cs.length ∧ (∀ c ∈ cs, ¬ (255 : Int32) < c) ∧ Arv Z h a3 ka3 .byte (Int32.ofNat cs.length) (cs.map own_bv) (.int (0 : Int32))) ∨ (r < cs.length ∧ (255 : Int32) < cs.getD r 0))
set_option maxRecDepth 65536 in
set_option maxHeartbeats 40000000 in
theorem rm13 (l : Launch) (Z : State) (a0 : Array Value) (hw : ∀ d ∈ tables_1, d.before a0 Z = true) (ws : List Jvm.Cond) (a1 : Addr) (a3 : Addr) (ka1 ka3 : ClassId) (cs : List Int32) (h0 : Heap) (n0 : Nat) (Z0 : n0 ≤ h0.size) (hN : cs.length ≤ 4) (V1 : Arv Z h0 a1 ka1 .char (Int32.ofNat cs.length) (cs.map Value.int) (.int (0 : Int32))) (V3 : Arv Z h0 a3 ka3 .byte (Int32.ofNat cs.length) [] (.int (0 : Int32))) (ne13 : a1 ≠ a3) (g3 : n0 ≤ a3) :
    MetFree l (⟨"java/lang/StringUTF16", "compress", "([CI[BII)I"⟩ : MethodName) (head1 (Jvm.Cond.code (⟨"java/lang/StringUTF16", "compress", "([CI[BII)I"⟩ : MethodName) jdk_52_method_21_code 7 (some .int) :: ws) ({ frames := 0, cells := 0, slots := 0, locals := 0 } : Room)) (fun a U => a = #[(.ref a1), (.int (0 : Int32)), (.ref a3), (.int (0 : Int32)), (.int (Int32.ofNat cs.length))] ∧ Z.Warmed39 U.vm ∧ U.heap = h0) (fun _ _ _ _ _ => True) (fun _ U o U' => ∃ v L, o = .returned v ∧ Q13 a1 a3 ka1 ka3 cs h0 n0 Z v U'.heap L ∧ FrameEnd U o U' L ({ frames := 0, cells := 0, slots := 0, locals := 0 } : Room).cells ({ frames := 0, cells := 0, slots := 0, locals := 0 } : Room).slots) := by
  refine MetFree.of_bodySF (plainFor_of_name pn_0) hisR ?_
  intro p e s m args below meth c s₁ Bd hml0 hP hK
  obtain ⟨rfl, hZ, hh⟩ := hP
  have hx := Bd.exec
  have hby := Bd.bytes
  have hml : c.maxLocals = 7 := hml0
  have hown : s.vm.findClass "java/lang/StringUTF16" = some m.cls := findClass_of_methodNamed Bd.named
  have hnm := (name_of_methodNamed Bd.named Bd.method).1
  have hlk := Bd.notSynchronized
  have hrt := Bd.returns
  have X0 : Stand p l e ({ frames := 0, cells := 0, slots := 0, locals := 0 } : Room) s m #[(.ref a1), (.int (0 : Int32)), (.ref a3), (.int (0 : Int32)), (.int (Int32.ofNat cs.length))] below meth c s₁ [] 0 0 := Stand.of_body Bd
  have e0 : s₁.heap = h0 := by rw [← hh, Bd.state]; rfl
  have N0 := Fr.nil n0
  show own_Ends p e below s (Q13 a1 a3 ka1 ka3 cs h0 n0 Z) ({ frames := 0, cells := 0, slots := 0, locals := 0 } : Room).cells ({ frames := 0, cells := 0, slots := 0, locals := 0 } : Room).slots (s₁.setTop (entryFrame m #[(.ref a1), (.int (0 : Int32)), (.ref a3), (.int (0 : Int32)), (.int (Int32.ofNat cs.length))] 7))
  rw [ef_13]
  have K0 : Keep h0 h0 [a3] := Keep.refl h0 [a3]
  refine own_go (fun _ k => XT.iconstV X0.here hx rfl (0 : Int32) (hb hby d13_0) rfl <| XS.istore X0.here hx rfl (hb hby d13_1) rfl (l' := #[.val (.ref a1), .val (.int (0 : Int32)), .val (.ref a3), .val (.int (0 : Int32)), .val (.int (Int32.ofNat cs.length)), .val (.int (0 : Int32)), .unset]) rfl <| k) ?_
  show own_Ends p e below s _ _ _ (s₁.setTop (mkF m 3 #[.val (.ref a1), .val (.int (0 : Int32)), .val (.ref a3), .val (.int (0 : Int32)), .val (.int (Int32.ofNat cs.length)), .val (.int (0 : Int32)), .unset] []))
  have loop : ∀ (k i : Nat), i + k = cs.length → (∀ c ∈ cs.take i, ¬ (255 : Int32) < c) → ∀ (T : State) (h : Heap) (locs : List Loc) (s6 : Slot), One s6 → Stand p l e ({ frames := 0, cells := 0, slots := 0, locals := 0 } : Room) s m #[(.ref a1), (.int (0 : Int32)), (.ref a3), (.int (0 : Int32)), (.int (Int32.ofNat cs.length))] below meth c T locs 0 0 → T.heap = h → Fr n0 locs → Keep h0 h [a3] → Arv Z h a3 ka3 .byte (Int32.ofNat cs.length) ((cs.take i).map own_bv) (.int (0 : Int32)) → own_Ends p e below s (Q13 a1 a3 ka1 ka3 cs h0 n0 Z) ({ frames := 0, cells := 0, slots := 0, locals := 0 } : Room).cells ({ frames := 0, cells := 0, slots := 0, locals := 0 } : Room).slots (T.setTop (mkF m 3 #[.val (.ref a1), .val (.int (Int32.ofNat i)), .val (.ref a3), .val (.int (Int32.ofNat i)), .val (.int (Int32.ofNat cs.length)), .val (.int (Int32.ofNat i)), s6] [])) := by
    intro k
    induction k with
    | zero =>
      intro i hi hlo T h locs s6 hs6 XM eM NM KM VM
      have V1 := V1.keep KM (ninS ne13 nin0)
      have ZM := Nat.le_trans Z0 KM.1
      obtain rfl : i = cs.length := by omega
      rw [List.take_length] at VM hlo
      show own_Ends p e below s _ _ _ (T.setTop (mkF m 3 #[.val (.ref a1), .val (.int (Int32.ofNat cs.length)), .val (.ref a3), .val (.int (Int32.ofNat cs.length)), .val (.int (Int32.ofNat cs.length)), .val (.int (Int32.ofNat cs.length)), s6] []))
      refine own_go (fun _ k => XS.iload XM.here hx rfl (hb hby d13_3) rfl <| XS.iload XM.here hx rfl (hb hby d13_5) rfl <| XS.icmpYes XM.here hx rfl (pc0 := 7) (pc' := 44) rfl (hb hby d13_7) rfl (flt (fun q => absurd ((own_ofNat_lt (by omega) (by omega)).mp q) (Nat.lt_irrefl _))).2.1 (by decide) (by decide) <| XS.iload XM.here hx rfl (hb hby d13_44) rfl <| k) ?_
      show own_Ends p e below s _ _ _ (T.setTop (mkF m 46 #[.val (.ref a1), .val (.int (Int32.ofNat cs.length)), .val (.ref a3), .val (.int (Int32.ofNat cs.length)), .val (.int (Int32.ofNat cs.length)), .val (.int (Int32.ofNat cs.length)), s6] [(.int (Int32.ofNat cs.length))]))
      exact own_ret XM hx hrt rfl (Or.inl ⟨rfl, Or.inl rfl, _, rfl⟩) (hb hby d13_46) hlk (by rw [eM]; exact ⟨_, rfl, NM, KM, Or.inl ⟨rfl, hlo, VM⟩⟩) (by decide) (by decide)
    | succ k ih =>
      intro i hi hlo T h locs s6 hs6 XM eM NM KM VM
      have V1 := V1.keep KM (ninS ne13 nin0)
      have ZM := Nat.le_trans Z0 KM.1
      refine own_go (fun _ k => XS.iload XM.here hx rfl (hb hby d13_3) rfl <| XS.iload XM.here hx rfl (hb hby d13_5) rfl <| XS.icmpNo XM.here hx rfl (hb hby d13_7) rfl (tlt ((own_ofNat_lt (by omega) (by omega)).mpr (by omega))).2.1 <| XS.aloadN XM.here hx rfl (hb hby d13_10) rfl rfl <| XS.iloadN XM.here hx rfl (hb hby d13_11) rfl <| k) ?_
      show own_Ends p e below s _ _ _ (T.setTop (mkF m 12 #[.val (.ref a1), .val (.int (Int32.ofNat i)), .val (.ref a3), .val (.int (Int32.ofNat i)), .val (.int (Int32.ofNat cs.length)), .val (.int (Int32.ofNat i)), s6] [(.int (Int32.ofNat i)), (.ref a1)]))
      obtain ⟨cla1_12_1, Ara1_12_1, qqa1_12_1, Sza1_12_1, Nga1_12_1, Hsa1_12_1, Gfa1_12_1⟩ := id V1
      have hina1_12_1 : ¬ ((Int32.ofNat i) < 0 ∨ cla1_12_1.slots.size ≤ ((Int32.ofNat i)).toNatClampNeg) := inb_of Sza1_12_1 ⟨own_nneg (by omega), (own_ofNat_lt (by omega) (by omega)).mpr (by omega)⟩
      have hata1_12_1 : cla1_12_1.slots[((Int32.ofNat i)).toNatClampNeg]? = some (.int (cs.getD i 0)) := Hsa1_12_1.at hina1_12_1 (own_getD cs (by omega))
      refine own_go (fun _ k => XM.caload hx (j := (Int32.ofNat i)) (v := (.int (cs.getD i 0))) (by first | exact Ara1_12_1.1 | (rw [eM]; exact Ara1_12_1.1)) (State.isArrayOf_alike hZ.alike Ara1_12_1.2.1) Ara1_12_1.2.2 hina1_12_1 hata1_12_1 (g := (mkF m 12 #[.val (.ref a1), .val (.int (Int32.ofNat i)), .val (.ref a3), .val (.int (Int32.ofNat i)), .val (.int (Int32.ofNat cs.length)), .val (.int (Int32.ofNat i)), s6] [(.int (Int32.ofNat i)), (.ref a1)])) rfl rfl (hb hby d13_12) _ k) ?_
      show own_Ends p e below s _ _ _ (T.setTop (mkF m 13 #[.val (.ref a1), .val (.int (Int32.ofNat i)), .val (.ref a3), .val (.int (Int32.ofNat i)), .val (.int (Int32.ofNat cs.length)), .val (.int (Int32.ofNat i)), s6] [(.int (cs.getD i 0))]))
      refine own_go (fun _ k => XS.istoreS XM.here hx rfl (hb hby d13_13) rfl rfl hs6 <| k) ?_
      show own_Ends p e below s _ _ _ (T.setTop (mkF m 15 #[.val (.ref a1), .val (.int (Int32.ofNat i)), .val (.ref a3), .val (.int (Int32.ofNat i)), .val (.int (Int32.ofNat cs.length)), .val (.int (Int32.ofNat i)), .val (.int (cs.getD i 0))] []))
      refine own_go (fun _ k => XS.iload XM.here hx rfl (hb hby d13_15) rfl <| XT.sipushV XM.here hx rfl (255 : Int32) (hb hby d13_17) rfl <| k) ?_
      show own_Ends p e below s _ _ _ (T.setTop (mkF m 20 #[.val (.ref a1), .val (.int (Int32.ofNat i)), .val (.ref a3), .val (.int (Int32.ofNat i)), .val (.int (Int32.ofNat cs.length)), .val (.int (Int32.ofNat i)), .val (.int (cs.getD i 0))] [(.int (255 : Int32)), (.int (cs.getD i 0))]))
      by_cases hc20_2 : (255 : Int32) < (cs.getD i 0)
      · -- true
        refine own_go (fun _ k => XS.icmpNo XM.here hx rfl (hb hby d13_20) rfl (tlt hc20_2).2.2.2 <| XS.iload XM.here hx rfl (hb hby d13_23) rfl <| k) ?_
        show own_Ends p e below s _ _ _ (T.setTop (mkF m 25 #[.val (.ref a1), .val (.int (Int32.ofNat i)), .val (.ref a3), .val (.int (Int32.ofNat i)), .val (.int (Int32.ofNat cs.length)), .val (.int (Int32.ofNat i)), .val (.int (cs.getD i 0))] [(.int (Int32.ofNat i))]))
        exact own_ret XM hx hrt rfl (Or.inl ⟨rfl, Or.inl rfl, _, rfl⟩) (hb hby d13_25) hlk (by rw [eM]; exact ⟨_, rfl, NM, KM, Or.inr ⟨by omega, hc20_2⟩⟩) (by decide) (by decide)
      · -- false
        refine own_go (fun _ k => XS.icmpYes XM.here hx rfl (pc0 := 20) (pc' := 26) rfl (hb hby d13_20) rfl (flt hc20_2).2.2.2 (by decide) (by decide) <| XS.aloadN XM.here hx rfl (hb hby d13_26) rfl rfl <| XS.iloadN XM.here hx rfl (hb hby d13_27) rfl <| XS.iload XM.here hx rfl (hb hby d13_28) rfl <| XS.i2b XM.here hx rfl (hb hby d13_30) rfl <| k) ?_
        show own_Ends p e below s _ _ _ (T.setTop (mkF m 31 #[.val (.ref a1), .val (.int (Int32.ofNat i)), .val (.ref a3), .val (.int (Int32.ofNat i)), .val (.int (Int32.ofNat cs.length)), .val (.int (Int32.ofNat i)), .val (.int (cs.getD i 0))] [(.int ((cs.getD i 0).toInt8.toInt32)), (.int (Int32.ofNat i)), (.ref a3)]))
        obtain ⟨cla3_31_3, Ara3_31_3, qqa3_31_3, Sza3_31_3, Nga3_31_3, Hsa3_31_3, Gfa3_31_3⟩ := id VM
        have hina3_31_3 : ¬ ((Int32.ofNat i) < 0 ∨ cla3_31_3.slots.size ≤ ((Int32.ofNat i)).toNatClampNeg) := inb_of Sza3_31_3 ⟨own_nneg (by omega), (own_ofNat_lt (by omega) (by omega)).mpr (by omega)⟩
        obtain ⟨T4, h4, X4, e4, W4, st4⟩ := stB XM hx hZ eM Ara3_31_3 (j := (Int32.ofNat i)) hina3_31_3 (g := (mkF m 31 #[.val (.ref a1), .val (.int (Int32.ofNat i)), .val (.ref a3), .val (.int (Int32.ofNat i)), .val (.int (Int32.ofNat cs.length)), .val (.int (Int32.ofNat i)), .val (.int (cs.getD i 0))] [(.int ((cs.getD i 0).toInt8.toInt32)), (.int (Int32.ofNat i)), (.ref a3)])) rfl rfl (hb hby d13_31)
        refine own_go st4 ?_
        have V1'4 := V1.other W4 ne13
        have Z4 := Nat.le_trans ZM (Keep.of_wr W4).1
        have K4' := KM.wr W4 (Or.inl (List.mem_of_getElem? (i := 0) rfl))
        have N4 := Fr.snoc X4 NM g3
        have VM'4 : Arv Z h4 a3 ka3 .byte (Int32.ofNat cs.length) ((cs.take i).map own_bv ++ [own_bv (cs.getD i 0)]) (.int (0 : Int32)) := own_snoc Ara3_31_3 qqa3_31_3 Sza3_31_3 Nga3_31_3 Hsa3_31_3 Gfa3_31_3 (fits_nar_byte _) W4 (by rw [own_clamp (by omega), List.length_map, List.length_take]; omega)
        show own_Ends p e below s _ _ _ (T4.setTop (mkF m 32 #[.val (.ref a1), .val (.int (Int32.ofNat i)), .val (.ref a3), .val (.int (Int32.ofNat i)), .val (.int (Int32.ofNat cs.length)), .val (.int (Int32.ofNat i)), .val (.int (cs.getD i 0))] []))
        refine own_go (fun _ k => XT.iincV X4.here hx rfl (1 : Int32) (hb hby d13_32) rfl rfl (l' := #[.val (.ref a1), .val (.int ((Int32.ofNat i) + (1 : Int32))), .val (.ref a3), .val (.int (Int32.ofNat i)), .val (.int (Int32.ofNat cs.length)), .val (.int (Int32.ofNat i)), .val (.int (cs.getD i 0))]) rfl <| XT.iincV X4.here hx rfl (1 : Int32) (hb hby d13_35) rfl rfl (l' := #[.val (.ref a1), .val (.int ((Int32.ofNat i) + (1 : Int32))), .val (.ref a3), .val (.int ((Int32.ofNat i) + (1 : Int32))), .val (.int (Int32.ofNat cs.length)), .val (.int (Int32.ofNat i)), .val (.int (cs.getD i 0))]) rfl <| XT.iincV X4.here hx rfl (1 : Int32) (hb hby d13_38) rfl rfl (l' := #[.val (.ref a1), .val (.int ((Int32.ofNat i) + (1 : Int32))), .val (.ref a3), .val (.int ((Int32.ofNat i) + (1 : Int32))), .val (.int (Int32.ofNat cs.length)), .val (.int ((Int32.ofNat i) + (1 : Int32))), .val (.int (cs.getD i 0))]) rfl <| XS.goto X4.here hx rfl (pc0 := 41) (pc' := 3) rfl (hb hby d13_41) (by decide) (by decide) <| k) ?_
        show own_Ends p e below s _ _ _ (T4.setTop (mkF m 3 #[.val (.ref a1), .val (.int ((Int32.ofNat i) + (1 : Int32))), .val (.ref a3), .val (.int ((Int32.ofNat i) + (1 : Int32))), .val (.int (Int32.ofNat cs.length)), .val (.int ((Int32.ofNat i) + (1 : Int32))), .val (.int (cs.getD i 0))] []))
        have hlo' : ∀ c ∈ cs.take (i + 1), ¬ (255 : Int32) < c := by
          rw [own_take cs (by omega)]; intro c hc; rcases List.mem_append.mp hc with q | q
          · exact hlo c q
          · rw [List.mem_singleton.mp q]; exact hc20_2
        rw [show (cs.take i).map own_bv ++ [own_bv (cs.getD i 0)] = (cs.take (i + 1)).map own_bv by rw [own_take cs (by omega), List.map_append]; rfl] at VM'4
        rw [own_up]
        exact ih (i + 1) (by omega) hlo' _ _ _ _ (One.val rfl) X4 e4 N4 K4' VM'4
  exact loop cs.length 0 (by omega) (fun c hc => absurd hc (by simp)) _ _ _ _ One.u X0 e0 N0 K0 V3
theorem d12_0 : decode jdk_52_method_16_code 0 = .ok (.iload_n 2, 1) := by decide +kernel
theorem d12_1 : decode jdk_52_method_16_code 1 = .ok (.newarray .byte, 2) := by decide +kernel
theorem d12_3 : decode jdk_52_method_16_code 3 = .ok (.astore_n 3, 1) := by decide +kernel
theorem d12_4 : decode jdk_52_method_16_code 4 = .ok (.aload_n 0, 1) := by decide +kernel
theorem d12_5 : decode jdk_52_method_16_code 5 = .ok (.iload_n 1, 1) := by decide +kernel
theorem d12_6 : decode jdk_52_method_16_code 6 = .ok (.aload_n 3, 1) := by decide +kernel
theorem d12_7 : decode jdk_52_method_16_code 7 = .ok (.iconst 0, 1) := by decide +kernel
theorem d12_8 : decode jdk_52_method_16_code 8 = .ok (.iload_n 2, 1) := by decide +kernel
theorem d12_9 : decode jdk_52_method_16_code 9 = .ok (.invokestatic 115, 3) := by decide +kernel
theorem d12_12 : decode jdk_52_method_16_code 12 = .ok (.istore 4, 2) := by decide +kernel
theorem d12_14 : decode jdk_52_method_16_code 14 = .ok (.iload 4, 2) := by decide +kernel
theorem d12_16 : decode jdk_52_method_16_code 16 = .ok (.iload_n 2, 1) := by decide +kernel
theorem d12_17 : decode jdk_52_method_16_code 17 = .ok (.if_icmp .eq 40, 3) := by decide +kernel
theorem d12_20 : decode jdk_52_method_16_code 20 = .ok (.aload_n 0, 1) := by decide +kernel
theorem d12_21 : decode jdk_52_method_16_code 21 = .ok (.iload_n 1, 1) := by decide +kernel
theorem d12_22 : decode jdk_52_method_16_code 22 = .ok (.iload_n 2, 1) := by decide +kernel
theorem d12_23 : decode jdk_52_method_16_code 23 = .ok (.invokestatic 119, 3) := by decide +kernel
theorem d12_26 : decode jdk_52_method_16_code 26 = .ok (.astore 5, 2) := by decide +kernel
theorem d12_28 : decode jdk_52_method_16_code 28 = .ok (.aload 5, 2) := by decide +kernel
theorem d12_30 : decode jdk_52_method_16_code 30 = .ok (.iload 4, 2) := by decide +kernel
theorem d12_32 : decode jdk_52_method_16_code 32 = .ok (.invokestatic 71, 3) := by decide +kernel
theorem d12_35 : decode jdk_52_method_16_code 35 = .ok (.sipush 255, 3) := by decide +kernel
theorem d12_38 : decode jdk_52_method_16_code 38 = .ok (.if_icmp .gt 16, 3) := by decide +kernel
theorem d12_41 : decode jdk_52_method_16_code 41 = .ok (.aload 5, 2) := by decide +kernel
theorem d12_43 : decode jdk_52_method_16_code 43 = .ok (.iconst 0, 1) := by decide +kernel
theorem d12_44 : decode jdk_52_method_16_code 44 = .ok (.aload_n 3, 1) := by decide +kernel
theorem d12_45 : decode jdk_52_method_16_code 45 = .ok (.iconst 0, 1) := by decide +kernel
theorem d12_46 : decode jdk_52_method_16_code 46 = .ok (.iload_n 2, 1) := by decide +kernel
theorem d12_47 : decode jdk_52_method_16_code 47 = .ok (.invokestatic 123, 3) := by decide +kernel
theorem d12_50 : decode jdk_52_method_16_code 50 = .ok (.iload_n 2, 1) := by decide +kernel
theorem d12_51 : decode jdk_52_method_16_code 51 = .ok (.if_icmp .eq 6, 3) := by decide +kernel
theorem d12_54 : decode jdk_52_method_16_code 54 = .ok (.aload 5, 2) := by decide +kernel
theorem d12_56 : decode jdk_52_method_16_code 56 = .ok (.areturn, 1) := by decide +kernel
theorem d12_57 : decode jdk_52_method_16_code 57 = .ok (.aload_n 3, 1) := by decide +kernel
theorem d12_58 : decode jdk_52_method_16_code 58 = .ok (.areturn, 1) := by decide +kernel
theorem ef_12 (m : MethodId) (x0 : Addr) (x1 : Int32) (x2 : Int32) : entryFrame m #[(.ref x0), (.int x1), (.int x2)] 6 = mkF m 0 #[.val (.ref x0), .val (.int x1), .val (.int x2), .unset, .unset, .unset] [] := by first | (simp [entryFrame, mkF, argsToLocals, Value.category]; done) | rfl
def Q12 (a1 : Addr) (vc : Int32) (vf : Value) (ka1 : ClassId) (cs : List Int32) (h0 : Heap) (n0 : Nat) (Z : State) (v : Option Value) (h : Heap) (L : List Loc) : Prop := ∃ b k kc, v = some (.ref b) ∧ Fr n0 L ∧ Keep h0 h [] ∧ n0 ≤ b ∧ h0.size ≤ b ∧ own_KC kc cs ∧ Arv Z h b k .byte (own_zz kc cs.length) (own_vs kc cs) (.int (0 : Int32))
set_option maxRecDepth 65536 in
set_option maxHeartbeats 40000000 in
theorem rm12 (l : Launch) (Z : State) (a0 : Array Value) (hw : ∀ d ∈ tables_1, d.before a0 Z = true) (ws : List Jvm.Cond) (a1 : Addr) (vc : Int32) (vf : Value) (ka1 : ClassId) (cs : List Int32) (h0 : Heap) (n0 : Nat) (Z0 : n0 ≤ h0.size) (O0 : Old Z n0 h0) (ST : own_St Z vc vf) (hN : cs.length ≤ 4) (hC : own_Ch cs) (V1 : Arv Z h0 a1 ka1 .char (Int32.ofNat cs.length) (cs.map Value.int) (.int (0 : Int32))) :
    MetFree l (⟨"java/lang/StringUTF16", "compress", "([CII)[B"⟩ : MethodName) (head1 (Jvm.Cond.code (⟨"java/lang/StringUTF16", "compress", "([CII)[B"⟩ : MethodName) jdk_52_method_16_code 6 (some (.array .byte)) :: ws) ({ frames := 3, cells := 2, slots := 12, locals := 40 } : Room)) (fun a U => a = #[(.ref a1), (.int (0 : Int32)), (.int (Int32.ofNat cs.length))] ∧ Z.Warmed39 U.vm ∧ U.heap = h0) (fun _ _ _ _ _ => True) (fun _ U o U' => ∃ v L, o = .returned v ∧ Q12 a1 vc vf ka1 cs h0 n0 Z v U'.heap L ∧ FrameEnd U o U' L ({ frames := 3, cells := 2, slots := 12, locals := 40 } : Room).cells ({ frames := 3, cells := 2, slots := 12, locals := 40 } : Room).slots) := by
  refine MetFree.of_bodySF (plainFor_of_name pn_0) hisR ?_
  intro p e s m args below meth c s₁ Bd hml0 hP hK
  obtain ⟨rfl, hZ, hh⟩ := hP
  have hx := Bd.exec
  have hby := Bd.bytes
  have hml : c.maxLocals = 6 := hml0
  have hown : s.vm.findClass "java/lang/StringUTF16" = some m.cls := findClass_of_methodNamed Bd.named
  have hnm := (name_of_methodNamed Bd.named Bd.method).1
  have hlk := Bd.notSynchronized
  have hrt := Bd.returns
  have X0 : Stand p l e ({ frames := 3, cells := 2, slots := 12, locals := 40 } : Room) s m #[(.ref a1), (.int (0 : Int32)), (.int (Int32.ofNat cs.length))] below meth c s₁ [] 0 0 := Stand.of_body Bd
  have e0 : s₁.heap = h0 := by rw [← hh, Bd.state]; rfl
  have N0 := Fr.nil n0
  show own_Ends p e below s (Q12 a1 vc vf ka1 cs h0 n0 Z) ({ frames := 3, cells := 2, slots := 12, locals := 40 } : Room).cells ({ frames := 3, cells := 2, slots := 12, locals := 40 } : Room).slots (s₁.setTop (entryFrame m #[(.ref a1), (.int (0 : Int32)), (.int (Int32.ofNat cs.length))] 6))
  rw [ef_12]
  have K0 : Keep h0 h0 [] := Keep.refl h0 []
  obtain ⟨HVC, SCS, SAD, SHI, SLO, SIO, HVF⟩ := id ST
  refine own_go (fun _ k => XS.iloadN X0.here hx rfl (hb hby d12_0) rfl <| k) ?_
  show own_Ends p e below s _ _ _ (s₁.setTop (mkF m 1 #[.val (.ref a1), .val (.int (0 : Int32)), .val (.int (Int32.ofNat cs.length)), .unset, .unset, .unset] [(.int (Int32.ofNat cs.length))]))
  obtain ⟨T1, h1, k1, X1, e1, E1, A1, st1⟩ := newP X0 hx hZ (hw _ (List.mem_of_getElem? (i := 29) rfl)) e0 (g := (mkF m 1 #[.val (.ref a1), .val (.int (0 : Int32)), .val (.int (Int32.ofNat cs.length)), .unset, .unset, .unset] [(.int (Int32.ofNat cs.length))])) rfl (hb hby d12_1) rfl (own_nneg (by omega)) (cap := 4) (by rw [own_clamp (by omega)]; omega) (by decide) (by decide) (by decide)
  obtain ⟨b1, g1⟩ : ∃ z, z = h0.size := ⟨_, rfl⟩
  rw [← g1] at A1 st1
  refine own_go st1 ?_
  have ne_a1_b1 : a1 ≠ b1 := Nat.ne_of_lt (Nat.lt_of_lt_of_le V1.lt (Nat.le_of_eq g1.symm))
  have g_b1 : n0 ≤ b1 := Nat.le_trans Z0 (Nat.le_of_eq g1.symm)
  have sz_b1 : h0.size ≤ b1 := Nat.le_trans K0.1 (Nat.le_of_eq g1.symm)
  have V1'1 := V1.ext E1
  have Z1 := Nat.le_trans Z0 E1.1
  have O1 := O0.ext E1
  have K1' := K0.ext E1
  have V_b1 : Arv Z h1 b1 k1 .byte (Int32.ofNat cs.length) [] (.int (0 : Int32)) := Arv.new A1 (own_nneg (by omega))
  show own_Ends p e below s _ _ _ (T1.setTop (mkF m 3 #[.val (.ref a1), .val (.int (0 : Int32)), .val (.int (Int32.ofNat cs.length)), .unset, .unset, .unset] [(.ref b1)]))
  refine own_go (fun _ k => XS.astoreN X1.here hx rfl (hb hby d12_3) rfl rfl (l' := #[.val (.ref a1), .val (.int (0 : Int32)), .val (.int (Int32.ofNat cs.length)), .val (.ref b1), .unset, .unset]) rfl <| XS.aloadN X1.here hx rfl (hb hby d12_4) rfl rfl <| XS.iloadN X1.here hx rfl (hb hby d12_5) rfl <| XS.aloadN X1.here hx rfl (hb hby d12_6) rfl rfl <| XT.iconstV X1.here hx rfl (0 : Int32) (hb hby d12_7) rfl <| XS.iloadN X1.here hx rfl (hb hby d12_8) rfl <| k) ?_
  show own_Ends p e below s _ _ _ (T1.setTop (mkF m 9 #[.val (.ref a1), .val (.int (0 : Int32)), .val (.int (Int32.ofNat cs.length)), .val (.ref b1), .unset, .unset] [(.int (Int32.ofNat cs.length)), (.int (0 : Int32)), (.ref b1), (.int (0 : Int32)), (.ref a1)]))
  obtain ⟨_, _, ⟨T2, L2, k2, n2⟩, -, X2, ⟨Lc2, hQ2, l2, y2, z2⟩, st2⟩ := Jvm.LawKit.callS X1 hx (y := (⟨"java/lang/StringUTF16", "compress", "([CI[BII)I"⟩ : MethodName)) hown (mvT hZ (hw _ (List.mem_of_getElem? (i := 63) rfl))) (mvT hZ (hw _ (List.mem_of_getElem? (i := 64) rfl))) (mvT hZ (hw _ (List.mem_of_getElem? (i := 61) rfl))) (mvT hZ (hw _ (List.mem_of_getElem? (i := 65) rfl))) (by decide) (backOf (W := 0) (rm13 l Z a0 hw [] a1 b1 ka1 k1 cs h1 n0 Z1 hN V1'1 V_b1 ne_a1_b1 g_b1) hZ (hw _ (List.mem_of_getElem? (i := 65) rfl)) (hw _ (List.mem_of_getElem? (i := 61) rfl)) (by decide) (by decide)) (g := (mkF m 9 #[.val (.ref a1), .val (.int (0 : Int32)), .val (.int (Int32.ofNat cs.length)), .val (.ref b1), .unset, .unset] [(.int (Int32.ofNat cs.length)), (.int (0 : Int32)), (.ref b1), (.int (0 : Int32)), (.ref a1)])) rfl (by rw [hml]; rfl) (argsL := [(.ref a1), (.int (0 : Int32)), (.ref b1), (.int (0 : Int32)), (.int (Int32.ofNat cs.length))]) (rest := []) (lenOf pd_11 rfl) rfl (by show 2 * 0 + _ ≤ _; exact Nat.le_of_eq rfl) (hb hby d12_9) (fun _ _ => ⟨rfl, e1, Nat.le_of_ble_eq_true rfl, Nat.le_of_ble_eq_true rfl⟩)
  dsimp only [Pt.U, Pt.locs, Pt.cells, Pt.slots] at X2 l2 y2 z2 st2 hQ2
  subst l2 y2 z2
  obtain ⟨r, rfl, N2q, K2, hor⟩ := hQ2
  have N2 := Fr.app N0 N2q
  refine own_go (fun _ k => st2 _ k) ?_
  have V1'2 := V1'1.keep K2 (ninS ne_a1_b1 nin0)
  have Z2 := Nat.le_trans Z1 K2.1
  have O2 := O1.keep K2 (allS g_b1 all0)
  have K2' := K1'.trans K2 (allS (Or.inr sz_b1) all0)
  show own_Ends p e below s _ _ _ (T2.setTop (mkF m 12 #[.val (.ref a1), .val (.int (0 : Int32)), .val (.int (Int32.ofNat cs.length)), .val (.ref b1), .unset, .unset] [(.int (Int32.ofNat r))]))
  refine own_go (fun _ k => XS.istore X2.here hx rfl (hb hby d12_12) rfl (l' := #[.val (.ref a1), .val (.int (0 : Int32)), .val (.int (Int32.ofNat cs.length)), .val (.ref b1), .val (.int (Int32.ofNat r)), .unset]) rfl <| k) ?_
  show own_Ends p e below s _ _ _ (T2.setTop (mkF m 14 #[.val (.ref a1), .val (.int (0 : Int32)), .val (.int (Int32.ofNat cs.length)), .val (.ref b1), .val (.int (Int32.ofNat r)), .unset] []))
  rcases hor with ⟨rfl, hlo, Vc⟩ | ⟨hr, hgt⟩
  ·
    refine own_go (fun _ k => XS.iload X2.here hx rfl (hb hby d12_14) rfl <| XS.iloadN X2.here hx rfl (hb hby d12_16) rfl <| XS.icmpYes X2.here hx rfl (pc0 := 17) (pc' := 57) rfl (hb hby d12_17) rfl (teq rfl).1 (by decide) (by decide) <| XS.aloadN X2.here hx rfl (hb hby d12_57) rfl rfl <| k) ?_
    show own_Ends p e below s _ _ _ (T2.setTop (mkF m 58 #[.val (.ref a1), .val (.int (0 : Int32)), .val (.int (Int32.ofNat cs.length)), .val (.ref b1), .val (.int (Int32.ofNat cs.length)), .unset] [(.ref b1)]))
    exact own_ret X2 hx hrt rfl (Or.inr (Or.inr (Or.inr (Or.inr ⟨rfl, rfl, rfl⟩)))) (hb hby d12_58) hlk (by exact ⟨_, _, (0 : Int32), rfl, N2, K2', g_b1, sz_b1, Or.inl ⟨rfl, hlo⟩, Vc⟩) (by decide) (by decide)
  ·
    refine own_go (fun _ k => XS.iload X2.here hx rfl (hb hby d12_14) rfl <| XS.iloadN X2.here hx rfl (hb hby d12_16) rfl <| XS.icmpNo X2.here hx rfl (hb hby d12_17) rfl (feq (fun q => absurd ((congrArg Int32.toNatClampNeg q)) (by rw [own_clamp (by omega), own_clamp (by omega)]; omega))).1 <| XS.aloadN X2.here hx rfl (hb hby d12_20) rfl rfl <| XS.iloadN X2.here hx rfl (hb hby d12_21) rfl <| XS.iloadN X2.here hx rfl (hb hby d12_22) rfl <| k) ?_
    show own_Ends p e below s _ _ _ (T2.setTop (mkF m 23 #[.val (.ref a1), .val (.int (0 : Int32)), .val (.int (Int32.ofNat cs.length)), .val (.ref b1), .val (.int (Int32.ofNat r)), .unset] [(.int (Int32.ofNat cs.length)), (.int (0 : Int32)), (.ref a1)]))
    obtain ⟨_, _, ⟨T3, L3, k3, n3⟩, -, X3, ⟨Lc3, hQ3, l3, y3, z3⟩, st3⟩ := Jvm.LawKit.callS X2 hx (y := (⟨"java/lang/StringUTF16", "toBytes", "([CII)[B"⟩ : MethodName)) hown (mvT hZ (hw _ (List.mem_of_getElem? (i := 66) rfl))) (mvT hZ (hw _ (List.mem_of_getElem? (i := 67) rfl))) (mvT hZ (hw _ (List.mem_of_getElem? (i := 61) rfl))) (mvT hZ (hw _ (List.mem_of_getElem? (i := 68) rfl))) (by decide) (backOf (W := 0) (rm14 l Z a0 hw [] a1 vc vf ka1 cs T2.heap n0 Z2 O2 ST hN V1'2) hZ (hw _ (List.mem_of_getElem? (i := 68) rfl)) (hw _ (List.mem_of_getElem? (i := 61) rfl)) (by decide) (by decide)) (g := (mkF m 23 #[.val (.ref a1), .val (.int (0 : Int32)), .val (.int (Int32.ofNat cs.length)), .val (.ref b1), .val (.int (Int32.ofNat r)), .unset] [(.int (Int32.ofNat cs.length)), (.int (0 : Int32)), (.ref a1)])) rfl (by rw [hml]; rfl) (argsL := [(.ref a1), (.int (0 : Int32)), (.int (Int32.ofNat cs.length))]) (rest := []) (lenOf pd_10 rfl) rfl (by show 2 * 0 + _ ≤ _; exact Nat.le_of_eq rfl) (hb hby d12_23) (fun _ _ => ⟨rfl, rfl, Nat.le_of_ble_eq_true rfl, Nat.le_of_ble_eq_true rfl⟩)
    dsimp only [Pt.U, Pt.locs, Pt.cells, Pt.slots] at X3 l3 y3 z3 st3 hQ3
    subst l3 y3 z3
    obtain ⟨b3, kb3, rfl, N3q, K3, g3, sz3, Vb3⟩ := hQ3
    have N3 := Fr.app N2 N3q
    refine own_go (fun _ k => st3 _ k) ?_
    have V1'3 := V1'2.keep K3 nin0
    have Z3 := Nat.le_trans Z2 K3.1
    have O3 := O2.keep K3 all0
    have K3' := K2'.trans K3 all0
    show own_Ends p e below s _ _ _ (T3.setTop (mkF m 26 #[.val (.ref a1), .val (.int (0 : Int32)), .val (.int (Int32.ofNat cs.length)), .val (.ref b1), .val (.int (Int32.ofNat r)), .unset] [(.ref b3)]))
    have ne_a1_b3 : a1 ≠ b3 := Nat.ne_of_lt (Nat.lt_of_lt_of_le V1'2.lt sz3)
    have szk3 : h0.size ≤ b3 := Nat.le_trans K2'.1 sz3
    refine own_go (fun _ k => XS.astore X3.here hx rfl (hb hby d12_26) rfl rfl (l' := #[.val (.ref a1), .val (.int (0 : Int32)), .val (.int (Int32.ofNat cs.length)), .val (.ref b1), .val (.int (Int32.ofNat r)), .val (.ref b3)]) rfl <| XS.aload X3.here hx rfl (hb hby d12_28) rfl rfl <| XS.iload X3.here hx rfl (hb hby d12_30) rfl <| k) ?_
    show own_Ends p e below s _ _ _ (T3.setTop (mkF m 32 #[.val (.ref a1), .val (.int (0 : Int32)), .val (.int (Int32.ofNat cs.length)), .val (.ref b1), .val (.int (Int32.ofNat r)), .val (.ref b3)] [(.int (Int32.ofNat r)), (.ref b3)]))
    obtain ⟨_, _, ⟨T4, L4, k4, n4⟩, -, X4, ⟨Lc4, hQ4, l4, y4, z4⟩, st4⟩ := Jvm.LawKit.callS X3 hx (y := (⟨"java/lang/StringUTF16", "getChar", "([BI)C"⟩ : MethodName)) hown (mvT hZ (hw _ (List.mem_of_getElem? (i := 82) rfl))) (mvT hZ (hw _ (List.mem_of_getElem? (i := 83) rfl))) (mvT hZ (hw _ (List.mem_of_getElem? (i := 61) rfl))) (mvT hZ (hw _ (List.mem_of_getElem? (i := 84) rfl))) (by decide) (backOf (W := 0) (rm18 l Z a0 hw [] b3 vc vf kb3 cs r T3.heap n0 Z3 O3 ST hN hC hr Vb3) hZ (hw _ (List.mem_of_getElem? (i := 84) rfl)) (hw _ (List.mem_of_getElem? (i := 61) rfl)) (by decide) (by decide)) (g := (mkF m 32 #[.val (.ref a1), .val (.int (0 : Int32)), .val (.int (Int32.ofNat cs.length)), .val (.ref b1), .val (.int (Int32.ofNat r)), .val (.ref b3)] [(.int (Int32.ofNat r)), (.ref b3)])) rfl (by rw [hml]; rfl) (argsL := [(.ref b3), (.int (Int32.ofNat r))]) (rest := []) (lenOf pd_15 rfl) rfl (by show 2 * 0 + _ ≤ _; exact Nat.le_of_eq rfl) (hb hby d12_32) (fun _ _ => ⟨rfl, rfl, Nat.le_of_ble_eq_true rfl, Nat.le_of_ble_eq_true rfl⟩)
    dsimp only [Pt.U, Pt.locs, Pt.cells, Pt.slots] at X4 l4 y4 z4 st4 hQ4
    subst l4 y4 z4
    obtain ⟨rfl, N4q, e4⟩ := hQ4
    have N4 := Fr.app N3 N4q
    refine own_go (fun _ k => st4 _ k) ?_
    show own_Ends p e below s _ _ _ (T4.setTop (mkF m 35 #[.val (.ref a1), .val (.int (0 : Int32)), .val (.int (Int32.ofNat cs.length)), .val (.ref b1), .val (.int (Int32.ofNat r)), .val (.ref b3)] [(.int (cs.getD r 0))]))
    refine own_go (fun _ k => XT.sipushV X4.here hx rfl (255 : Int32) (hb hby d12_35) rfl <| XS.icmpYes X4.here hx rfl (pc0 := 38) (pc' := 54) rfl (hb hby d12_38) rfl (tlt hgt).2.2.1 (by decide) (by decide) <| XS.aload X4.here hx rfl (hb hby d12_54) rfl rfl <| k) ?_
    show own_Ends p e below s _ _ _ (T4.setTop (mkF m 56 #[.val (.ref a1), .val (.int (0 : Int32)), .val (.int (Int32.ofNat cs.length)), .val (.ref b1), .val (.int (Int32.ofNat r)), .val (.ref b3)] [(.ref b3)]))
    exact own_ret X4 hx hrt rfl (Or.inr (Or.inr (Or.inr (Or.inr ⟨rfl, rfl, rfl⟩)))) (hb hby d12_56) hlk (by rw [e4]; exact ⟨_, _, (1 : Int32), rfl, N4, K3', g3, szk3, Or.inr rfl, Vb3⟩) (by decide) (by decide)
theorem d19_0 : decode jdk_52_method_15_code 0 = .ok (.iload_n 1, 1) := by decide +kernel
theorem d19_1 : decode jdk_52_method_15_code 1 = .ok (.aload_n 0, 1) := by decide +kernel
theorem d19_2 : decode jdk_52_method_15_code 2 = .ok (.arraylength, 1) := by decide +kernel
theorem d19_3 : decode jdk_52_method_15_code 3 = .ok (.isub, 1) := by decide +kernel
theorem d19_4 : decode jdk_52_method_15_code 4 = .ok (.bipush 31, 2) := by decide +kernel
theorem d19_6 : decode jdk_52_method_15_code 6 = .ok (.iushr, 1) := by decide +kernel
theorem d19_7 : decode jdk_52_method_15_code 7 = .ok (.i2b, 1) := by decide +kernel
theorem d19_8 : decode jdk_52_method_15_code 8 = .ok (.ireturn, 1) := by decide +kernel
theorem ef_19 (m : MethodId) (x0 : Addr) (x1 : Int32) : entryFrame m #[(.ref x0), (.int x1)] 2 = mkF m 0 #[.val (.ref x0), .val (.int x1)] [] := by first | (simp [entryFrame, mkF, argsToLocals, Value.category]; done) | rfl
def Q19 (a1 : Addr) (p2 : Int32) (ka1 : ClassId) (z : Int32) (vs : List Value) (h0 : Heap) (n0 : Nat) (Z : State) (v : Option Value) (h : Heap) (L : List Loc) : Prop := v = some (.int (own_cal p2 z)) ∧ Fr n0 L ∧ h = h0
set_option maxRecDepth 65536 in
set_option maxHeartbeats 40000000 in
theorem rm19 (l : Launch) (Z : State) (a0 : Array Value) (hw : ∀ d ∈ tables_1, d.before a0 Z = true) (ws : List Jvm.Cond) (a1 : Addr) (p2 : Int32) (ka1 : ClassId) (z : Int32) (vs : List Value) (h0 : Heap) (n0 : Nat) (Z0 : n0 ≤ h0.size) (V1 : Arv Z h0 a1 ka1 .byte z vs (.int (0 : Int32))) :
    MetFree l (⟨"java/lang/StringUTF16", "coderFromArrayLen", "([BI)B"⟩ : MethodName) (head1 (Jvm.Cond.code (⟨"java/lang/StringUTF16", "coderFromArrayLen", "([BI)B"⟩ : MethodName) jdk_52_method_15_code 2 (some .byte) :: ws) ({ frames := 0, cells := 0, slots := 0, locals := 0 } : Room)) (fun a U => a = #[(.ref a1), (.int p2)] ∧ Z.Warmed39 U.vm ∧ U.heap = h0) (fun _ _ _ _ _ => True) (fun _ U o U' => ∃ v L, o = .returned v ∧ Q19 a1 p2 ka1 z vs h0 n0 Z v U'.heap L ∧ FrameEnd U o U' L ({ frames := 0, cells := 0, slots := 0, locals := 0 } : Room).cells ({ frames := 0, cells := 0, slots := 0, locals := 0 } : Room).slots) := by
  refine MetFree.of_bodySF (plainFor_of_name pn_0) hisR ?_
  intro p e s m args below meth c s₁ Bd hml0 hP hK
  obtain ⟨rfl, hZ, hh⟩ := hP
  have hx := Bd.exec
  have hby := Bd.bytes
  have hml : c.maxLocals = 2 := hml0
  have hown : s.vm.findClass "java/lang/StringUTF16" = some m.cls := findClass_of_methodNamed Bd.named
  have hnm := (name_of_methodNamed Bd.named Bd.method).1
  have hlk := Bd.notSynchronized
  have hrt := Bd.returns
  have X0 : Stand p l e ({ frames := 0, cells := 0, slots := 0, locals := 0 } : Room) s m #[(.ref a1), (.int p2)] below meth c s₁ [] 0 0 := Stand.of_body Bd
  have e0 : s₁.heap = h0 := by rw [← hh, Bd.state]; rfl
  have N0 := Fr.nil n0
  show own_Ends p e below s (Q19 a1 p2 ka1 z vs h0 n0 Z) ({ frames := 0, cells := 0, slots := 0, locals := 0 } : Room).cells ({ frames := 0, cells := 0, slots := 0, locals := 0 } : Room).slots (s₁.setTop (entryFrame m #[(.ref a1), (.int p2)] 2))
  rw [ef_19]
  refine own_go (fun _ k => XS.iloadN X0.here hx rfl (hb hby d19_0) rfl <| XS.aloadN X0.here hx rfl (hb hby d19_1) rfl rfl <| k) ?_
  show own_Ends p e below s _ _ _ (s₁.setTop (mkF m 2 #[.val (.ref a1), .val (.int p2)] [(.ref a1), (.int p2)]))
  obtain ⟨cla1_2_1, Ara1_2_1, qqa1_2_1, Sza1_2_1, Nga1_2_1, Hsa1_2_1, Gfa1_2_1⟩ := id V1
  refine own_go (fun _ k => X0.arraylength hx (by first | exact Ara1_2_1.1 | (rw [e0]; exact Ara1_2_1.1)) (State.isArrayOf_alike hZ.alike Ara1_2_1.2.1) (g := (mkF m 2 #[.val (.ref a1), .val (.int p2)] [(.ref a1), (.int p2)])) rfl rfl (hb hby d19_2) _ k) ?_
  rw [len_of Sza1_2_1 Nga1_2_1]
  show own_Ends p e below s _ _ _ (s₁.setTop (mkF m 3 #[.val (.ref a1), .val (.int p2)] [(.int z), (.int p2)]))
  refine own_go (fun _ k => XS.isub X0.here hx rfl (hb hby d19_3) rfl <| XT.bipushV X0.here hx rfl (31 : Int32) (hb hby d19_4) rfl <| XS.iushr X0.here hx rfl (hb hby d19_6) rfl <| XS.i2b X0.here hx rfl (hb hby d19_7) rfl <| k) ?_
  show own_Ends p e below s _ _ _ (s₁.setTop (mkF m 8 #[.val (.ref a1), .val (.int p2)] [(.int ((((p2 - z).toUInt32 >>> ((31 : Int32) &&& 31).toUInt32).toInt32).toInt8.toInt32))]))
  exact own_retN X0 hx (t := .byte) hrt (by simp) (hb hby d19_8) hlk rfl (by rw [e0]; exact ⟨rfl, N0, rfl⟩) (by decide) (by decide)
theorem d5_0 : decode jdk_42_method_149_code 0 = .ok (.aload_n 0, 1) := by decide +kernel
theorem d5_1 : decode jdk_42_method_149_code 1 = .ok (.invokespecial 1, 3) := by decide +kernel
theorem d5_4 : decode jdk_42_method_149_code 4 = .ok (.iload_n 3, 1) := by decide +kernel
theorem d5_5 : decode jdk_42_method_149_code 5 = .ok (.ifCond .ne 22, 3) := by decide +kernel
theorem d5_8 : decode jdk_42_method_149_code 8 = .ok (.aload_n 0, 1) := by decide +kernel
theorem d5_9 : decode jdk_42_method_149_code 9 = .ok (.ldc 7, 2) := by decide +kernel
theorem d5_11 : decode jdk_42_method_149_code 11 = .ok (.getfield 9, 3) := by decide +kernel
theorem d5_14 : decode jdk_42_method_149_code 14 = .ok (.putfield 9, 3) := by decide +kernel
theorem d5_17 : decode jdk_42_method_149_code 17 = .ok (.aload_n 0, 1) := by decide +kernel
theorem d5_18 : decode jdk_42_method_149_code 18 = .ok (.ldc 7, 2) := by decide +kernel
theorem d5_20 : decode jdk_42_method_149_code 20 = .ok (.getfield 15, 3) := by decide +kernel
theorem d5_23 : decode jdk_42_method_149_code 23 = .ok (.putfield 15, 3) := by decide +kernel
theorem d5_26 : decode jdk_42_method_149_code 26 = .ok (.return_, 1) := by decide +kernel
theorem d5_27 : decode jdk_42_method_149_code 27 = .ok (.getstatic 38, 3) := by decide +kernel
theorem d5_30 : decode jdk_42_method_149_code 30 = .ok (.ifCond .eq 28, 3) := by decide +kernel
theorem d5_33 : decode jdk_42_method_149_code 33 = .ok (.aload_n 1, 1) := by decide +kernel
theorem d5_34 : decode jdk_42_method_149_code 34 = .ok (.iload_n 2, 1) := by decide +kernel
theorem d5_35 : decode jdk_42_method_149_code 35 = .ok (.iload_n 3, 1) := by decide +kernel
theorem d5_36 : decode jdk_42_method_149_code 36 = .ok (.invokestatic 177, 3) := by decide +kernel
theorem d5_39 : decode jdk_42_method_149_code 39 = .ok (.astore 5, 2) := by decide +kernel
theorem d5_41 : decode jdk_42_method_149_code 41 = .ok (.aload_n 0, 1) := by decide +kernel
theorem d5_42 : decode jdk_42_method_149_code 42 = .ok (.aload 5, 2) := by decide +kernel
theorem d5_44 : decode jdk_42_method_149_code 44 = .ok (.iload_n 3, 1) := by decide +kernel
theorem d5_45 : decode jdk_42_method_149_code 45 = .ok (.invokestatic 47, 3) := by decide +kernel
theorem d5_48 : decode jdk_42_method_149_code 48 = .ok (.putfield 15, 3) := by decide +kernel
theorem d5_51 : decode jdk_42_method_149_code 51 = .ok (.aload_n 0, 1) := by decide +kernel
theorem d5_52 : decode jdk_42_method_149_code 52 = .ok (.aload 5, 2) := by decide +kernel
theorem d5_54 : decode jdk_42_method_149_code 54 = .ok (.putfield 9, 3) := by decide +kernel
theorem d5_57 : decode jdk_42_method_149_code 57 = .ok (.return_, 1) := by decide +kernel
theorem d5_58 : decode jdk_42_method_149_code 58 = .ok (.aload_n 0, 1) := by decide +kernel
theorem d5_59 : decode jdk_42_method_149_code 59 = .ok (.iconst 1, 1) := by decide +kernel
theorem d5_60 : decode jdk_42_method_149_code 60 = .ok (.putfield 15, 3) := by decide +kernel
theorem d5_63 : decode jdk_42_method_149_code 63 = .ok (.aload_n 0, 1) := by decide +kernel
theorem d5_64 : decode jdk_42_method_149_code 64 = .ok (.aload_n 1, 1) := by decide +kernel
theorem d5_65 : decode jdk_42_method_149_code 65 = .ok (.iload_n 2, 1) := by decide +kernel
theorem d5_66 : decode jdk_42_method_149_code 66 = .ok (.iload_n 3, 1) := by decide +kernel
theorem d5_67 : decode jdk_42_method_149_code 67 = .ok (.invokestatic 180, 3) := by decide +kernel
theorem d5_70 : decode jdk_42_method_149_code 70 = .ok (.putfield 9, 3) := by decide +kernel
theorem d5_73 : decode jdk_42_method_149_code 73 = .ok (.return_, 1) := by decide +kernel
theorem pn_1 : plainName "java/lang/String" = true := by first | (simp [plainName, overriddenIn]; done) | decide +kernel
theorem ef_5 (m : MethodId) (x0 : Addr) (x1 : Addr) (x2 : Int32) (x3 : Int32) : entryFrame m #[(.ref x0), (.ref x1), (.int x2), (.int x3), .null] 6 = mkF m 0 #[.val (.ref x0), .val (.ref x1), .val (.int x2), .val (.int x3), .val .null, .unset] [] := by first | (simp [entryFrame, mkF, argsToLocals, Value.category]; done) | rfl
def Q5 (a1 : Addr) (a2 : Addr) (vc : Int32) (vf : Value) (ka1 : ClassId) (cs : List Int32) (h0 : Heap) (n0 : Nat) (Z : State) (v : Option Value) (h : Heap) (L : List Loc) : Prop := ∃ b k kc, v = none ∧ Fr n0 L ∧ Keep h0 h [a1] ∧ n0 ≤ b ∧ h0.size ≤ b ∧ own_KC kc cs ∧ Fld Z h a1 "java/lang/String" "value" "[B" (.ref b) ∧ Fld Z h a1 "java/lang/String" "coder" "B" (.int kc) ∧ Arv Z h b k .byte (own_zz kc cs.length) (own_vs kc cs) (.int (0 : Int32))
set_option maxRecDepth 65536 in
set_option maxHeartbeats 40000000 in
theorem rm5 (l : Launch) (Z : State) (a0 : Array Value) (hw : ∀ d ∈ tables_1, d.before a0 Z = true) (ws : List Jvm.Cond) (a1 : Addr) (a2 : Addr) (vc : Int32) (vf : Value) (ka1 : ClassId) (cs : List Int32) (h0 : Heap) (n0 : Nat) (Z0 : n0 ≤ h0.size) (O0 : Old Z n0 h0) (ST : own_St Z vc vf) (hN : cs.length ≤ 4) (hC : own_Ch cs) (hone : 1 ≤ cs.length) (V2 : Arv Z h0 a2 ka1 .char (Int32.ofNat cs.length) (cs.map Value.int) (.int (0 : Int32))) (E1 : Exa Z h0 a1 "java/lang/String") (F1 : Fld Z h0 a1 "java/lang/String" "value" "[B" .null) (F2 : Fld Z h0 a1 "java/lang/String" "coder" "B" (.int (0 : Int32))) (ne12 : a1 ≠ a2) (g1 : n0 ≤ a1) :
    MetFree l (⟨"java/lang/String", "<init>", "([CIILjava/lang/Void;)V"⟩ : MethodName) (head1 (Jvm.Cond.code (⟨"java/lang/String", "<init>", "([CIILjava/lang/Void;)V"⟩ : MethodName) jdk_42_method_149_code 6 none :: ws) ({ frames := 4, cells := 2, slots := 12, locals := 60 } : Room)) (fun a U => a = #[(.ref a1), (.ref a2), (.int (0 : Int32)), (.int (Int32.ofNat cs.length)), .null] ∧ Z.Warmed39 U.vm ∧ U.heap = h0) (fun _ _ _ _ _ => True) (fun _ U o U' => ∃ v L, o = .returned v ∧ Q5 a1 a2 vc vf ka1 cs h0 n0 Z v U'.heap L ∧ FrameEnd U o U' L ({ frames := 4, cells := 2, slots := 12, locals := 60 } : Room).cells ({ frames := 4, cells := 2, slots := 12, locals := 60 } : Room).slots) := by
  refine MetFree.of_bodySF (plainFor_of_name pn_1) hisR ?_
  intro p e s m args below meth c s₁ Bd hml0 hP hK
  obtain ⟨rfl, hZ, hh⟩ := hP
  have hx := Bd.exec
  have hby := Bd.bytes
  have hml : c.maxLocals = 6 := hml0
  have hown : s.vm.findClass "java/lang/String" = some m.cls := findClass_of_methodNamed Bd.named
  have hnm := (name_of_methodNamed Bd.named Bd.method).1
  have hlk := Bd.notSynchronized
  have hrt := Bd.returns
  have X0 : Stand p l e ({ frames := 4, cells := 2, slots := 12, locals := 60 } : Room) s m #[(.ref a1), (.ref a2), (.int (0 : Int32)), (.int (Int32.ofNat cs.length)), .null] below meth c s₁ [] 0 0 := Stand.of_body Bd
  have e0 : s₁.heap = h0 := by rw [← hh, Bd.state]; rfl
  have N0 := Fr.nil n0
  show own_Ends p e below s (Q5 a1 a2 vc vf ka1 cs h0 n0 Z) ({ frames := 4, cells := 2, slots := 12, locals := 60 } : Room).cells ({ frames := 4, cells := 2, slots := 12, locals := 60 } : Room).slots (s₁.setTop (entryFrame m #[(.ref a1), (.ref a2), (.int (0 : Int32)), (.int (Int32.ofNat cs.length)), .null] 6))
  rw [ef_5]
  have K0 : Keep h0 h0 [a1] := Keep.refl h0 [a1]
  obtain ⟨HVC, SCS, SAD, SHI, SLO, SIO, HVF⟩ := id ST
  refine own_go (fun _ k => XS.aloadN X0.here hx rfl (hb hby d5_0) rfl rfl <| k) ?_
  show own_Ends p e below s _ _ _ (s₁.setTop (mkF m 1 #[.val (.ref a1), .val (.ref a2), .val (.int (0 : Int32)), .val (.int (Int32.ofNat cs.length)), .val .null, .unset] [(.ref a1)]))
  obtain ⟨T1, X1, e1, st1⟩ := initO X0 hx hZ hown (hw _ (List.mem_of_getElem? (i := 25) rfl)) (hw _ (List.mem_of_getElem? (i := 26) rfl)) (hw _ (List.mem_of_getElem? (i := 27) rfl)) e0 (g := (mkF m 1 #[.val (.ref a1), .val (.ref a2), .val (.int (0 : Int32)), .val (.int (Int32.ofNat cs.length)), .val .null, .unset] [(.ref a1)])) rfl (by rw [hml]; rfl) rfl (hb hby d5_1) (by decide) (W := 0) (by show 2 * 0 + _ ≤ _; exact Nat.le_of_eq rfl) (by decide)
  refine own_go st1 ?_
  show own_Ends p e below s _ _ _ (T1.setTop (mkF m 4 #[.val (.ref a1), .val (.ref a2), .val (.int (0 : Int32)), .val (.int (Int32.ofNat cs.length)), .val .null, .unset] []))
  refine own_go (fun _ k => XS.iloadN X1.here hx rfl (hb hby d5_4) rfl <| XS.ifYes X1.here hx rfl (pc0 := 5) (pc' := 27) rfl (hb hby d5_5) rfl ((if0 _ _).trans (feq (fun q => absurd (congrArg Int32.toNatClampNeg q) (by rw [own_clamp (by omega)]; show ¬ cs.length = 0; omega))).2) (by decide) (by decide) <| k) ?_
  show own_Ends p e below s _ _ _ (T1.setTop (mkF m 27 #[.val (.ref a1), .val (.ref a2), .val (.int (0 : Int32)), .val (.int (Int32.ofNat cs.length)), .val .null, .unset] []))
  obtain ⟨T2, X2, e2, st2⟩ := getS2 X1 hx hZ hown (host := "") (Or.inl (hw _ (List.mem_of_getElem? (i := 50) rfl))) Via.refl e1 (SCS.ext O0.2) (g := (mkF m 27 #[.val (.ref a1), .val (.ref a2), .val (.int (0 : Int32)), .val (.int (Int32.ofNat cs.length)), .val .null, .unset] [])) rfl (hb hby d5_27)
  refine own_go st2 ?_
  show own_Ends p e below s _ _ _ (T2.setTop (mkF m 30 #[.val (.ref a1), .val (.ref a2), .val (.int (0 : Int32)), .val (.int (Int32.ofNat cs.length)), .val .null, .unset] [(.int vc)]))
  refine own_go (fun _ k => XS.ifNo X2.here hx rfl (hb hby d5_30) rfl ((if0 _ _).trans (feq HVC).1) <| XS.aloadN X2.here hx rfl (hb hby d5_33) rfl rfl <| XS.iloadN X2.here hx rfl (hb hby d5_34) rfl <| XS.iloadN X2.here hx rfl (hb hby d5_35) rfl <| k) ?_
  show own_Ends p e below s _ _ _ (T2.setTop (mkF m 36 #[.val (.ref a1), .val (.ref a2), .val (.int (0 : Int32)), .val (.int (Int32.ofNat cs.length)), .val .null, .unset] [(.int (Int32.ofNat cs.length)), (.int (0 : Int32)), (.ref a2)]))
  obtain ⟨_, _, ⟨T3, L3, k3, n3⟩, -, X3, ⟨Lc3, hQ3, l3, y3, z3⟩, st3⟩ := Jvm.LawKit.callS X2 hx (y := (⟨"java/lang/StringUTF16", "compress", "([CII)[B"⟩ : MethodName)) hown (mvT hZ (hw _ (List.mem_of_getElem? (i := 59) rfl))) (mvT hZ (hw _ (List.mem_of_getElem? (i := 60) rfl))) (mvT hZ (hw _ (List.mem_of_getElem? (i := 61) rfl))) (mvT hZ (hw _ (List.mem_of_getElem? (i := 62) rfl))) (by decide) (backOf (W := 0) (rm12 l Z a0 hw [] a2 vc vf ka1 cs h0 n0 Z0 O0 ST hN hC V2) hZ (hw _ (List.mem_of_getElem? (i := 62) rfl)) (hw _ (List.mem_of_getElem? (i := 61) rfl)) (by decide) (by decide)) (g := (mkF m 36 #[.val (.ref a1), .val (.ref a2), .val (.int (0 : Int32)), .val (.int (Int32.ofNat cs.length)), .val .null, .unset] [(.int (Int32.ofNat cs.length)), (.int (0 : Int32)), (.ref a2)])) rfl (by rw [hml]; rfl) (argsL := [(.ref a2), (.int (0 : Int32)), (.int (Int32.ofNat cs.length))]) (rest := []) (lenOf pd_10 rfl) rfl (by show 2 * 0 + _ ≤ _; exact Nat.le_of_eq rfl) (hb hby d5_36) (fun _ _ => ⟨rfl, e2, Nat.le_of_ble_eq_true rfl, Nat.le_of_ble_eq_true rfl⟩)
  dsimp only [Pt.U, Pt.locs, Pt.cells, Pt.slots] at X3 l3 y3 z3 st3 hQ3
  subst l3 y3 z3
  obtain ⟨b3, kb3, kc, rfl, N3q, K3, g3, sz3, hkc, Vb3⟩ := hQ3
  have N3 := Fr.app N0 N3q
  refine own_go (fun _ k => st3 _ k) ?_
  have V2'3 := V2.keep K3 nin0
  have E1'3 := E1.keep K3
  have F1'3 := F1.keep K3 nin0
  have F2'3 := F2.keep K3 nin0
  have Z3 := Nat.le_trans Z0 K3.1
  have O3 := O0.keep K3 all0
  have K3' := K0.trans K3 all0
  show own_Ends p e below s _ _ _ (T3.setTop (mkF m 39 #[.val (.ref a1), .val (.ref a2), .val (.int (0 : Int32)), .val (.int (Int32.ofNat cs.length)), .val .null, .unset] [(.ref b3)]))
  have ne_a2_b3 : a2 ≠ b3 := Nat.ne_of_lt (Nat.lt_of_lt_of_le V2.lt sz3)
  have ne_a1_b3 : a1 ≠ b3 := Nat.ne_of_lt (Nat.lt_of_lt_of_le E1.lt sz3)
  have szk3 : h0.size ≤ b3 := Nat.le_trans K0.1 sz3
  refine own_go (fun _ k => XS.astore X3.here hx rfl (hb hby d5_39) rfl rfl (l' := #[.val (.ref a1), .val (.ref a2), .val (.int (0 : Int32)), .val (.int (Int32.ofNat cs.length)), .val .null, .val (.ref b3)]) rfl <| XS.aloadN X3.here hx rfl (hb hby d5_41) rfl rfl <| XS.aload X3.here hx rfl (hb hby d5_42) rfl rfl <| XS.iloadN X3.here hx rfl (hb hby d5_44) rfl <| k) ?_
  show own_Ends p e below s _ _ _ (T3.setTop (mkF m 45 #[.val (.ref a1), .val (.ref a2), .val (.int (0 : Int32)), .val (.int (Int32.ofNat cs.length)), .val .null, .val (.ref b3)] [(.int (Int32.ofNat cs.length)), (.ref b3), (.ref a1)]))
  obtain ⟨_, _, ⟨T4, L4, k4, n4⟩, -, X4, ⟨Lc4, hQ4, l4, y4, z4⟩, st4⟩ := Jvm.LawKit.callS X3 hx (y := (⟨"java/lang/StringUTF16", "coderFromArrayLen", "([BI)B"⟩ : MethodName)) hown (mvT hZ (hw _ (List.mem_of_getElem? (i := 85) rfl))) (mvT hZ (hw _ (List.mem_of_getElem? (i := 86) rfl))) (mvT hZ (hw _ (List.mem_of_getElem? (i := 61) rfl))) (mvT hZ (hw _ (List.mem_of_getElem? (i := 87) rfl))) (by decide) (backOf (W := 1) (rm19 l Z a0 hw [] b3 (Int32.ofNat cs.length) kb3 (own_zz kc cs.length) (own_vs kc cs) T3.heap n0 Z3 Vb3) hZ (hw _ (List.mem_of_getElem? (i := 87) rfl)) (hw _ (List.mem_of_getElem? (i := 61) rfl)) (by decide) (by decide)) (g := (mkF m 45 #[.val (.ref a1), .val (.ref a2), .val (.int (0 : Int32)), .val (.int (Int32.ofNat cs.length)), .val .null, .val (.ref b3)] [(.int (Int32.ofNat cs.length)), (.ref b3), (.ref a1)])) rfl (by rw [hml]; rfl) (argsL := [(.ref b3), (.int (Int32.ofNat cs.length))]) (rest := [(.ref a1)]) (lenOf pd_16 rfl) rfl (by show 2 * 0 + _ ≤ _; exact Nat.le_of_eq rfl) (hb hby d5_45) (fun _ _ => ⟨rfl, rfl, Nat.le_of_ble_eq_true rfl, Nat.le_of_ble_eq_true rfl⟩)
  dsimp only [Pt.U, Pt.locs, Pt.cells, Pt.slots] at X4 l4 y4 z4 st4 hQ4
  subst l4 y4 z4
  obtain ⟨rfl, N4q, e4⟩ := hQ4
  have N4 := Fr.app N3 N4q
  refine own_go (fun _ k => st4 _ k) ?_
  show own_Ends p e below s _ _ _ (T4.setTop (mkF m 48 #[.val (.ref a1), .val (.ref a2), .val (.int (0 : Int32)), .val (.int (Int32.ofNat cs.length)), .val .null, .val (.ref b3)] [(.int (own_cal (Int32.ofNat cs.length) (own_zz kc cs.length))), (.ref a1)]))
  obtain ⟨T5, h5, X5, e5, W5, st5⟩ := putFN X4 hx hZ hown (hw _ (List.mem_of_getElem? (i := 35) rfl)) Via.refl e4 F2'3 E1'3 (Or.inr ⟨(hw _ (List.mem_of_getElem? (i := 31) rfl)), rfl, hnm⟩) (hw _ (List.mem_of_getElem? (i := 16) rfl)) (ty := .byte) (v' := (.int (nar .byte (own_cal (Int32.ofNat cs.length) (own_zz kc cs.length))))) (by decide) rfl (fits_nar_byte _) (g := (mkF m 48 #[.val (.ref a1), .val (.ref a2), .val (.int (0 : Int32)), .val (.int (Int32.ofNat cs.length)), .val .null, .val (.ref b3)] [(.int (own_cal (Int32.ofNat cs.length) (own_zz kc cs.length))), (.ref a1)])) rfl rfl (hb hby d5_48)
  refine own_go st5 ?_
  have V2'5 := V2'3.other W5 (Ne.symm ne12)
  have E1'5 := E1'3.wr W5
  have F1'5 := F1'3.other W5 (Or.inr (slot_ne (Or.inr (hw _ (List.mem_of_getElem? (i := 30) rfl))) (Or.inr (hw _ (List.mem_of_getElem? (i := 31) rfl))) (by decide) (t := (.array .byte)) (t' := .byte) (by decide) (by decide)))
  have Vb3'5 := Vb3.other W5 (Ne.symm ne_a1_b3)
  have Z5 := Nat.le_trans Z3 (Keep.of_wr W5).1
  have O5 := O3.wr W5 g1
  have K5' := K3'.wr W5 (Or.inl (List.mem_of_getElem? (i := 0) rfl))
  have N5 := Fr.snoc X5 N4 g1
  have F2'5 := F2'3.same W5
  show own_Ends p e below s _ _ _ (T5.setTop (mkF m 51 #[.val (.ref a1), .val (.ref a2), .val (.int (0 : Int32)), .val (.int (Int32.ofNat cs.length)), .val .null, .val (.ref b3)] []))
  refine own_go (fun _ k => XS.aloadN X5.here hx rfl (hb hby d5_51) rfl rfl <| XS.aload X5.here hx rfl (hb hby d5_52) rfl rfl <| k) ?_
  show own_Ends p e below s _ _ _ (T5.setTop (mkF m 54 #[.val (.ref a1), .val (.ref a2), .val (.int (0 : Int32)), .val (.int (Int32.ofNat cs.length)), .val .null, .val (.ref b3)] [(.ref b3), (.ref a1)]))
  obtain ⟨T6, h6, X6, e6, W6, st6⟩ := putF X5 hx hZ hown (host := "") (Or.inl (hw _ (List.mem_of_getElem? (i := 34) rfl))) Via.refl e5 F1'5 E1'5 (Or.inr ⟨(hw _ (List.mem_of_getElem? (i := 30) rfl)), rfl, hnm⟩) (hw _ (List.mem_of_getElem? (i := 16) rfl)) (ty := (.array .byte)) (by decide) rfl rfl (g := (mkF m 54 #[.val (.ref a1), .val (.ref a2), .val (.int (0 : Int32)), .val (.int (Int32.ofNat cs.length)), .val .null, .val (.ref b3)] [(.ref b3), (.ref a1)])) rfl rfl (hb hby d5_54)
  refine own_go st6 ?_
  have V2'6 := V2'5.other W6 (Ne.symm ne12)
  have E1'6 := E1'5.wr W6
  have Vb3'6 := Vb3'5.other W6 (Ne.symm ne_a1_b3)
  have F2'6 := F2'5.other W6 (Or.inr (slot_ne (Or.inr (hw _ (List.mem_of_getElem? (i := 31) rfl))) (Or.inr (hw _ (List.mem_of_getElem? (i := 30) rfl))) (by decide) (t := .byte) (t' := (.array .byte)) (by decide) (by decide)))
  have Z6 := Nat.le_trans Z5 (Keep.of_wr W6).1
  have O6 := O5.wr W6 g1
  have K6' := K5'.wr W6 (Or.inl (List.mem_of_getElem? (i := 0) rfl))
  have N6 := Fr.snoc X6 N5 g1
  have F1'6 := F1'5.same W6
  show own_Ends p e below s _ _ _ (T6.setTop (mkF m 57 #[.val (.ref a1), .val (.ref a2), .val (.int (0 : Int32)), .val (.int (Int32.ofNat cs.length)), .val .null, .val (.ref b3)] []))
  exact own_ret0 X6 hx hrt (hb hby d5_57) hlk (by rw [e6]; exact ⟨_, _, _, rfl, N6, K6', g3, szk3, hkc, F1'6, (by have q := F2'6; rw [own_calk hkc hone (by omega), own_kcb hkc] at q; exact q), Vb3'6⟩) (by decide) (by decide)
theorem d4_0 : decode jdk_42_method_3_code 0 = .ok (.aload_n 0, 1) := by decide +kernel
theorem d4_1 : decode jdk_42_method_3_code 1 = .ok (.aload_n 1, 1) := by decide +kernel
theorem d4_2 : decode jdk_42_method_3_code 2 = .ok (.iconst 0, 1) := by decide +kernel
theorem d4_3 : decode jdk_42_method_3_code 3 = .ok (.aload_n 1, 1) := by decide +kernel
theorem d4_4 : decode jdk_42_method_3_code 4 = .ok (.arraylength, 1) := by decide +kernel
theorem d4_5 : decode jdk_42_method_3_code 5 = .ok (.aconst_null, 1) := by decide +kernel
theorem d4_6 : decode jdk_42_method_3_code 6 = .ok (.invokespecial 27, 3) := by decide +kernel
theorem d4_9 : decode jdk_42_method_3_code 9 = .ok (.return_, 1) := by decide +kernel
theorem ef_4 (m : MethodId) (x0 : Addr) (x1 : Addr) : entryFrame m #[(.ref x0), (.ref x1)] 2 = mkF m 0 #[.val (.ref x0), .val (.ref x1)] [] := by first | (simp [entryFrame, mkF, argsToLocals, Value.category]; done) | rfl
def Q4 (a1 : Addr) (a2 : Addr) (vc : Int32) (vf : Value) (ka1 : ClassId) (cs : List Int32) (h0 : Heap) (n0 : Nat) (Z : State) (v : Option Value) (h : Heap) (L : List Loc) : Prop := ∃ b k kc, v = none ∧ Fr n0 L ∧ Keep h0 h [a1] ∧ n0 ≤ b ∧ h0.size ≤ b ∧ own_KC kc cs ∧ Fld Z h a1 "java/lang/String" "value" "[B" (.ref b) ∧ Fld Z h a1 "java/lang/String" "coder" "B" (.int kc) ∧ Arv Z h b k .byte (own_zz kc cs.length) (own_vs kc cs) (.int (0 : Int32))
set_option maxRecDepth 65536 in
set_option maxHeartbeats 40000000 in
theorem rm4 (l : Launch) (Z : State) (a0 : Array Value) (hw : ∀ d ∈ tables_1, d.before a0 Z = true) (ws : List Jvm.Cond) (a1 : Addr) (a2 : Addr) (vc : Int32) (vf : Value) (ka1 : ClassId) (cs : List Int32) (h0 : Heap) (n0 : Nat) (Z0 : n0 ≤ h0.size) (O0 : Old Z n0 h0) (ST : own_St Z vc vf) (hN : cs.length ≤ 4) (hC : own_Ch cs) (hone : 1 ≤ cs.length) (V2 : Arv Z h0 a2 ka1 .char (Int32.ofNat cs.length) (cs.map Value.int) (.int (0 : Int32))) (E1 : Exa Z h0 a1 "java/lang/String") (F1 : Fld Z h0 a1 "java/lang/String" "value" "[B" .null) (F2 : Fld Z h0 a1 "java/lang/String" "coder" "B" (.int (0 : Int32))) (ne12 : a1 ≠ a2) (g1 : n0 ≤ a1) :
    MetFree l (⟨"java/lang/String", "<init>", "([C)V"⟩ : MethodName) (head1 (Jvm.Cond.code (⟨"java/lang/String", "<init>", "([C)V"⟩ : MethodName) jdk_42_method_3_code 2 none :: ws) ({ frames := 5, cells := 2, slots := 12, locals := 80 } : Room)) (fun a U => a = #[(.ref a1), (.ref a2)] ∧ Z.Warmed39 U.vm ∧ U.heap = h0) (fun _ _ _ _ _ => True) (fun _ U o U' => ∃ v L, o = .returned v ∧ Q4 a1 a2 vc vf ka1 cs h0 n0 Z v U'.heap L ∧ FrameEnd U o U' L ({ frames := 5, cells := 2, slots := 12, locals := 80 } : Room).cells ({ frames := 5, cells := 2, slots := 12, locals := 80 } : Room).slots) := by
  refine MetFree.of_bodySF (plainFor_of_name pn_1) hisR ?_
  intro p e s m args below meth c s₁ Bd hml0 hP hK
  obtain ⟨rfl, hZ, hh⟩ := hP
  have hx := Bd.exec
  have hby := Bd.bytes
  have hml : c.maxLocals = 2 := hml0
  have hown : s.vm.findClass "java/lang/String" = some m.cls := findClass_of_methodNamed Bd.named
  have hnm := (name_of_methodNamed Bd.named Bd.method).1
  have hlk := Bd.notSynchronized
  have hrt := Bd.returns
  have X0 : Stand p l e ({ frames := 5, cells := 2, slots := 12, locals := 80 } : Room) s m #[(.ref a1), (.ref a2)] below meth c s₁ [] 0 0 := Stand.of_body Bd
  have e0 : s₁.heap = h0 := by rw [← hh, Bd.state]; rfl
  have N0 := Fr.nil n0
  show own_Ends p e below s (Q4 a1 a2 vc vf ka1 cs h0 n0 Z) ({ frames := 5, cells := 2, slots := 12, locals := 80 } : Room).cells ({ frames := 5, cells := 2, slots := 12, locals := 80 } : Room).slots (s₁.setTop (entryFrame m #[(.ref a1), (.ref a2)] 2))
  rw [ef_4]
  have K0 : Keep h0 h0 [a1] := Keep.refl h0 [a1]
  obtain ⟨HVC, SCS, SAD, SHI, SLO, SIO, HVF⟩ := id ST
  refine own_go (fun _ k => XS.aloadN X0.here hx rfl (hb hby d4_0) rfl rfl <| XS.aloadN X0.here hx rfl (hb hby d4_1) rfl rfl <| XT.iconstV X0.here hx rfl (0 : Int32) (hb hby d4_2) rfl <| XS.aloadN X0.here hx rfl (hb hby d4_3) rfl rfl <| k) ?_
  show own_Ends p e below s _ _ _ (s₁.setTop (mkF m 4 #[.val (.ref a1), .val (.ref a2)] [(.ref a2), (.int (0 : Int32)), (.ref a2), (.ref a1)]))
  obtain ⟨cla2_4_1, Ara2_4_1, qqa2_4_1, Sza2_4_1, Nga2_4_1, Hsa2_4_1, Gfa2_4_1⟩ := id V2
  refine own_go (fun _ k => X0.arraylength hx (by first | exact Ara2_4_1.1 | (rw [e0]; exact Ara2_4_1.1)) (State.isArrayOf_alike hZ.alike Ara2_4_1.2.1) (g := (mkF m 4 #[.val (.ref a1), .val (.ref a2)] [(.ref a2), (.int (0 : Int32)), (.ref a2), (.ref a1)])) rfl rfl (hb hby d4_4) _ k) ?_
  rw [len_of Sza2_4_1 Nga2_4_1]
  show own_Ends p e below s _ _ _ (s₁.setTop (mkF m 5 #[.val (.ref a1), .val (.ref a2)] [(.int (Int32.ofNat cs.length)), (.int (0 : Int32)), (.ref a2), (.ref a1)]))
  refine own_go (fun _ k => XS.aconstNull X0.here hx rfl (hb hby d4_5) <| k) ?_
  show own_Ends p e below s _ _ _ (s₁.setTop (mkF m 6 #[.val (.ref a1), .val (.ref a2)] [.null, (.int (Int32.ofNat cs.length)), (.int (0 : Int32)), (.ref a2), (.ref a1)]))
  obtain ⟨_, _, ⟨T2, L2, k2, n2⟩, -, X2, ⟨Lc2, hQ2, l2, y2, z2⟩, st2⟩ := X0.specialBack hx (y := (⟨"java/lang/String", "<init>", "([CIILjava/lang/Void;)V"⟩ : MethodName)) rfl hown (mvT hZ (hw _ (List.mem_of_getElem? (i := 21) rfl))) (mvT hZ (hw _ (List.mem_of_getElem? (i := 22) rfl))) (mvT hZ (hw _ (List.mem_of_getElem? (i := 24) rfl))) (by decide) (backOf (W := 0) (rm5 l Z a0 hw [] a1 a2 vc vf ka1 cs h0 n0 Z0 O0 ST hN hC hone V2 E1 F1 F2 ne12 g1) hZ (hw _ (List.mem_of_getElem? (i := 24) rfl)) (hw _ (List.mem_of_getElem? (i := 17) rfl)) (by decide) (by decide)) (g := (mkF m 6 #[.val (.ref a1), .val (.ref a2)] [.null, (.int (Int32.ofNat cs.length)), (.int (0 : Int32)), (.ref a2), (.ref a1)])) rfl (by rw [hml]; rfl) (Steps.refl _) (a := a1) (argsL := [(.ref a2), (.int (0 : Int32)), (.int (Int32.ofNat cs.length)), .null]) (rest := []) (lenOf pd_4 rfl) rfl (by show 2 * 0 + _ ≤ _; exact Nat.le_of_eq rfl) (hb hby d4_6) (fun _ _ => ⟨rfl, e0, Nat.le_of_ble_eq_true rfl, Nat.le_of_ble_eq_true rfl⟩)
  dsimp only [Pt.U, Pt.locs, Pt.cells, Pt.slots] at X2 l2 y2 z2 st2 hQ2
  subst l2 y2 z2
  obtain ⟨b2, kb2, kc2, rfl, N2q, K2, g2, sz2, hkc2, Fv2, Fc2, Vb2⟩ := hQ2
  have N2 := Fr.app N0 N2q
  refine own_go (fun _ k => st2.trans k) ?_
  have V2'2 := V2.keep K2 (ninS (Ne.symm ne12) nin0)
  have E1'2 := E1.keep K2
  have Z2 := Nat.le_trans Z0 K2.1
  have O2 := O0.keep K2 (allS g1 all0)
  have K2' := K0.trans K2 (allS (Or.inl (List.mem_of_getElem? (i := 0) rfl)) all0)
  show own_Ends p e below s _ _ _ (T2.setTop (mkF m 9 #[.val (.ref a1), .val (.ref a2)] []))
  have ne_a2_b2 : a2 ≠ b2 := Nat.ne_of_lt (Nat.lt_of_lt_of_le V2.lt sz2)
  have ne_a1_b2 : a1 ≠ b2 := Nat.ne_of_lt (Nat.lt_of_lt_of_le E1.lt sz2)
  have szk2 : h0.size ≤ b2 := Nat.le_trans K0.1 sz2
  exact own_ret0 X2 hx hrt (hb hby d4_9) hlk (by exact ⟨_, _, _, rfl, N2, K2', g2, szk2, hkc2, Fv2, Fc2, Vb2⟩) (by decide) (by decide)
def own_isl (kc : Int32) : Int32 := if kc = 0 then 1 else 0
theorem own_zz_0 (n : Nat) : own_zz 0 n = Int32.ofNat n := if_pos rfl
theorem own_zz_1 (n : Nat) : own_zz 1 n = Int32.ofNat (2 * n) := if_neg (by decide)
theorem own_vs_0 (cs : List Int32) : own_vs 0 cs = cs.map own_bv := if_pos rfl
theorem own_vs_1 (cs : List Int32) : own_vs 1 cs = cs.flatMap own_lh := if_neg (by decide)
theorem own_h2 {n : Nat} (h : n < 64) : Int32.ofNat (2 * n) >>> ((1 : Int32) &&& 31) = Int32.ofNat n := (own_len1 ⟨n, h⟩).2
theorem d23_0 : decode jdk_41_method_11_code 0 = .ok (.iload_n 0, 1) := by decide +kernel
theorem d23_1 : decode jdk_41_method_11_code 1 = .ok (.ifCond .lt 8, 3) := by decide +kernel
theorem d23_4 : decode jdk_41_method_11_code 4 = .ok (.iload_n 0, 1) := by decide +kernel
theorem d23_5 : decode jdk_41_method_11_code 5 = .ok (.iload_n 1, 1) := by decide +kernel
theorem d23_6 : decode jdk_41_method_11_code 6 = .ok (.if_icmp .lt 10, 3) := by decide +kernel
theorem d23_9 : decode jdk_41_method_11_code 9 = .ok (.aload_n 2, 1) := by decide +kernel
theorem d23_10 : decode jdk_41_method_11_code 10 = .ok (.iload_n 0, 1) := by decide +kernel
theorem d23_11 : decode jdk_41_method_11_code 11 = .ok (.iload_n 1, 1) := by decide +kernel
theorem d23_12 : decode jdk_41_method_11_code 12 = .ok (.invokestatic 95, 3) := by decide +kernel
theorem d23_15 : decode jdk_41_method_11_code 15 = .ok (.athrow, 1) := by decide +kernel
theorem d23_16 : decode jdk_41_method_11_code 16 = .ok (.iload_n 0, 1) := by decide +kernel
theorem d23_17 : decode jdk_41_method_11_code 17 = .ok (.ireturn, 1) := by decide +kernel
theorem pn_2 : plainName "jdk/internal/util/Preconditions" = true := by first | (simp [plainName, overriddenIn]; done) | decide +kernel
theorem ef_PN (m : MethodId) (x0 : Int32) (x1 : Int32) : entryFrame m #[(.int x0), (.int x1), .null] 3 = mkF m 0 #[.val (.int x0), .val (.int x1), .val .null] [] := by first | (simp [entryFrame, mkF, argsToLocals, Value.category]; done) | rfl
def QPN (p1 : Int32) (p2 : Int32) (h0 : Heap) (n0 : Nat) (Z : State) (v : Option Value) (h : Heap) (L : List Loc) : Prop := v = some (.int p1) ∧ Fr n0 L ∧ h = h0
set_option maxRecDepth 65536 in
set_option maxHeartbeats 40000000 in
theorem rmPN (l : Launch) (Z : State) (a0 : Array Value) (hw : ∀ d ∈ tables_1, d.before a0 Z = true) (ws : List Jvm.Cond) (p1 : Int32) (p2 : Int32) (h0 : Heap) (n0 : Nat) (Z0 : n0 ≤ h0.size) (h1i : ¬ p1 < 0) (h2i : p1 < p2) :
    MetFree l (⟨"jdk/internal/util/Preconditions", "checkIndex", "(IILjava/util/function/BiFunction;)I"⟩ : MethodName) (head1 (Jvm.Cond.code (⟨"jdk/internal/util/Preconditions", "checkIndex", "(IILjava/util/function/BiFunction;)I"⟩ : MethodName) jdk_41_method_11_code 3 (some .int) :: ws) ({ frames := 0, cells := 0, slots := 0, locals := 0 } : Room)) (fun a U => a = #[(.int p1), (.int p2), .null] ∧ Z.Warmed39 U.vm ∧ U.heap = h0) (fun _ _ _ _ _ => True) (fun _ U o U' => ∃ v L, o = .returned v ∧ QPN p1 p2 h0 n0 Z v U'.heap L ∧ FrameEnd U o U' L ({ frames := 0, cells := 0, slots := 0, locals := 0 } : Room).cells ({ frames := 0, cells := 0, slots := 0, locals := 0 } : Room).slots) := by
  refine MetFree.of_bodySF (plainFor_of_name pn_2) hisR ?_
  intro p e s m args below meth c s₁ Bd hml0 hP hK
  obtain ⟨rfl, hZ, hh⟩ := hP
  have hx := Bd.exec
  have hby := Bd.bytes
  have hml : c.maxLocals = 3 := hml0
  have hown : s.vm.findClass "jdk/internal/util/Preconditions" = some m.cls := findClass_of_methodNamed Bd.named
  have hnm := (name_of_methodNamed Bd.named Bd.method).1
  have hlk := Bd.notSynchronized
  have hrt := Bd.returns
  have X0 : Stand p l e ({ frames := 0, cells := 0, slots := 0, locals := 0 } : Room) s m #[(.int p1), (.int p2), .null] below meth c s₁ [] 0 0 := Stand.of_body Bd
  have e0 : s₁.heap = h0 := by rw [← hh, Bd.state]; rfl
  have N0 := Fr.nil n0
  show own_Ends p e below s (QPN p1 p2 h0 n0 Z) ({ frames := 0, cells := 0, slots := 0, locals := 0 } : Room).cells ({ frames := 0, cells := 0, slots := 0, locals := 0 } : Room).slots (s₁.setTop (entryFrame m #[(.int p1), (.int p2), .null] 3))
  rw [ef_PN]
  refine own_go (fun _ k => XS.iloadN X0.here hx rfl (hb hby d23_0) rfl <| XS.ifNo X0.here hx rfl (hb hby d23_1) rfl ((if0 _ _).trans (flt h1i).1) <| XS.iloadN X0.here hx rfl (hb hby d23_4) rfl <| XS.iloadN X0.here hx rfl (hb hby d23_5) rfl <| XS.icmpYes X0.here hx rfl (pc0 := 6) (pc' := 16) rfl (hb hby d23_6) rfl (tlt h2i).1 (by decide) (by decide) <| XS.iloadN X0.here hx rfl (hb hby d23_16) rfl <| k) ?_
  show own_Ends p e below s _ _ _ (s₁.setTop (mkF m 17 #[.val (.int p1), .val (.int p2), .val .null] [(.int p1)]))
  exact own_ret X0 hx hrt rfl (Or.inl ⟨rfl, Or.inl rfl, _, rfl⟩) (hb hby d23_17) hlk (by rw [e0]; exact ⟨rfl, N0, rfl⟩) (by decide) (by decide)
theorem ef_PR (m : MethodId) (x0 : Int32) (x1 : Int32) (x2 : Addr) : entryFrame m #[(.int x0), (.int x1), (.ref x2)] 3 = mkF m 0 #[.val (.int x0), .val (.int x1), .val (.ref x2)] [] := by first | (simp [entryFrame, mkF, argsToLocals, Value.category]; done) | rfl
def QPR (p1 : Int32) (p2 : Int32) (a3 : Addr) (h0 : Heap) (n0 : Nat) (Z : State) (v : Option Value) (h : Heap) (L : List Loc) : Prop := v = some (.int p1) ∧ Fr n0 L ∧ h = h0
set_option maxRecDepth 65536 in
set_option maxHeartbeats 40000000 in
theorem rmPR (l : Launch) (Z : State) (a0 : Array Value) (hw : ∀ d ∈ tables_1, d.before a0 Z = true) (ws : List Jvm.Cond) (p1 : Int32) (p2 : Int32) (a3 : Addr) (h0 : Heap) (n0 : Nat) (Z0 : n0 ≤ h0.size) (h1i : ¬ p1 < 0) (h2i : p1 < p2) :
    MetFree l (⟨"jdk/internal/util/Preconditions", "checkIndex", "(IILjava/util/function/BiFunction;)I"⟩ : MethodName) (head1 (Jvm.Cond.code (⟨"jdk/internal/util/Preconditions", "checkIndex", "(IILjava/util/function/BiFunction;)I"⟩ : MethodName) jdk_41_method_11_code 3 (some .int) :: ws) ({ frames := 0, cells := 0, slots := 0, locals := 0 } : Room)) (fun a U => a = #[(.int p1), (.int p2), (.ref a3)] ∧ Z.Warmed39 U.vm ∧ U.heap = h0) (fun _ _ _ _ _ => True) (fun _ U o U' => ∃ v L, o = .returned v ∧ QPR p1 p2 a3 h0 n0 Z v U'.heap L ∧ FrameEnd U o U' L ({ frames := 0, cells := 0, slots := 0, locals := 0 } : Room).cells ({ frames := 0, cells := 0, slots := 0, locals := 0 } : Room).slots) := by
  refine MetFree.of_bodySF (plainFor_of_name pn_2) hisR ?_
  intro p e s m args below meth c s₁ Bd hml0 hP hK
  obtain ⟨rfl, hZ, hh⟩ := hP
  have hx := Bd.exec
  have hby := Bd.bytes
  have hml : c.maxLocals = 3 := hml0
  have hown : s.vm.findClass "jdk/internal/util/Preconditions" = some m.cls := findClass_of_methodNamed Bd.named
  have hnm := (name_of_methodNamed Bd.named Bd.method).1
  have hlk := Bd.notSynchronized
  have hrt := Bd.returns
  have X0 : Stand p l e ({ frames := 0, cells := 0, slots := 0, locals := 0 } : Room) s m #[(.int p1), (.int p2), (.ref a3)] below meth c s₁ [] 0 0 := Stand.of_body Bd
  have e0 : s₁.heap = h0 := by rw [← hh, Bd.state]; rfl
  have N0 := Fr.nil n0
  show own_Ends p e below s (QPR p1 p2 a3 h0 n0 Z) ({ frames := 0, cells := 0, slots := 0, locals := 0 } : Room).cells ({ frames := 0, cells := 0, slots := 0, locals := 0 } : Room).slots (s₁.setTop (entryFrame m #[(.int p1), (.int p2), (.ref a3)] 3))
  rw [ef_PR]
  refine own_go (fun _ k => XS.iloadN X0.here hx rfl (hb hby d23_0) rfl <| XS.ifNo X0.here hx rfl (hb hby d23_1) rfl ((if0 _ _).trans (flt h1i).1) <| XS.iloadN X0.here hx rfl (hb hby d23_4) rfl <| XS.iloadN X0.here hx rfl (hb hby d23_5) rfl <| XS.icmpYes X0.here hx rfl (pc0 := 6) (pc' := 16) rfl (hb hby d23_6) rfl (tlt h2i).1 (by decide) (by decide) <| XS.iloadN X0.here hx rfl (hb hby d23_16) rfl <| k) ?_
  show own_Ends p e below s _ _ _ (s₁.setTop (mkF m 17 #[.val (.int p1), .val (.int p2), .val (.ref a3)] [(.int p1)]))
  exact own_ret X0 hx hrt rfl (Or.inl ⟨rfl, Or.inl rfl, _, rfl⟩) (hb hby d23_17) hlk (by rw [e0]; exact ⟨rfl, N0, rfl⟩) (by decide) (by decide)
theorem d22_0 : decode jdk_42_method_155_code 0 = .ok (.iload_n 0, 1) := by decide +kernel
theorem d22_1 : decode jdk_42_method_155_code 1 = .ok (.iload_n 1, 1) := by decide +kernel
theorem d22_2 : decode jdk_42_method_155_code 2 = .ok (.getstatic 1053, 3) := by decide +kernel
theorem d22_5 : decode jdk_42_method_155_code 5 = .ok (.invokestatic 1059, 3) := by decide +kernel
theorem d22_8 : decode jdk_42_method_155_code 8 = .ok (.pop, 1) := by decide +kernel
theorem d22_9 : decode jdk_42_method_155_code 9 = .ok (.return_, 1) := by decide +kernel
theorem ef_22 (m : MethodId) (x0 : Int32) (x1 : Int32) : entryFrame m #[(.int x0), (.int x1)] 2 = mkF m 0 #[.val (.int x0), .val (.int x1)] [] := by first | (simp [entryFrame, mkF, argsToLocals, Value.category]; done) | rfl
def Q22 (p1 : Int32) (p2 : Int32) (vc : Int32) (vf : Value) (h0 : Heap) (n0 : Nat) (Z : State) (v : Option Value) (h : Heap) (L : List Loc) : Prop := v = none ∧ Fr n0 L ∧ h = h0
set_option maxRecDepth 65536 in
set_option maxHeartbeats 40000000 in
theorem rm22 (l : Launch) (Z : State) (a0 : Array Value) (hw : ∀ d ∈ tables_1, d.before a0 Z = true) (ws : List Jvm.Cond) (p1 : Int32) (p2 : Int32) (vc : Int32) (vf : Value) (h0 : Heap) (n0 : Nat) (Z0 : n0 ≤ h0.size) (O0 : Old Z n0 h0) (ST : own_St Z vc vf) (h1i : ¬ p1 < 0) (h2i : p1 < p2) :
    MetFree l (⟨"java/lang/String", "checkIndex", "(II)V"⟩ : MethodName) (head1 (Jvm.Cond.code (⟨"java/lang/String", "checkIndex", "(II)V"⟩ : MethodName) jdk_42_method_155_code 2 none :: ws) ({ frames := 1, cells := 0, slots := 0, locals := 16 } : Room)) (fun a U => a = #[(.int p1), (.int p2)] ∧ Z.Warmed39 U.vm ∧ U.heap = h0) (fun _ _ _ _ _ => True) (fun _ U o U' => ∃ v L, o = .returned v ∧ Q22 p1 p2 vc vf h0 n0 Z v U'.heap L ∧ FrameEnd U o U' L ({ frames := 1, cells := 0, slots := 0, locals := 16 } : Room).cells ({ frames := 1, cells := 0, slots := 0, locals := 16 } : Room).slots) := by
  refine MetFree.of_bodySF (plainFor_of_name pn_1) hisR ?_
  intro p e s m args below meth c s₁ Bd hml0 hP hK
  obtain ⟨rfl, hZ, hh⟩ := hP
  have hx := Bd.exec
  have hby := Bd.bytes
  have hml : c.maxLocals = 2 := hml0
  have hown : s.vm.findClass "java/lang/String" = some m.cls := findClass_of_methodNamed Bd.named
  have hnm := (name_of_methodNamed Bd.named Bd.method).1
  have hlk := Bd.notSynchronized
  have hrt := Bd.returns
  have X0 : Stand p l e ({ frames := 1, cells := 0, slots := 0, locals := 16 } : Room) s m #[(.int p1), (.int p2)] below meth c s₁ [] 0 0 := Stand.of_body Bd
  have e0 : s₁.heap = h0 := by rw [← hh, Bd.state]; rfl
  have N0 := Fr.nil n0
  show own_Ends p e below s (Q22 p1 p2 vc vf h0 n0 Z) ({ frames := 1, cells := 0, slots := 0, locals := 16 } : Room).cells ({ frames := 1, cells := 0, slots := 0, locals := 16 } : Room).slots (s₁.setTop (entryFrame m #[(.int p1), (.int p2)] 2))
  rw [ef_22]
  obtain ⟨HVC, SCS, SAD, SHI, SLO, SIO, HVF⟩ := id ST
  rcases ref_cases HVF with rfl | ⟨af, rfl⟩
  ·
    refine own_go (fun _ k => XS.iloadN X0.here hx rfl (hb hby d22_0) rfl <| XS.iloadN X0.here hx rfl (hb hby d22_1) rfl <| k) ?_
    show own_Ends p e below s _ _ _ (s₁.setTop (mkF m 2 #[.val (.int p1), .val (.int p2)] [(.int p2), (.int p1)]))
    obtain ⟨T1, X1, e1, st1⟩ := getS2 X0 hx hZ hown (host := "") (Or.inl (hw _ (List.mem_of_getElem? (i := 101) rfl))) Via.refl e0 (SIO.ext O0.2) (g := (mkF m 2 #[.val (.int p1), .val (.int p2)] [(.int p2), (.int p1)])) rfl (hb hby d22_2)
    refine own_go st1 ?_
    show own_Ends p e below s _ _ _ (T1.setTop (mkF m 5 #[.val (.int p1), .val (.int p2)] [.null, (.int p2), (.int p1)]))
    obtain ⟨_, _, ⟨T2, L2, k2, n2⟩, -, X2, ⟨Lc2, hQ2, l2, y2, z2⟩, st2⟩ := Jvm.LawKit.callS X1 hx (y := (⟨"jdk/internal/util/Preconditions", "checkIndex", "(IILjava/util/function/BiFunction;)I"⟩ : MethodName)) hown (mvT hZ (hw _ (List.mem_of_getElem? (i := 103) rfl))) (mvT hZ (hw _ (List.mem_of_getElem? (i := 104) rfl))) (mvT hZ (hw _ (List.mem_of_getElem? (i := 102) rfl))) (mvT hZ (hw _ (List.mem_of_getElem? (i := 105) rfl))) (by decide) (backOf (W := 0) (rmPN l Z a0 hw [] p1 p2 h0 n0 Z0 h1i h2i) hZ (hw _ (List.mem_of_getElem? (i := 105) rfl)) (hw _ (List.mem_of_getElem? (i := 102) rfl)) (by decide) (by decide)) (g := (mkF m 5 #[.val (.int p1), .val (.int p2)] [.null, (.int p2), (.int p1)])) rfl (by rw [hml]; rfl) (argsL := [(.int p1), (.int p2), .null]) (rest := []) (lenOf pd_19 rfl) rfl (by show 2 * 0 + _ ≤ _; exact Nat.le_of_eq rfl) (hb hby d22_5) (fun _ _ => ⟨rfl, e1, Nat.le_of_ble_eq_true rfl, Nat.le_of_ble_eq_true rfl⟩)
    dsimp only [Pt.U, Pt.locs, Pt.cells, Pt.slots] at X2 l2 y2 z2 st2 hQ2
    subst l2 y2 z2
    obtain ⟨rfl, N2q, e2⟩ := hQ2
    have N2 := Fr.app N0 N2q
    refine own_go (fun _ k => st2 _ k) ?_
    show own_Ends p e below s _ _ _ (T2.setTop (mkF m 8 #[.val (.int p1), .val (.int p2)] [(.int p1)]))
    refine own_go (fun _ k => XS.pop X2.here hx rfl (hb hby d22_8) rfl rfl <| k) ?_
    show own_Ends p e below s _ _ _ (T2.setTop (mkF m 9 #[.val (.int p1), .val (.int p2)] []))
    exact own_ret0 X2 hx hrt (hb hby d22_9) hlk (by rw [e2]; exact ⟨rfl, N2, rfl⟩) (by decide) (by decide)
  ·
    refine own_go (fun _ k => XS.iloadN X0.here hx rfl (hb hby d22_0) rfl <| XS.iloadN X0.here hx rfl (hb hby d22_1) rfl <| k) ?_
    show own_Ends p e below s _ _ _ (s₁.setTop (mkF m 2 #[.val (.int p1), .val (.int p2)] [(.int p2), (.int p1)]))
    obtain ⟨T3, X3, e3, st3⟩ := getS2 X0 hx hZ hown (host := "") (Or.inl (hw _ (List.mem_of_getElem? (i := 101) rfl))) Via.refl e0 (SIO.ext O0.2) (g := (mkF m 2 #[.val (.int p1), .val (.int p2)] [(.int p2), (.int p1)])) rfl (hb hby d22_2)
    refine own_go st3 ?_
    show own_Ends p e below s _ _ _ (T3.setTop (mkF m 5 #[.val (.int p1), .val (.int p2)] [(.ref af), (.int p2), (.int p1)]))
    obtain ⟨_, _, ⟨T4, L4, k4, n4⟩, -, X4, ⟨Lc4, hQ4, l4, y4, z4⟩, st4⟩ := Jvm.LawKit.callS X3 hx (y := (⟨"jdk/internal/util/Preconditions", "checkIndex", "(IILjava/util/function/BiFunction;)I"⟩ : MethodName)) hown (mvT hZ (hw _ (List.mem_of_getElem? (i := 103) rfl))) (mvT hZ (hw _ (List.mem_of_getElem? (i := 104) rfl))) (mvT hZ (hw _ (List.mem_of_getElem? (i := 102) rfl))) (mvT hZ (hw _ (List.mem_of_getElem? (i := 105) rfl))) (by decide) (backOf (W := 0) (rmPR l Z a0 hw [] p1 p2 af h0 n0 Z0 h1i h2i) hZ (hw _ (List.mem_of_getElem? (i := 105) rfl)) (hw _ (List.mem_of_getElem? (i := 102) rfl)) (by decide) (by decide)) (g := (mkF m 5 #[.val (.int p1), .val (.int p2)] [(.ref af), (.int p2), (.int p1)])) rfl (by rw [hml]; rfl) (argsL := [(.int p1), (.int p2), (.ref af)]) (rest := []) (lenOf pd_19 rfl) rfl (by show 2 * 0 + _ ≤ _; exact Nat.le_of_eq rfl) (hb hby d22_5) (fun _ _ => ⟨rfl, e3, Nat.le_of_ble_eq_true rfl, Nat.le_of_ble_eq_true rfl⟩)
    dsimp only [Pt.U, Pt.locs, Pt.cells, Pt.slots] at X4 l4 y4 z4 st4 hQ4
    subst l4 y4 z4
    obtain ⟨rfl, N4q, e4⟩ := hQ4
    have N4 := Fr.app N0 N4q
    refine own_go (fun _ k => st4 _ k) ?_
    show own_Ends p e below s _ _ _ (T4.setTop (mkF m 8 #[.val (.int p1), .val (.int p2)] [(.int p1)]))
    refine own_go (fun _ k => XS.pop X4.here hx rfl (hb hby d22_8) rfl rfl <| k) ?_
    show own_Ends p e below s _ _ _ (T4.setTop (mkF m 9 #[.val (.int p1), .val (.int p2)] []))
    exact own_ret0 X4 hx hrt (hb hby d22_9) hlk (by rw [e4]; exact ⟨rfl, N4, rfl⟩) (by decide) (by decide)
theorem d21_0 : decode jdk_42_method_154_code 0 = .ok (.getstatic 38, 3) := by decide +kernel
theorem d21_3 : decode jdk_42_method_154_code 3 = .ok (.ifCond .eq 14, 3) := by decide +kernel
theorem d21_6 : decode jdk_42_method_154_code 6 = .ok (.aload_n 0, 1) := by decide +kernel
theorem d21_7 : decode jdk_42_method_154_code 7 = .ok (.getfield 15, 3) := by decide +kernel
theorem d21_10 : decode jdk_42_method_154_code 10 = .ok (.ifCond .ne 7, 3) := by decide +kernel
theorem d21_13 : decode jdk_42_method_154_code 13 = .ok (.iconst 1, 1) := by decide +kernel
theorem d21_14 : decode jdk_42_method_154_code 14 = .ok (.goto 4, 3) := by decide +kernel
theorem d21_17 : decode jdk_42_method_154_code 17 = .ok (.iconst 0, 1) := by decide +kernel
theorem d21_18 : decode jdk_42_method_154_code 18 = .ok (.ireturn, 1) := by decide +kernel
theorem ef_21 (m : MethodId) (x0 : Addr) : entryFrame m #[(.ref x0)] 1 = mkF m 0 #[.val (.ref x0)] [] := by first | (simp [entryFrame, mkF, argsToLocals, Value.category]; done) | rfl
def Q21 (a1 : Addr) (vc : Int32) (vf : Value) (kc : Int32) (h0 : Heap) (n0 : Nat) (Z : State) (v : Option Value) (h : Heap) (L : List Loc) : Prop := v = some (.int (own_isl kc)) ∧ Fr n0 L ∧ h = h0
set_option maxRecDepth 65536 in
set_option maxHeartbeats 40000000 in
theorem rm21 (l : Launch) (Z : State) (a0 : Array Value) (hw : ∀ d ∈ tables_1, d.before a0 Z = true) (ws : List Jvm.Cond) (a1 : Addr) (vc : Int32) (vf : Value) (kc : Int32) (h0 : Heap) (n0 : Nat) (Z0 : n0 ≤ h0.size) (O0 : Old Z n0 h0) (ST : own_St Z vc vf) (F1 : Fld Z h0 a1 "java/lang/String" "coder" "B" (.int kc)) :
    MetFree l (⟨"java/lang/String", "isLatin1", "()Z"⟩ : MethodName) (head1 (Jvm.Cond.code (⟨"java/lang/String", "isLatin1", "()Z"⟩ : MethodName) jdk_42_method_154_code 1 (some .boolean) :: ws) ({ frames := 0, cells := 0, slots := 0, locals := 0 } : Room)) (fun a U => a = #[(.ref a1)] ∧ Z.Warmed39 U.vm ∧ U.heap = h0) (fun _ _ _ _ _ => True) (fun _ U o U' => ∃ v L, o = .returned v ∧ Q21 a1 vc vf kc h0 n0 Z v U'.heap L ∧ FrameEnd U o U' L ({ frames := 0, cells := 0, slots := 0, locals := 0 } : Room).cells ({ frames := 0, cells := 0, slots := 0, locals := 0 } : Room).slots) := by
  refine MetFree.of_bodySF (plainFor_of_name pn_1) hisR ?_
  intro p e s m args below meth c s₁ Bd hml0 hP hK
  obtain ⟨rfl, hZ, hh⟩ := hP
  have hx := Bd.exec
  have hby := Bd.bytes
  have hml : c.maxLocals = 1 := hml0
  have hown : s.vm.findClass "java/lang/String" = some m.cls := findClass_of_methodNamed Bd.named
  have hnm := (name_of_methodNamed Bd.named Bd.method).1
  have hlk := Bd.notSynchronized
  have hrt := Bd.returns
  have X0 : Stand p l e ({ frames := 0, cells := 0, slots := 0, locals := 0 } : Room) s m #[(.ref a1)] below meth c s₁ [] 0 0 := Stand.of_body Bd
  have e0 : s₁.heap = h0 := by rw [← hh, Bd.state]; rfl
  have N0 := Fr.nil n0
  show own_Ends p e below s (Q21 a1 vc vf kc h0 n0 Z) ({ frames := 0, cells := 0, slots := 0, locals := 0 } : Room).cells ({ frames := 0, cells := 0, slots := 0, locals := 0 } : Room).slots (s₁.setTop (entryFrame m #[(.ref a1)] 1))
  rw [ef_21]
  obtain ⟨HVC, SCS, SAD, SHI, SLO, SIO, HVF⟩ := id ST
  obtain ⟨T1, X1, e1, st1⟩ := getS2 X0 hx hZ hown (host := "") (Or.inl (hw _ (List.mem_of_getElem? (i := 50) rfl))) Via.refl e0 (SCS.ext O0.2) (g := (mkF m 0 #[.val (.ref a1)] [])) rfl (hb hby d21_0)
  refine own_go st1 ?_
  show own_Ends p e below s _ _ _ (T1.setTop (mkF m 3 #[.val (.ref a1)] [(.int vc)]))
  refine own_go (fun _ k => XS.ifNo X1.here hx rfl (hb hby d21_3) rfl ((if0 _ _).trans (feq HVC).1) <| XS.aloadN X1.here hx rfl (hb hby d21_6) rfl rfl <| k) ?_
  show own_Ends p e below s _ _ _ (T1.setTop (mkF m 7 #[.val (.ref a1)] [(.ref a1)]))
  obtain ⟨T2, X2, e2, st2⟩ := getF X1 hx hZ hown (host := "") (Or.inl (hw _ (List.mem_of_getElem? (i := 35) rfl))) Via.refl e1 F1 (g := (mkF m 7 #[.val (.ref a1)] [(.ref a1)])) rfl rfl (hb hby d21_7)
  refine own_go st2 ?_
  show own_Ends p e below s _ _ _ (T2.setTop (mkF m 10 #[.val (.ref a1)] [(.int kc)]))
  by_cases hc10_3 : kc = (0 : Int32)
  · -- true
    refine own_go (fun _ k => XS.ifNo X2.here hx rfl (hb hby d21_10) rfl ((if0 _ _).trans (teq hc10_3).2) <| XT.iconstV X2.here hx rfl (1 : Int32) (hb hby d21_13) rfl <| XS.goto X2.here hx rfl (pc0 := 14) (pc' := 18) rfl (hb hby d21_14) (by decide) (by decide) <| k) ?_
    show own_Ends p e below s _ _ _ (T2.setTop (mkF m 18 #[.val (.ref a1)] [(.int (1 : Int32))]))
    exact own_retN X2 hx (t := .boolean) hrt (by simp) (hb hby d21_18) hlk (show nar .boolean (1 : Int32) = (1 : Int32) from by decide) (by rw [e2]; exact ⟨by unfold own_isl; rw [if_pos hc10_3], N0, rfl⟩) (by decide) (by decide)
  · -- false
    refine own_go (fun _ k => XS.ifYes X2.here hx rfl (pc0 := 10) (pc' := 17) rfl (hb hby d21_10) rfl ((if0 _ _).trans (feq hc10_3).2) (by decide) (by decide) <| XT.iconstV X2.here hx rfl (0 : Int32) (hb hby d21_17) rfl <| k) ?_
    show own_Ends p e below s _ _ _ (T2.setTop (mkF m 18 #[.val (.ref a1)] [(.int (0 : Int32))]))
    exact own_retN X2 hx (t := .boolean) hrt (by simp) (hb hby d21_18) hlk (show nar .boolean (0 : Int32) = (0 : Int32) from by decide) (by rw [e2]; exact ⟨by unfold own_isl; rw [if_neg hc10_3], N0, rfl⟩) (by decide) (by decide)
theorem d9_0 : decode jdk_42_method_152_code 0 = .ok (.getstatic 38, 3) := by decide +kernel
theorem d9_3 : decode jdk_42_method_152_code 3 = .ok (.ifCond .eq 10, 3) := by decide +kernel
theorem d9_6 : decode jdk_42_method_152_code 6 = .ok (.aload_n 0, 1) := by decide +kernel
theorem d9_7 : decode jdk_42_method_152_code 7 = .ok (.getfield 15, 3) := by decide +kernel
theorem d9_10 : decode jdk_42_method_152_code 10 = .ok (.goto 4, 3) := by decide +kernel
theorem d9_13 : decode jdk_42_method_152_code 13 = .ok (.iconst 1, 1) := by decide +kernel
theorem d9_14 : decode jdk_42_method_152_code 14 = .ok (.ireturn, 1) := by decide +kernel
theorem ef_9 (m : MethodId) (x0 : Addr) : entryFrame m #[(.ref x0)] 1 = mkF m 0 #[.val (.ref x0)] [] := by first | (simp [entryFrame, mkF, argsToLocals, Value.category]; done) | rfl
def Q9 (a1 : Addr) (vc : Int32) (vf : Value) (kc : Int32) (h0 : Heap) (n0 : Nat) (Z : State) (v : Option Value) (h : Heap) (L : List Loc) : Prop := v = some (.int kc) ∧ Fr n0 L ∧ h = h0
set_option maxRecDepth 65536 in
set_option maxHeartbeats 40000000 in
theorem rm9 (l : Launch) (Z : State) (a0 : Array Value) (hw : ∀ d ∈ tables_1, d.before a0 Z = true) (ws : List Jvm.Cond) (a1 : Addr) (vc : Int32) (vf : Value) (kc : Int32) (h0 : Heap) (n0 : Nat) (Z0 : n0 ≤ h0.size) (O0 : Old Z n0 h0) (ST : own_St Z vc vf) (F1 : Fld Z h0 a1 "java/lang/String" "coder" "B" (.int kc)) (hb1 : nar .byte kc = kc) :
    MetFree l (⟨"java/lang/String", "coder", "()B"⟩ : MethodName) (head1 (Jvm.Cond.code (⟨"java/lang/String", "coder", "()B"⟩ : MethodName) jdk_42_method_152_code 1 (some .byte) :: ws) ({ frames := 0, cells := 0, slots := 0, locals := 0 } : Room)) (fun a U => a = #[(.ref a1)] ∧ Z.Warmed39 U.vm ∧ U.heap = h0) (fun _ _ _ _ _ => True) (fun _ U o U' => ∃ v L, o = .returned v ∧ Q9 a1 vc vf kc h0 n0 Z v U'.heap L ∧ FrameEnd U o U' L ({ frames := 0, cells := 0, slots := 0, locals := 0 } : Room).cells ({ frames := 0, cells := 0, slots := 0, locals := 0 } : Room).slots) := by
  refine MetFree.of_bodySF (plainFor_of_name pn_1) hisR ?_
  intro p e s m args below meth c s₁ Bd hml0 hP hK
  obtain ⟨rfl, hZ, hh⟩ := hP
  have hx := Bd.exec
  have hby := Bd.bytes
  have hml : c.maxLocals = 1 := hml0
  have hown : s.vm.findClass "java/lang/String" = some m.cls := findClass_of_methodNamed Bd.named
  have hnm := (name_of_methodNamed Bd.named Bd.method).1
  have hlk := Bd.notSynchronized
  have hrt := Bd.returns
  have X0 : Stand p l e ({ frames := 0, cells := 0, slots := 0, locals := 0 } : Room) s m #[(.ref a1)] below meth c s₁ [] 0 0 := Stand.of_body Bd
  have e0 : s₁.heap = h0 := by rw [← hh, Bd.state]; rfl
  have N0 := Fr.nil n0
  show own_Ends p e below s (Q9 a1 vc vf kc h0 n0 Z) ({ frames := 0, cells := 0, slots := 0, locals := 0 } : Room).cells ({ frames := 0, cells := 0, slots := 0, locals := 0 } : Room).slots (s₁.setTop (entryFrame m #[(.ref a1)] 1))
  rw [ef_9]
  obtain ⟨HVC, SCS, SAD, SHI, SLO, SIO, HVF⟩ := id ST
  obtain ⟨T1, X1, e1, st1⟩ := getS2 X0 hx hZ hown (host := "") (Or.inl (hw _ (List.mem_of_getElem? (i := 50) rfl))) Via.refl e0 (SCS.ext O0.2) (g := (mkF m 0 #[.val (.ref a1)] [])) rfl (hb hby d9_0)
  refine own_go st1 ?_
  show own_Ends p e below s _ _ _ (T1.setTop (mkF m 3 #[.val (.ref a1)] [(.int vc)]))
  refine own_go (fun _ k => XS.ifNo X1.here hx rfl (hb hby d9_3) rfl ((if0 _ _).trans (feq HVC).1) <| XS.aloadN X1.here hx rfl (hb hby d9_6) rfl rfl <| k) ?_
  show own_Ends p e below s _ _ _ (T1.setTop (mkF m 7 #[.val (.ref a1)] [(.ref a1)]))
  obtain ⟨T2, X2, e2, st2⟩ := getF X1 hx hZ hown (host := "") (Or.inl (hw _ (List.mem_of_getElem? (i := 35) rfl))) Via.refl e1 F1 (g := (mkF m 7 #[.val (.ref a1)] [(.ref a1)])) rfl rfl (hb hby d9_7)
  refine own_go st2 ?_
  show own_Ends p e below s _ _ _ (T2.setTop (mkF m 10 #[.val (.ref a1)] [(.int kc)]))
  refine own_go (fun _ k => XS.goto X2.here hx rfl (pc0 := 10) (pc' := 14) rfl (hb hby d9_10) (by decide) (by decide) <| k) ?_
  show own_Ends p e below s _ _ _ (T2.setTop (mkF m 14 #[.val (.ref a1)] [(.int kc)]))
  exact own_retN X2 hx (t := .byte) hrt (by simp) (hb hby d9_14) hlk (show nar .byte kc = kc from hb1) (by rw [e2]; exact ⟨rfl, N0, rfl⟩) (by decide) (by decide)
theorem d8_0 : decode jdk_42_method_54_code 0 = .ok (.aload_n 0, 1) := by decide +kernel
theorem d8_1 : decode jdk_42_method_54_code 1 = .ok (.getfield 9, 3) := by decide +kernel
theorem d8_4 : decode jdk_42_method_54_code 4 = .ok (.arraylength, 1) := by decide +kernel
theorem d8_5 : decode jdk_42_method_54_code 5 = .ok (.aload_n 0, 1) := by decide +kernel
theorem d8_6 : decode jdk_42_method_54_code 6 = .ok (.invokevirtual 335, 3) := by decide +kernel
theorem d8_9 : decode jdk_42_method_54_code 9 = .ok (.ishr, 1) := by decide +kernel
theorem d8_10 : decode jdk_42_method_54_code 10 = .ok (.ireturn, 1) := by decide +kernel
theorem ef_8 (m : MethodId) (x0 : Addr) : entryFrame m #[(.ref x0)] 1 = mkF m 0 #[.val (.ref x0)] [] := by first | (simp [entryFrame, mkF, argsToLocals, Value.category]; done) | rfl
def Q8 (a1 : Addr) (vc : Int32) (vf : Value) (b : Addr) (kb : ClassId) (kc : Int32) (cs : List Int32) (h0 : Heap) (n0 : Nat) (Z : State) (v : Option Value) (h : Heap) (L : List Loc) : Prop := v = some (.int (Int32.ofNat cs.length)) ∧ Fr n0 L ∧ h = h0
set_option maxRecDepth 65536 in
set_option maxHeartbeats 40000000 in
theorem rm8 (l : Launch) (Z : State) (a0 : Array Value) (hw : ∀ d ∈ tables_1, d.before a0 Z = true) (ws : List Jvm.Cond) (a1 : Addr) (vc : Int32) (vf : Value) (b : Addr) (kb : ClassId) (kc : Int32) (cs : List Int32) (h0 : Heap) (n0 : Nat) (Z0 : n0 ≤ h0.size) (O0 : Old Z n0 h0) (ST : own_St Z vc vf) (hN : cs.length ≤ 4) (E_a1 : Exa Z h0 a1 "java/lang/String") (Fv_a1 : Fld Z h0 a1 "java/lang/String" "value" "[B" (.ref b)) (Fc_a1 : Fld Z h0 a1 "java/lang/String" "coder" "B" (.int kc)) (V_a1 : Arv Z h0 b kb .byte (own_zz kc (cs).length) (own_vs kc cs) (.int (0 : Int32))) (hk_a1 : own_KC kc cs) :
    MetFree l (⟨"java/lang/String", "length", "()I"⟩ : MethodName) (head1 (Jvm.Cond.code (⟨"java/lang/String", "length", "()I"⟩ : MethodName) jdk_42_method_54_code 1 (some .int) :: ws) ({ frames := 1, cells := 0, slots := 0, locals := 16 } : Room)) (fun a U => a = #[(.ref a1)] ∧ Z.Warmed39 U.vm ∧ U.heap = h0) (fun _ _ _ _ _ => True) (fun _ U o U' => ∃ v L, o = .returned v ∧ Q8 a1 vc vf b kb kc cs h0 n0 Z v U'.heap L ∧ FrameEnd U o U' L ({ frames := 1, cells := 0, slots := 0, locals := 16 } : Room).cells ({ frames := 1, cells := 0, slots := 0, locals := 16 } : Room).slots) := by
  refine MetFree.of_bodySF (plainFor_of_name pn_1) hisR ?_
  intro p e s m args below meth c s₁ Bd hml0 hP hK
  obtain ⟨rfl, hZ, hh⟩ := hP
  have hx := Bd.exec
  have hby := Bd.bytes
  have hml : c.maxLocals = 1 := hml0
  have hown : s.vm.findClass "java/lang/String" = some m.cls := findClass_of_methodNamed Bd.named
  have hnm := (name_of_methodNamed Bd.named Bd.method).1
  have hlk := Bd.notSynchronized
  have hrt := Bd.returns
  have X0 : Stand p l e ({ frames := 1, cells := 0, slots := 0, locals := 16 } : Room) s m #[(.ref a1)] below meth c s₁ [] 0 0 := Stand.of_body Bd
  have e0 : s₁.heap = h0 := by rw [← hh, Bd.state]; rfl
  have N0 := Fr.nil n0
  show own_Ends p e below s (Q8 a1 vc vf b kb kc cs h0 n0 Z) ({ frames := 1, cells := 0, slots := 0, locals := 16 } : Room).cells ({ frames := 1, cells := 0, slots := 0, locals := 16 } : Room).slots (s₁.setTop (entryFrame m #[(.ref a1)] 1))
  rw [ef_8]
  obtain ⟨HVC, SCS, SAD, SHI, SLO, SIO, HVF⟩ := id ST
  refine own_go (fun _ k => XS.aloadN X0.here hx rfl (hb hby d8_0) rfl rfl <| k) ?_
  show own_Ends p e below s _ _ _ (s₁.setTop (mkF m 1 #[.val (.ref a1)] [(.ref a1)]))
  obtain ⟨T1, X1, e1, st1⟩ := getF X0 hx hZ hown (host := "") (Or.inl (hw _ (List.mem_of_getElem? (i := 34) rfl))) Via.refl e0 Fv_a1 (g := (mkF m 1 #[.val (.ref a1)] [(.ref a1)])) rfl rfl (hb hby d8_1)
  refine own_go st1 ?_
  show own_Ends p e below s _ _ _ (T1.setTop (mkF m 4 #[.val (.ref a1)] [(.ref b)]))
  obtain ⟨clb_4_2, Arb_4_2, qqb_4_2, Szb_4_2, Ngb_4_2, Hsb_4_2, Gfb_4_2⟩ := id V_a1
  refine own_go (fun _ k => X1.arraylength hx (by first | exact Arb_4_2.1 | (rw [e1]; exact Arb_4_2.1)) (State.isArrayOf_alike hZ.alike Arb_4_2.2.1) (g := (mkF m 4 #[.val (.ref a1)] [(.ref b)])) rfl rfl (hb hby d8_4) _ k) ?_
  rw [len_of Szb_4_2 Ngb_4_2]
  show own_Ends p e below s _ _ _ (T1.setTop (mkF m 5 #[.val (.ref a1)] [(.int (own_zz kc (cs).length))]))
  refine own_go (fun _ k => XS.aloadN X1.here hx rfl (hb hby d8_5) rfl rfl <| k) ?_
  show own_Ends p e below s _ _ _ (T1.setTop (mkF m 6 #[.val (.ref a1)] [(.ref a1), (.int (own_zz kc (cs).length))]))
  obtain ⟨cq3, kq3, q3a, q3b, q3c⟩ := isOf hZ e1 E_a1
  obtain ⟨_, _, ⟨T3, L3, k3, n3⟩, -, X3, ⟨Lc3, hQ3, l3, y3, z3⟩, st3⟩ := X1.virtualBack hx (y := (⟨"java/lang/String", "coder", "()B"⟩ : MethodName)) (z := (⟨"java/lang/String", "coder", "()B"⟩ : MethodName)) hown (mvT hZ (hw _ (List.mem_of_getElem? (i := 45) rfl))) (mvT hZ (hw _ (List.mem_of_getElem? (i := 46) rfl))) (notFace_of_selects (args := #[]) (mvT hZ (hw _ (List.mem_of_getElem? (i := 48) rfl)))) (mvT hZ (hw _ (List.mem_of_getElem? (i := 48) rfl))) (mvT hZ (hw _ (List.mem_of_getElem? (i := 47) rfl))) (by decide) (backOf (W := 1) (rm9 l Z a0 hw [] a1 vc vf kc h0 n0 Z0 O0 ST Fc_a1 (own_kcb hk_a1)) hZ (hw _ (List.mem_of_getElem? (i := 49) rfl)) (hw _ (List.mem_of_getElem? (i := 17) rfl)) (by decide) (by decide)) q3a q3c (g := (mkF m 6 #[.val (.ref a1)] [(.ref a1), (.int (own_zz kc (cs).length))])) rfl (by rw [hml]; rfl) (Steps.refl _) (argsL := []) (rest := [(.int (own_zz kc (cs).length))]) (lenOf pd_8 rfl) rfl (by show 2 * 0 + _ ≤ _; exact Nat.le_of_eq rfl) (hb hby d8_6) (fun _ _ => ⟨rfl, e1, Nat.le_of_ble_eq_true rfl, Nat.le_of_ble_eq_true rfl⟩)
  dsimp only [Pt.U, Pt.locs, Pt.cells, Pt.slots] at X3 l3 y3 z3 st3 hQ3
  subst l3 y3 z3
  obtain ⟨rfl, N3q, e3⟩ := hQ3
  have N3 := Fr.app N0 N3q
  refine own_go (fun _ k => st3.trans k) ?_
  show own_Ends p e below s _ _ _ (T3.setTop (mkF m 9 #[.val (.ref a1)] [(.int kc), (.int (own_zz kc (cs).length))]))
  refine own_go (fun _ k => XS.ishr X3.here hx rfl (hb hby d8_9) rfl <| k) ?_
  show own_Ends p e below s _ _ _ (T3.setTop (mkF m 10 #[.val (.ref a1)] [(.int ((own_zz kc (cs).length) >>> (kc &&& 31)))]))
  exact own_ret X3 hx hrt rfl (Or.inl ⟨rfl, Or.inl rfl, _, rfl⟩) (hb hby d8_10) hlk (by rw [e3]; exact ⟨by rw [own_lenk hk_a1 (by omega)], N3, rfl⟩) (by decide) (by decide)
section OwnLit
open Jvm.Free.SB Jvm.Free.SBG
theorem own_held {s T : State} {vm₁ : Vm} {args : Array Value} {own text : String} {j : Nat} (hU : s.WarmedH vm₁) (hlink : (Cond.stringLink own j text).before args s = true) (h : ConstHeldL s own j) (hk : ∀ (b : Addr) (c : Cell), s.heap[b]? = some c → T.heap[b]? = some c) : ConstHeldL (T.setVm vm₁) own j := by
  have q := constHeldL_carried (s := s) (vm₁ := vm₁) (textJ := text) hU.wide hlink (Or.inl hU.interned_eq) h
  intro c k cf i units a h1 h2 h3 h4 h5 h6
  exact (q c k cf i units a h1 h2 h3 h4 h5 h6).moved (Vm.Alike.refl _) hk
theorem own_ref {s : State} {args : Array Value} {own text : String} {index : Nat} {m : ClassId} {k : Class} {a : Addr} (hown : s.vm.findClass own = some m) (hk : s.vm.classes[m]? = some k) (hr : k.resolved[index]? = some (some (.string a))) (w : (Cond.stringLink own index text).before args s = true) : (Cond.stringRef own index text).before args s = true ∧ (Term.string own index).eval args s none [] s = some (.ref a) := by
  constructor
  · simp [Cond.before, Cond.holds, Cond.value, State.resolvedAt?, hown, hk, hr] at w ⊢
    exact w
  · simp [Term.eval, State.resolvedAt?, hown, hk, hr]
theorem own_empty {units : Array UInt16} (h : utf16ToString? units = some "") : units = #[] := by
  have q := text_bytes_le h
  have q2 : (stringBytes units).size ≤ 0 := q
  by_cases hl : units.all (· < 256) = true
  · rw [stringBytes_lat hl, Array.size_map] at q2
    exact Array.eq_empty_of_size_eq_zero (Nat.le_zero.mp q2)
  · exact absurd (Jvm.ClassFile.lat_of_text h (by simp)) hl
theorem own_lit {Z W : State} {a0 : Array Value} {lo hi : Nat} {a : Addr} (hZ : Z.Warmed39 W.vm) (wv : (Cond.laysFinal "java/lang/String" "java/lang/String" "value" "[B").before a0 Z = true) (wc : (Cond.laysFinal "java/lang/String" "java/lang/String" "coder" "B").before a0 Z = true) (h : SlIn lo hi W a #[]) :
    ∃ d k, Exa Z W.heap a "java/lang/String" ∧ Fld Z W.heap a "java/lang/String" "value" "[B" (.ref d) ∧ Fld Z W.heap a "java/lang/String" "coder" "B" (.int (0 : Int32)) ∧ Arv Z W.heap d k .byte (own_zz 0 0) (own_vs 0 []) (.int (0 : Int32)) ∧
      ∀ b, Exa Z W.heap b "java/lang/String" → Fld Z W.heap b "java/lang/String" "value" "[B" .null → a ≠ b ∧ d ≠ b := by
  obtain ⟨⟨sa, sC, fSV, fSC, sd, SA, len⟩, cS, rfl, ⟨⟨h1, h2, h3, ⟨c1, k1, i1, hi1, ha1⟩, ⟨c2, k2, i2, hi2, ha2⟩, h6, h7, h8, h9, h10, h11, h12, h13, h14, h15, h16⟩, hS, hcls⟩, ⟨kS, g1, g2, g3⟩, g4, g5, -⟩ := h
  have h1 : W.heap[sa]? = some sC := h1
  have h2 : sC.vm ≠ .unknown := h2
  have h3 : sC.vm.isStatics = false := h3
  have ha1 : W.vm.assignable sC.cls c1 = true := ha1
  have ha2 : W.vm.assignable sC.cls c2 = true := ha2
  have h8 : sC.slots[fSV.slot]? = some (.ref sd) := h8
  have h9 : sC.slots[fSC.slot]? = some (.int 0) := h9
  have h10 : W.heap[sd]? = some SA := h10
  have h11 : W.isArrayOf SA .byte := h11
  have hcls : sC.cls = cS := hcls
  have g3 : sC.slots.size = kS.instanceTypes.size := g3
  have g4 : W.vm.findClass "[B" = some SA.cls := g4
  have g5 : SA.slots = stringBytes #[] := g5
  have hal := hZ.alike
  have hS' : Z.vm.findClass "java/lang/String" = some sC.cls := by rw [hcls, ← hal.findClass]; exact hS
  have g4' : Z.vm.findClass "[B" = some SA.cls := by rw [← hal.findClass]; exact g4
  obtain ⟨kZ, z1, -⟩ := Vm.findClass_spec hS'
  obtain ⟨kW, y1, y2⟩ := hal.2.2 _ _ z1
  obtain ⟨kB, b1, -⟩ := Vm.findClass_spec g4'
  obtain ⟨kBW, e1, e2⟩ := hal.2.2 _ _ b1
  have fv := Cond.laysFinal_spec wv
  have fc := Cond.laysFinal_spec wc
  obtain ⟨_, _, v3, v4, v5, v6, -, -, vf, vs, -⟩ := fv
  obtain ⟨_, _, w3, w4, w5, w6, -, -, wf, ws, -⟩ := fc
  obtain ⟨_, vf', -⟩ := State.fieldFound?_setVm (s := Z) hal vf
  obtain ⟨_, wf', -⟩ := State.fieldFound?_setVm (s := Z) hal wf
  have q1 : W.fieldFound? "java/lang/String" "value" "[B" = (Z.setVm W.vm).fieldFound? "java/lang/String" "value" "[B" := rfl
  have q2 : W.fieldFound? "java/lang/String" "coder" "B" = (Z.setVm W.vm).fieldFound? "java/lang/String" "coder" "B" := rfl
  have hi1 : W.fieldFound? "java/lang/String" "value" "[B" = _ := hi1
  have hi2 : W.fieldFound? "java/lang/String" "coder" "B" = _ := hi2
  rw [q1, vf'] at hi1
  rw [q2, wf'] at hi2
  cases hi1
  cases hi2
  have hsz : SA.slots.size = 0 := by rw [g5]; simp [stringBytes]
  have FV : Fld Z W.heap sa "java/lang/String" "value" "[B" (.ref sd) := ⟨sC, _, _, _, _, h1, vf, vs, h2, h3, by rw [← hal.assignable]; exact ha1, h8⟩
  refine ⟨sd, SA.cls, ⟨sC, kZ, h1, hS', z1, h3, fun hk => ?_⟩, FV, ⟨sC, _, _, _, _, h1, wf, ws, h2, h3, by rw [← hal.assignable]; exact ha2, h9⟩, ?_, fun b E F => ⟨fun e => ?_, fun e => ?_⟩⟩
  · have y1' : W.vm.classes[cS]? = some kW := by rw [← hcls]; exact y1
    cases g1.symm.trans y1'
    rw [g3, y2]
  · rw [own_zz_0, own_vs_0]
    refine ⟨SA, ⟨h10, ⟨h11.1, kB, b1, ?_⟩, h12⟩, rfl, by rw [hsz]; rfl, by decide, fun i hi => absurd hi (by omega), fun i hi => absurd hi (by omega)⟩
    obtain ⟨k', k1', comp, hc⟩ := h11.2
    cases k1'.symm.trans e1
    exact ⟨comp, by rw [e2] at hc; exact hc⟩
  · subst e
    obtain ⟨c', cf', k', i', f', p1, p2, p3, p4, p5, p6, p7⟩ := F
    cases p1.symm.trans h1
    cases p2.symm.trans vf
    rw [h8] at p7
    cases p7
  · subst e
    obtain ⟨c', k', p1, p2, -⟩ := E
    cases p1.symm.trans h10
    exact ids_ne p2 g4' (by decide) rfl
section OwnX
variable {p : Program} {l : Launch} {e : Env} {R : Room} {s : State} {m : MethodId} {args : Array Value} {below : List Frame} {meth : Method} {c : Code} {T : State} {locs : List Loc} {cells slots : Nat} {Z : State} {a0 : Array Value} {h : Heap}
/-- a call whose callee asks besides that the constant, where held, bears its text -/
theorem own_backX {y : MethodName} {bytes : ByteArray} {maxL : Nat} {ret : Option FieldType} {rm : Room} {len W : Nat} {as' : Array Value} {Q : Option Value → Heap → List Loc → Prop} {own : String} {j : Nat}
    (hM : MetFree l y (head1 [Cond.code y bytes maxL ret] rm) (fun a U => a = as' ∧ Z.Warmed39 U.vm ∧ U.heap = h ∧ ConstHeldL U own j) (fun _ _ _ _ _ => True) (fun _ U o U' => ∃ v L, o = .returned v ∧ Q v U'.heap L ∧ ReturnedEndW U o U' L rm.cells rm.slots))
    (hZ : Z.Warmed39 s.vm) (wc : (Cond.code y bytes maxL ret).before a0 Z = true) (wz : (Cond.initialized y.cls).before a0 Z = true) (hf : rm.frames + 1 ≤ R.frames) (hl : W + (maxL + 11) + rm.locals ≤ R.locals) :
    BackS l R p e below s args y len W (fun A a => a = as' ∧ A.U.heap = h ∧ A.cells + rm.cells ≤ R.cells ∧ A.slots + rm.slots ≤ R.slots ∧ ConstHeldL A.U own j)
      (fun A _ v B => ∃ L, Q v B.U.heap L ∧ B.locs = A.locs ++ L ∧ B.cells = A.cells + rm.cells ∧ B.slots = A.slots + rm.slots) := by
  refine BackS.of_freeW (bytes := bytes) (maxL := maxL) (ret := ret) (E := fun _ _ o t L k n => k = rm.cells ∧ n = rm.slots ∧ ∃ v, o = .returned v ∧ Q v t.heap L) hM hf hl ?_ ?_ (fun _ _ _ _ _ _ _ _ _ => trivial) ?_ ?_
  · intro m meth c A a Y hp
    have hU : Z.Warmed39 A.U.vm := wtrans hZ Y.warmed
    refine ⟨?_, mv hU wc, mv hU wz, hp.2.2.1, hp.2.2.2.1⟩
    show (Cond.and _ .tt).before a A.U = true
    rw [Cond.before_and, mv hU wc]; rfl
  · intro m meth c A a g mk Y hp
    exact ⟨hp.1, wtrans hZ Y.warmed, hp.2.1, hp.2.2.2.2⟩
  · intro _ _ _ _ q
    obtain ⟨v, L, h1, h2, h3⟩ := q
    exact ⟨L, _, _, h3, rfl, rfl, v, h1, h2⟩
  · intro m meth c A a g mk v t L k n Y hp _ _ q
    obtain ⟨e1, e2, v', e3, e4⟩ := q
    cases e3
    subst e1 e2
    exact ⟨L, e4, rfl, rfl, rfl⟩
theorem own_ldc1 (X : Stand p l e R s m args below meth c T [] cells slots) (hx : p.tables.exec = Jvm.exec) (hZ : Z.Warmed39 s.vm) {index : Nat} (hown : s.vm.findClass "java/lang/String" = some m.cls) (w : (Cond.stringLink "java/lang/String" index "").before a0 Z = true) (wS : ∀ a ∈ Bundle.stringAtoms, a.before a0 Z = true)
    (wv : (Cond.laysFinal "java/lang/String" "java/lang/String" "value" "[B").before a0 Z = true) (wc : (Cond.laysFinal "java/lang/String" "java/lang/String" "coder" "B").before a0 Z = true) (hheld : ConstHeldL s "java/lang/String" index) (eT : T.heap = h)
    {g : JFrame} (hg : g.method = m) (hd : decode c.code g.pc = .ok (.ldc index, 2)) (hc : cells + 2 ≤ R.cells) (hl : slots + 4 ≤ R.slots) :
    ∃ (a : Addr) (T' : State) (h' : Heap) (k1 : Nat) (d : Addr) (kd : ClassId), Stand p l e R (s.setVm T'.vm) m args below meth c T' [] (cells + 2) (slots + 4) ∧ T'.heap = h' ∧ Ext h h' ∧ s.Since T'.vm k1 ∧ k1 ≤ h'.size ∧ Z.Warmed39 (s.setVm T'.vm).vm ∧ (s.setVm T'.vm).vm.findClass "java/lang/String" = some m.cls ∧
      (∃ k₂, T'.vm.classes[m.cls]? = some k₂ ∧ k₂.resolved[index]? = some (some (.string a))) ∧ Exa Z h' a "java/lang/String" ∧ Fld Z h' a "java/lang/String" "value" "[B" (.ref d) ∧ Fld Z h' a "java/lang/String" "coder" "B" (.int (0 : Int32)) ∧ Arv Z h' d kd .byte (own_zz 0 0) (own_vs 0 []) (.int (0 : Int32)) ∧
      (∀ b, Exa Z h' b "java/lang/String" → Fld Z h' b "java/lang/String" "value" "[B" .null → a ≠ b ∧ d ≠ b) ∧
      ∀ target, Steps p.tables e below (T'.setTop { g with pc := g.pc + 2, stack := .ref a :: g.stack }) target → Steps p.tables e below (T.setTop g) target := by
  obtain ⟨a, T', X', hS', hr, hb, -, ⟨units, hdec, hsl⟩, st⟩ := X.ldcStringColdSl hx (own := "java/lang/String") (n := 0) hown (mvS (s := s) hZ w) (fun d hd => by
    have q := wS d hd
    simp only [Bundle.stringAtoms, List.mem_cons, List.not_mem_nil, or_false] at hd
    rcases hd with rfl | rfl | rfl | rfl | rfl | rfl | rfl
    · exact mv hZ q
    · exact mv hZ q
    · exact mvA hZ q
    · exact mv hZ q
    · exact mv hZ q
    · exact mv hZ q
    · exact mv hZ q) hheld (fun units hu => Jvm.ClassFile.lat_of_text hu (by simp)) hg hd (by decide) (by decide) hc hl
  subst eT
  rw [own_empty hdec] at hsl
  have hZ' : Z.Warmed39 T'.vm := State.Warmed39.trans (t := s) hZ hS'.1
  obtain ⟨d, kd, r1, r2, r3, r4, r5⟩ := own_lit hZ' wv wc hsl
  exact ⟨a, T', _, _, d, kd, X', rfl, ext_of hb, hS', Nat.le_refl _, hZ', by rw [show (s.setVm T'.vm).vm = T'.vm from rfl, hS'.1.alike.findClass]; exact hown, hr, r1, r2, r3, r4, r5, st⟩
theorem own_ldc2 {vm0 : Vm} (X : Stand p l e R (s.setVm vm0) m args below meth c T locs cells slots) (hx : p.tables.exec = Jvm.exec) (hZ : Z.Warmed39 vm0) {own text : String} {index : Nat} (hown : (s.setVm vm0).vm.findClass own = some m.cls) (w : (Cond.stringLink own index text).before a0 Z = true) {a : Addr} (hr : ∃ k₂, vm0.classes[m.cls]? = some k₂ ∧ k₂.resolved[index]? = some (some (.string a)))
    {g : JFrame} (hg : g.method = m) (hd : decode c.code g.pc = .ok (.ldc index, 2)) : ∀ target, Steps p.tables e below (T.setTop { g with pc := g.pc + 2, stack := .ref a :: g.stack }) target → Steps p.tables e below (T.setTop g) target := by
  obtain ⟨k, r1, r2⟩ := hr
  have q := own_ref (s := s.setVm vm0) (args := args) hown r1 r2 (mvS (s := s) hZ w)
  exact ldcString X hx hown q.1 q.2 hg hd
end OwnX
theorem own_slE {s : State} {a0 : Array Value} {a : Addr} (hw : (Jvm.Lit.latin1L #[]).all (fun w => w.before #[.ref a] s) = true) (harr : (Cond.arrayClass .byte).before a0 s = true) (hins : (Cond.instantiable "java/lang/String" 4).before a0 s = true) : SlOf s a #[] := by
  have W := fun w hm => List.all_eq_true.mp hw w hm
  have w1 := Cond.before_iff.mp (W (Cond.exactly (.arg 0) "java/lang/String") (by simp [Jvm.Lit.latin1L]))
  have w2 := Cond.before_iff.mp (W (Cond.eq Jvm.Lit.C0 (.int 0)) (by simp [Jvm.Lit.latin1L]))
  have w3 := Cond.before_iff.mp (W (Cond.exactly Jvm.Lit.V0 "[B") (by simp [Jvm.Lit.latin1L]))
  have w4 := Cond.before_iff.mp (W (Cond.eq (.length Jvm.Lit.V0) (.int (Int32.ofNat (#[] : Array UInt16).size))) (by simp [Jvm.Lit.latin1L]))
  have ea : (Term.arg 0).eval #[.ref a] s none [] s = some (.ref a) := rfl
  have E := exa_at ea w1
  have ec := eqv_i (Term.int_eval 0) w2
  have FC : Fld s s.heap a "java/lang/String" "coder" "B" (.int 0) := Fld.start ((fld_at ea).symm.trans ec)
  obtain ⟨d, ed⟩ := exa_v w3
  have FV : Fld s s.heap a "java/lang/String" "value" "[B" (.ref d) := Fld.start ((fld_at ea).symm.trans ed)
  have Ed := exa_at ed w3
  have el := eqv_i (Term.int_eval (Int32.ofNat (#[] : Array UInt16).size)) w4
  obtain ⟨d', SA, t1, t2, t3, t4⟩ := Jvm.Lib.length_spec el
  cases ed.symm.trans t1
  obtain ⟨hSA, hun, hst, -⟩ := State.arrayAt?_spec t2
  have h0 : SA.slots.size = 0 := by
    have q := congrArg Int32.toInt (Value.int.inj t4)
    have e2 : (SA.slots.size.toInt32).toInt = SA.slots.size := Int32.toInt_ofNat_small t3
    rw [e2] at q
    have e3 : (Int32.ofNat (#[] : Array UInt16).size).toInt = 0 := by decide
    omega
  obtain ⟨cB, kB, comp, b1, b2, b3⟩ := Cond.arrayClass_spec harr
  obtain ⟨cell, kc, p1, p2, p3, p4, p5⟩ := E
  obtain ⟨cA, kA, r1, r2, r3, r4, -⟩ := Ed
  cases r1.symm.trans hSA
  have b1' : s.vm.findClass "[B" = some cB := b1
  cases r2.symm.trans b1'
  obtain ⟨x1, x2, x3, x4, fV, y1, y2, y3, y4, y5, y6, y7⟩ := FV
  cases y1.symm.trans p1
  obtain ⟨u1, u2, u3, u4, fC, z1, z2, z3, z4, z5, z6, z7⟩ := FC
  cases z1.symm.trans p1
  obtain ⟨cI, kI, i1, i2, i3, -⟩ := Cond.instantiable_spec hins
  cases i1.symm.trans p2
  cases i2.symm.trans p3
  have i3' : kc.kind = .ordinary := i3
  refine ⟨(a, cell, fV, fC, d, SA, 0), cell.cls, rfl, ⟨⟨p1, y4, y5, ⟨_, _, _, y2, y6⟩, ⟨_, _, _, z2, z6⟩, y3, z3, y7, z7, hSA, ⟨fun k e => ?_, kB, b2, comp, b3⟩, hun, h0, (show (0 : Nat) < 2 ^ 31 by decide), fun e => ?_, fun i hi => absurd hi (by show ¬ i < SA.slots.size; omega)⟩, p2, rfl⟩, ⟨kc, p3, i3', p5 i3'⟩, b1', ?_⟩
  · rw [e] at hst; cases hst
  · have e : a = d := e
    subst e
    cases p1.symm.trans hSA
    exact ids_ne p2 b1' (by decide) rfl
  · show SA.slots = stringBytes #[]
    rw [Array.eq_empty_of_size_eq_zero h0]
    simp [stringBytes]
theorem own_heldE {s : State} {a0 : Array Value} {index : Nat} (h : Jvm.Lit.constHeld s "java/lang/String" index) (hlink : (Cond.stringLink "java/lang/String" index "").before a0 s = true) (hcw : Jvm.Lit.compactW.before #[] s = true) (harr : (Cond.arrayClass .byte).before a0 s = true) (hins : (Cond.instantiable "java/lang/String" 4).before a0 s = true) : ConstHeldL s "java/lang/String" index := by
  intro c k cf i units a hc hk hcf hp hu hor
  obtain ⟨k', cf', i', units', hk', hcf', hp', hu', -, htext, -⟩ := Cond.stringLink_spec hc hlink
  cases hk.symm.trans hk'
  cases hcf.symm.trans hcf'
  cases hp.symm.trans hp'
  cases hu.symm.trans hu'
  have e := own_empty htext
  subst e
  obtain ⟨-, q⟩ := h c k cf i #[] a hc hk hcf hp hu (by simp) hcw hor
  exact own_slE q harr hins
end OwnLit
theorem own_KCe : own_KC 0 [] := Or.inl ⟨rfl, fun c h => absurd h (by simp)⟩
theorem own_strs0 {Z : State} {a0 : Array Value} (hw : ∀ d ∈ tables_1, d.before a0 Z = true) : ∀ a ∈ Bundle.stringAtoms, a.before a0 Z = true := by
  intro a ha
  exact hw a ((by decide +kernel : ∀ a ∈ Bundle.stringAtoms, a ∈ tables_1) a ha)
theorem ef_E8 (m : MethodId) (x0 : Addr) (x1 : Addr) (x2 : Int32) (x3 : Int32) : entryFrame m #[(.ref x0), (.ref x1), (.int x2), (.int x3), .null] 6 = mkF m 0 #[.val (.ref x0), .val (.ref x1), .val (.int x2), .val (.int x3), .val .null, .unset] [] := by first | (simp [entryFrame, mkF, argsToLocals, Value.category]; done) | rfl
def QE8 (a1 : Addr) (a2 : Addr) (ka1 : ClassId) (h0 : Heap) (n0 : Nat) (Z : State) (v : Option Value) (h : Heap) (L : List Loc) : Prop := ∃ b k, v = none ∧ Fr n0 L ∧ Keep h0 h [a1] ∧ Fld Z h a1 "java/lang/String" "value" "[B" (.ref b) ∧ Fld Z h a1 "java/lang/String" "coder" "B" (.int (0 : Int32)) ∧ Arv Z h b k .byte (own_zz 0 0) (own_vs 0 []) (.int (0 : Int32))
set_option maxRecDepth 65536 in
set_option maxHeartbeats 40000000 in
theorem rmE8 (l : Launch) (Z : State) (a0 : Array Value) (hw : ∀ d ∈ tables_1, d.before a0 Z = true) (ws : List Jvm.Cond) (a1 : Addr) (a2 : Addr) (ka1 : ClassId) (h0 : Heap) (n0 : Nat) (Z0 : n0 ≤ h0.size) (E1 : Exa Z h0 a1 "java/lang/String") (F1 : Fld Z h0 a1 "java/lang/String" "value" "[B" .null) (F2 : Fld Z h0 a1 "java/lang/String" "coder" "B" (.int (0 : Int32))) (g1 : n0 ≤ a1) (V2 : Arv Z h0 a2 ka1 .char (0 : Int32) [] (.int (0 : Int32))) (ne12 : a1 ≠ a2) :
    MetFree l (⟨"java/lang/String", "<init>", "([CIILjava/lang/Void;)V"⟩ : MethodName) (head1 (Jvm.Cond.code (⟨"java/lang/String", "<init>", "([CIILjava/lang/Void;)V"⟩ : MethodName) jdk_42_method_149_code 6 none :: ws) ({ frames := 1, cells := 2, slots := 8, locals := 16 } : Room)) (fun a U => a = #[(.ref a1), (.ref a2), (.int (0 : Int32)), (.int (0 : Int32)), .null] ∧ Z.Warmed39 U.vm ∧ U.heap = h0 ∧ ConstHeldL U "java/lang/String" 7) (fun _ _ _ _ _ => True) (fun _ U o U' => ∃ v L, o = .returned v ∧ QE8 a1 a2 ka1 h0 n0 Z v U'.heap L ∧ ReturnedEndW U o U' L ({ frames := 1, cells := 2, slots := 8, locals := 16 } : Room).cells ({ frames := 1, cells := 2, slots := 8, locals := 16 } : Room).slots) := by
  refine MetFree.of_bodySF (plainFor_of_name pn_1) hisR ?_
  intro p e s m args below meth c s₁ Bd hml0 hP hK
  obtain ⟨rfl, hZ, hh, hCH⟩ := hP
  have hx := Bd.exec
  have hby := Bd.bytes
  have hml : c.maxLocals = 6 := hml0
  have hown : s.vm.findClass "java/lang/String" = some m.cls := findClass_of_methodNamed Bd.named
  have hnm := (name_of_methodNamed Bd.named Bd.method).1
  have hlk := Bd.notSynchronized
  have hrt := Bd.returns
  have X0 : Stand p l e ({ frames := 1, cells := 2, slots := 8, locals := 16 } : Room) (s.setVm s.vm) m #[(.ref a1), (.ref a2), (.int (0 : Int32)), (.int (0 : Int32)), .null] below meth c s₁ [] 0 0 := Stand.of_body Bd
  have e0 : s₁.heap = h0 := by rw [← hh, Bd.state]; rfl
  have N0 := Fr.nil n0
  show own_EndsW p e below s (QE8 a1 a2 ka1 h0 n0 Z) ({ frames := 1, cells := 2, slots := 8, locals := 16 } : Room).cells ({ frames := 1, cells := 2, slots := 8, locals := 16 } : Room).slots (s₁.setTop (entryFrame m #[(.ref a1), (.ref a2), (.int (0 : Int32)), (.int (0 : Int32)), .null] 6))
  rw [ef_E8]
  have K0 : Keep h0 h0 [a1] := Keep.refl h0 [a1]
  have hS0 : s.Since s.vm 0 := (State.WarmedH.refl s).since 0
  have hk0 : 0 ≤ h0.size := Nat.zero_le _
  have own_strs := own_strs0 hw
  refine own_goW (fun _ k => XS.aloadN X0.here hx rfl (hb hby d5_0) rfl rfl <| k) ?_
  show own_EndsW p e below s _ _ _ (s₁.setTop (mkF m 1 #[.val (.ref a1), .val (.ref a2), .val (.int (0 : Int32)), .val (.int (0 : Int32)), .val .null, .unset] [(.ref a1)]))
  obtain ⟨T1, X1, e1, st1⟩ := initO X0 hx hZ hown (hw _ (List.mem_of_getElem? (i := 25) rfl)) (hw _ (List.mem_of_getElem? (i := 26) rfl)) (hw _ (List.mem_of_getElem? (i := 27) rfl)) e0 (g := (mkF m 1 #[.val (.ref a1), .val (.ref a2), .val (.int (0 : Int32)), .val (.int (0 : Int32)), .val .null, .unset] [(.ref a1)])) rfl (by rw [hml]; rfl) rfl (hb hby d5_1) (by decide) (W := 0) (by show 2 * 0 + _ ≤ _; exact Nat.le_of_eq rfl) (by decide)
  refine own_goW st1 ?_
  show own_EndsW p e below s _ _ _ (T1.setTop (mkF m 4 #[.val (.ref a1), .val (.ref a2), .val (.int (0 : Int32)), .val (.int (0 : Int32)), .val .null, .unset] []))
  refine own_goW (fun _ k => XS.iloadN X1.here hx rfl (hb hby d5_4) rfl <| XS.ifNo X1.here hx rfl (hb hby d5_5) rfl ((if0 _ _).trans (teq (by decide)).2) <| XS.aloadN X1.here hx rfl (hb hby d5_8) rfl rfl <| k) ?_
  show own_EndsW p e below s _ _ _ (T1.setTop (mkF m 9 #[.val (.ref a1), .val (.ref a2), .val (.int (0 : Int32)), .val (.int (0 : Int32)), .val .null, .unset] [(.ref a1)]))
  obtain ⟨c2, T2, h2, k2, d2, kd2, X2, e2, E2, hS2, hk2', hZ, hown, hr2, Ec2, Fv2, Fc2, Vd2, nb2, st2⟩ := own_ldc1 X1 hx hZ hown (hw _ (List.mem_of_getElem? (i := 28) rfl)) own_strs (hw _ (List.mem_of_getElem? (i := 30) rfl)) (hw _ (List.mem_of_getElem? (i := 31) rfl)) hCH e1 (g := (mkF m 9 #[.val (.ref a1), .val (.ref a2), .val (.int (0 : Int32)), .val (.int (0 : Int32)), .val .null, .unset] [(.ref a1)])) rfl (hb hby d5_9) (by decide) (by decide)
  refine own_goW st2 ?_
  have hS2 : s.Since T2.vm k2 := hS2
  have X2 : Stand p l e ({ frames := 1, cells := 2, slots := 8, locals := 16 } : Room) (s.setVm T2.vm) m #[(.ref a1), (.ref a2), (.int (0 : Int32)), (.int (0 : Int32)), .null] below meth c T2 _ _ _ := X2
  have E1'2 := E1.ext E2
  have F1'2 := F1.ext E2
  have F2'2 := F2.ext E2
  have V2'2 := V2.ext E2
  have Z2 := Nat.le_trans Z0 E2.1
  have K2' := K0.ext E2
  obtain ⟨nc2, nd2⟩ := nb2 a1 E1'2 F1'2
  show own_EndsW p e below s _ _ _ (T2.setTop (mkF m 11 #[.val (.ref a1), .val (.ref a2), .val (.int (0 : Int32)), .val (.int (0 : Int32)), .val .null, .unset] [(.ref c2), (.ref a1)]))
  obtain ⟨T3, X3, e3, st3⟩ := getF X2 hx hZ hown (host := "") (Or.inl (hw _ (List.mem_of_getElem? (i := 34) rfl))) Via.refl e2 Fv2 (g := (mkF m 11 #[.val (.ref a1), .val (.ref a2), .val (.int (0 : Int32)), .val (.int (0 : Int32)), .val .null, .unset] [(.ref c2), (.ref a1)])) rfl rfl (hb hby d5_11)
  refine own_goW st3 ?_
  show own_EndsW p e below s _ _ _ (T3.setTop (mkF m 14 #[.val (.ref a1), .val (.ref a2), .val (.int (0 : Int32)), .val (.int (0 : Int32)), .val .null, .unset] [(.ref d2), (.ref a1)]))
  obtain ⟨T4, h4, X4, e4, W4, st4⟩ := putF X3 hx hZ hown (host := "") (Or.inl (hw _ (List.mem_of_getElem? (i := 34) rfl))) Via.refl e3 F1'2 E1'2 (Or.inr ⟨(hw _ (List.mem_of_getElem? (i := 30) rfl)), rfl, hnm⟩) (hw _ (List.mem_of_getElem? (i := 16) rfl)) (ty := (.array .byte)) (by decide) rfl rfl (g := (mkF m 14 #[.val (.ref a1), .val (.ref a2), .val (.int (0 : Int32)), .val (.int (0 : Int32)), .val .null, .unset] [(.ref d2), (.ref a1)])) rfl rfl (hb hby d5_14)
  refine own_goW st4 ?_
  have E1'4 := E1'2.wr W4
  have F2'4 := F2'2.other W4 (Or.inr (slot_ne (Or.inr (hw _ (List.mem_of_getElem? (i := 31) rfl))) (Or.inr (hw _ (List.mem_of_getElem? (i := 30) rfl))) (by decide) (t := .byte) (t' := (.array .byte)) (by decide) (by decide)))
  have V2'4 := V2'2.other W4 (Ne.symm ne12)
  have Ec2'4 := Ec2.wr W4
  have Fv2'4 := Fv2.other W4 (Or.inl nc2)
  have Fc2'4 := Fc2.other W4 (Or.inl nc2)
  have Vd2'4 := Vd2.other W4 nd2
  have Z4 := Nat.le_trans Z2 (Keep.of_wr W4).1
  have K4' := K2'.wr W4 (Or.inl (List.mem_of_getElem? (i := 0) rfl))
  have hk4 := Nat.le_trans hk2' (Keep.of_wr W4).1
  have N4 := Fr.snoc X4 N0 g1
  have F1'4 := F1'2.same W4
  show own_EndsW p e below s _ _ _ (T4.setTop (mkF m 17 #[.val (.ref a1), .val (.ref a2), .val (.int (0 : Int32)), .val (.int (0 : Int32)), .val .null, .unset] []))
  refine own_goW (fun _ k => XS.aloadN X4.here hx rfl (hb hby d5_17) rfl rfl <| k) ?_
  show own_EndsW p e below s _ _ _ (T4.setTop (mkF m 18 #[.val (.ref a1), .val (.ref a2), .val (.int (0 : Int32)), .val (.int (0 : Int32)), .val .null, .unset] [(.ref a1)]))
  refine own_goW (own_ldc2 X4 hx hZ hown (hw _ (List.mem_of_getElem? (i := 28) rfl)) hr2 (g := (mkF m 18 #[.val (.ref a1), .val (.ref a2), .val (.int (0 : Int32)), .val (.int (0 : Int32)), .val .null, .unset] [(.ref a1)])) rfl (hb hby d5_18)) ?_
  show own_EndsW p e below s _ _ _ (T4.setTop (mkF m 20 #[.val (.ref a1), .val (.ref a2), .val (.int (0 : Int32)), .val (.int (0 : Int32)), .val .null, .unset] [(.ref c2), (.ref a1)]))
  obtain ⟨T5, X5, e5, st5⟩ := getF X4 hx hZ hown (host := "") (Or.inl (hw _ (List.mem_of_getElem? (i := 35) rfl))) Via.refl e4 Fc2'4 (g := (mkF m 20 #[.val (.ref a1), .val (.ref a2), .val (.int (0 : Int32)), .val (.int (0 : Int32)), .val .null, .unset] [(.ref c2), (.ref a1)])) rfl rfl (hb hby d5_20)
  refine own_goW st5 ?_
  show own_EndsW p e below s _ _ _ (T5.setTop (mkF m 23 #[.val (.ref a1), .val (.ref a2), .val (.int (0 : Int32)), .val (.int (0 : Int32)), .val .null, .unset] [(.int (0 : Int32)), (.ref a1)]))
  obtain ⟨T6, h6, X6, e6, W6, st6⟩ := putFN X5 hx hZ hown (hw _ (List.mem_of_getElem? (i := 35) rfl)) Via.refl e5 F2'4 E1'4 (Or.inr ⟨(hw _ (List.mem_of_getElem? (i := 31) rfl)), rfl, hnm⟩) (hw _ (List.mem_of_getElem? (i := 16) rfl)) (ty := .byte) (v' := (.int (0 : Int32))) (by decide) (by decide) (by decide) (g := (mkF m 23 #[.val (.ref a1), .val (.ref a2), .val (.int (0 : Int32)), .val (.int (0 : Int32)), .val .null, .unset] [(.int (0 : Int32)), (.ref a1)])) rfl rfl (hb hby d5_23)
  refine own_goW st6 ?_
  have E1'6 := E1'4.wr W6
  have V2'6 := V2'4.other W6 (Ne.symm ne12)
  have Ec2'6 := Ec2'4.wr W6
  have Fv2'6 := Fv2'4.other W6 (Or.inl nc2)
  have Fc2'6 := Fc2'4.other W6 (Or.inl nc2)
  have Vd2'6 := Vd2'4.other W6 nd2
  have F1'6 := F1'4.other W6 (Or.inr (slot_ne (Or.inr (hw _ (List.mem_of_getElem? (i := 30) rfl))) (Or.inr (hw _ (List.mem_of_getElem? (i := 31) rfl))) (by decide) (t := (.array .byte)) (t' := .byte) (by decide) (by decide)))
  have Z6 := Nat.le_trans Z4 (Keep.of_wr W6).1
  have K6' := K4'.wr W6 (Or.inl (List.mem_of_getElem? (i := 0) rfl))
  have hk6 := Nat.le_trans hk4 (Keep.of_wr W6).1
  have N6 := Fr.snoc X6 N4 g1
  have F2'6 := F2'4.same W6
  show own_EndsW p e below s _ _ _ (T6.setTop (mkF m 26 #[.val (.ref a1), .val (.ref a2), .val (.int (0 : Int32)), .val (.int (0 : Int32)), .val .null, .unset] []))
  exact own_ret0W X6 hx hrt hS2 (by first | exact hk6 | (rw [e6]; exact hk6)) (hb hby d5_26) hlk (by rw [e6]; exact ⟨_, _, rfl, N6, K6', F1'6, F2'6, Vd2'6⟩) (by decide) (by decide)
theorem ef_E9 (m : MethodId) (x0 : Addr) (x1 : Addr) : entryFrame m #[(.ref x0), (.ref x1)] 2 = mkF m 0 #[.val (.ref x0), .val (.ref x1)] [] := by first | (simp [entryFrame, mkF, argsToLocals, Value.category]; done) | rfl
def QE9 (a1 : Addr) (a2 : Addr) (ka1 : ClassId) (h0 : Heap) (n0 : Nat) (Z : State) (v : Option Value) (h : Heap) (L : List Loc) : Prop := ∃ b k, v = none ∧ Fr n0 L ∧ Keep h0 h [a1] ∧ Fld Z h a1 "java/lang/String" "value" "[B" (.ref b) ∧ Fld Z h a1 "java/lang/String" "coder" "B" (.int (0 : Int32)) ∧ Arv Z h b k .byte (own_zz 0 0) (own_vs 0 []) (.int (0 : Int32))
set_option maxRecDepth 65536 in
set_option maxHeartbeats 40000000 in
theorem rmE9 (l : Launch) (Z : State) (a0 : Array Value) (hw : ∀ d ∈ tables_1, d.before a0 Z = true) (ws : List Jvm.Cond) (a1 : Addr) (a2 : Addr) (ka1 : ClassId) (h0 : Heap) (n0 : Nat) (Z0 : n0 ≤ h0.size) (E1 : Exa Z h0 a1 "java/lang/String") (F1 : Fld Z h0 a1 "java/lang/String" "value" "[B" .null) (F2 : Fld Z h0 a1 "java/lang/String" "coder" "B" (.int (0 : Int32))) (g1 : n0 ≤ a1) (V2 : Arv Z h0 a2 ka1 .char (0 : Int32) [] (.int (0 : Int32))) (ne12 : a1 ≠ a2) :
    MetFree l (⟨"java/lang/String", "<init>", "([C)V"⟩ : MethodName) (head1 (Jvm.Cond.code (⟨"java/lang/String", "<init>", "([C)V"⟩ : MethodName) jdk_42_method_3_code 2 none :: ws) ({ frames := 2, cells := 2, slots := 8, locals := 40 } : Room)) (fun a U => a = #[(.ref a1), (.ref a2)] ∧ Z.Warmed39 U.vm ∧ U.heap = h0 ∧ ConstHeldL U "java/lang/String" 7) (fun _ _ _ _ _ => True) (fun _ U o U' => ∃ v L, o = .returned v ∧ QE9 a1 a2 ka1 h0 n0 Z v U'.heap L ∧ ReturnedEndW U o U' L ({ frames := 2, cells := 2, slots := 8, locals := 40 } : Room).cells ({ frames := 2, cells := 2, slots := 8, locals := 40 } : Room).slots) := by
  refine MetFree.of_bodySF (plainFor_of_name pn_1) hisR ?_
  intro p e s m args below meth c s₁ Bd hml0 hP hK
  obtain ⟨rfl, hZ, hh, hCH⟩ := hP
  have hx := Bd.exec
  have hby := Bd.bytes
  have hml : c.maxLocals = 2 := hml0
  have hown : s.vm.findClass "java/lang/String" = some m.cls := findClass_of_methodNamed Bd.named
  have hnm := (name_of_methodNamed Bd.named Bd.method).1
  have hlk := Bd.notSynchronized
  have hrt := Bd.returns
  have X0 : Stand p l e ({ frames := 2, cells := 2, slots := 8, locals := 40 } : Room) (s.setVm s.vm) m #[(.ref a1), (.ref a2)] below meth c s₁ [] 0 0 := Stand.of_body Bd
  have e0 : s₁.heap = h0 := by rw [← hh, Bd.state]; rfl
  have N0 := Fr.nil n0
  show own_EndsW p e below s (QE9 a1 a2 ka1 h0 n0 Z) ({ frames := 2, cells := 2, slots := 8, locals := 40 } : Room).cells ({ frames := 2, cells := 2, slots := 8, locals := 40 } : Room).slots (s₁.setTop (entryFrame m #[(.ref a1), (.ref a2)] 2))
  rw [ef_E9]
  have K0 : Keep h0 h0 [a1] := Keep.refl h0 [a1]
  have hS0 : s.Since s.vm 0 := (State.WarmedH.refl s).since 0
  have hk0 : 0 ≤ h0.size := Nat.zero_le _
  have own_strs := own_strs0 hw
  refine own_goW (fun _ k => XS.aloadN X0.here hx rfl (hb hby d4_0) rfl rfl <| XS.aloadN X0.here hx rfl (hb hby d4_1) rfl rfl <| XT.iconstV X0.here hx rfl (0 : Int32) (hb hby d4_2) rfl <| XS.aloadN X0.here hx rfl (hb hby d4_3) rfl rfl <| k) ?_
  show own_EndsW p e below s _ _ _ (s₁.setTop (mkF m 4 #[.val (.ref a1), .val (.ref a2)] [(.ref a2), (.int (0 : Int32)), (.ref a2), (.ref a1)]))
  obtain ⟨cla2_4_1, Ara2_4_1, qqa2_4_1, Sza2_4_1, Nga2_4_1, Hsa2_4_1, Gfa2_4_1⟩ := id V2
  refine own_goW (fun _ k => X0.arraylength hx (by first | exact Ara2_4_1.1 | (rw [e0]; exact Ara2_4_1.1)) (State.isArrayOf_alike hZ.alike Ara2_4_1.2.1) (g := (mkF m 4 #[.val (.ref a1), .val (.ref a2)] [(.ref a2), (.int (0 : Int32)), (.ref a2), (.ref a1)])) rfl rfl (hb hby d4_4) _ k) ?_
  rw [len_of Sza2_4_1 Nga2_4_1]
  show own_EndsW p e below s _ _ _ (s₁.setTop (mkF m 5 #[.val (.ref a1), .val (.ref a2)] [(.int (0 : Int32)), (.int (0 : Int32)), (.ref a2), (.ref a1)]))
  refine own_goW (fun _ k => XS.aconstNull X0.here hx rfl (hb hby d4_5) <| k) ?_
  show own_EndsW p e below s _ _ _ (s₁.setTop (mkF m 6 #[.val (.ref a1), .val (.ref a2)] [.null, (.int (0 : Int32)), (.int (0 : Int32)), (.ref a2), (.ref a1)]))
  obtain ⟨_, _, ⟨T2, L2, k2, n2⟩, -, X2, hs2, hge2, ⟨Lc2, hQ2, l2, y2, z2⟩, st2⟩ := X0.specialBackS hx (y := (⟨"java/lang/String", "<init>", "([CIILjava/lang/Void;)V"⟩ : MethodName)) rfl hown (mvT hZ (hw _ (List.mem_of_getElem? (i := 21) rfl))) (mvT hZ (hw _ (List.mem_of_getElem? (i := 22) rfl))) (mvT hZ (hw _ (List.mem_of_getElem? (i := 24) rfl))) (by decide) (own_backX (W := 0) (rmE8 l Z a0 hw [] a1 a2 ka1 h0 n0 Z0 E1 F1 F2 g1 V2 ne12) hZ (hw _ (List.mem_of_getElem? (i := 24) rfl)) (hw _ (List.mem_of_getElem? (i := 17) rfl)) (by decide) (by decide)) (g := (mkF m 6 #[.val (.ref a1), .val (.ref a2)] [.null, (.int (0 : Int32)), (.int (0 : Int32)), (.ref a2), (.ref a1)])) rfl (by rw [hml]; rfl) (Steps.refl _) (a := a1) (argsL := [(.ref a2), (.int (0 : Int32)), (.int (0 : Int32)), .null]) (rest := []) (lenOf pd_4 rfl) rfl (by show 2 * 0 + _ ≤ _; exact Nat.le_of_eq rfl) (hb hby d4_6) (fun _ hwm => ⟨rfl, e0, Nat.le_of_ble_eq_true rfl, Nat.le_of_ble_eq_true rfl, own_held hwm (mvS (s := s) (args := #[]) hZ (hw _ (List.mem_of_getElem? (i := 28) rfl))) hCH (fun b c q => by rw [e0]; exact hh.symm ▸ q)⟩)
  dsimp only [Pt.U, Pt.locs, Pt.cells, Pt.slots] at X2 l2 y2 z2 st2 hQ2 hs2 hge2
  have hS2 : s.Since T2.vm T2.heap.size := hS0.trans hs2 (Nat.le_trans hk0 (by rw [← e0]; exact hge2))
  have hZ : Z.Warmed39 (s.setVm T2.vm).vm := State.Warmed39.trans (t := s.setVm s.vm) hZ hs2.1
  have hown : (s.setVm T2.vm).vm.findClass "java/lang/String" = some m.cls := by rw [show (s.setVm T2.vm).vm = T2.vm from rfl, hs2.1.alike.findClass]; exact hown
  have X2 : Stand p l e ({ frames := 2, cells := 2, slots := 8, locals := 40 } : Room) (s.setVm T2.vm) m #[(.ref a1), (.ref a2)] below meth c T2 L2 k2 n2 := X2
  subst l2 y2 z2
  obtain ⟨b2, kb2, rfl, N2q, K2, Fv2, Fc2, Vb2⟩ := hQ2
  have N2 := Fr.app N0 N2q
  refine own_goW (fun _ k => st2.trans k) ?_
  have E1'2 := E1.keep K2
  have V2'2 := V2.keep K2 (ninS (Ne.symm ne12) nin0)
  have Z2 := Nat.le_trans Z0 K2.1
  have K2' := K0.trans K2 (allS (Or.inl (List.mem_of_getElem? (i := 0) rfl)) all0)
  show own_EndsW p e below s _ _ _ (T2.setTop (mkF m 9 #[.val (.ref a1), .val (.ref a2)] []))
  exact own_ret0W X2 hx hrt hS2 (by first | exact (Nat.le_refl _) | (rw [rfl]; exact (Nat.le_refl _))) (hb hby d4_9) hlk (by exact ⟨_, _, rfl, N2, K2', Fv2, Fc2, Vb2⟩) (by decide) (by decide)
theorem own_not0 {Z : State} {args : Array Value} {X : Term} {y : Int32} (hX : X.eval args Z none [] Z = some (.int y)) (h : (Cond.not (Cond.eq X (.int 0))).value args Z none Z [] = some true) : ¬ y = 0 := by
  intro e
  subst e
  have q := eq_i hX (Term.int_eval 0 (args := args) (first := Z) (o := none) (idx := []) (s := Z)) rfl
  simp [Cond.value, hX, Term.eval] at h
theorem own_isref {Z : State} {args : Array Value} {X : Term} (h : (Cond.isRef X).value args Z none Z [] = some true) : ∃ v, X.eval args Z none [] Z = some v ∧ v.isRef = true := by
  simp only [Cond.value] at h
  cases q : X.eval args Z none [] Z with
  | none => simp [q] at h
  | some v => exact ⟨v, rfl, by cases v <;> simp_all [Value.isRef]⟩
theorem own_cw {s : State} {args : Array Value} (h : (Cond.not (Cond.eq (.static "java/lang/String" "COMPACT_STRINGS" "Z") (.int 0))).before args s = true) : Jvm.Lit.compactW.before #[] s = true := by
  simp only [Jvm.Lit.compactW, Cond.before, Cond.holds, Cond.value, Term.eval] at h ⊢
  exact h
def own_h (c : Int32) : Int32 := if 55296 ≤ c.toInt ∧ c.toInt ≤ 56319 then 1 else 0
def own_l (c : Int32) : Int32 := if 56320 ≤ c.toInt ∧ c.toInt ≤ 57343 then 1 else 0
def own_cc (c : Int32) : Int32 := if 65536 ≤ c.toInt then 2 else 1
def own_ccN (c : Int32) : Nat := if 65536 ≤ c.toInt then 2 else 1
def own_tcp (h l : Int32) : Int32 := ((h <<< ((10 : Int32) &&& 31)) + l) + (-56613888 : Int32)
def own_cp (cs : List Int32) (i : Nat) : Int32 := if own_h (cs.getD i 0) = 0 then cs.getD i 0 else if Int32.ofNat (i + 1) < Int32.ofNat cs.length then (if own_l (cs.getD (i + 1) 0) = 0 then cs.getD i 0 else own_tcp (cs.getD i 0) (cs.getD (i + 1) 0)) else cs.getD i 0
def own_fine (cs : List Int32) (i : Nat) : Int32 := if Int32.ofNat i < Int32.ofNat cs.length then (if own_h (cs.getD i 0) = 0 then (if own_l (cs.getD i 0) = 0 then 1 else (if (0 : Int32) < Int32.ofNat i then (if own_h (cs.getD (i - 1) 0) = 0 then 0 else 1) else 0)) else (if Int32.ofNat (i + 1) < Int32.ofNat cs.length then (if own_l (cs.getD (i + 1) 0) = 0 then 0 else 1) else 0)) else 1
def own_enc (cs : List Int32) : Nat → Nat → Int32
  | 0, _ => 1
  | k + 1, i => if i < cs.length then (if own_cp cs i < 55296 then own_enc cs k (i + own_ccN (own_cp cs i)) else if (57343 : Int32) < own_cp cs i then own_enc cs k (i + own_ccN (own_cp cs i)) else 0) else 1
theorem own_ccup (i : Nat) (c : Int32) : Int32.ofNat i + own_cc c = Int32.ofNat (i + own_ccN c) := by
  unfold own_cc own_ccN
  split
  · exact (Int32.ofNat_add i 2).symm
  · exact (Int32.ofNat_add i 1).symm
theorem own_h0 (c : Int32) : own_h c = 0 ∨ (own_h c = 1 ∧ 55296 ≤ c.toInt ∧ c.toInt ≤ 56319) := by
  unfold own_h
  split
  · rename_i h; exact Or.inr ⟨rfl, h⟩
  · exact Or.inl rfl
theorem own_hz {c : Int32} (h : own_h c = 0) : ¬ (55296 ≤ c.toInt ∧ c.toInt ≤ 56319) := by
  intro q
  unfold own_h at h
  rw [if_pos q] at h
  exact absurd h (by decide)
theorem own_hn {c : Int32} (h : ¬ own_h c = 0) : 55296 ≤ c.toInt ∧ c.toInt ≤ 56319 := by
  unfold own_h at h
  by_cases q : 55296 ≤ c.toInt ∧ c.toInt ≤ 56319
  · exact q
  · rw [if_neg q] at h; exact absurd rfl h
theorem own_lz {c : Int32} (h : own_l c = 0) : ¬ (56320 ≤ c.toInt ∧ c.toInt ≤ 57343) := by
  intro q
  unfold own_l at h
  rw [if_pos q] at h
  exact absurd h (by decide)
theorem own_ln {c : Int32} (h : ¬ own_l c = 0) : 56320 ≤ c.toInt ∧ c.toInt ≤ 57343 := by
  unfold own_l at h
  by_cases q : 56320 ≤ c.toInt ∧ c.toInt ≤ 57343
  · exact q
  · rw [if_neg q] at h; exact absurd rfl h
theorem own_tcpr {h l : Int32} (hh : ¬ own_h h = 0) (hl : ¬ own_l l = 0) : 65536 ≤ (own_tcp h l).toInt := by
  have h1 := own_hn hh
  have h2 := own_ln hl
  have s1 := c_ishl h 10 10 (by decide)
  have s2 := c_iadd (h <<< ((10 : Int32) &&& 31)) l
  have s3 := c_iadd ((h <<< ((10 : Int32) &&& 31)) + l) (-56613888)
  have e : (-56613888 : Int32).toInt = -56613888 := by decide
  have r1 := rng32 (h <<< ((10 : Int32) &&& 31))
  have r2 := rng32 ((h <<< ((10 : Int32) &&& 31)) + l)
  have r3 := rng32 (((h <<< ((10 : Int32) &&& 31)) + l) + (-56613888))
  unfold own_tcp
  rw [e] at s3
  generalize (h <<< ((10 : Int32) &&& 31)).toInt = x1 at *
  generalize ((h <<< ((10 : Int32) &&& 31)) + l).toInt = x2 at *
  generalize (((h <<< ((10 : Int32) &&& 31)) + l) + (-56613888)).toInt = x3 at *
  omega
theorem own_lat2 {c : Int32} (h : nar .char c = c) (hl : ¬ (255 : Int32) < c) : own_laI c &&& (255 : Int32) = c := by
  have q := own_lat h hl
  rw [i2c_mask] at q
  have h1 := c_mask (own_laI c) 255 8 (by decide) (by decide)
  rw [own_charid (by omega)] at q
  exact q
theorem own_lath {c : Int32} (h : ¬ (255 : Int32) < c) : own_h c = 0 := by
  have e : (255 : Int32).toInt = 255 := by decide
  rw [Int32.lt_iff_toInt_lt, e] at h
  unfold own_h
  rw [if_neg (by omega)]
theorem own_dn {i : Nat} (h : (0 : Int32) < Int32.ofNat i) (hi : i < 2 ^ 31) : Int32.ofNat i - (1 : Int32) = Int32.ofNat (i - 1) ∧ 0 < i := by
  have q : 0 < i := (own_ofNat_lt (i := 0) (by decide) hi).mp h
  obtain ⟨j, rfl⟩ : ∃ j, i = j + 1 := ⟨i - 1, by omega⟩
  refine ⟨?_, q⟩
  rw [← own_up]
  show Int32.ofNat j + 1 - 1 = Int32.ofNat j
  exact Int32.add_sub_cancel _ _
theorem own_55 : (55296 : Int32).toInt = 55296 := by decide
theorem own_57 : (57343 : Int32).toInt = 57343 := by decide
theorem own_step {cs : List Int32} (hl : cs.length ≤ 4) (hC65 : ∀ {c : Int32}, c ∈ cs → c.toInt ≤ 65535) : ∀ (k i : Nat), cs.length ≤ i + k → i ≤ 6 → (i = 0 ∨ own_h (cs.getD (i - 1) 0) = 0) →
    (own_enc cs k i = 1 ∧ ∀ j, i ≤ j → j < cs.length → ¬ own_fine cs j = 0) ∨ (own_enc cs k i = 0 ∧ ∃ j, j < cs.length ∧ own_fine cs j = 0) := by
  intro k
  induction k with
  | zero => intro i hi h6 hb; exact Or.inl ⟨rfl, fun j h1 h2 => absurd h2 (by omega)⟩
  | succ k ih =>
    intro i hi h6 hb
    by_cases hlen : i < cs.length
    · rw [own_enc, if_pos hlen]
      have hI : Int32.ofNat i < Int32.ofNat cs.length := (own_ofNat_lt (by omega) (by omega)).mpr hlen
      by_cases hh : own_h (cs.getD i 0) = 0
      · have hcp : own_cp cs i = cs.getD i 0 := by unfold own_cp; rw [if_pos hh]
        rw [hcp]
        by_cases hlo : own_l (cs.getD i 0) = 0
        · -- neither
          have g1 := own_hz hh
          have g2 := own_lz hlo
          have hf : ¬ own_fine cs i = 0 := by unfold own_fine; rw [if_pos hI, if_pos hh, if_pos hlo]; decide
          have stp : ∀ e : Nat, e = i + 1 → (own_enc cs k e = 1 ∧ ∀ j, i ≤ j → j < cs.length → ¬ own_fine cs j = 0) ∨ (own_enc cs k e = 0 ∧ ∃ j, j < cs.length ∧ own_fine cs j = 0) := by
            intro e he
            subst he
            rcases ih (i + 1) (by omega) (by omega) (Or.inr hh) with ⟨a1, a2⟩ | a
            · refine Or.inl ⟨a1, fun j h1 h2 => ?_⟩
              rcases Nat.eq_or_lt_of_le h1 with rfl | h3
              · exact hf
              · exact a2 j h3 h2
            · exact Or.inr a
          by_cases b1 : cs.getD i 0 < 55296
          · rw [if_pos b1]
            rw [Int32.lt_iff_toInt_lt, own_55] at b1
            exact stp _ (by unfold own_ccN; rw [if_neg (by omega)])
          · rw [if_neg b1]
            rw [Int32.lt_iff_toInt_lt, own_55] at b1
            have b2 : (57343 : Int32) < cs.getD i 0 := by rw [Int32.lt_iff_toInt_lt, own_57]; omega
            rw [if_pos b2]
            by_cases big : 65536 ≤ (cs.getD i 0).toInt
            · exact absurd big (by have := hC65 (own_mem hlen); omega)
            · exact stp _ (by unfold own_ccN; rw [if_neg big])
        · -- a low one, nothing high ahead
          have g2 := own_ln hlo
          refine Or.inr ⟨?_, i, hlen, ?_⟩
          · rw [if_neg (by rw [Int32.lt_iff_toInt_lt, own_55]; omega), if_neg (by rw [Int32.lt_iff_toInt_lt, own_57]; omega)]
          · unfold own_fine
            rw [if_pos hI, if_pos hh, if_neg hlo]
            rcases hb with rfl | hb
            · rw [if_neg (by decide)]
            · rw [if_pos hb]
              exact ite_self _
      · have g1 := own_hn hh
        by_cases hn : Int32.ofNat (i + 1) < Int32.ofNat cs.length
        · have hn' : i + 1 < cs.length := (own_ofNat_lt (by omega) (by omega)).mp hn
          by_cases hlo : own_l (cs.getD (i + 1) 0) = 0
          · have hcp : own_cp cs i = cs.getD i 0 := by unfold own_cp; rw [if_neg hh, if_pos hn, if_pos hlo]
            rw [hcp]
            refine Or.inr ⟨?_, i, hlen, ?_⟩
            · rw [if_neg (by rw [Int32.lt_iff_toInt_lt, own_55]; omega), if_neg (by rw [Int32.lt_iff_toInt_lt, own_57]; omega)]
            · unfold own_fine; rw [if_pos hI, if_neg hh, if_pos hn, if_pos hlo]
          · have hcp : own_cp cs i = own_tcp (cs.getD i 0) (cs.getD (i + 1) 0) := by unfold own_cp; rw [if_neg hh, if_pos hn, if_neg hlo]
            have big := own_tcpr hh hlo
            have g2 := own_ln hlo
            rw [hcp, if_neg (by rw [Int32.lt_iff_toInt_lt, own_55]; omega), if_pos (by rw [Int32.lt_iff_toInt_lt, own_57]; omega)]
            have hc2 : own_ccN (own_tcp (cs.getD i 0) (cs.getD (i + 1) 0)) = 2 := by unfold own_ccN; rw [if_pos big]
            rw [hc2]
            have hl1 : own_h (cs.getD (i + 1) 0) = 0 := by unfold own_h; rw [if_neg (by omega)]
            rcases ih (i + 2) (by omega) (by omega) (Or.inr hl1) with ⟨a1, a2⟩ | a
            · refine Or.inl ⟨a1, fun j h1 h2 => ?_⟩
              rcases Nat.eq_or_lt_of_le h1 with rfl | h3
              · unfold own_fine; rw [if_pos hI, if_neg hh, if_pos hn, if_neg hlo]; decide
              · rcases Nat.eq_or_lt_of_le h3 with rfl | h4
                · unfold own_fine
                  rw [if_pos hn, if_pos hl1, if_neg hlo, if_pos (show (0 : Int32) < Int32.ofNat i.succ from (own_ofNat_lt (i := 0) (n := i + 1) (by decide) (by omega)).mpr (by omega)), if_neg (by rw [show i.succ - 1 = i from rfl]; exact hh)]; decide
                · exact a2 j h4 h2
            · exact Or.inr a
        · have hcp : own_cp cs i = cs.getD i 0 := by unfold own_cp; rw [if_neg hh, if_neg hn]
          rw [hcp]
          refine Or.inr ⟨?_, i, hlen, ?_⟩
          · rw [if_neg (by rw [Int32.lt_iff_toInt_lt, own_55]; omega), if_neg (by rw [Int32.lt_iff_toInt_lt, own_57]; omega)]
          · unfold own_fine; rw [if_pos hI, if_neg hh, if_neg hn]
    · rw [own_enc, if_neg hlen]
      exact Or.inl ⟨rfl, fun j h1 h2 => absurd h2 (by omega)⟩
theorem own_main {cs : List Int32} (hl : cs.length ≤ 4) (hC : own_Ch cs) : own_enc cs 5 0 = if own_fine cs 0 = 0 then 0 else if own_fine cs 1 = 0 then 0 else if own_fine cs 2 = 0 then 0 else if own_fine cs 3 = 0 then 0 else 1 := by
  have out : ∀ j, cs.length ≤ j → j < 100 → ¬ own_fine cs j = 0 := by
    intro j hj hj2
    unfold own_fine
    rw [if_neg (fun q => absurd ((own_ofNat_lt (by omega) (by omega)).mp q) (by omega))]
    decide
  rcases own_step hl (fun {c} hc => by have := own_chn c; rw [hC c hc] at this; exact this.2) 5 0 (by omega) (by omega) (Or.inl rfl) with ⟨a1, a2⟩ | ⟨a1, j, j1, j2⟩
  · have all : ∀ j, j < 100 → ¬ own_fine cs j = 0 := fun j hj => by
      by_cases q : j < cs.length
      · exact a2 j (Nat.zero_le _) q
      · exact out j (by omega) hj
    rw [a1, if_neg (all 0 (by decide)), if_neg (all 1 (by decide)), if_neg (all 2 (by decide)), if_neg (all 3 (by decide))]
  · rw [a1]
    by_cases f0 : own_fine cs 0 = 0
    · rw [if_pos f0]
    · by_cases f1 : own_fine cs 1 = 0
      · rw [if_neg f0, if_pos f1]
      · by_cases f2 : own_fine cs 2 = 0
        · rw [if_neg f0, if_neg f1, if_pos f2]
        · by_cases f3 : own_fine cs 3 = 0
          · rw [if_neg f0, if_neg f1, if_neg f2, if_pos f3]
          · exfalso
            have hj : j = 0 ∨ j = 1 ∨ j = 2 ∨ j = 3 := by omega
            rcases hj with rfl | rfl | rfl | rfl
            · exact f0 j2
            · exact f1 j2
            · exact f2 j2
            · exact f3 j2
theorem own_lit_0 : (0 : Int32).toInt = 0 := by decide
theorem own_lit_1 : (1 : Int32).toInt = 1 := by decide
theorem own_lit_2 : (2 : Int32).toInt = 2 := by decide
theorem own_lit_55296 : (55296 : Int32).toInt = 55296 := by decide
theorem own_lit_56319 : (56319 : Int32).toInt = 56319 := by decide
theorem own_lit_56320 : (56320 : Int32).toInt = 56320 := by decide
theorem own_lit_57343 : (57343 : Int32).toInt = 57343 := by decide
theorem own_lit_57344 : (57344 : Int32).toInt = 57344 := by decide
theorem own_lit_65536 : (65536 : Int32).toInt = 65536 := by decide
theorem d10_0 : decode method_5_code 0 = .ok (.iload_n 0, 1) := by decide +kernel
theorem d10_1 : decode method_5_code 1 = .ok (.ldc 33, 2) := by decide +kernel
theorem d10_3 : decode method_5_code 3 = .ok (.if_icmp .lt 13, 3) := by decide +kernel
theorem d10_6 : decode method_5_code 6 = .ok (.iload_n 0, 1) := by decide +kernel
theorem d10_7 : decode method_5_code 7 = .ok (.ldc 36, 2) := by decide +kernel
theorem d10_9 : decode method_5_code 9 = .ok (.if_icmp .gt 7, 3) := by decide +kernel
theorem d10_12 : decode method_5_code 12 = .ok (.iconst 1, 1) := by decide +kernel
theorem d10_13 : decode method_5_code 13 = .ok (.goto 4, 3) := by decide +kernel
theorem d10_16 : decode method_5_code 16 = .ok (.iconst 0, 1) := by decide +kernel
theorem d10_17 : decode method_5_code 17 = .ok (.ireturn, 1) := by decide +kernel
theorem pn_3 : plainName "com/example/pagra/pagra/core/StrictUtf8IsEncodablePinLaw" = true := by first | (simp [plainName, overriddenIn]; done) | decide +kernel
theorem ef_10 (m : MethodId) (x0 : Int32) : entryFrame m #[(.int x0)] 1 = mkF m 0 #[.val (.int x0)] [] := by first | (simp [entryFrame, mkF, argsToLocals, Value.category]; done) | rfl
def Q10 (p1 : Int32) (h0 : Heap) (n0 : Nat) (Z : State) (v : Option Value) (h : Heap) (L : List Loc) : Prop := v = some (.int (own_h p1)) ∧ Fr n0 L ∧ h = h0
set_option maxRecDepth 65536 in
set_option maxHeartbeats 40000000 in
theorem rm10 (l : Launch) (Z : State) (a0 : Array Value) (hw : ∀ d ∈ tables_1, d.before a0 Z = true) (ws : List Jvm.Cond) (p1 : Int32) (h0 : Heap) (n0 : Nat) (Z0 : n0 ≤ h0.size) :
    MetFree l (⟨"com/example/pagra/pagra/core/StrictUtf8IsEncodablePinLaw", "high", "(C)Z"⟩ : MethodName) (head1 (Jvm.Cond.code (⟨"com/example/pagra/pagra/core/StrictUtf8IsEncodablePinLaw", "high", "(C)Z"⟩ : MethodName) method_5_code 1 (some .boolean) :: ws) ({ frames := 0, cells := 0, slots := 0, locals := 0 } : Room)) (fun a U => a = #[(.int p1)] ∧ Z.Warmed39 U.vm ∧ U.heap = h0) (fun _ _ _ _ _ => True) (fun _ U o U' => ∃ v L, o = .returned v ∧ Q10 p1 h0 n0 Z v U'.heap L ∧ FrameEnd U o U' L ({ frames := 0, cells := 0, slots := 0, locals := 0 } : Room).cells ({ frames := 0, cells := 0, slots := 0, locals := 0 } : Room).slots) := by
  refine MetFree.of_bodySF (plainFor_of_name pn_3) hisR ?_
  intro p e s m args below meth c s₁ Bd hml0 hP hK
  obtain ⟨rfl, hZ, hh⟩ := hP
  have hx := Bd.exec
  have hby := Bd.bytes
  have hml : c.maxLocals = 1 := hml0
  have hown : s.vm.findClass "com/example/pagra/pagra/core/StrictUtf8IsEncodablePinLaw" = some m.cls := findClass_of_methodNamed Bd.named
  have hnm := (name_of_methodNamed Bd.named Bd.method).1
  have hlk := Bd.notSynchronized
  have hrt := Bd.returns
  have X0 : Stand p l e ({ frames := 0, cells := 0, slots := 0, locals := 0 } : Room) s m #[(.int p1)] below meth c s₁ [] 0 0 := Stand.of_body Bd
  have e0 : s₁.heap = h0 := by rw [← hh, Bd.state]; rfl
  have N0 := Fr.nil n0
  show own_Ends p e below s (Q10 p1 h0 n0 Z) ({ frames := 0, cells := 0, slots := 0, locals := 0 } : Room).cells ({ frames := 0, cells := 0, slots := 0, locals := 0 } : Room).slots (s₁.setTop (entryFrame m #[(.int p1)] 1))
  rw [ef_10]
  refine own_go (fun _ k => XS.iloadN X0.here hx rfl (hb hby d10_0) rfl <| X0.ldcI hx hown (mvT hZ (hw _ (List.mem_of_getElem? (i := 7) rfl))) rfl (hb hby d10_1) <| k) ?_
  show own_Ends p e below s _ _ _ (s₁.setTop (mkF m 3 #[.val (.int p1)] [(.int (55296 : Int32)), (.int p1)]))
  by_cases hc3_1 : p1 < (55296 : Int32)
  · -- true
    refine own_go (fun _ k => XS.icmpYes X0.here hx rfl (pc0 := 3) (pc' := 16) rfl (hb hby d10_3) rfl (tlt hc3_1).1 (by decide) (by decide) <| XT.iconstV X0.here hx rfl (0 : Int32) (hb hby d10_16) rfl <| k) ?_
    show own_Ends p e below s _ _ _ (s₁.setTop (mkF m 17 #[.val (.int p1)] [(.int (0 : Int32))]))
    exact own_retN X0 hx (t := .boolean) hrt (by simp) (hb hby d10_17) hlk (show nar .boolean (0 : Int32) = (0 : Int32) from by decide) (by rw [e0]; exact ⟨by simp only [Int32.lt_iff_toInt_lt, ← Int32.toInt_inj, own_lit_0, own_lit_1, own_lit_2, own_lit_55296, own_lit_56319, own_lit_56320, own_lit_57343, own_lit_57344, own_lit_65536] at hc3_1; unfold own_h; first | (exfalso; omega) | rw [if_pos (by omega)] | rw [if_neg (by omega)], N0, rfl⟩) (by decide) (by decide)
  · -- false
    refine own_go (fun _ k => XS.icmpNo X0.here hx rfl (hb hby d10_3) rfl (flt hc3_1).1 <| XS.iloadN X0.here hx rfl (hb hby d10_6) rfl <| X0.ldcI hx hown (mvT hZ (hw _ (List.mem_of_getElem? (i := 57) rfl))) rfl (hb hby d10_7) <| k) ?_
    show own_Ends p e below s _ _ _ (s₁.setTop (mkF m 9 #[.val (.int p1)] [(.int (56319 : Int32)), (.int p1)]))
    by_cases hc9_2 : (56319 : Int32) < p1
    · -- true
      refine own_go (fun _ k => XS.icmpYes X0.here hx rfl (pc0 := 9) (pc' := 16) rfl (hb hby d10_9) rfl (tlt hc9_2).2.2.1 (by decide) (by decide) <| XT.iconstV X0.here hx rfl (0 : Int32) (hb hby d10_16) rfl <| k) ?_
      show own_Ends p e below s _ _ _ (s₁.setTop (mkF m 17 #[.val (.int p1)] [(.int (0 : Int32))]))
      exact own_retN X0 hx (t := .boolean) hrt (by simp) (hb hby d10_17) hlk (show nar .boolean (0 : Int32) = (0 : Int32) from by decide) (by rw [e0]; exact ⟨by simp only [Int32.lt_iff_toInt_lt, ← Int32.toInt_inj, own_lit_0, own_lit_1, own_lit_2, own_lit_55296, own_lit_56319, own_lit_56320, own_lit_57343, own_lit_57344, own_lit_65536] at hc3_1 hc9_2; unfold own_h; first | (exfalso; omega) | rw [if_pos (by omega)] | rw [if_neg (by omega)], N0, rfl⟩) (by decide) (by decide)
    · -- false
      refine own_go (fun _ k => XS.icmpNo X0.here hx rfl (hb hby d10_9) rfl (flt hc9_2).2.2.1 <| XT.iconstV X0.here hx rfl (1 : Int32) (hb hby d10_12) rfl <| XS.goto X0.here hx rfl (pc0 := 13) (pc' := 17) rfl (hb hby d10_13) (by decide) (by decide) <| k) ?_
      show own_Ends p e below s _ _ _ (s₁.setTop (mkF m 17 #[.val (.int p1)] [(.int (1 : Int32))]))
      exact own_retN X0 hx (t := .boolean) hrt (by simp) (hb hby d10_17) hlk (show nar .boolean (1 : Int32) = (1 : Int32) from by decide) (by rw [e0]; exact ⟨by simp only [Int32.lt_iff_toInt_lt, ← Int32.toInt_inj, own_lit_0, own_lit_1, own_lit_2, own_lit_55296, own_lit_56319, own_lit_56320, own_lit_57343, own_lit_57344, own_lit_65536] at hc3_1 hc9_2; unfold own_h; first | (exfalso; omega) | rw [if_pos (by omega)] | rw [if_neg (by omega)], N0, rfl⟩) (by decide) (by decide)
theorem d11_0 : decode method_6_code 0 = .ok (.iload_n 0, 1) := by decide +kernel
theorem d11_1 : decode method_6_code 1 = .ok (.ldc 34, 2) := by decide +kernel
theorem d11_3 : decode method_6_code 3 = .ok (.if_icmp .lt 13, 3) := by decide +kernel
theorem d11_6 : decode method_6_code 6 = .ok (.iload_n 0, 1) := by decide +kernel
theorem d11_7 : decode method_6_code 7 = .ok (.ldc 37, 2) := by decide +kernel
theorem d11_9 : decode method_6_code 9 = .ok (.if_icmp .gt 7, 3) := by decide +kernel
theorem d11_12 : decode method_6_code 12 = .ok (.iconst 1, 1) := by decide +kernel
theorem d11_13 : decode method_6_code 13 = .ok (.goto 4, 3) := by decide +kernel
theorem d11_16 : decode method_6_code 16 = .ok (.iconst 0, 1) := by decide +kernel
theorem d11_17 : decode method_6_code 17 = .ok (.ireturn, 1) := by decide +kernel
theorem ef_11 (m : MethodId) (x0 : Int32) : entryFrame m #[(.int x0)] 1 = mkF m 0 #[.val (.int x0)] [] := by first | (simp [entryFrame, mkF, argsToLocals, Value.category]; done) | rfl
def Q11 (p1 : Int32) (h0 : Heap) (n0 : Nat) (Z : State) (v : Option Value) (h : Heap) (L : List Loc) : Prop := v = some (.int (own_l p1)) ∧ Fr n0 L ∧ h = h0
set_option maxRecDepth 65536 in
set_option maxHeartbeats 40000000 in
theorem rm11 (l : Launch) (Z : State) (a0 : Array Value) (hw : ∀ d ∈ tables_1, d.before a0 Z = true) (ws : List Jvm.Cond) (p1 : Int32) (h0 : Heap) (n0 : Nat) (Z0 : n0 ≤ h0.size) :
    MetFree l (⟨"com/example/pagra/pagra/core/StrictUtf8IsEncodablePinLaw", "low", "(C)Z"⟩ : MethodName) (head1 (Jvm.Cond.code (⟨"com/example/pagra/pagra/core/StrictUtf8IsEncodablePinLaw", "low", "(C)Z"⟩ : MethodName) method_6_code 1 (some .boolean) :: ws) ({ frames := 0, cells := 0, slots := 0, locals := 0 } : Room)) (fun a U => a = #[(.int p1)] ∧ Z.Warmed39 U.vm ∧ U.heap = h0) (fun _ _ _ _ _ => True) (fun _ U o U' => ∃ v L, o = .returned v ∧ Q11 p1 h0 n0 Z v U'.heap L ∧ FrameEnd U o U' L ({ frames := 0, cells := 0, slots := 0, locals := 0 } : Room).cells ({ frames := 0, cells := 0, slots := 0, locals := 0 } : Room).slots) := by
  refine MetFree.of_bodySF (plainFor_of_name pn_3) hisR ?_
  intro p e s m args below meth c s₁ Bd hml0 hP hK
  obtain ⟨rfl, hZ, hh⟩ := hP
  have hx := Bd.exec
  have hby := Bd.bytes
  have hml : c.maxLocals = 1 := hml0
  have hown : s.vm.findClass "com/example/pagra/pagra/core/StrictUtf8IsEncodablePinLaw" = some m.cls := findClass_of_methodNamed Bd.named
  have hnm := (name_of_methodNamed Bd.named Bd.method).1
  have hlk := Bd.notSynchronized
  have hrt := Bd.returns
  have X0 : Stand p l e ({ frames := 0, cells := 0, slots := 0, locals := 0 } : Room) s m #[(.int p1)] below meth c s₁ [] 0 0 := Stand.of_body Bd
  have e0 : s₁.heap = h0 := by rw [← hh, Bd.state]; rfl
  have N0 := Fr.nil n0
  show own_Ends p e below s (Q11 p1 h0 n0 Z) ({ frames := 0, cells := 0, slots := 0, locals := 0 } : Room).cells ({ frames := 0, cells := 0, slots := 0, locals := 0 } : Room).slots (s₁.setTop (entryFrame m #[(.int p1)] 1))
  rw [ef_11]
  refine own_go (fun _ k => XS.iloadN X0.here hx rfl (hb hby d11_0) rfl <| X0.ldcI hx hown (mvT hZ (hw _ (List.mem_of_getElem? (i := 6) rfl))) rfl (hb hby d11_1) <| k) ?_
  show own_Ends p e below s _ _ _ (s₁.setTop (mkF m 3 #[.val (.int p1)] [(.int (56320 : Int32)), (.int p1)]))
  by_cases hc3_1 : p1 < (56320 : Int32)
  · -- true
    refine own_go (fun _ k => XS.icmpYes X0.here hx rfl (pc0 := 3) (pc' := 16) rfl (hb hby d11_3) rfl (tlt hc3_1).1 (by decide) (by decide) <| XT.iconstV X0.here hx rfl (0 : Int32) (hb hby d11_16) rfl <| k) ?_
    show own_Ends p e below s _ _ _ (s₁.setTop (mkF m 17 #[.val (.int p1)] [(.int (0 : Int32))]))
    exact own_retN X0 hx (t := .boolean) hrt (by simp) (hb hby d11_17) hlk (show nar .boolean (0 : Int32) = (0 : Int32) from by decide) (by rw [e0]; exact ⟨by simp only [Int32.lt_iff_toInt_lt, ← Int32.toInt_inj, own_lit_0, own_lit_1, own_lit_2, own_lit_55296, own_lit_56319, own_lit_56320, own_lit_57343, own_lit_57344, own_lit_65536] at hc3_1; unfold own_l; first | (exfalso; omega) | rw [if_pos (by omega)] | rw [if_neg (by omega)], N0, rfl⟩) (by decide) (by decide)
  · -- false
    refine own_go (fun _ k => XS.icmpNo X0.here hx rfl (hb hby d11_3) rfl (flt hc3_1).1 <| XS.iloadN X0.here hx rfl (hb hby d11_6) rfl <| X0.ldcI hx hown (mvT hZ (hw _ (List.mem_of_getElem? (i := 58) rfl))) rfl (hb hby d11_7) <| k) ?_
    show own_Ends p e below s _ _ _ (s₁.setTop (mkF m 9 #[.val (.int p1)] [(.int (57343 : Int32)), (.int p1)]))
    by_cases hc9_2 : (57343 : Int32) < p1
    · -- true
      refine own_go (fun _ k => XS.icmpYes X0.here hx rfl (pc0 := 9) (pc' := 16) rfl (hb hby d11_9) rfl (tlt hc9_2).2.2.1 (by decide) (by decide) <| XT.iconstV X0.here hx rfl (0 : Int32) (hb hby d11_16) rfl <| k) ?_
      show own_Ends p e below s _ _ _ (s₁.setTop (mkF m 17 #[.val (.int p1)] [(.int (0 : Int32))]))
      exact own_retN X0 hx (t := .boolean) hrt (by simp) (hb hby d11_17) hlk (show nar .boolean (0 : Int32) = (0 : Int32) from by decide) (by rw [e0]; exact ⟨by simp only [Int32.lt_iff_toInt_lt, ← Int32.toInt_inj, own_lit_0, own_lit_1, own_lit_2, own_lit_55296, own_lit_56319, own_lit_56320, own_lit_57343, own_lit_57344, own_lit_65536] at hc3_1 hc9_2; unfold own_l; first | (exfalso; omega) | rw [if_pos (by omega)] | rw [if_neg (by omega)], N0, rfl⟩) (by decide) (by decide)
    · -- false
      refine own_go (fun _ k => XS.icmpNo X0.here hx rfl (hb hby d11_9) rfl (flt hc9_2).2.2.1 <| XT.iconstV X0.here hx rfl (1 : Int32) (hb hby d11_12) rfl <| XS.goto X0.here hx rfl (pc0 := 13) (pc' := 17) rfl (hb hby d11_13) (by decide) (by decide) <| k) ?_
      show own_Ends p e below s _ _ _ (s₁.setTop (mkF m 17 #[.val (.int p1)] [(.int (1 : Int32))]))
      exact own_retN X0 hx (t := .boolean) hrt (by simp) (hb hby d11_17) hlk (show nar .boolean (1 : Int32) = (1 : Int32) from by decide) (by rw [e0]; exact ⟨by simp only [Int32.lt_iff_toInt_lt, ← Int32.toInt_inj, own_lit_0, own_lit_1, own_lit_2, own_lit_55296, own_lit_56319, own_lit_56320, own_lit_57343, own_lit_57344, own_lit_65536] at hc3_1 hc9_2; unfold own_l; first | (exfalso; omega) | rw [if_pos (by omega)] | rw [if_neg (by omega)], N0, rfl⟩) (by decide) (by decide)
theorem d26_0 : decode jdk_89_method_14_code 0 = .ok (.iload_n 0, 1) := by decide +kernel
theorem d26_1 : decode jdk_89_method_14_code 1 = .ok (.ldc 75, 2) := by decide +kernel
theorem d26_3 : decode jdk_89_method_14_code 3 = .ok (.if_icmp .lt 13, 3) := by decide +kernel
theorem d26_6 : decode jdk_89_method_14_code 6 = .ok (.iload_n 0, 1) := by decide +kernel
theorem d26_7 : decode jdk_89_method_14_code 7 = .ok (.ldc 76, 2) := by decide +kernel
theorem d26_9 : decode jdk_89_method_14_code 9 = .ok (.if_icmp .ge 7, 3) := by decide +kernel
theorem d26_12 : decode jdk_89_method_14_code 12 = .ok (.iconst 1, 1) := by decide +kernel
theorem d26_13 : decode jdk_89_method_14_code 13 = .ok (.goto 4, 3) := by decide +kernel
theorem d26_16 : decode jdk_89_method_14_code 16 = .ok (.iconst 0, 1) := by decide +kernel
theorem d26_17 : decode jdk_89_method_14_code 17 = .ok (.ireturn, 1) := by decide +kernel
theorem pn_4 : plainName "java/lang/Character" = true := by first | (simp [plainName, overriddenIn]; done) | decide +kernel
theorem ef_26 (m : MethodId) (x0 : Int32) : entryFrame m #[(.int x0)] 1 = mkF m 0 #[.val (.int x0)] [] := by first | (simp [entryFrame, mkF, argsToLocals, Value.category]; done) | rfl
def Q26 (p1 : Int32) (h0 : Heap) (n0 : Nat) (Z : State) (v : Option Value) (h : Heap) (L : List Loc) : Prop := v = some (.int (own_h p1)) ∧ Fr n0 L ∧ h = h0
set_option maxRecDepth 65536 in
set_option maxHeartbeats 40000000 in
theorem rm26 (l : Launch) (Z : State) (a0 : Array Value) (hw : ∀ d ∈ tables_1, d.before a0 Z = true) (ws : List Jvm.Cond) (p1 : Int32) (h0 : Heap) (n0 : Nat) (Z0 : n0 ≤ h0.size) :
    MetFree l (⟨"java/lang/Character", "isHighSurrogate", "(C)Z"⟩ : MethodName) (head1 (Jvm.Cond.code (⟨"java/lang/Character", "isHighSurrogate", "(C)Z"⟩ : MethodName) jdk_89_method_14_code 1 (some .boolean) :: ws) ({ frames := 0, cells := 0, slots := 0, locals := 0 } : Room)) (fun a U => a = #[(.int p1)] ∧ Z.Warmed39 U.vm ∧ U.heap = h0) (fun _ _ _ _ _ => True) (fun _ U o U' => ∃ v L, o = .returned v ∧ Q26 p1 h0 n0 Z v U'.heap L ∧ FrameEnd U o U' L ({ frames := 0, cells := 0, slots := 0, locals := 0 } : Room).cells ({ frames := 0, cells := 0, slots := 0, locals := 0 } : Room).slots) := by
  refine MetFree.of_bodySF (plainFor_of_name pn_4) hisR ?_
  intro p e s m args below meth c s₁ Bd hml0 hP hK
  obtain ⟨rfl, hZ, hh⟩ := hP
  have hx := Bd.exec
  have hby := Bd.bytes
  have hml : c.maxLocals = 1 := hml0
  have hown : s.vm.findClass "java/lang/Character" = some m.cls := findClass_of_methodNamed Bd.named
  have hnm := (name_of_methodNamed Bd.named Bd.method).1
  have hlk := Bd.notSynchronized
  have hrt := Bd.returns
  have X0 : Stand p l e ({ frames := 0, cells := 0, slots := 0, locals := 0 } : Room) s m #[(.int p1)] below meth c s₁ [] 0 0 := Stand.of_body Bd
  have e0 : s₁.heap = h0 := by rw [← hh, Bd.state]; rfl
  have N0 := Fr.nil n0
  show own_Ends p e below s (Q26 p1 h0 n0 Z) ({ frames := 0, cells := 0, slots := 0, locals := 0 } : Room).cells ({ frames := 0, cells := 0, slots := 0, locals := 0 } : Room).slots (s₁.setTop (entryFrame m #[(.int p1)] 1))
  rw [ef_26]
  refine own_go (fun _ k => XS.iloadN X0.here hx rfl (hb hby d26_0) rfl <| X0.ldcI hx hown (mvT hZ (hw _ (List.mem_of_getElem? (i := 116) rfl))) rfl (hb hby d26_1) <| k) ?_
  show own_Ends p e below s _ _ _ (s₁.setTop (mkF m 3 #[.val (.int p1)] [(.int (55296 : Int32)), (.int p1)]))
  by_cases hc3_1 : p1 < (55296 : Int32)
  · -- true
    refine own_go (fun _ k => XS.icmpYes X0.here hx rfl (pc0 := 3) (pc' := 16) rfl (hb hby d26_3) rfl (tlt hc3_1).1 (by decide) (by decide) <| XT.iconstV X0.here hx rfl (0 : Int32) (hb hby d26_16) rfl <| k) ?_
    show own_Ends p e below s _ _ _ (s₁.setTop (mkF m 17 #[.val (.int p1)] [(.int (0 : Int32))]))
    exact own_retN X0 hx (t := .boolean) hrt (by simp) (hb hby d26_17) hlk (show nar .boolean (0 : Int32) = (0 : Int32) from by decide) (by rw [e0]; exact ⟨by simp only [Int32.lt_iff_toInt_lt, ← Int32.toInt_inj, own_lit_0, own_lit_1, own_lit_2, own_lit_55296, own_lit_56319, own_lit_56320, own_lit_57343, own_lit_57344, own_lit_65536] at hc3_1; unfold own_h; first | (exfalso; omega) | rw [if_pos (by omega)] | rw [if_neg (by omega)], N0, rfl⟩) (by decide) (by decide)
  · -- false
    refine own_go (fun _ k => XS.icmpNo X0.here hx rfl (hb hby d26_3) rfl (flt hc3_1).1 <| XS.iloadN X0.here hx rfl (hb hby d26_6) rfl <| X0.ldcI hx hown (mvT hZ (hw _ (List.mem_of_getElem? (i := 122) rfl))) rfl (hb hby d26_7) <| k) ?_
    show own_Ends p e below s _ _ _ (s₁.setTop (mkF m 9 #[.val (.int p1)] [(.int (56320 : Int32)), (.int p1)]))
    by_cases hc9_2 : p1 < (56320 : Int32)
    · -- true
      refine own_go (fun _ k => XS.icmpNo X0.here hx rfl (hb hby d26_9) rfl (tlt hc9_2).2.1 <| XT.iconstV X0.here hx rfl (1 : Int32) (hb hby d26_12) rfl <| XS.goto X0.here hx rfl (pc0 := 13) (pc' := 17) rfl (hb hby d26_13) (by decide) (by decide) <| k) ?_
      show own_Ends p e below s _ _ _ (s₁.setTop (mkF m 17 #[.val (.int p1)] [(.int (1 : Int32))]))
      exact own_retN X0 hx (t := .boolean) hrt (by simp) (hb hby d26_17) hlk (show nar .boolean (1 : Int32) = (1 : Int32) from by decide) (by rw [e0]; exact ⟨by simp only [Int32.lt_iff_toInt_lt, ← Int32.toInt_inj, own_lit_0, own_lit_1, own_lit_2, own_lit_55296, own_lit_56319, own_lit_56320, own_lit_57343, own_lit_57344, own_lit_65536] at hc3_1 hc9_2; unfold own_h; first | (exfalso; omega) | rw [if_pos (by omega)] | rw [if_neg (by omega)], N0, rfl⟩) (by decide) (by decide)
    · -- false
      refine own_go (fun _ k => XS.icmpYes X0.here hx rfl (pc0 := 9) (pc' := 16) rfl (hb hby d26_9) rfl (flt hc9_2).2.1 (by decide) (by decide) <| XT.iconstV X0.here hx rfl (0 : Int32) (hb hby d26_16) rfl <| k) ?_
      show own_Ends p e below s _ _ _ (s₁.setTop (mkF m 17 #[.val (.int p1)] [(.int (0 : Int32))]))
      exact own_retN X0 hx (t := .boolean) hrt (by simp) (hb hby d26_17) hlk (show nar .boolean (0 : Int32) = (0 : Int32) from by decide) (by rw [e0]; exact ⟨by simp only [Int32.lt_iff_toInt_lt, ← Int32.toInt_inj, own_lit_0, own_lit_1, own_lit_2, own_lit_55296, own_lit_56319, own_lit_56320, own_lit_57343, own_lit_57344, own_lit_65536] at hc3_1 hc9_2; unfold own_h; first | (exfalso; omega) | rw [if_pos (by omega)] | rw [if_neg (by omega)], N0, rfl⟩) (by decide) (by decide)
theorem d28_0 : decode jdk_89_method_15_code 0 = .ok (.iload_n 0, 1) := by decide +kernel
theorem d28_1 : decode jdk_89_method_15_code 1 = .ok (.ldc 76, 2) := by decide +kernel
theorem d28_3 : decode jdk_89_method_15_code 3 = .ok (.if_icmp .lt 13, 3) := by decide +kernel
theorem d28_6 : decode jdk_89_method_15_code 6 = .ok (.iload_n 0, 1) := by decide +kernel
theorem d28_7 : decode jdk_89_method_15_code 7 = .ok (.ldc 77, 2) := by decide +kernel
theorem d28_9 : decode jdk_89_method_15_code 9 = .ok (.if_icmp .ge 7, 3) := by decide +kernel
theorem d28_12 : decode jdk_89_method_15_code 12 = .ok (.iconst 1, 1) := by decide +kernel
theorem d28_13 : decode jdk_89_method_15_code 13 = .ok (.goto 4, 3) := by decide +kernel
theorem d28_16 : decode jdk_89_method_15_code 16 = .ok (.iconst 0, 1) := by decide +kernel
theorem d28_17 : decode jdk_89_method_15_code 17 = .ok (.ireturn, 1) := by decide +kernel
theorem ef_28 (m : MethodId) (x0 : Int32) : entryFrame m #[(.int x0)] 1 = mkF m 0 #[.val (.int x0)] [] := by first | (simp [entryFrame, mkF, argsToLocals, Value.category]; done) | rfl
def Q28 (p1 : Int32) (h0 : Heap) (n0 : Nat) (Z : State) (v : Option Value) (h : Heap) (L : List Loc) : Prop := v = some (.int (own_l p1)) ∧ Fr n0 L ∧ h = h0
set_option maxRecDepth 65536 in
set_option maxHeartbeats 40000000 in
theorem rm28 (l : Launch) (Z : State) (a0 : Array Value) (hw : ∀ d ∈ tables_1, d.before a0 Z = true) (ws : List Jvm.Cond) (p1 : Int32) (h0 : Heap) (n0 : Nat) (Z0 : n0 ≤ h0.size) :
    MetFree l (⟨"java/lang/Character", "isLowSurrogate", "(C)Z"⟩ : MethodName) (head1 (Jvm.Cond.code (⟨"java/lang/Character", "isLowSurrogate", "(C)Z"⟩ : MethodName) jdk_89_method_15_code 1 (some .boolean) :: ws) ({ frames := 0, cells := 0, slots := 0, locals := 0 } : Room)) (fun a U => a = #[(.int p1)] ∧ Z.Warmed39 U.vm ∧ U.heap = h0) (fun _ _ _ _ _ => True) (fun _ U o U' => ∃ v L, o = .returned v ∧ Q28 p1 h0 n0 Z v U'.heap L ∧ FrameEnd U o U' L ({ frames := 0, cells := 0, slots := 0, locals := 0 } : Room).cells ({ frames := 0, cells := 0, slots := 0, locals := 0 } : Room).slots) := by
  refine MetFree.of_bodySF (plainFor_of_name pn_4) hisR ?_
  intro p e s m args below meth c s₁ Bd hml0 hP hK
  obtain ⟨rfl, hZ, hh⟩ := hP
  have hx := Bd.exec
  have hby := Bd.bytes
  have hml : c.maxLocals = 1 := hml0
  have hown : s.vm.findClass "java/lang/Character" = some m.cls := findClass_of_methodNamed Bd.named
  have hnm := (name_of_methodNamed Bd.named Bd.method).1
  have hlk := Bd.notSynchronized
  have hrt := Bd.returns
  have X0 : Stand p l e ({ frames := 0, cells := 0, slots := 0, locals := 0 } : Room) s m #[(.int p1)] below meth c s₁ [] 0 0 := Stand.of_body Bd
  have e0 : s₁.heap = h0 := by rw [← hh, Bd.state]; rfl
  have N0 := Fr.nil n0
  show own_Ends p e below s (Q28 p1 h0 n0 Z) ({ frames := 0, cells := 0, slots := 0, locals := 0 } : Room).cells ({ frames := 0, cells := 0, slots := 0, locals := 0 } : Room).slots (s₁.setTop (entryFrame m #[(.int p1)] 1))
  rw [ef_28]
  refine own_go (fun _ k => XS.iloadN X0.here hx rfl (hb hby d28_0) rfl <| X0.ldcI hx hown (mvT hZ (hw _ (List.mem_of_getElem? (i := 122) rfl))) rfl (hb hby d28_1) <| k) ?_
  show own_Ends p e below s _ _ _ (s₁.setTop (mkF m 3 #[.val (.int p1)] [(.int (56320 : Int32)), (.int p1)]))
  by_cases hc3_1 : p1 < (56320 : Int32)
  · -- true
    refine own_go (fun _ k => XS.icmpYes X0.here hx rfl (pc0 := 3) (pc' := 16) rfl (hb hby d28_3) rfl (tlt hc3_1).1 (by decide) (by decide) <| XT.iconstV X0.here hx rfl (0 : Int32) (hb hby d28_16) rfl <| k) ?_
    show own_Ends p e below s _ _ _ (s₁.setTop (mkF m 17 #[.val (.int p1)] [(.int (0 : Int32))]))
    exact own_retN X0 hx (t := .boolean) hrt (by simp) (hb hby d28_17) hlk (show nar .boolean (0 : Int32) = (0 : Int32) from by decide) (by rw [e0]; exact ⟨by simp only [Int32.lt_iff_toInt_lt, ← Int32.toInt_inj, own_lit_0, own_lit_1, own_lit_2, own_lit_55296, own_lit_56319, own_lit_56320, own_lit_57343, own_lit_57344, own_lit_65536] at hc3_1; unfold own_l; first | (exfalso; omega) | rw [if_pos (by omega)] | rw [if_neg (by omega)], N0, rfl⟩) (by decide) (by decide)
  · -- false
    refine own_go (fun _ k => XS.icmpNo X0.here hx rfl (hb hby d28_3) rfl (flt hc3_1).1 <| XS.iloadN X0.here hx rfl (hb hby d28_6) rfl <| X0.ldcI hx hown (mvT hZ (hw _ (List.mem_of_getElem? (i := 127) rfl))) rfl (hb hby d28_7) <| k) ?_
    show own_Ends p e below s _ _ _ (s₁.setTop (mkF m 9 #[.val (.int p1)] [(.int (57344 : Int32)), (.int p1)]))
    by_cases hc9_2 : p1 < (57344 : Int32)
    · -- true
      refine own_go (fun _ k => XS.icmpNo X0.here hx rfl (hb hby d28_9) rfl (tlt hc9_2).2.1 <| XT.iconstV X0.here hx rfl (1 : Int32) (hb hby d28_12) rfl <| XS.goto X0.here hx rfl (pc0 := 13) (pc' := 17) rfl (hb hby d28_13) (by decide) (by decide) <| k) ?_
      show own_Ends p e below s _ _ _ (s₁.setTop (mkF m 17 #[.val (.int p1)] [(.int (1 : Int32))]))
      exact own_retN X0 hx (t := .boolean) hrt (by simp) (hb hby d28_17) hlk (show nar .boolean (1 : Int32) = (1 : Int32) from by decide) (by rw [e0]; exact ⟨by simp only [Int32.lt_iff_toInt_lt, ← Int32.toInt_inj, own_lit_0, own_lit_1, own_lit_2, own_lit_55296, own_lit_56319, own_lit_56320, own_lit_57343, own_lit_57344, own_lit_65536] at hc3_1 hc9_2; unfold own_l; first | (exfalso; omega) | rw [if_pos (by omega)] | rw [if_neg (by omega)], N0, rfl⟩) (by decide) (by decide)
    · -- false
      refine own_go (fun _ k => XS.icmpYes X0.here hx rfl (pc0 := 9) (pc' := 16) rfl (hb hby d28_9) rfl (flt hc9_2).2.1 (by decide) (by decide) <| XT.iconstV X0.here hx rfl (0 : Int32) (hb hby d28_16) rfl <| k) ?_
      show own_Ends p e below s _ _ _ (s₁.setTop (mkF m 17 #[.val (.int p1)] [(.int (0 : Int32))]))
      exact own_retN X0 hx (t := .boolean) hrt (by simp) (hb hby d28_17) hlk (show nar .boolean (0 : Int32) = (0 : Int32) from by decide) (by rw [e0]; exact ⟨by simp only [Int32.lt_iff_toInt_lt, ← Int32.toInt_inj, own_lit_0, own_lit_1, own_lit_2, own_lit_55296, own_lit_56319, own_lit_56320, own_lit_57343, own_lit_57344, own_lit_65536] at hc3_1 hc9_2; unfold own_l; first | (exfalso; omega) | rw [if_pos (by omega)] | rw [if_neg (by omega)], N0, rfl⟩) (by decide) (by decide)
theorem d27_0 : decode jdk_89_method_18_code 0 = .ok (.iload_n 0, 1) := by decide +kernel
theorem d27_1 : decode jdk_89_method_18_code 1 = .ok (.ldc 73, 2) := by decide +kernel
theorem d27_3 : decode jdk_89_method_18_code 3 = .ok (.if_icmp .lt 7, 3) := by decide +kernel
theorem d27_6 : decode jdk_89_method_18_code 6 = .ok (.iconst 2, 1) := by decide +kernel
theorem d27_7 : decode jdk_89_method_18_code 7 = .ok (.goto 4, 3) := by decide +kernel
theorem d27_10 : decode jdk_89_method_18_code 10 = .ok (.iconst 1, 1) := by decide +kernel
theorem d27_11 : decode jdk_89_method_18_code 11 = .ok (.ireturn, 1) := by decide +kernel
theorem ef_27 (m : MethodId) (x0 : Int32) : entryFrame m #[(.int x0)] 1 = mkF m 0 #[.val (.int x0)] [] := by first | (simp [entryFrame, mkF, argsToLocals, Value.category]; done) | rfl
def Q27 (p1 : Int32) (h0 : Heap) (n0 : Nat) (Z : State) (v : Option Value) (h : Heap) (L : List Loc) : Prop := v = some (.int (own_cc p1)) ∧ Fr n0 L ∧ h = h0
set_option maxRecDepth 65536 in
set_option maxHeartbeats 40000000 in
theorem rm27 (l : Launch) (Z : State) (a0 : Array Value) (hw : ∀ d ∈ tables_1, d.before a0 Z = true) (ws : List Jvm.Cond) (p1 : Int32) (h0 : Heap) (n0 : Nat) (Z0 : n0 ≤ h0.size) :
    MetFree l (⟨"java/lang/Character", "charCount", "(I)I"⟩ : MethodName) (head1 (Jvm.Cond.code (⟨"java/lang/Character", "charCount", "(I)I"⟩ : MethodName) jdk_89_method_18_code 1 (some .int) :: ws) ({ frames := 0, cells := 0, slots := 0, locals := 0 } : Room)) (fun a U => a = #[(.int p1)] ∧ Z.Warmed39 U.vm ∧ U.heap = h0) (fun _ _ _ _ _ => True) (fun _ U o U' => ∃ v L, o = .returned v ∧ Q27 p1 h0 n0 Z v U'.heap L ∧ FrameEnd U o U' L ({ frames := 0, cells := 0, slots := 0, locals := 0 } : Room).cells ({ frames := 0, cells := 0, slots := 0, locals := 0 } : Room).slots) := by
  refine MetFree.of_bodySF (plainFor_of_name pn_4) hisR ?_
  intro p e s m args below meth c s₁ Bd hml0 hP hK
  obtain ⟨rfl, hZ, hh⟩ := hP
  have hx := Bd.exec
  have hby := Bd.bytes
  have hml : c.maxLocals = 1 := hml0
  have hown : s.vm.findClass "java/lang/Character" = some m.cls := findClass_of_methodNamed Bd.named
  have hnm := (name_of_methodNamed Bd.named Bd.method).1
  have hlk := Bd.notSynchronized
  have hrt := Bd.returns
  have X0 : Stand p l e ({ frames := 0, cells := 0, slots := 0, locals := 0 } : Room) s m #[(.int p1)] below meth c s₁ [] 0 0 := Stand.of_body Bd
  have e0 : s₁.heap = h0 := by rw [← hh, Bd.state]; rfl
  have N0 := Fr.nil n0
  show own_Ends p e below s (Q27 p1 h0 n0 Z) ({ frames := 0, cells := 0, slots := 0, locals := 0 } : Room).cells ({ frames := 0, cells := 0, slots := 0, locals := 0 } : Room).slots (s₁.setTop (entryFrame m #[(.int p1)] 1))
  rw [ef_27]
  refine own_go (fun _ k => XS.iloadN X0.here hx rfl (hb hby d27_0) rfl <| X0.ldcI hx hown (mvT hZ (hw _ (List.mem_of_getElem? (i := 121) rfl))) rfl (hb hby d27_1) <| k) ?_
  show own_Ends p e below s _ _ _ (s₁.setTop (mkF m 3 #[.val (.int p1)] [(.int (65536 : Int32)), (.int p1)]))
  by_cases hc3_1 : p1 < (65536 : Int32)
  · -- true
    refine own_go (fun _ k => XS.icmpYes X0.here hx rfl (pc0 := 3) (pc' := 10) rfl (hb hby d27_3) rfl (tlt hc3_1).1 (by decide) (by decide) <| XT.iconstV X0.here hx rfl (1 : Int32) (hb hby d27_10) rfl <| k) ?_
    show own_Ends p e below s _ _ _ (s₁.setTop (mkF m 11 #[.val (.int p1)] [(.int (1 : Int32))]))
    exact own_ret X0 hx hrt rfl (Or.inl ⟨rfl, Or.inl rfl, _, rfl⟩) (hb hby d27_11) hlk (by rw [e0]; exact ⟨by simp only [Int32.lt_iff_toInt_lt, ← Int32.toInt_inj, own_lit_0, own_lit_1, own_lit_2, own_lit_55296, own_lit_56319, own_lit_56320, own_lit_57343, own_lit_57344, own_lit_65536] at hc3_1; unfold own_cc; first | (exfalso; omega) | rw [if_pos (by omega)] | rw [if_neg (by omega)], N0, rfl⟩) (by decide) (by decide)
  · -- false
    refine own_go (fun _ k => XS.icmpNo X0.here hx rfl (hb hby d27_3) rfl (flt hc3_1).1 <| XT.iconstV X0.here hx rfl (2 : Int32) (hb hby d27_6) rfl <| XS.goto X0.here hx rfl (pc0 := 7) (pc' := 11) rfl (hb hby d27_7) (by decide) (by decide) <| k) ?_
    show own_Ends p e below s _ _ _ (s₁.setTop (mkF m 11 #[.val (.int p1)] [(.int (2 : Int32))]))
    exact own_ret X0 hx hrt rfl (Or.inl ⟨rfl, Or.inl rfl, _, rfl⟩) (hb hby d27_11) hlk (by rw [e0]; exact ⟨by simp only [Int32.lt_iff_toInt_lt, ← Int32.toInt_inj, own_lit_0, own_lit_1, own_lit_2, own_lit_55296, own_lit_56319, own_lit_56320, own_lit_57343, own_lit_57344, own_lit_65536] at hc3_1; unfold own_cc; first | (exfalso; omega) | rw [if_pos (by omega)] | rw [if_neg (by omega)], N0, rfl⟩) (by decide) (by decide)
theorem d29_0 : decode jdk_89_method_19_code 0 = .ok (.iload_n 0, 1) := by decide +kernel
theorem d29_1 : decode jdk_89_method_19_code 1 = .ok (.bipush 10, 2) := by decide +kernel
theorem d29_3 : decode jdk_89_method_19_code 3 = .ok (.ishl, 1) := by decide +kernel
theorem d29_4 : decode jdk_89_method_19_code 4 = .ok (.iload_n 1, 1) := by decide +kernel
theorem d29_5 : decode jdk_89_method_19_code 5 = .ok (.iadd, 1) := by decide +kernel
theorem d29_6 : decode jdk_89_method_19_code 6 = .ok (.ldc 85, 2) := by decide +kernel
theorem d29_8 : decode jdk_89_method_19_code 8 = .ok (.iadd, 1) := by decide +kernel
theorem d29_9 : decode jdk_89_method_19_code 9 = .ok (.ireturn, 1) := by decide +kernel
theorem ef_29 (m : MethodId) (x0 : Int32) (x1 : Int32) : entryFrame m #[(.int x0), (.int x1)] 2 = mkF m 0 #[.val (.int x0), .val (.int x1)] [] := by first | (simp [entryFrame, mkF, argsToLocals, Value.category]; done) | rfl
def Q29 (p1 : Int32) (p2 : Int32) (h0 : Heap) (n0 : Nat) (Z : State) (v : Option Value) (h : Heap) (L : List Loc) : Prop := v = some (.int (own_tcp p1 p2)) ∧ Fr n0 L ∧ h = h0
set_option maxRecDepth 65536 in
set_option maxHeartbeats 40000000 in
theorem rm29 (l : Launch) (Z : State) (a0 : Array Value) (hw : ∀ d ∈ tables_1, d.before a0 Z = true) (ws : List Jvm.Cond) (p1 : Int32) (p2 : Int32) (h0 : Heap) (n0 : Nat) (Z0 : n0 ≤ h0.size) :
    MetFree l (⟨"java/lang/Character", "toCodePoint", "(CC)I"⟩ : MethodName) (head1 (Jvm.Cond.code (⟨"java/lang/Character", "toCodePoint", "(CC)I"⟩ : MethodName) jdk_89_method_19_code 2 (some .int) :: ws) ({ frames := 0, cells := 0, slots := 0, locals := 0 } : Room)) (fun a U => a = #[(.int p1), (.int p2)] ∧ Z.Warmed39 U.vm ∧ U.heap = h0) (fun _ _ _ _ _ => True) (fun _ U o U' => ∃ v L, o = .returned v ∧ Q29 p1 p2 h0 n0 Z v U'.heap L ∧ FrameEnd U o U' L ({ frames := 0, cells := 0, slots := 0, locals := 0 } : Room).cells ({ frames := 0, cells := 0, slots := 0, locals := 0 } : Room).slots) := by
  refine MetFree.of_bodySF (plainFor_of_name pn_4) hisR ?_
  intro p e s m args below meth c s₁ Bd hml0 hP hK
  obtain ⟨rfl, hZ, hh⟩ := hP
  have hx := Bd.exec
  have hby := Bd.bytes
  have hml : c.maxLocals = 2 := hml0
  have hown : s.vm.findClass "java/lang/Character" = some m.cls := findClass_of_methodNamed Bd.named
  have hnm := (name_of_methodNamed Bd.named Bd.method).1
  have hlk := Bd.notSynchronized
  have hrt := Bd.returns
  have X0 : Stand p l e ({ frames := 0, cells := 0, slots := 0, locals := 0 } : Room) s m #[(.int p1), (.int p2)] below meth c s₁ [] 0 0 := Stand.of_body Bd
  have e0 : s₁.heap = h0 := by rw [← hh, Bd.state]; rfl
  have N0 := Fr.nil n0
  show own_Ends p e below s (Q29 p1 p2 h0 n0 Z) ({ frames := 0, cells := 0, slots := 0, locals := 0 } : Room).cells ({ frames := 0, cells := 0, slots := 0, locals := 0 } : Room).slots (s₁.setTop (entryFrame m #[(.int p1), (.int p2)] 2))
  rw [ef_29]
  refine own_go (fun _ k => XS.iloadN X0.here hx rfl (hb hby d29_0) rfl <| XT.bipushV X0.here hx rfl (10 : Int32) (hb hby d29_1) rfl <| XS.ishl X0.here hx rfl (hb hby d29_3) rfl <| XS.iloadN X0.here hx rfl (hb hby d29_4) rfl <| XS.iadd X0.here hx rfl (hb hby d29_5) rfl <| X0.ldcI hx hown (mvT hZ (hw _ (List.mem_of_getElem? (i := 131) rfl))) rfl (hb hby d29_6) <| XS.iadd X0.here hx rfl (hb hby d29_8) rfl <| k) ?_
  show own_Ends p e below s _ _ _ (s₁.setTop (mkF m 9 #[.val (.int p1), .val (.int p2)] [(.int (((p1 <<< ((10 : Int32) &&& 31)) + p2) + (-56613888 : Int32)))]))
  exact own_ret X0 hx hrt rfl (Or.inl ⟨rfl, Or.inl rfl, _, rfl⟩) (hb hby d29_9) hlk (by rw [e0]; exact ⟨rfl, N0, rfl⟩) (by decide) (by decide)
theorem d1_0 : decode method_3_code 0 = .ok (.iload_n 0, 1) := by decide +kernel
theorem d1_1 : decode method_3_code 1 = .ok (.iconst 3, 1) := by decide +kernel
theorem d1_2 : decode method_3_code 2 = .ok (.iand, 1) := by decide +kernel
theorem d1_3 : decode method_3_code 3 = .ok (.istore_n 1, 1) := by decide +kernel
theorem d1_4 : decode method_3_code 4 = .ok (.iload_n 1, 1) := by decide +kernel
theorem d1_5 : decode method_3_code 5 = .ok (.iconst 1, 1) := by decide +kernel
theorem d1_6 : decode method_3_code 6 = .ok (.if_icmp .ne 15, 3) := by decide +kernel
theorem d1_9 : decode method_3_code 9 = .ok (.ldc 33, 2) := by decide +kernel
theorem d1_11 : decode method_3_code 11 = .ok (.iload_n 0, 1) := by decide +kernel
theorem d1_12 : decode method_3_code 12 = .ok (.iconst 2, 1) := by decide +kernel
theorem d1_13 : decode method_3_code 13 = .ok (.iushr, 1) := by decide +kernel
theorem d1_14 : decode method_3_code 14 = .ok (.sipush 1023, 3) := by decide +kernel
theorem d1_17 : decode method_3_code 17 = .ok (.iand, 1) := by decide +kernel
theorem d1_18 : decode method_3_code 18 = .ok (.ior, 1) := by decide +kernel
theorem d1_19 : decode method_3_code 19 = .ok (.i2c, 1) := by decide +kernel
theorem d1_20 : decode method_3_code 20 = .ok (.ireturn, 1) := by decide +kernel
theorem d1_21 : decode method_3_code 21 = .ok (.iload_n 1, 1) := by decide +kernel
theorem d1_22 : decode method_3_code 22 = .ok (.iconst 2, 1) := by decide +kernel
theorem d1_23 : decode method_3_code 23 = .ok (.if_icmp .ne 15, 3) := by decide +kernel
theorem d1_26 : decode method_3_code 26 = .ok (.ldc 34, 2) := by decide +kernel
theorem d1_28 : decode method_3_code 28 = .ok (.iload_n 0, 1) := by decide +kernel
theorem d1_29 : decode method_3_code 29 = .ok (.iconst 2, 1) := by decide +kernel
theorem d1_30 : decode method_3_code 30 = .ok (.iushr, 1) := by decide +kernel
theorem d1_31 : decode method_3_code 31 = .ok (.sipush 1023, 3) := by decide +kernel
theorem d1_34 : decode method_3_code 34 = .ok (.iand, 1) := by decide +kernel
theorem d1_35 : decode method_3_code 35 = .ok (.ior, 1) := by decide +kernel
theorem d1_36 : decode method_3_code 36 = .ok (.i2c, 1) := by decide +kernel
theorem d1_37 : decode method_3_code 37 = .ok (.ireturn, 1) := by decide +kernel
theorem d1_38 : decode method_3_code 38 = .ok (.iload_n 1, 1) := by decide +kernel
theorem d1_39 : decode method_3_code 39 = .ok (.iconst 3, 1) := by decide +kernel
theorem d1_40 : decode method_3_code 40 = .ok (.if_icmp .ne 11, 3) := by decide +kernel
theorem d1_43 : decode method_3_code 43 = .ok (.iload_n 0, 1) := by decide +kernel
theorem d1_44 : decode method_3_code 44 = .ok (.iconst 2, 1) := by decide +kernel
theorem d1_45 : decode method_3_code 45 = .ok (.iushr, 1) := by decide +kernel
theorem d1_46 : decode method_3_code 46 = .ok (.ldc 35, 2) := by decide +kernel
theorem d1_48 : decode method_3_code 48 = .ok (.iand, 1) := by decide +kernel
theorem d1_49 : decode method_3_code 49 = .ok (.i2c, 1) := by decide +kernel
theorem d1_50 : decode method_3_code 50 = .ok (.ireturn, 1) := by decide +kernel
theorem d1_51 : decode method_3_code 51 = .ok (.iload_n 0, 1) := by decide +kernel
theorem d1_52 : decode method_3_code 52 = .ok (.bipush 16, 2) := by decide +kernel
theorem d1_54 : decode method_3_code 54 = .ok (.iushr, 1) := by decide +kernel
theorem d1_55 : decode method_3_code 55 = .ok (.ldc 35, 2) := by decide +kernel
theorem d1_57 : decode method_3_code 57 = .ok (.iand, 1) := by decide +kernel
theorem d1_58 : decode method_3_code 58 = .ok (.i2c, 1) := by decide +kernel
theorem d1_59 : decode method_3_code 59 = .ok (.ireturn, 1) := by decide +kernel
theorem ef_1 (m : MethodId) (x0 : Int32) : entryFrame m #[(.int x0)] 2 = mkF m 0 #[.val (.int x0), .unset] [] := by first | (simp [entryFrame, mkF, argsToLocals, Value.category]; done) | rfl
def Q1 (p1 : Int32) (h0 : Heap) (n0 : Nat) (Z : State) (v : Option Value) (h : Heap) (L : List Loc) : Prop := ∃ c : Int32, v = some (.int c) ∧ nar .char c = c ∧ Fr n0 L ∧ h = h0
set_option maxRecDepth 65536 in
set_option maxHeartbeats 40000000 in
theorem rm1 (l : Launch) (Z : State) (a0 : Array Value) (hw : ∀ d ∈ tables_1, d.before a0 Z = true) (ws : List Jvm.Cond) (p1 : Int32) (h0 : Heap) (n0 : Nat) (Z0 : n0 ≤ h0.size) :
    MetFree l (⟨"com/example/pagra/pagra/core/StrictUtf8IsEncodablePinLaw", "draw", "(I)C"⟩ : MethodName) (head1 (Jvm.Cond.code (⟨"com/example/pagra/pagra/core/StrictUtf8IsEncodablePinLaw", "draw", "(I)C"⟩ : MethodName) method_3_code 2 (some .char) :: ws) ({ frames := 0, cells := 0, slots := 0, locals := 0 } : Room)) (fun a U => a = #[(.int p1)] ∧ Z.Warmed39 U.vm ∧ U.heap = h0) (fun _ _ _ _ _ => True) (fun _ U o U' => ∃ v L, o = .returned v ∧ Q1 p1 h0 n0 Z v U'.heap L ∧ FrameEnd U o U' L ({ frames := 0, cells := 0, slots := 0, locals := 0 } : Room).cells ({ frames := 0, cells := 0, slots := 0, locals := 0 } : Room).slots) := by
  refine MetFree.of_bodySF (plainFor_of_name pn_3) hisR ?_
  intro p e s m args below meth c s₁ Bd hml0 hP hK
  obtain ⟨rfl, hZ, hh⟩ := hP
  have hx := Bd.exec
  have hby := Bd.bytes
  have hml : c.maxLocals = 2 := hml0
  have hown : s.vm.findClass "com/example/pagra/pagra/core/StrictUtf8IsEncodablePinLaw" = some m.cls := findClass_of_methodNamed Bd.named
  have hnm := (name_of_methodNamed Bd.named Bd.method).1
  have hlk := Bd.notSynchronized
  have hrt := Bd.returns
  have X0 : Stand p l e ({ frames := 0, cells := 0, slots := 0, locals := 0 } : Room) s m #[(.int p1)] below meth c s₁ [] 0 0 := Stand.of_body Bd
  have e0 : s₁.heap = h0 := by rw [← hh, Bd.state]; rfl
  have N0 := Fr.nil n0
  show own_Ends p e below s (Q1 p1 h0 n0 Z) ({ frames := 0, cells := 0, slots := 0, locals := 0 } : Room).cells ({ frames := 0, cells := 0, slots := 0, locals := 0 } : Room).slots (s₁.setTop (entryFrame m #[(.int p1)] 2))
  rw [ef_1]
  refine own_go (fun _ k => XS.iloadN X0.here hx rfl (hb hby d1_0) rfl <| XT.iconstV X0.here hx rfl (3 : Int32) (hb hby d1_1) rfl <| XS.iand X0.here hx rfl (hb hby d1_2) rfl <| XS.istoreN X0.here hx rfl (hb hby d1_3) rfl (l' := #[.val (.int p1), .val (.int (p1 &&& (3 : Int32)))]) rfl <| XS.iloadN X0.here hx rfl (hb hby d1_4) rfl <| XT.iconstV X0.here hx rfl (1 : Int32) (hb hby d1_5) rfl <| k) ?_
  show own_Ends p e below s _ _ _ (s₁.setTop (mkF m 6 #[.val (.int p1), .val (.int (p1 &&& (3 : Int32)))] [(.int (1 : Int32)), (.int (p1 &&& (3 : Int32)))]))
  by_cases hc6_1 : (p1 &&& (3 : Int32)) = (1 : Int32)
  · -- true
    refine own_go (fun _ k => XS.icmpNo X0.here hx rfl (hb hby d1_6) rfl (teq hc6_1).2 <| X0.ldcI hx hown (mvT hZ (hw _ (List.mem_of_getElem? (i := 7) rfl))) rfl (hb hby d1_9) <| XS.iloadN X0.here hx rfl (hb hby d1_11) rfl <| XT.iconstV X0.here hx rfl (2 : Int32) (hb hby d1_12) rfl <| XS.iushr X0.here hx rfl (hb hby d1_13) rfl <| XT.sipushV X0.here hx rfl (1023 : Int32) (hb hby d1_14) rfl <| XS.iand X0.here hx rfl (hb hby d1_17) rfl <| XS.ior X0.here hx rfl (hb hby d1_18) rfl <| XS.i2c X0.here hx rfl (hb hby d1_19) rfl <| k) ?_
    show own_Ends p e below s _ _ _ (s₁.setTop (mkF m 20 #[.val (.int p1), .val (.int (p1 &&& (3 : Int32)))] [(.int (((55296 : Int32) ||| (((p1.toUInt32 >>> ((2 : Int32) &&& 31).toUInt32).toInt32) &&& (1023 : Int32))).toUInt32.toUInt16.toUInt32.toInt32))]))
    exact own_retN X0 hx (t := .char) hrt (by simp) (hb hby d1_20) hlk rfl (by rw [e0]; exact ⟨_, rfl, own_nn _, N0, rfl⟩) (by decide) (by decide)
  · -- false
    refine own_go (fun _ k => XS.icmpYes X0.here hx rfl (pc0 := 6) (pc' := 21) rfl (hb hby d1_6) rfl (feq hc6_1).2 (by decide) (by decide) <| XS.iloadN X0.here hx rfl (hb hby d1_21) rfl <| XT.iconstV X0.here hx rfl (2 : Int32) (hb hby d1_22) rfl <| k) ?_
    show own_Ends p e below s _ _ _ (s₁.setTop (mkF m 23 #[.val (.int p1), .val (.int (p1 &&& (3 : Int32)))] [(.int (2 : Int32)), (.int (p1 &&& (3 : Int32)))]))
    by_cases hc23_2 : (p1 &&& (3 : Int32)) = (2 : Int32)
    · -- true
      refine own_go (fun _ k => XS.icmpNo X0.here hx rfl (hb hby d1_23) rfl (teq hc23_2).2 <| X0.ldcI hx hown (mvT hZ (hw _ (List.mem_of_getElem? (i := 6) rfl))) rfl (hb hby d1_26) <| XS.iloadN X0.here hx rfl (hb hby d1_28) rfl <| XT.iconstV X0.here hx rfl (2 : Int32) (hb hby d1_29) rfl <| XS.iushr X0.here hx rfl (hb hby d1_30) rfl <| XT.sipushV X0.here hx rfl (1023 : Int32) (hb hby d1_31) rfl <| XS.iand X0.here hx rfl (hb hby d1_34) rfl <| XS.ior X0.here hx rfl (hb hby d1_35) rfl <| XS.i2c X0.here hx rfl (hb hby d1_36) rfl <| k) ?_
      show own_Ends p e below s _ _ _ (s₁.setTop (mkF m 37 #[.val (.int p1), .val (.int (p1 &&& (3 : Int32)))] [(.int (((56320 : Int32) ||| (((p1.toUInt32 >>> ((2 : Int32) &&& 31).toUInt32).toInt32) &&& (1023 : Int32))).toUInt32.toUInt16.toUInt32.toInt32))]))
      exact own_retN X0 hx (t := .char) hrt (by simp) (hb hby d1_37) hlk rfl (by rw [e0]; exact ⟨_, rfl, own_nn _, N0, rfl⟩) (by decide) (by decide)
    · -- false
      refine own_go (fun _ k => XS.icmpYes X0.here hx rfl (pc0 := 23) (pc' := 38) rfl (hb hby d1_23) rfl (feq hc23_2).2 (by decide) (by decide) <| XS.iloadN X0.here hx rfl (hb hby d1_38) rfl <| XT.iconstV X0.here hx rfl (3 : Int32) (hb hby d1_39) rfl <| k) ?_
      show own_Ends p e below s _ _ _ (s₁.setTop (mkF m 40 #[.val (.int p1), .val (.int (p1 &&& (3 : Int32)))] [(.int (3 : Int32)), (.int (p1 &&& (3 : Int32)))]))
      by_cases hc40_3 : (p1 &&& (3 : Int32)) = (3 : Int32)
      · -- true
        refine own_go (fun _ k => XS.icmpNo X0.here hx rfl (hb hby d1_40) rfl (teq hc40_3).2 <| XS.iloadN X0.here hx rfl (hb hby d1_43) rfl <| XT.iconstV X0.here hx rfl (2 : Int32) (hb hby d1_44) rfl <| XS.iushr X0.here hx rfl (hb hby d1_45) rfl <| X0.ldcI hx hown (mvT hZ (hw _ (List.mem_of_getElem? (i := 5) rfl))) rfl (hb hby d1_46) <| XS.iand X0.here hx rfl (hb hby d1_48) rfl <| XS.i2c X0.here hx rfl (hb hby d1_49) rfl <| k) ?_
        show own_Ends p e below s _ _ _ (s₁.setTop (mkF m 50 #[.val (.int p1), .val (.int (p1 &&& (3 : Int32)))] [(.int ((((p1.toUInt32 >>> ((2 : Int32) &&& 31).toUInt32).toInt32) &&& (65535 : Int32)).toUInt32.toUInt16.toUInt32.toInt32))]))
        exact own_retN X0 hx (t := .char) hrt (by simp) (hb hby d1_50) hlk rfl (by rw [e0]; exact ⟨_, rfl, own_nn _, N0, rfl⟩) (by decide) (by decide)
      · -- false
        refine own_go (fun _ k => XS.icmpYes X0.here hx rfl (pc0 := 40) (pc' := 51) rfl (hb hby d1_40) rfl (feq hc40_3).2 (by decide) (by decide) <| XS.iloadN X0.here hx rfl (hb hby d1_51) rfl <| XT.bipushV X0.here hx rfl (16 : Int32) (hb hby d1_52) rfl <| XS.iushr X0.here hx rfl (hb hby d1_54) rfl <| X0.ldcI hx hown (mvT hZ (hw _ (List.mem_of_getElem? (i := 5) rfl))) rfl (hb hby d1_55) <| XS.iand X0.here hx rfl (hb hby d1_57) rfl <| XS.i2c X0.here hx rfl (hb hby d1_58) rfl <| k) ?_
        show own_Ends p e below s _ _ _ (s₁.setTop (mkF m 59 #[.val (.int p1), .val (.int (p1 &&& (3 : Int32)))] [(.int ((((p1.toUInt32 >>> ((16 : Int32) &&& 31).toUInt32).toInt32) &&& (65535 : Int32)).toUInt32.toUInt16.toUInt32.toInt32))]))
        exact own_retN X0 hx (t := .char) hrt (by simp) (hb hby d1_59) hlk rfl (by rw [e0]; exact ⟨_, rfl, own_nn _, N0, rfl⟩) (by decide) (by decide)
theorem d2_0 : decode method_4_code 0 = .ok (.iload_n 0, 1) := by decide +kernel
theorem d2_1 : decode method_4_code 1 = .ok (.ifCond .ne 7, 3) := by decide +kernel
theorem d2_4 : decode method_4_code 4 = .ok (.iconst 0, 1) := by decide +kernel
theorem d2_5 : decode method_4_code 5 = .ok (.newarray .char, 2) := by decide +kernel
theorem d2_7 : decode method_4_code 7 = .ok (.areturn, 1) := by decide +kernel
theorem d2_8 : decode method_4_code 8 = .ok (.iload_n 0, 1) := by decide +kernel
theorem d2_9 : decode method_4_code 9 = .ok (.iconst 1, 1) := by decide +kernel
theorem d2_10 : decode method_4_code 10 = .ok (.if_icmp .ne 11, 3) := by decide +kernel
theorem d2_13 : decode method_4_code 13 = .ok (.iconst 1, 1) := by decide +kernel
theorem d2_14 : decode method_4_code 14 = .ok (.newarray .char, 2) := by decide +kernel
theorem d2_16 : decode method_4_code 16 = .ok (.dup, 1) := by decide +kernel
theorem d2_17 : decode method_4_code 17 = .ok (.iconst 0, 1) := by decide +kernel
theorem d2_18 : decode method_4_code 18 = .ok (.iload_n 1, 1) := by decide +kernel
theorem d2_19 : decode method_4_code 19 = .ok (.castore, 1) := by decide +kernel
theorem d2_20 : decode method_4_code 20 = .ok (.areturn, 1) := by decide +kernel
theorem d2_21 : decode method_4_code 21 = .ok (.iload_n 0, 1) := by decide +kernel
theorem d2_22 : decode method_4_code 22 = .ok (.iconst 2, 1) := by decide +kernel
theorem d2_23 : decode method_4_code 23 = .ok (.if_icmp .ne 15, 3) := by decide +kernel
theorem d2_26 : decode method_4_code 26 = .ok (.iconst 2, 1) := by decide +kernel
theorem d2_27 : decode method_4_code 27 = .ok (.newarray .char, 2) := by decide +kernel
theorem d2_29 : decode method_4_code 29 = .ok (.dup, 1) := by decide +kernel
theorem d2_30 : decode method_4_code 30 = .ok (.iconst 0, 1) := by decide +kernel
theorem d2_31 : decode method_4_code 31 = .ok (.iload_n 1, 1) := by decide +kernel
theorem d2_32 : decode method_4_code 32 = .ok (.castore, 1) := by decide +kernel
theorem d2_33 : decode method_4_code 33 = .ok (.dup, 1) := by decide +kernel
theorem d2_34 : decode method_4_code 34 = .ok (.iconst 1, 1) := by decide +kernel
theorem d2_35 : decode method_4_code 35 = .ok (.iload_n 2, 1) := by decide +kernel
theorem d2_36 : decode method_4_code 36 = .ok (.castore, 1) := by decide +kernel
theorem d2_37 : decode method_4_code 37 = .ok (.areturn, 1) := by decide +kernel
theorem d2_38 : decode method_4_code 38 = .ok (.iload_n 0, 1) := by decide +kernel
theorem d2_39 : decode method_4_code 39 = .ok (.iconst 3, 1) := by decide +kernel
theorem d2_40 : decode method_4_code 40 = .ok (.if_icmp .ne 19, 3) := by decide +kernel
theorem d2_43 : decode method_4_code 43 = .ok (.iconst 3, 1) := by decide +kernel
theorem d2_44 : decode method_4_code 44 = .ok (.newarray .char, 2) := by decide +kernel
theorem d2_46 : decode method_4_code 46 = .ok (.dup, 1) := by decide +kernel
theorem d2_47 : decode method_4_code 47 = .ok (.iconst 0, 1) := by decide +kernel
theorem d2_48 : decode method_4_code 48 = .ok (.iload_n 1, 1) := by decide +kernel
theorem d2_49 : decode method_4_code 49 = .ok (.castore, 1) := by decide +kernel
theorem d2_50 : decode method_4_code 50 = .ok (.dup, 1) := by decide +kernel
theorem d2_51 : decode method_4_code 51 = .ok (.iconst 1, 1) := by decide +kernel
theorem d2_52 : decode method_4_code 52 = .ok (.iload_n 2, 1) := by decide +kernel
theorem d2_53 : decode method_4_code 53 = .ok (.castore, 1) := by decide +kernel
theorem d2_54 : decode method_4_code 54 = .ok (.dup, 1) := by decide +kernel
theorem d2_55 : decode method_4_code 55 = .ok (.iconst 2, 1) := by decide +kernel
theorem d2_56 : decode method_4_code 56 = .ok (.iload_n 3, 1) := by decide +kernel
theorem d2_57 : decode method_4_code 57 = .ok (.castore, 1) := by decide +kernel
theorem d2_58 : decode method_4_code 58 = .ok (.areturn, 1) := by decide +kernel
theorem d2_59 : decode method_4_code 59 = .ok (.iconst 4, 1) := by decide +kernel
theorem d2_60 : decode method_4_code 60 = .ok (.newarray .char, 2) := by decide +kernel
theorem d2_62 : decode method_4_code 62 = .ok (.dup, 1) := by decide +kernel
theorem d2_63 : decode method_4_code 63 = .ok (.iconst 0, 1) := by decide +kernel
theorem d2_64 : decode method_4_code 64 = .ok (.iload_n 1, 1) := by decide +kernel
theorem d2_65 : decode method_4_code 65 = .ok (.castore, 1) := by decide +kernel
theorem d2_66 : decode method_4_code 66 = .ok (.dup, 1) := by decide +kernel
theorem d2_67 : decode method_4_code 67 = .ok (.iconst 1, 1) := by decide +kernel
theorem d2_68 : decode method_4_code 68 = .ok (.iload_n 2, 1) := by decide +kernel
theorem d2_69 : decode method_4_code 69 = .ok (.castore, 1) := by decide +kernel
theorem d2_70 : decode method_4_code 70 = .ok (.dup, 1) := by decide +kernel
theorem d2_71 : decode method_4_code 71 = .ok (.iconst 2, 1) := by decide +kernel
theorem d2_72 : decode method_4_code 72 = .ok (.iload_n 3, 1) := by decide +kernel
theorem d2_73 : decode method_4_code 73 = .ok (.castore, 1) := by decide +kernel
theorem d2_74 : decode method_4_code 74 = .ok (.dup, 1) := by decide +kernel
theorem d2_75 : decode method_4_code 75 = .ok (.iconst 3, 1) := by decide +kernel
theorem d2_76 : decode method_4_code 76 = .ok (.iload 4, 2) := by decide +kernel
theorem d2_78 : decode method_4_code 78 = .ok (.castore, 1) := by decide +kernel
theorem d2_79 : decode method_4_code 79 = .ok (.areturn, 1) := by decide +kernel
theorem ef_2 (m : MethodId) (x0 : Int32) (x1 : Int32) (x2 : Int32) (x3 : Int32) (x4 : Int32) : entryFrame m #[(.int x0), (.int x1), (.int x2), (.int x3), (.int x4)] 5 = mkF m 0 #[.val (.int x0), .val (.int x1), .val (.int x2), .val (.int x3), .val (.int x4)] [] := by first | (simp [entryFrame, mkF, argsToLocals, Value.category]; done) | rfl
def Q2 (p1 : Int32) (p2 : Int32) (p3 : Int32) (p4 : Int32) (p5 : Int32) (h0 : Heap) (n0 : Nat) (Z : State) (v : Option Value) (h : Heap) (L : List Loc) : Prop := ∃ b k cs, v = some (.ref b) ∧ Fr n0 L ∧ Keep h0 h [] ∧ n0 ≤ b ∧ h0.size ≤ b ∧ cs.length ≤ 4 ∧ own_Ch cs ∧ Arv Z h b k .char (Int32.ofNat cs.length) (cs.map Value.int) (.int (0 : Int32))
set_option maxRecDepth 65536 in
set_option maxHeartbeats 40000000 in
theorem rm2 (l : Launch) (Z : State) (a0 : Array Value) (hw : ∀ d ∈ tables_1, d.before a0 Z = true) (ws : List Jvm.Cond) (p1 : Int32) (p2 : Int32) (p3 : Int32) (p4 : Int32) (p5 : Int32) (h0 : Heap) (n0 : Nat) (Z0 : n0 ≤ h0.size) :
    MetFree l (⟨"com/example/pagra/pagra/core/StrictUtf8IsEncodablePinLaw", "make", "(ICCCC)[C"⟩ : MethodName) (head1 (Jvm.Cond.code (⟨"com/example/pagra/pagra/core/StrictUtf8IsEncodablePinLaw", "make", "(ICCCC)[C"⟩ : MethodName) method_4_code 5 (some (.array .char)) :: ws) ({ frames := 0, cells := 1, slots := 4, locals := 0 } : Room)) (fun a U => a = #[(.int p1), (.int p2), (.int p3), (.int p4), (.int p5)] ∧ Z.Warmed39 U.vm ∧ U.heap = h0) (fun _ _ _ _ _ => True) (fun _ U o U' => ∃ v L, o = .returned v ∧ Q2 p1 p2 p3 p4 p5 h0 n0 Z v U'.heap L ∧ FrameEnd U o U' L ({ frames := 0, cells := 1, slots := 4, locals := 0 } : Room).cells ({ frames := 0, cells := 1, slots := 4, locals := 0 } : Room).slots) := by
  refine MetFree.of_bodySF (plainFor_of_name pn_3) hisR ?_
  intro p e s m args below meth c s₁ Bd hml0 hP hK
  obtain ⟨rfl, hZ, hh⟩ := hP
  have hx := Bd.exec
  have hby := Bd.bytes
  have hml : c.maxLocals = 5 := hml0
  have hown : s.vm.findClass "com/example/pagra/pagra/core/StrictUtf8IsEncodablePinLaw" = some m.cls := findClass_of_methodNamed Bd.named
  have hnm := (name_of_methodNamed Bd.named Bd.method).1
  have hlk := Bd.notSynchronized
  have hrt := Bd.returns
  have X0 : Stand p l e ({ frames := 0, cells := 1, slots := 4, locals := 0 } : Room) s m #[(.int p1), (.int p2), (.int p3), (.int p4), (.int p5)] below meth c s₁ [] 0 0 := Stand.of_body Bd
  have e0 : s₁.heap = h0 := by rw [← hh, Bd.state]; rfl
  have N0 := Fr.nil n0
  show own_Ends p e below s (Q2 p1 p2 p3 p4 p5 h0 n0 Z) ({ frames := 0, cells := 1, slots := 4, locals := 0 } : Room).cells ({ frames := 0, cells := 1, slots := 4, locals := 0 } : Room).slots (s₁.setTop (entryFrame m #[(.int p1), (.int p2), (.int p3), (.int p4), (.int p5)] 5))
  rw [ef_2]
  have K0 : Keep h0 h0 [] := Keep.refl h0 []
  refine own_go (fun _ k => XS.iloadN X0.here hx rfl (hb hby d2_0) rfl <| k) ?_
  show own_Ends p e below s _ _ _ (s₁.setTop (mkF m 1 #[.val (.int p1), .val (.int p2), .val (.int p3), .val (.int p4), .val (.int p5)] [(.int p1)]))
  by_cases hc1_1 : p1 = (0 : Int32)
  · -- true
    refine own_go (fun _ k => XS.ifNo X0.here hx rfl (hb hby d2_1) rfl ((if0 _ _).trans (teq hc1_1).2) <| XT.iconstV X0.here hx rfl (0 : Int32) (hb hby d2_4) rfl <| k) ?_
    show own_Ends p e below s _ _ _ (s₁.setTop (mkF m 5 #[.val (.int p1), .val (.int p2), .val (.int p3), .val (.int p4), .val (.int p5)] [(.int (0 : Int32))]))
    obtain ⟨T2, h2, k2, X2, e2, E2, A2, st2⟩ := newP X0 hx hZ (hw _ (List.mem_of_getElem? (i := 11) rfl)) e0 (g := (mkF m 5 #[.val (.int p1), .val (.int p2), .val (.int p3), .val (.int p4), .val (.int p5)] [(.int (0 : Int32))])) rfl (hb hby d2_5) rfl (by decide) (cap := 0) (by decide) (by decide) (by decide) (by decide)
    obtain ⟨b2, g2⟩ : ∃ z, z = h0.size := ⟨_, rfl⟩
    rw [← g2] at A2 st2
    refine own_go st2 ?_
    have g_b2 : n0 ≤ b2 := Nat.le_trans Z0 (Nat.le_of_eq g2.symm)
    have sz_b2 : h0.size ≤ b2 := Nat.le_trans K0.1 (Nat.le_of_eq g2.symm)
    have Z2 := Nat.le_trans Z0 E2.1
    have K2' := K0.ext E2
    have V_b2 : Arv Z h2 b2 k2 .char (0 : Int32) [] (.int (0 : Int32)) := Arv.new A2 (by decide)
    show own_Ends p e below s _ _ _ (T2.setTop (mkF m 7 #[.val (.int p1), .val (.int p2), .val (.int p3), .val (.int p4), .val (.int p5)] [(.ref b2)]))
    exact own_ret X2 hx hrt rfl (Or.inr (Or.inr (Or.inr (Or.inr ⟨rfl, rfl, rfl⟩)))) (hb hby d2_7) hlk (by rw [e2]; exact ⟨_, _, [], rfl, N0, K2', g_b2, sz_b2, by simp, (fun c hc => absurd hc (by simp)), V_b2⟩) (by decide) (by decide)
  · -- false
    refine own_go (fun _ k => XS.ifYes X0.here hx rfl (pc0 := 1) (pc' := 8) rfl (hb hby d2_1) rfl ((if0 _ _).trans (feq hc1_1).2) (by decide) (by decide) <| XS.iloadN X0.here hx rfl (hb hby d2_8) rfl <| XT.iconstV X0.here hx rfl (1 : Int32) (hb hby d2_9) rfl <| k) ?_
    show own_Ends p e below s _ _ _ (s₁.setTop (mkF m 10 #[.val (.int p1), .val (.int p2), .val (.int p3), .val (.int p4), .val (.int p5)] [(.int (1 : Int32)), (.int p1)]))
    by_cases hc10_3 : p1 = (1 : Int32)
    · -- true
      refine own_go (fun _ k => XS.icmpNo X0.here hx rfl (hb hby d2_10) rfl (teq hc10_3).2 <| XT.iconstV X0.here hx rfl (1 : Int32) (hb hby d2_13) rfl <| k) ?_
      show own_Ends p e below s _ _ _ (s₁.setTop (mkF m 14 #[.val (.int p1), .val (.int p2), .val (.int p3), .val (.int p4), .val (.int p5)] [(.int (1 : Int32))]))
      obtain ⟨T4, h4, k4, X4, e4, E4, A4, st4⟩ := newP X0 hx hZ (hw _ (List.mem_of_getElem? (i := 11) rfl)) e0 (g := (mkF m 14 #[.val (.int p1), .val (.int p2), .val (.int p3), .val (.int p4), .val (.int p5)] [(.int (1 : Int32))])) rfl (hb hby d2_14) rfl (by decide) (cap := 1) (by decide) (by decide) (by decide) (by decide)
      obtain ⟨b4, g4⟩ : ∃ z, z = h0.size := ⟨_, rfl⟩
      rw [← g4] at A4 st4
      refine own_go st4 ?_
      have g_b4 : n0 ≤ b4 := Nat.le_trans Z0 (Nat.le_of_eq g4.symm)
      have sz_b4 : h0.size ≤ b4 := Nat.le_trans K0.1 (Nat.le_of_eq g4.symm)
      have Z4 := Nat.le_trans Z0 E4.1
      have K4' := K0.ext E4
      have V_b4 : Arv Z h4 b4 k4 .char (1 : Int32) [(.int (0 : Int32))] (.int (0 : Int32)) := (Arv.new A4 (by decide)).pad (pad_rep [] (.int (0 : Int32)) 1)
      show own_Ends p e below s _ _ _ (T4.setTop (mkF m 16 #[.val (.int p1), .val (.int p2), .val (.int p3), .val (.int p4), .val (.int p5)] [(.ref b4)]))
      refine own_go (fun _ k => XS.dup X4.here hx rfl (hb hby d2_16) rfl rfl <| XT.iconstV X4.here hx rfl (0 : Int32) (hb hby d2_17) rfl <| XS.iloadN X4.here hx rfl (hb hby d2_18) rfl <| k) ?_
      show own_Ends p e below s _ _ _ (T4.setTop (mkF m 19 #[.val (.int p1), .val (.int p2), .val (.int p3), .val (.int p4), .val (.int p5)] [(.int p2), (.int (0 : Int32)), (.ref b4), (.ref b4)]))
      obtain ⟨clb4_19_5, Arb4_19_5, qqb4_19_5, Szb4_19_5, Ngb4_19_5, Hsb4_19_5, Gfb4_19_5⟩ := id V_b4
      have hinb4_19_5 : ¬ ((0 : Int32) < 0 ∨ clb4_19_5.slots.size ≤ ((0 : Int32)).toNatClampNeg) := inb_of Szb4_19_5 ⟨by decide, by decide⟩
      obtain ⟨T6, h6, X6, e6, W6, st6⟩ := stC X4 hx hZ e4 Arb4_19_5 (j := (0 : Int32)) hinb4_19_5 (g := (mkF m 19 #[.val (.int p1), .val (.int p2), .val (.int p3), .val (.int p4), .val (.int p5)] [(.int p2), (.int (0 : Int32)), (.ref b4), (.ref b4)])) rfl rfl (hb hby d2_19)
      refine own_go st6 ?_
      have Z6 := Nat.le_trans Z4 (Keep.of_wr W6).1
      have K6' := K4'.wr W6 (Or.inr sz_b4)
      have N6 := Fr.snoc X6 N0 g_b4
      have V_b4'6 : Arv Z h6 b4 k4 .char (1 : Int32) [(.int (nar .char p2))] (.int (0 : Int32)) := Arv.set Arb4_19_5 qqb4_19_5 Szb4_19_5 Ngb4_19_5 Hsb4_19_5 Gfb4_19_5 (fits_nar_char _) W6 0 rfl (Nat.le_of_ble_eq_true rfl)
      show own_Ends p e below s _ _ _ (T6.setTop (mkF m 20 #[.val (.int p1), .val (.int p2), .val (.int p3), .val (.int p4), .val (.int p5)] [(.ref b4)]))
      exact own_ret X6 hx hrt rfl (Or.inr (Or.inr (Or.inr (Or.inr ⟨rfl, rfl, rfl⟩)))) (hb hby d2_20) hlk (by rw [e6]; exact ⟨_, _, [(nar .char p2)], rfl, N6, K6', g_b4, sz_b4, by simp, (by intro c hc; rw [List.mem_singleton.mp hc]; exact own_nn _), V_b4'6⟩) (by decide) (by decide)
    · -- false
      refine own_go (fun _ k => XS.icmpYes X0.here hx rfl (pc0 := 10) (pc' := 21) rfl (hb hby d2_10) rfl (feq hc10_3).2 (by decide) (by decide) <| XS.iloadN X0.here hx rfl (hb hby d2_21) rfl <| XT.iconstV X0.here hx rfl (2 : Int32) (hb hby d2_22) rfl <| k) ?_
      show own_Ends p e below s _ _ _ (s₁.setTop (mkF m 23 #[.val (.int p1), .val (.int p2), .val (.int p3), .val (.int p4), .val (.int p5)] [(.int (2 : Int32)), (.int p1)]))
      by_cases hc23_7 : p1 = (2 : Int32)
      · -- true
        refine own_go (fun _ k => XS.icmpNo X0.here hx rfl (hb hby d2_23) rfl (teq hc23_7).2 <| XT.iconstV X0.here hx rfl (2 : Int32) (hb hby d2_26) rfl <| k) ?_
        show own_Ends p e below s _ _ _ (s₁.setTop (mkF m 27 #[.val (.int p1), .val (.int p2), .val (.int p3), .val (.int p4), .val (.int p5)] [(.int (2 : Int32))]))
        obtain ⟨T8, h8, k8, X8, e8, E8, A8, st8⟩ := newP X0 hx hZ (hw _ (List.mem_of_getElem? (i := 11) rfl)) e0 (g := (mkF m 27 #[.val (.int p1), .val (.int p2), .val (.int p3), .val (.int p4), .val (.int p5)] [(.int (2 : Int32))])) rfl (hb hby d2_27) rfl (by decide) (cap := 2) (by decide) (by decide) (by decide) (by decide)
        obtain ⟨b8, g8⟩ : ∃ z, z = h0.size := ⟨_, rfl⟩
        rw [← g8] at A8 st8
        refine own_go st8 ?_
        have g_b8 : n0 ≤ b8 := Nat.le_trans Z0 (Nat.le_of_eq g8.symm)
        have sz_b8 : h0.size ≤ b8 := Nat.le_trans K0.1 (Nat.le_of_eq g8.symm)
        have Z8 := Nat.le_trans Z0 E8.1
        have K8' := K0.ext E8
        have V_b8 : Arv Z h8 b8 k8 .char (2 : Int32) [(.int (0 : Int32)), (.int (0 : Int32))] (.int (0 : Int32)) := (Arv.new A8 (by decide)).pad (pad_rep [] (.int (0 : Int32)) 2)
        show own_Ends p e below s _ _ _ (T8.setTop (mkF m 29 #[.val (.int p1), .val (.int p2), .val (.int p3), .val (.int p4), .val (.int p5)] [(.ref b8)]))
        refine own_go (fun _ k => XS.dup X8.here hx rfl (hb hby d2_29) rfl rfl <| XT.iconstV X8.here hx rfl (0 : Int32) (hb hby d2_30) rfl <| XS.iloadN X8.here hx rfl (hb hby d2_31) rfl <| k) ?_
        show own_Ends p e below s _ _ _ (T8.setTop (mkF m 32 #[.val (.int p1), .val (.int p2), .val (.int p3), .val (.int p4), .val (.int p5)] [(.int p2), (.int (0 : Int32)), (.ref b8), (.ref b8)]))
        obtain ⟨clb8_32_9, Arb8_32_9, qqb8_32_9, Szb8_32_9, Ngb8_32_9, Hsb8_32_9, Gfb8_32_9⟩ := id V_b8
        have hinb8_32_9 : ¬ ((0 : Int32) < 0 ∨ clb8_32_9.slots.size ≤ ((0 : Int32)).toNatClampNeg) := inb_of Szb8_32_9 ⟨by decide, by decide⟩
        obtain ⟨T10, h10, X10, e10, W10, st10⟩ := stC X8 hx hZ e8 Arb8_32_9 (j := (0 : Int32)) hinb8_32_9 (g := (mkF m 32 #[.val (.int p1), .val (.int p2), .val (.int p3), .val (.int p4), .val (.int p5)] [(.int p2), (.int (0 : Int32)), (.ref b8), (.ref b8)])) rfl rfl (hb hby d2_32)
        refine own_go st10 ?_
        have Z10 := Nat.le_trans Z8 (Keep.of_wr W10).1
        have K10' := K8'.wr W10 (Or.inr sz_b8)
        have N10 := Fr.snoc X10 N0 g_b8
        have V_b8'10 : Arv Z h10 b8 k8 .char (2 : Int32) [(.int (nar .char p2)), (.int (0 : Int32))] (.int (0 : Int32)) := Arv.set Arb8_32_9 qqb8_32_9 Szb8_32_9 Ngb8_32_9 Hsb8_32_9 Gfb8_32_9 (fits_nar_char _) W10 0 rfl (Nat.le_of_ble_eq_true rfl)
        show own_Ends p e below s _ _ _ (T10.setTop (mkF m 33 #[.val (.int p1), .val (.int p2), .val (.int p3), .val (.int p4), .val (.int p5)] [(.ref b8)]))
        refine own_go (fun _ k => XS.dup X10.here hx rfl (hb hby d2_33) rfl rfl <| XT.iconstV X10.here hx rfl (1 : Int32) (hb hby d2_34) rfl <| XS.iloadN X10.here hx rfl (hb hby d2_35) rfl <| k) ?_
        show own_Ends p e below s _ _ _ (T10.setTop (mkF m 36 #[.val (.int p1), .val (.int p2), .val (.int p3), .val (.int p4), .val (.int p5)] [(.int p3), (.int (1 : Int32)), (.ref b8), (.ref b8)]))
        obtain ⟨clb8_36_11, Arb8_36_11, qqb8_36_11, Szb8_36_11, Ngb8_36_11, Hsb8_36_11, Gfb8_36_11⟩ := id V_b8'10
        have hinb8_36_11 : ¬ ((1 : Int32) < 0 ∨ clb8_36_11.slots.size ≤ ((1 : Int32)).toNatClampNeg) := inb_of Szb8_36_11 ⟨by decide, by decide⟩
        obtain ⟨T12, h12, X12, e12, W12, st12⟩ := stC X10 hx hZ e10 Arb8_36_11 (j := (1 : Int32)) hinb8_36_11 (g := (mkF m 36 #[.val (.int p1), .val (.int p2), .val (.int p3), .val (.int p4), .val (.int p5)] [(.int p3), (.int (1 : Int32)), (.ref b8), (.ref b8)])) rfl rfl (hb hby d2_36)
        refine own_go st12 ?_
        have Z12 := Nat.le_trans Z10 (Keep.of_wr W12).1
        have K12' := K10'.wr W12 (Or.inr sz_b8)
        have N12 := Fr.snoc X12 N10 g_b8
        have V_b8'12 : Arv Z h12 b8 k8 .char (2 : Int32) [(.int (nar .char p2)), (.int (nar .char p3))] (.int (0 : Int32)) := Arv.set Arb8_36_11 qqb8_36_11 Szb8_36_11 Ngb8_36_11 Hsb8_36_11 Gfb8_36_11 (fits_nar_char _) W12 1 rfl (Nat.le_of_ble_eq_true rfl)
        show own_Ends p e below s _ _ _ (T12.setTop (mkF m 37 #[.val (.int p1), .val (.int p2), .val (.int p3), .val (.int p4), .val (.int p5)] [(.ref b8)]))
        exact own_ret X12 hx hrt rfl (Or.inr (Or.inr (Or.inr (Or.inr ⟨rfl, rfl, rfl⟩)))) (hb hby d2_37) hlk (by rw [e12]; exact ⟨_, _, [(nar .char p2), (nar .char p3)], rfl, N12, K12', g_b8, sz_b8, by simp, (by intro c hc; simp only [List.mem_cons, List.not_mem_nil, or_false] at hc; rcases hc with rfl | rfl <;> exact own_nn _), V_b8'12⟩) (by decide) (by decide)
      · -- false
        refine own_go (fun _ k => XS.icmpYes X0.here hx rfl (pc0 := 23) (pc' := 38) rfl (hb hby d2_23) rfl (feq hc23_7).2 (by decide) (by decide) <| XS.iloadN X0.here hx rfl (hb hby d2_38) rfl <| XT.iconstV X0.here hx rfl (3 : Int32) (hb hby d2_39) rfl <| k) ?_
        show own_Ends p e below s _ _ _ (s₁.setTop (mkF m 40 #[.val (.int p1), .val (.int p2), .val (.int p3), .val (.int p4), .val (.int p5)] [(.int (3 : Int32)), (.int p1)]))
        by_cases hc40_13 : p1 = (3 : Int32)
        · -- true
          refine own_go (fun _ k => XS.icmpNo X0.here hx rfl (hb hby d2_40) rfl (teq hc40_13).2 <| XT.iconstV X0.here hx rfl (3 : Int32) (hb hby d2_43) rfl <| k) ?_
          show own_Ends p e below s _ _ _ (s₁.setTop (mkF m 44 #[.val (.int p1), .val (.int p2), .val (.int p3), .val (.int p4), .val (.int p5)] [(.int (3 : Int32))]))
          obtain ⟨T14, h14, k14, X14, e14, E14, A14, st14⟩ := newP X0 hx hZ (hw _ (List.mem_of_getElem? (i := 11) rfl)) e0 (g := (mkF m 44 #[.val (.int p1), .val (.int p2), .val (.int p3), .val (.int p4), .val (.int p5)] [(.int (3 : Int32))])) rfl (hb hby d2_44) rfl (by decide) (cap := 3) (by decide) (by decide) (by decide) (by decide)
          obtain ⟨b14, g14⟩ : ∃ z, z = h0.size := ⟨_, rfl⟩
          rw [← g14] at A14 st14
          refine own_go st14 ?_
          have g_b14 : n0 ≤ b14 := Nat.le_trans Z0 (Nat.le_of_eq g14.symm)
          have sz_b14 : h0.size ≤ b14 := Nat.le_trans K0.1 (Nat.le_of_eq g14.symm)
          have Z14 := Nat.le_trans Z0 E14.1
          have K14' := K0.ext E14
          have V_b14 : Arv Z h14 b14 k14 .char (3 : Int32) [(.int (0 : Int32)), (.int (0 : Int32)), (.int (0 : Int32))] (.int (0 : Int32)) := (Arv.new A14 (by decide)).pad (pad_rep [] (.int (0 : Int32)) 3)
          show own_Ends p e below s _ _ _ (T14.setTop (mkF m 46 #[.val (.int p1), .val (.int p2), .val (.int p3), .val (.int p4), .val (.int p5)] [(.ref b14)]))
          refine own_go (fun _ k => XS.dup X14.here hx rfl (hb hby d2_46) rfl rfl <| XT.iconstV X14.here hx rfl (0 : Int32) (hb hby d2_47) rfl <| XS.iloadN X14.here hx rfl (hb hby d2_48) rfl <| k) ?_
          show own_Ends p e below s _ _ _ (T14.setTop (mkF m 49 #[.val (.int p1), .val (.int p2), .val (.int p3), .val (.int p4), .val (.int p5)] [(.int p2), (.int (0 : Int32)), (.ref b14), (.ref b14)]))
          obtain ⟨clb14_49_15, Arb14_49_15, qqb14_49_15, Szb14_49_15, Ngb14_49_15, Hsb14_49_15, Gfb14_49_15⟩ := id V_b14
          have hinb14_49_15 : ¬ ((0 : Int32) < 0 ∨ clb14_49_15.slots.size ≤ ((0 : Int32)).toNatClampNeg) := inb_of Szb14_49_15 ⟨by decide, by decide⟩
          obtain ⟨T16, h16, X16, e16, W16, st16⟩ := stC X14 hx hZ e14 Arb14_49_15 (j := (0 : Int32)) hinb14_49_15 (g := (mkF m 49 #[.val (.int p1), .val (.int p2), .val (.int p3), .val (.int p4), .val (.int p5)] [(.int p2), (.int (0 : Int32)), (.ref b14), (.ref b14)])) rfl rfl (hb hby d2_49)
          refine own_go st16 ?_
          have Z16 := Nat.le_trans Z14 (Keep.of_wr W16).1
          have K16' := K14'.wr W16 (Or.inr sz_b14)
          have N16 := Fr.snoc X16 N0 g_b14
          have V_b14'16 : Arv Z h16 b14 k14 .char (3 : Int32) [(.int (nar .char p2)), (.int (0 : Int32)), (.int (0 : Int32))] (.int (0 : Int32)) := Arv.set Arb14_49_15 qqb14_49_15 Szb14_49_15 Ngb14_49_15 Hsb14_49_15 Gfb14_49_15 (fits_nar_char _) W16 0 rfl (Nat.le_of_ble_eq_true rfl)
          show own_Ends p e below s _ _ _ (T16.setTop (mkF m 50 #[.val (.int p1), .val (.int p2), .val (.int p3), .val (.int p4), .val (.int p5)] [(.ref b14)]))
          refine own_go (fun _ k => XS.dup X16.here hx rfl (hb hby d2_50) rfl rfl <| XT.iconstV X16.here hx rfl (1 : Int32) (hb hby d2_51) rfl <| XS.iloadN X16.here hx rfl (hb hby d2_52) rfl <| k) ?_
          show own_Ends p e below s _ _ _ (T16.setTop (mkF m 53 #[.val (.int p1), .val (.int p2), .val (.int p3), .val (.int p4), .val (.int p5)] [(.int p3), (.int (1 : Int32)), (.ref b14), (.ref b14)]))
          obtain ⟨clb14_53_17, Arb14_53_17, qqb14_53_17, Szb14_53_17, Ngb14_53_17, Hsb14_53_17, Gfb14_53_17⟩ := id V_b14'16
          have hinb14_53_17 : ¬ ((1 : Int32) < 0 ∨ clb14_53_17.slots.size ≤ ((1 : Int32)).toNatClampNeg) := inb_of Szb14_53_17 ⟨by decide, by decide⟩
          obtain ⟨T18, h18, X18, e18, W18, st18⟩ := stC X16 hx hZ e16 Arb14_53_17 (j := (1 : Int32)) hinb14_53_17 (g := (mkF m 53 #[.val (.int p1), .val (.int p2), .val (.int p3), .val (.int p4), .val (.int p5)] [(.int p3), (.int (1 : Int32)), (.ref b14), (.ref b14)])) rfl rfl (hb hby d2_53)
          refine own_go st18 ?_
          have Z18 := Nat.le_trans Z16 (Keep.of_wr W18).1
          have K18' := K16'.wr W18 (Or.inr sz_b14)
          have N18 := Fr.snoc X18 N16 g_b14
          have V_b14'18 : Arv Z h18 b14 k14 .char (3 : Int32) [(.int (nar .char p2)), (.int (nar .char p3)), (.int (0 : Int32))] (.int (0 : Int32)) := Arv.set Arb14_53_17 qqb14_53_17 Szb14_53_17 Ngb14_53_17 Hsb14_53_17 Gfb14_53_17 (fits_nar_char _) W18 1 rfl (Nat.le_of_ble_eq_true rfl)
          show own_Ends p e below s _ _ _ (T18.setTop (mkF m 54 #[.val (.int p1), .val (.int p2), .val (.int p3), .val (.int p4), .val (.int p5)] [(.ref b14)]))
          refine own_go (fun _ k => XS.dup X18.here hx rfl (hb hby d2_54) rfl rfl <| XT.iconstV X18.here hx rfl (2 : Int32) (hb hby d2_55) rfl <| XS.iloadN X18.here hx rfl (hb hby d2_56) rfl <| k) ?_
          show own_Ends p e below s _ _ _ (T18.setTop (mkF m 57 #[.val (.int p1), .val (.int p2), .val (.int p3), .val (.int p4), .val (.int p5)] [(.int p4), (.int (2 : Int32)), (.ref b14), (.ref b14)]))
          obtain ⟨clb14_57_19, Arb14_57_19, qqb14_57_19, Szb14_57_19, Ngb14_57_19, Hsb14_57_19, Gfb14_57_19⟩ := id V_b14'18
          have hinb14_57_19 : ¬ ((2 : Int32) < 0 ∨ clb14_57_19.slots.size ≤ ((2 : Int32)).toNatClampNeg) := inb_of Szb14_57_19 ⟨by decide, by decide⟩
          obtain ⟨T20, h20, X20, e20, W20, st20⟩ := stC X18 hx hZ e18 Arb14_57_19 (j := (2 : Int32)) hinb14_57_19 (g := (mkF m 57 #[.val (.int p1), .val (.int p2), .val (.int p3), .val (.int p4), .val (.int p5)] [(.int p4), (.int (2 : Int32)), (.ref b14), (.ref b14)])) rfl rfl (hb hby d2_57)
          refine own_go st20 ?_
          have Z20 := Nat.le_trans Z18 (Keep.of_wr W20).1
          have K20' := K18'.wr W20 (Or.inr sz_b14)
          have N20 := Fr.snoc X20 N18 g_b14
          have V_b14'20 : Arv Z h20 b14 k14 .char (3 : Int32) [(.int (nar .char p2)), (.int (nar .char p3)), (.int (nar .char p4))] (.int (0 : Int32)) := Arv.set Arb14_57_19 qqb14_57_19 Szb14_57_19 Ngb14_57_19 Hsb14_57_19 Gfb14_57_19 (fits_nar_char _) W20 2 rfl (Nat.le_of_ble_eq_true rfl)
          show own_Ends p e below s _ _ _ (T20.setTop (mkF m 58 #[.val (.int p1), .val (.int p2), .val (.int p3), .val (.int p4), .val (.int p5)] [(.ref b14)]))
          exact own_ret X20 hx hrt rfl (Or.inr (Or.inr (Or.inr (Or.inr ⟨rfl, rfl, rfl⟩)))) (hb hby d2_58) hlk (by rw [e20]; exact ⟨_, _, [(nar .char p2), (nar .char p3), (nar .char p4)], rfl, N20, K20', g_b14, sz_b14, by simp, (by intro c hc; simp only [List.mem_cons, List.not_mem_nil, or_false] at hc; rcases hc with rfl | rfl | rfl <;> exact own_nn _), V_b14'20⟩) (by decide) (by decide)
        · -- false
          refine own_go (fun _ k => XS.icmpYes X0.here hx rfl (pc0 := 40) (pc' := 59) rfl (hb hby d2_40) rfl (feq hc40_13).2 (by decide) (by decide) <| XT.iconstV X0.here hx rfl (4 : Int32) (hb hby d2_59) rfl <| k) ?_
          show own_Ends p e below s _ _ _ (s₁.setTop (mkF m 60 #[.val (.int p1), .val (.int p2), .val (.int p3), .val (.int p4), .val (.int p5)] [(.int (4 : Int32))]))
          obtain ⟨T21, h21, k21, X21, e21, E21, A21, st21⟩ := newP X0 hx hZ (hw _ (List.mem_of_getElem? (i := 11) rfl)) e0 (g := (mkF m 60 #[.val (.int p1), .val (.int p2), .val (.int p3), .val (.int p4), .val (.int p5)] [(.int (4 : Int32))])) rfl (hb hby d2_60) rfl (by decide) (cap := 4) (by decide) (by decide) (by decide) (by decide)
          obtain ⟨b21, g21⟩ : ∃ z, z = h0.size := ⟨_, rfl⟩
          rw [← g21] at A21 st21
          refine own_go st21 ?_
          have g_b21 : n0 ≤ b21 := Nat.le_trans Z0 (Nat.le_of_eq g21.symm)
          have sz_b21 : h0.size ≤ b21 := Nat.le_trans K0.1 (Nat.le_of_eq g21.symm)
          have Z21 := Nat.le_trans Z0 E21.1
          have K21' := K0.ext E21
          have V_b21 : Arv Z h21 b21 k21 .char (4 : Int32) [(.int (0 : Int32)), (.int (0 : Int32)), (.int (0 : Int32)), (.int (0 : Int32))] (.int (0 : Int32)) := (Arv.new A21 (by decide)).pad (pad_rep [] (.int (0 : Int32)) 4)
          show own_Ends p e below s _ _ _ (T21.setTop (mkF m 62 #[.val (.int p1), .val (.int p2), .val (.int p3), .val (.int p4), .val (.int p5)] [(.ref b21)]))
          refine own_go (fun _ k => XS.dup X21.here hx rfl (hb hby d2_62) rfl rfl <| XT.iconstV X21.here hx rfl (0 : Int32) (hb hby d2_63) rfl <| XS.iloadN X21.here hx rfl (hb hby d2_64) rfl <| k) ?_
          show own_Ends p e below s _ _ _ (T21.setTop (mkF m 65 #[.val (.int p1), .val (.int p2), .val (.int p3), .val (.int p4), .val (.int p5)] [(.int p2), (.int (0 : Int32)), (.ref b21), (.ref b21)]))
          obtain ⟨clb21_65_22, Arb21_65_22, qqb21_65_22, Szb21_65_22, Ngb21_65_22, Hsb21_65_22, Gfb21_65_22⟩ := id V_b21
          have hinb21_65_22 : ¬ ((0 : Int32) < 0 ∨ clb21_65_22.slots.size ≤ ((0 : Int32)).toNatClampNeg) := inb_of Szb21_65_22 ⟨by decide, by decide⟩
          obtain ⟨T23, h23, X23, e23, W23, st23⟩ := stC X21 hx hZ e21 Arb21_65_22 (j := (0 : Int32)) hinb21_65_22 (g := (mkF m 65 #[.val (.int p1), .val (.int p2), .val (.int p3), .val (.int p4), .val (.int p5)] [(.int p2), (.int (0 : Int32)), (.ref b21), (.ref b21)])) rfl rfl (hb hby d2_65)
          refine own_go st23 ?_
          have Z23 := Nat.le_trans Z21 (Keep.of_wr W23).1
          have K23' := K21'.wr W23 (Or.inr sz_b21)
          have N23 := Fr.snoc X23 N0 g_b21
          have V_b21'23 : Arv Z h23 b21 k21 .char (4 : Int32) [(.int (nar .char p2)), (.int (0 : Int32)), (.int (0 : Int32)), (.int (0 : Int32))] (.int (0 : Int32)) := Arv.set Arb21_65_22 qqb21_65_22 Szb21_65_22 Ngb21_65_22 Hsb21_65_22 Gfb21_65_22 (fits_nar_char _) W23 0 rfl (Nat.le_of_ble_eq_true rfl)
          show own_Ends p e below s _ _ _ (T23.setTop (mkF m 66 #[.val (.int p1), .val (.int p2), .val (.int p3), .val (.int p4), .val (.int p5)] [(.ref b21)]))
          refine own_go (fun _ k => XS.dup X23.here hx rfl (hb hby d2_66) rfl rfl <| XT.iconstV X23.here hx rfl (1 : Int32) (hb hby d2_67) rfl <| XS.iloadN X23.here hx rfl (hb hby d2_68) rfl <| k) ?_
          show own_Ends p e below s _ _ _ (T23.setTop (mkF m 69 #[.val (.int p1), .val (.int p2), .val (.int p3), .val (.int p4), .val (.int p5)] [(.int p3), (.int (1 : Int32)), (.ref b21), (.ref b21)]))
          obtain ⟨clb21_69_24, Arb21_69_24, qqb21_69_24, Szb21_69_24, Ngb21_69_24, Hsb21_69_24, Gfb21_69_24⟩ := id V_b21'23
          have hinb21_69_24 : ¬ ((1 : Int32) < 0 ∨ clb21_69_24.slots.size ≤ ((1 : Int32)).toNatClampNeg) := inb_of Szb21_69_24 ⟨by decide, by decide⟩
          obtain ⟨T25, h25, X25, e25, W25, st25⟩ := stC X23 hx hZ e23 Arb21_69_24 (j := (1 : Int32)) hinb21_69_24 (g := (mkF m 69 #[.val (.int p1), .val (.int p2), .val (.int p3), .val (.int p4), .val (.int p5)] [(.int p3), (.int (1 : Int32)), (.ref b21), (.ref b21)])) rfl rfl (hb hby d2_69)
          refine own_go st25 ?_
          have Z25 := Nat.le_trans Z23 (Keep.of_wr W25).1
          have K25' := K23'.wr W25 (Or.inr sz_b21)
          have N25 := Fr.snoc X25 N23 g_b21
          have V_b21'25 : Arv Z h25 b21 k21 .char (4 : Int32) [(.int (nar .char p2)), (.int (nar .char p3)), (.int (0 : Int32)), (.int (0 : Int32))] (.int (0 : Int32)) := Arv.set Arb21_69_24 qqb21_69_24 Szb21_69_24 Ngb21_69_24 Hsb21_69_24 Gfb21_69_24 (fits_nar_char _) W25 1 rfl (Nat.le_of_ble_eq_true rfl)
          show own_Ends p e below s _ _ _ (T25.setTop (mkF m 70 #[.val (.int p1), .val (.int p2), .val (.int p3), .val (.int p4), .val (.int p5)] [(.ref b21)]))
          refine own_go (fun _ k => XS.dup X25.here hx rfl (hb hby d2_70) rfl rfl <| XT.iconstV X25.here hx rfl (2 : Int32) (hb hby d2_71) rfl <| XS.iloadN X25.here hx rfl (hb hby d2_72) rfl <| k) ?_
          show own_Ends p e below s _ _ _ (T25.setTop (mkF m 73 #[.val (.int p1), .val (.int p2), .val (.int p3), .val (.int p4), .val (.int p5)] [(.int p4), (.int (2 : Int32)), (.ref b21), (.ref b21)]))
          obtain ⟨clb21_73_26, Arb21_73_26, qqb21_73_26, Szb21_73_26, Ngb21_73_26, Hsb21_73_26, Gfb21_73_26⟩ := id V_b21'25
          have hinb21_73_26 : ¬ ((2 : Int32) < 0 ∨ clb21_73_26.slots.size ≤ ((2 : Int32)).toNatClampNeg) := inb_of Szb21_73_26 ⟨by decide, by decide⟩
          obtain ⟨T27, h27, X27, e27, W27, st27⟩ := stC X25 hx hZ e25 Arb21_73_26 (j := (2 : Int32)) hinb21_73_26 (g := (mkF m 73 #[.val (.int p1), .val (.int p2), .val (.int p3), .val (.int p4), .val (.int p5)] [(.int p4), (.int (2 : Int32)), (.ref b21), (.ref b21)])) rfl rfl (hb hby d2_73)
          refine own_go st27 ?_
          have Z27 := Nat.le_trans Z25 (Keep.of_wr W27).1
          have K27' := K25'.wr W27 (Or.inr sz_b21)
          have N27 := Fr.snoc X27 N25 g_b21
          have V_b21'27 : Arv Z h27 b21 k21 .char (4 : Int32) [(.int (nar .char p2)), (.int (nar .char p3)), (.int (nar .char p4)), (.int (0 : Int32))] (.int (0 : Int32)) := Arv.set Arb21_73_26 qqb21_73_26 Szb21_73_26 Ngb21_73_26 Hsb21_73_26 Gfb21_73_26 (fits_nar_char _) W27 2 rfl (Nat.le_of_ble_eq_true rfl)
          show own_Ends p e below s _ _ _ (T27.setTop (mkF m 74 #[.val (.int p1), .val (.int p2), .val (.int p3), .val (.int p4), .val (.int p5)] [(.ref b21)]))
          refine own_go (fun _ k => XS.dup X27.here hx rfl (hb hby d2_74) rfl rfl <| XT.iconstV X27.here hx rfl (3 : Int32) (hb hby d2_75) rfl <| XS.iload X27.here hx rfl (hb hby d2_76) rfl <| k) ?_
          show own_Ends p e below s _ _ _ (T27.setTop (mkF m 78 #[.val (.int p1), .val (.int p2), .val (.int p3), .val (.int p4), .val (.int p5)] [(.int p5), (.int (3 : Int32)), (.ref b21), (.ref b21)]))
          obtain ⟨clb21_78_28, Arb21_78_28, qqb21_78_28, Szb21_78_28, Ngb21_78_28, Hsb21_78_28, Gfb21_78_28⟩ := id V_b21'27
          have hinb21_78_28 : ¬ ((3 : Int32) < 0 ∨ clb21_78_28.slots.size ≤ ((3 : Int32)).toNatClampNeg) := inb_of Szb21_78_28 ⟨by decide, by decide⟩
          obtain ⟨T29, h29, X29, e29, W29, st29⟩ := stC X27 hx hZ e27 Arb21_78_28 (j := (3 : Int32)) hinb21_78_28 (g := (mkF m 78 #[.val (.int p1), .val (.int p2), .val (.int p3), .val (.int p4), .val (.int p5)] [(.int p5), (.int (3 : Int32)), (.ref b21), (.ref b21)])) rfl rfl (hb hby d2_78)
          refine own_go st29 ?_
          have Z29 := Nat.le_trans Z27 (Keep.of_wr W29).1
          have K29' := K27'.wr W29 (Or.inr sz_b21)
          have N29 := Fr.snoc X29 N27 g_b21
          have V_b21'29 : Arv Z h29 b21 k21 .char (4 : Int32) [(.int (nar .char p2)), (.int (nar .char p3)), (.int (nar .char p4)), (.int (nar .char p5))] (.int (0 : Int32)) := Arv.set Arb21_78_28 qqb21_78_28 Szb21_78_28 Ngb21_78_28 Hsb21_78_28 Gfb21_78_28 (fits_nar_char _) W29 3 rfl (Nat.le_of_ble_eq_true rfl)
          show own_Ends p e below s _ _ _ (T29.setTop (mkF m 79 #[.val (.int p1), .val (.int p2), .val (.int p3), .val (.int p4), .val (.int p5)] [(.ref b21)]))
          exact own_ret X29 hx hrt rfl (Or.inr (Or.inr (Or.inr (Or.inr ⟨rfl, rfl, rfl⟩)))) (hb hby d2_79) hlk (by rw [e29]; exact ⟨_, _, [(nar .char p2), (nar .char p3), (nar .char p4), (nar .char p5)], rfl, N29, K29', g_b21, sz_b21, by simp, (by intro c hc; simp only [List.mem_cons, List.not_mem_nil, or_false] at hc; rcases hc with rfl | rfl | rfl | rfl <;> exact own_nn _), V_b21'29⟩) (by decide) (by decide)
theorem d3_0 : decode method_7_code 0 = .ok (.iload_n 1, 1) := by decide +kernel
theorem d3_1 : decode method_7_code 1 = .ok (.aload_n 0, 1) := by decide +kernel
theorem d3_2 : decode method_7_code 2 = .ok (.arraylength, 1) := by decide +kernel
theorem d3_3 : decode method_7_code 3 = .ok (.if_icmp .lt 5, 3) := by decide +kernel
theorem d3_6 : decode method_7_code 6 = .ok (.iconst 1, 1) := by decide +kernel
theorem d3_7 : decode method_7_code 7 = .ok (.ireturn, 1) := by decide +kernel
theorem d3_8 : decode method_7_code 8 = .ok (.aload_n 0, 1) := by decide +kernel
theorem d3_9 : decode method_7_code 9 = .ok (.iload_n 1, 1) := by decide +kernel
theorem d3_10 : decode method_7_code 10 = .ok (.caload, 1) := by decide +kernel
theorem d3_11 : decode method_7_code 11 = .ok (.invokestatic 38, 3) := by decide +kernel
theorem d3_14 : decode method_7_code 14 = .ok (.ifCond .eq 28, 3) := by decide +kernel
theorem d3_17 : decode method_7_code 17 = .ok (.iload_n 1, 1) := by decide +kernel
theorem d3_18 : decode method_7_code 18 = .ok (.iconst 1, 1) := by decide +kernel
theorem d3_19 : decode method_7_code 19 = .ok (.iadd, 1) := by decide +kernel
theorem d3_20 : decode method_7_code 20 = .ok (.aload_n 0, 1) := by decide +kernel
theorem d3_21 : decode method_7_code 21 = .ok (.arraylength, 1) := by decide +kernel
theorem d3_22 : decode method_7_code 22 = .ok (.if_icmp .ge 18, 3) := by decide +kernel
theorem d3_25 : decode method_7_code 25 = .ok (.aload_n 0, 1) := by decide +kernel
theorem d3_26 : decode method_7_code 26 = .ok (.iload_n 1, 1) := by decide +kernel
theorem d3_27 : decode method_7_code 27 = .ok (.iconst 1, 1) := by decide +kernel
theorem d3_28 : decode method_7_code 28 = .ok (.iadd, 1) := by decide +kernel
theorem d3_29 : decode method_7_code 29 = .ok (.caload, 1) := by decide +kernel
theorem d3_30 : decode method_7_code 30 = .ok (.invokestatic 42, 3) := by decide +kernel
theorem d3_33 : decode method_7_code 33 = .ok (.ifCond .eq 7, 3) := by decide +kernel
theorem d3_36 : decode method_7_code 36 = .ok (.iconst 1, 1) := by decide +kernel
theorem d3_37 : decode method_7_code 37 = .ok (.goto 4, 3) := by decide +kernel
theorem d3_40 : decode method_7_code 40 = .ok (.iconst 0, 1) := by decide +kernel
theorem d3_41 : decode method_7_code 41 = .ok (.ireturn, 1) := by decide +kernel
theorem d3_42 : decode method_7_code 42 = .ok (.aload_n 0, 1) := by decide +kernel
theorem d3_43 : decode method_7_code 43 = .ok (.iload_n 1, 1) := by decide +kernel
theorem d3_44 : decode method_7_code 44 = .ok (.caload, 1) := by decide +kernel
theorem d3_45 : decode method_7_code 45 = .ok (.invokestatic 42, 3) := by decide +kernel
theorem d3_48 : decode method_7_code 48 = .ok (.ifCond .eq 24, 3) := by decide +kernel
theorem d3_51 : decode method_7_code 51 = .ok (.iload_n 1, 1) := by decide +kernel
theorem d3_52 : decode method_7_code 52 = .ok (.ifCond .le 18, 3) := by decide +kernel
theorem d3_55 : decode method_7_code 55 = .ok (.aload_n 0, 1) := by decide +kernel
theorem d3_56 : decode method_7_code 56 = .ok (.iload_n 1, 1) := by decide +kernel
theorem d3_57 : decode method_7_code 57 = .ok (.iconst 1, 1) := by decide +kernel
theorem d3_58 : decode method_7_code 58 = .ok (.isub, 1) := by decide +kernel
theorem d3_59 : decode method_7_code 59 = .ok (.caload, 1) := by decide +kernel
theorem d3_60 : decode method_7_code 60 = .ok (.invokestatic 38, 3) := by decide +kernel
theorem d3_63 : decode method_7_code 63 = .ok (.ifCond .eq 7, 3) := by decide +kernel
theorem d3_66 : decode method_7_code 66 = .ok (.iconst 1, 1) := by decide +kernel
theorem d3_67 : decode method_7_code 67 = .ok (.goto 4, 3) := by decide +kernel
theorem d3_70 : decode method_7_code 70 = .ok (.iconst 0, 1) := by decide +kernel
theorem d3_71 : decode method_7_code 71 = .ok (.ireturn, 1) := by decide +kernel
theorem d3_72 : decode method_7_code 72 = .ok (.iconst 1, 1) := by decide +kernel
theorem d3_73 : decode method_7_code 73 = .ok (.ireturn, 1) := by decide +kernel
theorem ef_3 (m : MethodId) (x0 : Addr) (x1 : Int32) : entryFrame m #[(.ref x0), (.int x1)] 2 = mkF m 0 #[.val (.ref x0), .val (.int x1)] [] := by first | (simp [entryFrame, mkF, argsToLocals, Value.category]; done) | rfl
def Q3 (a1 : Addr) (ka1 : ClassId) (cs : List Int32) (i : Nat) (h0 : Heap) (n0 : Nat) (Z : State) (v : Option Value) (h : Heap) (L : List Loc) : Prop := v = some (.int (own_fine cs i)) ∧ Fr n0 L ∧ h = h0
set_option maxRecDepth 65536 in
set_option maxHeartbeats 40000000 in
theorem rm3 (l : Launch) (Z : State) (a0 : Array Value) (hw : ∀ d ∈ tables_1, d.before a0 Z = true) (ws : List Jvm.Cond) (a1 : Addr) (ka1 : ClassId) (cs : List Int32) (i : Nat) (h0 : Heap) (n0 : Nat) (Z0 : n0 ≤ h0.size) (hN : cs.length ≤ 4) (hi4 : i ≤ 3) (V1 : Arv Z h0 a1 ka1 .char (Int32.ofNat cs.length) (cs.map Value.int) (.int (0 : Int32))) :
    MetFree l (⟨"com/example/pagra/pagra/core/StrictUtf8IsEncodablePinLaw", "fine", "([CI)Z"⟩ : MethodName) (head1 (Jvm.Cond.code (⟨"com/example/pagra/pagra/core/StrictUtf8IsEncodablePinLaw", "fine", "([CI)Z"⟩ : MethodName) method_7_code 2 (some .boolean) :: ws) ({ frames := 1, cells := 0, slots := 0, locals := 16 } : Room)) (fun a U => a = #[(.ref a1), (.int (Int32.ofNat i))] ∧ Z.Warmed39 U.vm ∧ U.heap = h0) (fun _ _ _ _ _ => True) (fun _ U o U' => ∃ v L, o = .returned v ∧ Q3 a1 ka1 cs i h0 n0 Z v U'.heap L ∧ FrameEnd U o U' L ({ frames := 1, cells := 0, slots := 0, locals := 16 } : Room).cells ({ frames := 1, cells := 0, slots := 0, locals := 16 } : Room).slots) := by
  refine MetFree.of_bodySF (plainFor_of_name pn_3) hisR ?_
  intro p e s m args below meth c s₁ Bd hml0 hP hK
  obtain ⟨rfl, hZ, hh⟩ := hP
  have hx := Bd.exec
  have hby := Bd.bytes
  have hml : c.maxLocals = 2 := hml0
  have hown : s.vm.findClass "com/example/pagra/pagra/core/StrictUtf8IsEncodablePinLaw" = some m.cls := findClass_of_methodNamed Bd.named
  have hnm := (name_of_methodNamed Bd.named Bd.method).1
  have hlk := Bd.notSynchronized
  have hrt := Bd.returns
  have X0 : Stand p l e ({ frames := 1, cells := 0, slots := 0, locals := 16 } : Room) s m #[(.ref a1), (.int (Int32.ofNat i))] below meth c s₁ [] 0 0 := Stand.of_body Bd
  have e0 : s₁.heap = h0 := by rw [← hh, Bd.state]; rfl
  have N0 := Fr.nil n0
  show own_Ends p e below s (Q3 a1 ka1 cs i h0 n0 Z) ({ frames := 1, cells := 0, slots := 0, locals := 16 } : Room).cells ({ frames := 1, cells := 0, slots := 0, locals := 16 } : Room).slots (s₁.setTop (entryFrame m #[(.ref a1), (.int (Int32.ofNat i))] 2))
  rw [ef_3]
  refine own_go (fun _ k => XS.iloadN X0.here hx rfl (hb hby d3_0) rfl <| XS.aloadN X0.here hx rfl (hb hby d3_1) rfl rfl <| k) ?_
  show own_Ends p e below s _ _ _ (s₁.setTop (mkF m 2 #[.val (.ref a1), .val (.int (Int32.ofNat i))] [(.ref a1), (.int (Int32.ofNat i))]))
  obtain ⟨cla1_2_1, Ara1_2_1, qqa1_2_1, Sza1_2_1, Nga1_2_1, Hsa1_2_1, Gfa1_2_1⟩ := id V1
  refine own_go (fun _ k => X0.arraylength hx (by first | exact Ara1_2_1.1 | (rw [e0]; exact Ara1_2_1.1)) (State.isArrayOf_alike hZ.alike Ara1_2_1.2.1) (g := (mkF m 2 #[.val (.ref a1), .val (.int (Int32.ofNat i))] [(.ref a1), (.int (Int32.ofNat i))])) rfl rfl (hb hby d3_2) _ k) ?_
  rw [len_of Sza1_2_1 Nga1_2_1]
  show own_Ends p e below s _ _ _ (s₁.setTop (mkF m 3 #[.val (.ref a1), .val (.int (Int32.ofNat i))] [(.int (Int32.ofNat cs.length)), (.int (Int32.ofNat i))]))
  by_cases hc3_2 : (Int32.ofNat i) < (Int32.ofNat cs.length)
  · -- true
    refine own_go (fun _ k => XS.icmpYes X0.here hx rfl (pc0 := 3) (pc' := 8) rfl (hb hby d3_3) rfl (tlt hc3_2).1 (by decide) (by decide) <| XS.aloadN X0.here hx rfl (hb hby d3_8) rfl rfl <| XS.iloadN X0.here hx rfl (hb hby d3_9) rfl <| k) ?_
    show own_Ends p e below s _ _ _ (s₁.setTop (mkF m 10 #[.val (.ref a1), .val (.int (Int32.ofNat i))] [(.int (Int32.ofNat i)), (.ref a1)]))
    obtain ⟨cla1_10_3, Ara1_10_3, qqa1_10_3, Sza1_10_3, Nga1_10_3, Hsa1_10_3, Gfa1_10_3⟩ := id V1
    have hina1_10_3 : ¬ ((Int32.ofNat i) < 0 ∨ cla1_10_3.slots.size ≤ ((Int32.ofNat i)).toNatClampNeg) := inb_of Sza1_10_3 ⟨own_nneg (by omega), (own_ofNat_lt (by omega) (by omega)).mpr ((own_ofNat_lt (by omega) (by omega)).mp hc3_2)⟩
    have hata1_10_3 : cla1_10_3.slots[((Int32.ofNat i)).toNatClampNeg]? = some (.int (cs.getD i 0)) := Hsa1_10_3.at hina1_10_3 (own_getD cs (by omega))
    refine own_go (fun _ k => X0.caload hx (j := (Int32.ofNat i)) (v := (.int (cs.getD i 0))) (by first | exact Ara1_10_3.1 | (rw [e0]; exact Ara1_10_3.1)) (State.isArrayOf_alike hZ.alike Ara1_10_3.2.1) Ara1_10_3.2.2 hina1_10_3 hata1_10_3 (g := (mkF m 10 #[.val (.ref a1), .val (.int (Int32.ofNat i))] [(.int (Int32.ofNat i)), (.ref a1)])) rfl rfl (hb hby d3_10) _ k) ?_
    show own_Ends p e below s _ _ _ (s₁.setTop (mkF m 11 #[.val (.ref a1), .val (.int (Int32.ofNat i))] [(.int (cs.getD i 0))]))
    obtain ⟨_, _, ⟨T4, L4, k4, n4⟩, -, X4, ⟨Lc4, hQ4, l4, y4, z4⟩, st4⟩ := Jvm.LawKit.callS X0 hx (y := (⟨"com/example/pagra/pagra/core/StrictUtf8IsEncodablePinLaw", "high", "(C)Z"⟩ : MethodName)) hown (mvT hZ (hw _ (List.mem_of_getElem? (i := 51) rfl))) (mvT hZ (hw _ (List.mem_of_getElem? (i := 52) rfl))) (mvT hZ (hw _ (List.mem_of_getElem? (i := 3) rfl))) (mvT hZ (hw _ (List.mem_of_getElem? (i := 53) rfl))) (by decide) (backOf (W := 0) (rm10 l Z a0 hw [] (cs.getD i 0) h0 n0 Z0) hZ (hw _ (List.mem_of_getElem? (i := 53) rfl)) (hw _ (List.mem_of_getElem? (i := 3) rfl)) (by decide) (by decide)) (g := (mkF m 11 #[.val (.ref a1), .val (.int (Int32.ofNat i))] [(.int (cs.getD i 0))])) rfl (by rw [hml]; rfl) (argsL := [(.int (cs.getD i 0))]) (rest := []) (lenOf pd_9 rfl) rfl (by show 2 * 0 + _ ≤ _; exact Nat.le_of_eq rfl) (hb hby d3_11) (fun _ _ => ⟨rfl, e0, Nat.le_of_ble_eq_true rfl, Nat.le_of_ble_eq_true rfl⟩)
    dsimp only [Pt.U, Pt.locs, Pt.cells, Pt.slots] at X4 l4 y4 z4 st4 hQ4
    subst l4 y4 z4
    obtain ⟨rfl, N4q, e4⟩ := hQ4
    have N4 := Fr.app N0 N4q
    refine own_go (fun _ k => st4 _ k) ?_
    show own_Ends p e below s _ _ _ (T4.setTop (mkF m 14 #[.val (.ref a1), .val (.int (Int32.ofNat i))] [(.int (own_h (cs.getD i 0)))]))
    by_cases hc14_5 : (own_h (cs.getD i 0)) = (0 : Int32)
    · -- true
      refine own_go (fun _ k => XS.ifYes X4.here hx rfl (pc0 := 14) (pc' := 42) rfl (hb hby d3_14) rfl ((if0 _ _).trans (teq hc14_5).1) (by decide) (by decide) <| XS.aloadN X4.here hx rfl (hb hby d3_42) rfl rfl <| XS.iloadN X4.here hx rfl (hb hby d3_43) rfl <| k) ?_
      show own_Ends p e below s _ _ _ (T4.setTop (mkF m 44 #[.val (.ref a1), .val (.int (Int32.ofNat i))] [(.int (Int32.ofNat i)), (.ref a1)]))
      obtain ⟨cla1_44_6, Ara1_44_6, qqa1_44_6, Sza1_44_6, Nga1_44_6, Hsa1_44_6, Gfa1_44_6⟩ := id V1
      have hina1_44_6 : ¬ ((Int32.ofNat i) < 0 ∨ cla1_44_6.slots.size ≤ ((Int32.ofNat i)).toNatClampNeg) := inb_of Sza1_44_6 ⟨own_nneg (by omega), (own_ofNat_lt (by omega) (by omega)).mpr ((own_ofNat_lt (by omega) (by omega)).mp hc3_2)⟩
      have hata1_44_6 : cla1_44_6.slots[((Int32.ofNat i)).toNatClampNeg]? = some (.int (cs.getD i 0)) := Hsa1_44_6.at hina1_44_6 (own_getD cs (by omega))
      refine own_go (fun _ k => X4.caload hx (j := (Int32.ofNat i)) (v := (.int (cs.getD i 0))) (by first | exact Ara1_44_6.1 | (rw [e4]; exact Ara1_44_6.1)) (State.isArrayOf_alike hZ.alike Ara1_44_6.2.1) Ara1_44_6.2.2 hina1_44_6 hata1_44_6 (g := (mkF m 44 #[.val (.ref a1), .val (.int (Int32.ofNat i))] [(.int (Int32.ofNat i)), (.ref a1)])) rfl rfl (hb hby d3_44) _ k) ?_
      show own_Ends p e below s _ _ _ (T4.setTop (mkF m 45 #[.val (.ref a1), .val (.int (Int32.ofNat i))] [(.int (cs.getD i 0))]))
      obtain ⟨_, _, ⟨T7, L7, k7, n7⟩, -, X7, ⟨Lc7, hQ7, l7, y7, z7⟩, st7⟩ := Jvm.LawKit.callS X4 hx (y := (⟨"com/example/pagra/pagra/core/StrictUtf8IsEncodablePinLaw", "low", "(C)Z"⟩ : MethodName)) hown (mvT hZ (hw _ (List.mem_of_getElem? (i := 54) rfl))) (mvT hZ (hw _ (List.mem_of_getElem? (i := 55) rfl))) (mvT hZ (hw _ (List.mem_of_getElem? (i := 3) rfl))) (mvT hZ (hw _ (List.mem_of_getElem? (i := 56) rfl))) (by decide) (backOf (W := 0) (rm11 l Z a0 hw [] (cs.getD i 0) h0 n0 Z0) hZ (hw _ (List.mem_of_getElem? (i := 56) rfl)) (hw _ (List.mem_of_getElem? (i := 3) rfl)) (by decide) (by decide)) (g := (mkF m 45 #[.val (.ref a1), .val (.int (Int32.ofNat i))] [(.int (cs.getD i 0))])) rfl (by rw [hml]; rfl) (argsL := [(.int (cs.getD i 0))]) (rest := []) (lenOf pd_9 rfl) rfl (by show 2 * 0 + _ ≤ _; exact Nat.le_of_eq rfl) (hb hby d3_45) (fun _ _ => ⟨rfl, e4, Nat.le_of_ble_eq_true rfl, Nat.le_of_ble_eq_true rfl⟩)
      dsimp only [Pt.U, Pt.locs, Pt.cells, Pt.slots] at X7 l7 y7 z7 st7 hQ7
      subst l7 y7 z7
      obtain ⟨rfl, N7q, e7⟩ := hQ7
      have N7 := Fr.app N4 N7q
      refine own_go (fun _ k => st7 _ k) ?_
      show own_Ends p e below s _ _ _ (T7.setTop (mkF m 48 #[.val (.ref a1), .val (.int (Int32.ofNat i))] [(.int (own_l (cs.getD i 0)))]))
      by_cases hc48_8 : (own_l (cs.getD i 0)) = (0 : Int32)
      · -- true
        refine own_go (fun _ k => XS.ifYes X7.here hx rfl (pc0 := 48) (pc' := 72) rfl (hb hby d3_48) rfl ((if0 _ _).trans (teq hc48_8).1) (by decide) (by decide) <| XT.iconstV X7.here hx rfl (1 : Int32) (hb hby d3_72) rfl <| k) ?_
        show own_Ends p e below s _ _ _ (T7.setTop (mkF m 73 #[.val (.ref a1), .val (.int (Int32.ofNat i))] [(.int (1 : Int32))]))
        exact own_retN X7 hx (t := .boolean) hrt (by simp) (hb hby d3_73) hlk (show nar .boolean (1 : Int32) = (1 : Int32) from by decide) (by rw [e7]; exact ⟨by unfold own_fine; rw [if_pos hc3_2, if_pos hc14_5, if_pos hc48_8], N7, rfl⟩) (by decide) (by decide)
      · -- false
        refine own_go (fun _ k => XS.ifNo X7.here hx rfl (hb hby d3_48) rfl ((if0 _ _).trans (feq hc48_8).1) <| XS.iloadN X7.here hx rfl (hb hby d3_51) rfl <| k) ?_
        show own_Ends p e below s _ _ _ (T7.setTop (mkF m 52 #[.val (.ref a1), .val (.int (Int32.ofNat i))] [(.int (Int32.ofNat i))]))
        by_cases hc52_9 : (0 : Int32) < (Int32.ofNat i)
        · -- true
          refine own_go (fun _ k => XS.ifNo X7.here hx rfl (hb hby d3_52) rfl ((if0 _ _).trans (tlt hc52_9).2.2.2) <| XS.aloadN X7.here hx rfl (hb hby d3_55) rfl rfl <| XS.iloadN X7.here hx rfl (hb hby d3_56) rfl <| XT.iconstV X7.here hx rfl (1 : Int32) (hb hby d3_57) rfl <| XS.isub X7.here hx rfl (hb hby d3_58) rfl <| k) ?_
          show own_Ends p e below s _ _ _ (T7.setTop (mkF m 59 #[.val (.ref a1), .val (.int (Int32.ofNat i))] [(.int ((Int32.ofNat i) - (1 : Int32))), (.ref a1)]))
          have hdn := own_dn hc52_9 (by omega)
          rw [hdn.1]
          show own_Ends p e below s _ _ _ (T7.setTop (mkF m 59 #[.val (.ref a1), .val (.int (Int32.ofNat i))] [(.int (Int32.ofNat (i - 1))), (.ref a1)]))
          obtain ⟨cla1_59_10, Ara1_59_10, qqa1_59_10, Sza1_59_10, Nga1_59_10, Hsa1_59_10, Gfa1_59_10⟩ := id V1
          have hina1_59_10 : ¬ ((Int32.ofNat (i - 1)) < 0 ∨ cla1_59_10.slots.size ≤ ((Int32.ofNat (i - 1))).toNatClampNeg) := inb_of Sza1_59_10 ⟨own_nneg (by omega), (own_ofNat_lt (by omega) (by omega)).mpr (by have q := ((own_ofNat_lt (by omega) (by omega)).mp hc3_2); omega)⟩
          have hata1_59_10 : cla1_59_10.slots[((Int32.ofNat (i - 1))).toNatClampNeg]? = some (.int (cs.getD (i - 1) 0)) := Hsa1_59_10.at hina1_59_10 (own_getD cs (by omega))
          refine own_go (fun _ k => X7.caload hx (j := (Int32.ofNat (i - 1))) (v := (.int (cs.getD (i - 1) 0))) (by first | exact Ara1_59_10.1 | (rw [e7]; exact Ara1_59_10.1)) (State.isArrayOf_alike hZ.alike Ara1_59_10.2.1) Ara1_59_10.2.2 hina1_59_10 hata1_59_10 (g := (mkF m 59 #[.val (.ref a1), .val (.int (Int32.ofNat i))] [(.int (Int32.ofNat (i - 1))), (.ref a1)])) rfl rfl (hb hby d3_59) _ k) ?_
          show own_Ends p e below s _ _ _ (T7.setTop (mkF m 60 #[.val (.ref a1), .val (.int (Int32.ofNat i))] [(.int (cs.getD (i - 1) 0))]))
          obtain ⟨_, _, ⟨T11, L11, k11, n11⟩, -, X11, ⟨Lc11, hQ11, l11, y11, z11⟩, st11⟩ := Jvm.LawKit.callS X7 hx (y := (⟨"com/example/pagra/pagra/core/StrictUtf8IsEncodablePinLaw", "high", "(C)Z"⟩ : MethodName)) hown (mvT hZ (hw _ (List.mem_of_getElem? (i := 51) rfl))) (mvT hZ (hw _ (List.mem_of_getElem? (i := 52) rfl))) (mvT hZ (hw _ (List.mem_of_getElem? (i := 3) rfl))) (mvT hZ (hw _ (List.mem_of_getElem? (i := 53) rfl))) (by decide) (backOf (W := 0) (rm10 l Z a0 hw [] (cs.getD (i - 1) 0) h0 n0 Z0) hZ (hw _ (List.mem_of_getElem? (i := 53) rfl)) (hw _ (List.mem_of_getElem? (i := 3) rfl)) (by decide) (by decide)) (g := (mkF m 60 #[.val (.ref a1), .val (.int (Int32.ofNat i))] [(.int (cs.getD (i - 1) 0))])) rfl (by rw [hml]; rfl) (argsL := [(.int (cs.getD (i - 1) 0))]) (rest := []) (lenOf pd_9 rfl) rfl (by show 2 * 0 + _ ≤ _; exact Nat.le_of_eq rfl) (hb hby d3_60) (fun _ _ => ⟨rfl, e7, Nat.le_of_ble_eq_true rfl, Nat.le_of_ble_eq_true rfl⟩)
          dsimp only [Pt.U, Pt.locs, Pt.cells, Pt.slots] at X11 l11 y11 z11 st11 hQ11
          subst l11 y11 z11
          obtain ⟨rfl, N11q, e11⟩ := hQ11
          have N11 := Fr.app N7 N11q
          refine own_go (fun _ k => st11 _ k) ?_
          show own_Ends p e below s _ _ _ (T11.setTop (mkF m 63 #[.val (.ref a1), .val (.int (Int32.ofNat i))] [(.int (own_h (cs.getD (i - 1) 0)))]))
          by_cases hc63_12 : (own_h (cs.getD (i - 1) 0)) = (0 : Int32)
          · -- true
            refine own_go (fun _ k => XS.ifYes X11.here hx rfl (pc0 := 63) (pc' := 70) rfl (hb hby d3_63) rfl ((if0 _ _).trans (teq hc63_12).1) (by decide) (by decide) <| XT.iconstV X11.here hx rfl (0 : Int32) (hb hby d3_70) rfl <| k) ?_
            show own_Ends p e below s _ _ _ (T11.setTop (mkF m 71 #[.val (.ref a1), .val (.int (Int32.ofNat i))] [(.int (0 : Int32))]))
            exact own_retN X11 hx (t := .boolean) hrt (by simp) (hb hby d3_71) hlk (show nar .boolean (0 : Int32) = (0 : Int32) from by decide) (by rw [e11]; exact ⟨by unfold own_fine; rw [if_pos hc3_2, if_pos hc14_5, if_neg hc48_8, if_pos hc52_9, if_pos hc63_12], N11, rfl⟩) (by decide) (by decide)
          · -- false
            refine own_go (fun _ k => XS.ifNo X11.here hx rfl (hb hby d3_63) rfl ((if0 _ _).trans (feq hc63_12).1) <| XT.iconstV X11.here hx rfl (1 : Int32) (hb hby d3_66) rfl <| XS.goto X11.here hx rfl (pc0 := 67) (pc' := 71) rfl (hb hby d3_67) (by decide) (by decide) <| k) ?_
            show own_Ends p e below s _ _ _ (T11.setTop (mkF m 71 #[.val (.ref a1), .val (.int (Int32.ofNat i))] [(.int (1 : Int32))]))
            exact own_retN X11 hx (t := .boolean) hrt (by simp) (hb hby d3_71) hlk (show nar .boolean (1 : Int32) = (1 : Int32) from by decide) (by rw [e11]; exact ⟨by unfold own_fine; rw [if_pos hc3_2, if_pos hc14_5, if_neg hc48_8, if_pos hc52_9, if_neg hc63_12], N11, rfl⟩) (by decide) (by decide)
        · -- false
          refine own_go (fun _ k => XS.ifYes X7.here hx rfl (pc0 := 52) (pc' := 70) rfl (hb hby d3_52) rfl ((if0 _ _).trans (flt hc52_9).2.2.2) (by decide) (by decide) <| XT.iconstV X7.here hx rfl (0 : Int32) (hb hby d3_70) rfl <| k) ?_
          show own_Ends p e below s _ _ _ (T7.setTop (mkF m 71 #[.val (.ref a1), .val (.int (Int32.ofNat i))] [(.int (0 : Int32))]))
          exact own_retN X7 hx (t := .boolean) hrt (by simp) (hb hby d3_71) hlk (show nar .boolean (0 : Int32) = (0 : Int32) from by decide) (by rw [e7]; exact ⟨by unfold own_fine; rw [if_pos hc3_2, if_pos hc14_5, if_neg hc48_8, if_neg hc52_9], N7, rfl⟩) (by decide) (by decide)
    · -- false
      refine own_go (fun _ k => XS.ifNo X4.here hx rfl (hb hby d3_14) rfl ((if0 _ _).trans (feq hc14_5).1) <| XS.iloadN X4.here hx rfl (hb hby d3_17) rfl <| XT.iconstV X4.here hx rfl (1 : Int32) (hb hby d3_18) rfl <| XS.iadd X4.here hx rfl (hb hby d3_19) rfl <| k) ?_
      show own_Ends p e below s _ _ _ (T4.setTop (mkF m 20 #[.val (.ref a1), .val (.int (Int32.ofNat i))] [(.int ((Int32.ofNat i) + (1 : Int32)))]))
      rw [own_up]
      show own_Ends p e below s _ _ _ (T4.setTop (mkF m 20 #[.val (.ref a1), .val (.int (Int32.ofNat i))] [(.int (Int32.ofNat (i + 1)))]))
      refine own_go (fun _ k => XS.aloadN X4.here hx rfl (hb hby d3_20) rfl rfl <| k) ?_
      show own_Ends p e below s _ _ _ (T4.setTop (mkF m 21 #[.val (.ref a1), .val (.int (Int32.ofNat i))] [(.ref a1), (.int (Int32.ofNat (i + 1)))]))
      obtain ⟨cla1_21_13, Ara1_21_13, qqa1_21_13, Sza1_21_13, Nga1_21_13, Hsa1_21_13, Gfa1_21_13⟩ := id V1
      refine own_go (fun _ k => X4.arraylength hx (by first | exact Ara1_21_13.1 | (rw [e4]; exact Ara1_21_13.1)) (State.isArrayOf_alike hZ.alike Ara1_21_13.2.1) (g := (mkF m 21 #[.val (.ref a1), .val (.int (Int32.ofNat i))] [(.ref a1), (.int (Int32.ofNat (i + 1)))])) rfl rfl (hb hby d3_21) _ k) ?_
      rw [len_of Sza1_21_13 Nga1_21_13]
      show own_Ends p e below s _ _ _ (T4.setTop (mkF m 22 #[.val (.ref a1), .val (.int (Int32.ofNat i))] [(.int (Int32.ofNat cs.length)), (.int (Int32.ofNat (i + 1)))]))
      by_cases hc22_14 : (Int32.ofNat (i + 1)) < (Int32.ofNat cs.length)
      · -- true
        refine own_go (fun _ k => XS.icmpNo X4.here hx rfl (hb hby d3_22) rfl (tlt hc22_14).2.1 <| XS.aloadN X4.here hx rfl (hb hby d3_25) rfl rfl <| XS.iloadN X4.here hx rfl (hb hby d3_26) rfl <| XT.iconstV X4.here hx rfl (1 : Int32) (hb hby d3_27) rfl <| XS.iadd X4.here hx rfl (hb hby d3_28) rfl <| k) ?_
        show own_Ends p e below s _ _ _ (T4.setTop (mkF m 29 #[.val (.ref a1), .val (.int (Int32.ofNat i))] [(.int ((Int32.ofNat i) + (1 : Int32))), (.ref a1)]))
        rw [own_up]
        show own_Ends p e below s _ _ _ (T4.setTop (mkF m 29 #[.val (.ref a1), .val (.int (Int32.ofNat i))] [(.int (Int32.ofNat (i + 1))), (.ref a1)]))
        obtain ⟨cla1_29_15, Ara1_29_15, qqa1_29_15, Sza1_29_15, Nga1_29_15, Hsa1_29_15, Gfa1_29_15⟩ := id V1
        have hina1_29_15 : ¬ ((Int32.ofNat (i + 1)) < 0 ∨ cla1_29_15.slots.size ≤ ((Int32.ofNat (i + 1))).toNatClampNeg) := inb_of Sza1_29_15 ⟨own_nneg (by omega), (own_ofNat_lt (by omega) (by omega)).mpr ((own_ofNat_lt (by omega) (by omega)).mp hc22_14)⟩
        have hata1_29_15 : cla1_29_15.slots[((Int32.ofNat (i + 1))).toNatClampNeg]? = some (.int (cs.getD (i + 1) 0)) := Hsa1_29_15.at hina1_29_15 (own_getD cs (by omega))
        refine own_go (fun _ k => X4.caload hx (j := (Int32.ofNat (i + 1))) (v := (.int (cs.getD (i + 1) 0))) (by first | exact Ara1_29_15.1 | (rw [e4]; exact Ara1_29_15.1)) (State.isArrayOf_alike hZ.alike Ara1_29_15.2.1) Ara1_29_15.2.2 hina1_29_15 hata1_29_15 (g := (mkF m 29 #[.val (.ref a1), .val (.int (Int32.ofNat i))] [(.int (Int32.ofNat (i + 1))), (.ref a1)])) rfl rfl (hb hby d3_29) _ k) ?_
        show own_Ends p e below s _ _ _ (T4.setTop (mkF m 30 #[.val (.ref a1), .val (.int (Int32.ofNat i))] [(.int (cs.getD (i + 1) 0))]))
        obtain ⟨_, _, ⟨T16, L16, k16, n16⟩, -, X16, ⟨Lc16, hQ16, l16, y16, z16⟩, st16⟩ := Jvm.LawKit.callS X4 hx (y := (⟨"com/example/pagra/pagra/core/StrictUtf8IsEncodablePinLaw", "low", "(C)Z"⟩ : MethodName)) hown (mvT hZ (hw _ (List.mem_of_getElem? (i := 54) rfl))) (mvT hZ (hw _ (List.mem_of_getElem? (i := 55) rfl))) (mvT hZ (hw _ (List.mem_of_getElem? (i := 3) rfl))) (mvT hZ (hw _ (List.mem_of_getElem? (i := 56) rfl))) (by decide) (backOf (W := 0) (rm11 l Z a0 hw [] (cs.getD (i + 1) 0) h0 n0 Z0) hZ (hw _ (List.mem_of_getElem? (i := 56) rfl)) (hw _ (List.mem_of_getElem? (i := 3) rfl)) (by decide) (by decide)) (g := (mkF m 30 #[.val (.ref a1), .val (.int (Int32.ofNat i))] [(.int (cs.getD (i + 1) 0))])) rfl (by rw [hml]; rfl) (argsL := [(.int (cs.getD (i + 1) 0))]) (rest := []) (lenOf pd_9 rfl) rfl (by show 2 * 0 + _ ≤ _; exact Nat.le_of_eq rfl) (hb hby d3_30) (fun _ _ => ⟨rfl, e4, Nat.le_of_ble_eq_true rfl, Nat.le_of_ble_eq_true rfl⟩)
        dsimp only [Pt.U, Pt.locs, Pt.cells, Pt.slots] at X16 l16 y16 z16 st16 hQ16
        subst l16 y16 z16
        obtain ⟨rfl, N16q, e16⟩ := hQ16
        have N16 := Fr.app N4 N16q
        refine own_go (fun _ k => st16 _ k) ?_
        show own_Ends p e below s _ _ _ (T16.setTop (mkF m 33 #[.val (.ref a1), .val (.int (Int32.ofNat i))] [(.int (own_l (cs.getD (i + 1) 0)))]))
        by_cases hc33_17 : (own_l (cs.getD (i + 1) 0)) = (0 : Int32)
        · -- true
          refine own_go (fun _ k => XS.ifYes X16.here hx rfl (pc0 := 33) (pc' := 40) rfl (hb hby d3_33) rfl ((if0 _ _).trans (teq hc33_17).1) (by decide) (by decide) <| XT.iconstV X16.here hx rfl (0 : Int32) (hb hby d3_40) rfl <| k) ?_
          show own_Ends p e below s _ _ _ (T16.setTop (mkF m 41 #[.val (.ref a1), .val (.int (Int32.ofNat i))] [(.int (0 : Int32))]))
          exact own_retN X16 hx (t := .boolean) hrt (by simp) (hb hby d3_41) hlk (show nar .boolean (0 : Int32) = (0 : Int32) from by decide) (by rw [e16]; exact ⟨by unfold own_fine; rw [if_pos hc3_2, if_neg hc14_5, if_pos hc22_14, if_pos hc33_17], N16, rfl⟩) (by decide) (by decide)
        · -- false
          refine own_go (fun _ k => XS.ifNo X16.here hx rfl (hb hby d3_33) rfl ((if0 _ _).trans (feq hc33_17).1) <| XT.iconstV X16.here hx rfl (1 : Int32) (hb hby d3_36) rfl <| XS.goto X16.here hx rfl (pc0 := 37) (pc' := 41) rfl (hb hby d3_37) (by decide) (by decide) <| k) ?_
          show own_Ends p e below s _ _ _ (T16.setTop (mkF m 41 #[.val (.ref a1), .val (.int (Int32.ofNat i))] [(.int (1 : Int32))]))
          exact own_retN X16 hx (t := .boolean) hrt (by simp) (hb hby d3_41) hlk (show nar .boolean (1 : Int32) = (1 : Int32) from by decide) (by rw [e16]; exact ⟨by unfold own_fine; rw [if_pos hc3_2, if_neg hc14_5, if_pos hc22_14, if_neg hc33_17], N16, rfl⟩) (by decide) (by decide)
      · -- false
        refine own_go (fun _ k => XS.icmpYes X4.here hx rfl (pc0 := 22) (pc' := 40) rfl (hb hby d3_22) rfl (flt hc22_14).2.1 (by decide) (by decide) <| XT.iconstV X4.here hx rfl (0 : Int32) (hb hby d3_40) rfl <| k) ?_
        show own_Ends p e below s _ _ _ (T4.setTop (mkF m 41 #[.val (.ref a1), .val (.int (Int32.ofNat i))] [(.int (0 : Int32))]))
        exact own_retN X4 hx (t := .boolean) hrt (by simp) (hb hby d3_41) hlk (show nar .boolean (0 : Int32) = (0 : Int32) from by decide) (by rw [e4]; exact ⟨by unfold own_fine; rw [if_pos hc3_2, if_neg hc14_5, if_neg hc22_14], N4, rfl⟩) (by decide) (by decide)
  · -- false
    refine own_go (fun _ k => XS.icmpNo X0.here hx rfl (hb hby d3_3) rfl (flt hc3_2).1 <| XT.iconstV X0.here hx rfl (1 : Int32) (hb hby d3_6) rfl <| k) ?_
    show own_Ends p e below s _ _ _ (s₁.setTop (mkF m 7 #[.val (.ref a1), .val (.int (Int32.ofNat i))] [(.int (1 : Int32))]))
    exact own_retN X0 hx (t := .boolean) hrt (by simp) (hb hby d3_7) hlk (show nar .boolean (1 : Int32) = (1 : Int32) from by decide) (by rw [e0]; exact ⟨by unfold own_fine; rw [if_neg hc3_2], N0, rfl⟩) (by decide) (by decide)
theorem d25_0 : decode jdk_52_method_7_code 0 = .ok (.getstatic 44, 3) := by decide +kernel
theorem d25_3 : decode jdk_52_method_7_code 3 = .ok (.ifCond .ne 16, 3) := by decide +kernel
theorem d25_6 : decode jdk_52_method_7_code 6 = .ok (.iload_n 1, 1) := by decide +kernel
theorem d25_7 : decode jdk_52_method_7_code 7 = .ok (.iload_n 2, 1) := by decide +kernel
theorem d25_8 : decode jdk_52_method_7_code 8 = .ok (.if_icmp .lt 11, 3) := by decide +kernel
theorem d25_11 : decode jdk_52_method_7_code 11 = .ok (.new 52, 3) := by decide +kernel
theorem d25_14 : decode jdk_52_method_7_code 14 = .ok (.dup, 1) := by decide +kernel
theorem d25_15 : decode jdk_52_method_7_code 15 = .ok (.invokespecial 66, 3) := by decide +kernel
theorem d25_18 : decode jdk_52_method_7_code 18 = .ok (.athrow, 1) := by decide +kernel
theorem d25_19 : decode jdk_52_method_7_code 19 = .ok (.iload_n 3, 1) := by decide +kernel
theorem d25_20 : decode jdk_52_method_7_code 20 = .ok (.ifCond .eq 8, 3) := by decide +kernel
theorem d25_23 : decode jdk_52_method_7_code 23 = .ok (.iload_n 1, 1) := by decide +kernel
theorem d25_24 : decode jdk_52_method_7_code 24 = .ok (.aload_n 0, 1) := by decide +kernel
theorem d25_25 : decode jdk_52_method_7_code 25 = .ok (.invokestatic 67, 3) := by decide +kernel
theorem d25_28 : decode jdk_52_method_7_code 28 = .ok (.aload_n 0, 1) := by decide +kernel
theorem d25_29 : decode jdk_52_method_7_code 29 = .ok (.iload_n 1, 1) := by decide +kernel
theorem d25_30 : decode jdk_52_method_7_code 30 = .ok (.invokestatic 71, 3) := by decide +kernel
theorem d25_33 : decode jdk_52_method_7_code 33 = .ok (.istore 4, 2) := by decide +kernel
theorem d25_35 : decode jdk_52_method_7_code 35 = .ok (.iload 4, 2) := by decide +kernel
theorem d25_37 : decode jdk_52_method_7_code 37 = .ok (.invokestatic 75, 3) := by decide +kernel
theorem d25_40 : decode jdk_52_method_7_code 40 = .ok (.ifCond .eq 43, 3) := by decide +kernel
theorem d25_43 : decode jdk_52_method_7_code 43 = .ok (.iinc 1 1, 3) := by decide +kernel
theorem d25_46 : decode jdk_52_method_7_code 46 = .ok (.iload_n 1, 1) := by decide +kernel
theorem d25_47 : decode jdk_52_method_7_code 47 = .ok (.iload_n 2, 1) := by decide +kernel
theorem d25_48 : decode jdk_52_method_7_code 48 = .ok (.if_icmp .ge 35, 3) := by decide +kernel
theorem d25_51 : decode jdk_52_method_7_code 51 = .ok (.iload_n 3, 1) := by decide +kernel
theorem d25_52 : decode jdk_52_method_7_code 52 = .ok (.ifCond .eq 8, 3) := by decide +kernel
theorem d25_55 : decode jdk_52_method_7_code 55 = .ok (.iload_n 1, 1) := by decide +kernel
theorem d25_56 : decode jdk_52_method_7_code 56 = .ok (.aload_n 0, 1) := by decide +kernel
theorem d25_57 : decode jdk_52_method_7_code 57 = .ok (.invokestatic 67, 3) := by decide +kernel
theorem d25_60 : decode jdk_52_method_7_code 60 = .ok (.aload_n 0, 1) := by decide +kernel
theorem d25_61 : decode jdk_52_method_7_code 61 = .ok (.iload_n 1, 1) := by decide +kernel
theorem d25_62 : decode jdk_52_method_7_code 62 = .ok (.invokestatic 71, 3) := by decide +kernel
theorem d25_65 : decode jdk_52_method_7_code 65 = .ok (.istore 5, 2) := by decide +kernel
theorem d25_67 : decode jdk_52_method_7_code 67 = .ok (.iload 5, 2) := by decide +kernel
theorem d25_69 : decode jdk_52_method_7_code 69 = .ok (.invokestatic 81, 3) := by decide +kernel
theorem d25_72 : decode jdk_52_method_7_code 72 = .ok (.ifCond .eq 11, 3) := by decide +kernel
theorem d25_75 : decode jdk_52_method_7_code 75 = .ok (.iload 4, 2) := by decide +kernel
theorem d25_77 : decode jdk_52_method_7_code 77 = .ok (.iload 5, 2) := by decide +kernel
theorem d25_79 : decode jdk_52_method_7_code 79 = .ok (.invokestatic 84, 3) := by decide +kernel
theorem d25_82 : decode jdk_52_method_7_code 82 = .ok (.ireturn, 1) := by decide +kernel
theorem d25_83 : decode jdk_52_method_7_code 83 = .ok (.iload 4, 2) := by decide +kernel
theorem d25_85 : decode jdk_52_method_7_code 85 = .ok (.ireturn, 1) := by decide +kernel
theorem ef_25 (m : MethodId) (x0 : Addr) (x1 : Int32) (x2 : Int32) (x3 : Int32) : entryFrame m #[(.ref x0), (.int x1), (.int x2), (.int x3)] 6 = mkF m 0 #[.val (.ref x0), .val (.int x1), .val (.int x2), .val (.int x3), .unset, .unset] [] := by first | (simp [entryFrame, mkF, argsToLocals, Value.category]; done) | rfl
def Q25 (a1 : Addr) (vc : Int32) (vf : Value) (ka1 : ClassId) (cs : List Int32) (i : Nat) (h0 : Heap) (n0 : Nat) (Z : State) (v : Option Value) (h : Heap) (L : List Loc) : Prop := v = some (.int (own_cp cs i)) ∧ Fr n0 L ∧ h = h0
set_option maxRecDepth 65536 in
set_option maxHeartbeats 40000000 in
theorem rm25 (l : Launch) (Z : State) (a0 : Array Value) (hw : ∀ d ∈ tables_1, d.before a0 Z = true) (ws : List Jvm.Cond) (a1 : Addr) (vc : Int32) (vf : Value) (ka1 : ClassId) (cs : List Int32) (i : Nat) (h0 : Heap) (n0 : Nat) (Z0 : n0 ≤ h0.size) (O0 : Old Z n0 h0) (ST : own_St Z vc vf) (hN : cs.length ≤ 4) (hC : own_Ch cs) (hi : i < cs.length) (V1 : Arv Z h0 a1 ka1 .byte (Int32.ofNat (2 * cs.length)) (cs.flatMap own_lh) (.int (0 : Int32))) :
    MetFree l (⟨"java/lang/StringUTF16", "codePointAt", "([BIIZ)I"⟩ : MethodName) (head1 (Jvm.Cond.code (⟨"java/lang/StringUTF16", "codePointAt", "([BIIZ)I"⟩ : MethodName) jdk_52_method_7_code 6 (some .int) :: ws) ({ frames := 1, cells := 0, slots := 0, locals := 16 } : Room)) (fun a U => a = #[(.ref a1), (.int (Int32.ofNat i)), (.int (Int32.ofNat cs.length)), (.int (0 : Int32))] ∧ Z.Warmed39 U.vm ∧ U.heap = h0) (fun _ _ _ _ _ => True) (fun _ U o U' => ∃ v L, o = .returned v ∧ Q25 a1 vc vf ka1 cs i h0 n0 Z v U'.heap L ∧ FrameEnd U o U' L ({ frames := 1, cells := 0, slots := 0, locals := 16 } : Room).cells ({ frames := 1, cells := 0, slots := 0, locals := 16 } : Room).slots) := by
  refine MetFree.of_bodySF (plainFor_of_name pn_0) hisR ?_
  intro p e s m args below meth c s₁ Bd hml0 hP hK
  obtain ⟨rfl, hZ, hh⟩ := hP
  have hx := Bd.exec
  have hby := Bd.bytes
  have hml : c.maxLocals = 6 := hml0
  have hown : s.vm.findClass "java/lang/StringUTF16" = some m.cls := findClass_of_methodNamed Bd.named
  have hnm := (name_of_methodNamed Bd.named Bd.method).1
  have hlk := Bd.notSynchronized
  have hrt := Bd.returns
  have X0 : Stand p l e ({ frames := 1, cells := 0, slots := 0, locals := 16 } : Room) s m #[(.ref a1), (.int (Int32.ofNat i)), (.int (Int32.ofNat cs.length)), (.int (0 : Int32))] below meth c s₁ [] 0 0 := Stand.of_body Bd
  have e0 : s₁.heap = h0 := by rw [← hh, Bd.state]; rfl
  have N0 := Fr.nil n0
  show own_Ends p e below s (Q25 a1 vc vf ka1 cs i h0 n0 Z) ({ frames := 1, cells := 0, slots := 0, locals := 16 } : Room).cells ({ frames := 1, cells := 0, slots := 0, locals := 16 } : Room).slots (s₁.setTop (entryFrame m #[(.ref a1), (.int (Int32.ofNat i)), (.int (Int32.ofNat cs.length)), (.int (0 : Int32))] 6))
  rw [ef_25]
  obtain ⟨HVC, SCS, SAD, SHI, SLO, SIO, HVF⟩ := id ST
  obtain ⟨T1, X1, e1, st1⟩ := getS2 X0 hx hZ hown (host := "") (Or.inl (hw _ (List.mem_of_getElem? (i := 79) rfl))) Via.refl e0 (SAD.ext O0.2) (g := (mkF m 0 #[.val (.ref a1), .val (.int (Int32.ofNat i)), .val (.int (Int32.ofNat cs.length)), .val (.int (0 : Int32)), .unset, .unset] [])) rfl (hb hby d25_0)
  refine own_go st1 ?_
  show own_Ends p e below s _ _ _ (T1.setTop (mkF m 3 #[.val (.ref a1), .val (.int (Int32.ofNat i)), .val (.int (Int32.ofNat cs.length)), .val (.int (0 : Int32)), .unset, .unset] [(.int (1 : Int32))]))
  refine own_go (fun _ k => XS.ifYes X1.here hx rfl (pc0 := 3) (pc' := 19) rfl (hb hby d25_3) rfl ((if0 _ _).trans (feq (by decide)).2) (by decide) (by decide) <| XS.iloadN X1.here hx rfl (hb hby d25_19) rfl <| XS.ifYes X1.here hx rfl (pc0 := 20) (pc' := 28) rfl (hb hby d25_20) rfl ((if0 _ _).trans (teq (by decide)).1) (by decide) (by decide) <| XS.aloadN X1.here hx rfl (hb hby d25_28) rfl rfl <| XS.iloadN X1.here hx rfl (hb hby d25_29) rfl <| k) ?_
  show own_Ends p e below s _ _ _ (T1.setTop (mkF m 30 #[.val (.ref a1), .val (.int (Int32.ofNat i)), .val (.int (Int32.ofNat cs.length)), .val (.int (0 : Int32)), .unset, .unset] [(.int (Int32.ofNat i)), (.ref a1)]))
  obtain ⟨_, _, ⟨T2, L2, k2, n2⟩, -, X2, ⟨Lc2, hQ2, l2, y2, z2⟩, st2⟩ := Jvm.LawKit.callS X1 hx (y := (⟨"java/lang/StringUTF16", "getChar", "([BI)C"⟩ : MethodName)) hown (mvT hZ (hw _ (List.mem_of_getElem? (i := 82) rfl))) (mvT hZ (hw _ (List.mem_of_getElem? (i := 83) rfl))) (mvT hZ (hw _ (List.mem_of_getElem? (i := 61) rfl))) (mvT hZ (hw _ (List.mem_of_getElem? (i := 84) rfl))) (by decide) (backOf (W := 0) (rm18 l Z a0 hw [] a1 vc vf ka1 cs i h0 n0 Z0 O0 ST hN hC hi V1) hZ (hw _ (List.mem_of_getElem? (i := 84) rfl)) (hw _ (List.mem_of_getElem? (i := 61) rfl)) (by decide) (by decide)) (g := (mkF m 30 #[.val (.ref a1), .val (.int (Int32.ofNat i)), .val (.int (Int32.ofNat cs.length)), .val (.int (0 : Int32)), .unset, .unset] [(.int (Int32.ofNat i)), (.ref a1)])) rfl (by rw [hml]; rfl) (argsL := [(.ref a1), (.int (Int32.ofNat i))]) (rest := []) (lenOf pd_15 rfl) rfl (by show 2 * 0 + _ ≤ _; exact Nat.le_of_eq rfl) (hb hby d25_30) (fun _ _ => ⟨rfl, e1, Nat.le_of_ble_eq_true rfl, Nat.le_of_ble_eq_true rfl⟩)
  dsimp only [Pt.U, Pt.locs, Pt.cells, Pt.slots] at X2 l2 y2 z2 st2 hQ2
  subst l2 y2 z2
  obtain ⟨rfl, N2q, e2⟩ := hQ2
  have N2 := Fr.app N0 N2q
  refine own_go (fun _ k => st2 _ k) ?_
  show own_Ends p e below s _ _ _ (T2.setTop (mkF m 33 #[.val (.ref a1), .val (.int (Int32.ofNat i)), .val (.int (Int32.ofNat cs.length)), .val (.int (0 : Int32)), .unset, .unset] [(.int (cs.getD i 0))]))
  refine own_go (fun _ k => XS.istore X2.here hx rfl (hb hby d25_33) rfl (l' := #[.val (.ref a1), .val (.int (Int32.ofNat i)), .val (.int (Int32.ofNat cs.length)), .val (.int (0 : Int32)), .val (.int (cs.getD i 0)), .unset]) rfl <| XS.iload X2.here hx rfl (hb hby d25_35) rfl <| k) ?_
  show own_Ends p e below s _ _ _ (T2.setTop (mkF m 37 #[.val (.ref a1), .val (.int (Int32.ofNat i)), .val (.int (Int32.ofNat cs.length)), .val (.int (0 : Int32)), .val (.int (cs.getD i 0)), .unset] [(.int (cs.getD i 0))]))
  obtain ⟨_, _, ⟨T3, L3, k3, n3⟩, -, X3, ⟨Lc3, hQ3, l3, y3, z3⟩, st3⟩ := Jvm.LawKit.callS X2 hx (y := (⟨"java/lang/Character", "isHighSurrogate", "(C)Z"⟩ : MethodName)) hown (mvT hZ (hw _ (List.mem_of_getElem? (i := 112) rfl))) (mvT hZ (hw _ (List.mem_of_getElem? (i := 113) rfl))) (mvT hZ (hw _ (List.mem_of_getElem? (i := 114) rfl))) (mvT hZ (hw _ (List.mem_of_getElem? (i := 115) rfl))) (by decide) (backOf (W := 0) (rm26 l Z a0 hw [] (cs.getD i 0) h0 n0 Z0) hZ (hw _ (List.mem_of_getElem? (i := 115) rfl)) (hw _ (List.mem_of_getElem? (i := 114) rfl)) (by decide) (by decide)) (g := (mkF m 37 #[.val (.ref a1), .val (.int (Int32.ofNat i)), .val (.int (Int32.ofNat cs.length)), .val (.int (0 : Int32)), .val (.int (cs.getD i 0)), .unset] [(.int (cs.getD i 0))])) rfl (by rw [hml]; rfl) (argsL := [(.int (cs.getD i 0))]) (rest := []) (lenOf pd_9 rfl) rfl (by show 2 * 0 + _ ≤ _; exact Nat.le_of_eq rfl) (hb hby d25_37) (fun _ _ => ⟨rfl, e2, Nat.le_of_ble_eq_true rfl, Nat.le_of_ble_eq_true rfl⟩)
  dsimp only [Pt.U, Pt.locs, Pt.cells, Pt.slots] at X3 l3 y3 z3 st3 hQ3
  subst l3 y3 z3
  obtain ⟨rfl, N3q, e3⟩ := hQ3
  have N3 := Fr.app N2 N3q
  refine own_go (fun _ k => st3 _ k) ?_
  show own_Ends p e below s _ _ _ (T3.setTop (mkF m 40 #[.val (.ref a1), .val (.int (Int32.ofNat i)), .val (.int (Int32.ofNat cs.length)), .val (.int (0 : Int32)), .val (.int (cs.getD i 0)), .unset] [(.int (own_h (cs.getD i 0)))]))
  by_cases hc40_4 : (own_h (cs.getD i 0)) = (0 : Int32)
  · -- true
    refine own_go (fun _ k => XS.ifYes X3.here hx rfl (pc0 := 40) (pc' := 83) rfl (hb hby d25_40) rfl ((if0 _ _).trans (teq hc40_4).1) (by decide) (by decide) <| XS.iload X3.here hx rfl (hb hby d25_83) rfl <| k) ?_
    show own_Ends p e below s _ _ _ (T3.setTop (mkF m 85 #[.val (.ref a1), .val (.int (Int32.ofNat i)), .val (.int (Int32.ofNat cs.length)), .val (.int (0 : Int32)), .val (.int (cs.getD i 0)), .unset] [(.int (cs.getD i 0))]))
    exact own_ret X3 hx hrt rfl (Or.inl ⟨rfl, Or.inl rfl, _, rfl⟩) (hb hby d25_85) hlk (by rw [e3]; exact ⟨by unfold own_cp; rw [if_pos hc40_4], N3, rfl⟩) (by decide) (by decide)
  · -- false
    refine own_go (fun _ k => XS.ifNo X3.here hx rfl (hb hby d25_40) rfl ((if0 _ _).trans (feq hc40_4).1) <| XT.iincV X3.here hx rfl (1 : Int32) (hb hby d25_43) rfl rfl (l' := #[.val (.ref a1), .val (.int ((Int32.ofNat i) + (1 : Int32))), .val (.int (Int32.ofNat cs.length)), .val (.int (0 : Int32)), .val (.int (cs.getD i 0)), .unset]) rfl <| k) ?_
    show own_Ends p e below s _ _ _ (T3.setTop (mkF m 46 #[.val (.ref a1), .val (.int ((Int32.ofNat i) + (1 : Int32))), .val (.int (Int32.ofNat cs.length)), .val (.int (0 : Int32)), .val (.int (cs.getD i 0)), .unset] []))
    rw [own_up]
    show own_Ends p e below s _ _ _ (T3.setTop (mkF m 46 #[.val (.ref a1), .val (.int (Int32.ofNat (i + 1))), .val (.int (Int32.ofNat cs.length)), .val (.int (0 : Int32)), .val (.int (cs.getD i 0)), .unset] []))
    refine own_go (fun _ k => XS.iloadN X3.here hx rfl (hb hby d25_46) rfl <| XS.iloadN X3.here hx rfl (hb hby d25_47) rfl <| k) ?_
    show own_Ends p e below s _ _ _ (T3.setTop (mkF m 48 #[.val (.ref a1), .val (.int (Int32.ofNat (i + 1))), .val (.int (Int32.ofNat cs.length)), .val (.int (0 : Int32)), .val (.int (cs.getD i 0)), .unset] [(.int (Int32.ofNat cs.length)), (.int (Int32.ofNat (i + 1)))]))
    by_cases hc48_5 : (Int32.ofNat (i + 1)) < (Int32.ofNat cs.length)
    · -- true
      refine own_go (fun _ k => XS.icmpNo X3.here hx rfl (hb hby d25_48) rfl (tlt hc48_5).2.1 <| XS.iloadN X3.here hx rfl (hb hby d25_51) rfl <| XS.ifYes X3.here hx rfl (pc0 := 52) (pc' := 60) rfl (hb hby d25_52) rfl ((if0 _ _).trans (teq (by decide)).1) (by decide) (by decide) <| k) ?_
      show own_Ends p e below s _ _ _ (T3.setTop (mkF m 60 #[.val (.ref a1), .val (.int (Int32.ofNat (i + 1))), .val (.int (Int32.ofNat cs.length)), .val (.int (0 : Int32)), .val (.int (cs.getD i 0)), .unset] []))
      refine own_go (fun _ k => XS.aloadN X3.here hx rfl (hb hby d25_60) rfl rfl <| XS.iloadN X3.here hx rfl (hb hby d25_61) rfl <| k) ?_
      show own_Ends p e below s _ _ _ (T3.setTop (mkF m 62 #[.val (.ref a1), .val (.int (Int32.ofNat (i + 1))), .val (.int (Int32.ofNat cs.length)), .val (.int (0 : Int32)), .val (.int (cs.getD i 0)), .unset] [(.int (Int32.ofNat (i + 1))), (.ref a1)]))
      obtain ⟨_, _, ⟨T6, L6, k6, n6⟩, -, X6, ⟨Lc6, hQ6, l6, y6, z6⟩, st6⟩ := Jvm.LawKit.callS X3 hx (y := (⟨"java/lang/StringUTF16", "getChar", "([BI)C"⟩ : MethodName)) hown (mvT hZ (hw _ (List.mem_of_getElem? (i := 82) rfl))) (mvT hZ (hw _ (List.mem_of_getElem? (i := 83) rfl))) (mvT hZ (hw _ (List.mem_of_getElem? (i := 61) rfl))) (mvT hZ (hw _ (List.mem_of_getElem? (i := 84) rfl))) (by decide) (backOf (W := 0) (rm18 l Z a0 hw [] a1 vc vf ka1 cs (i + 1) h0 n0 Z0 O0 ST hN hC ((own_ofNat_lt (by omega) (by omega)).mp hc48_5) V1) hZ (hw _ (List.mem_of_getElem? (i := 84) rfl)) (hw _ (List.mem_of_getElem? (i := 61) rfl)) (by decide) (by decide)) (g := (mkF m 62 #[.val (.ref a1), .val (.int (Int32.ofNat (i + 1))), .val (.int (Int32.ofNat cs.length)), .val (.int (0 : Int32)), .val (.int (cs.getD i 0)), .unset] [(.int (Int32.ofNat (i + 1))), (.ref a1)])) rfl (by rw [hml]; rfl) (argsL := [(.ref a1), (.int (Int32.ofNat (i + 1)))]) (rest := []) (lenOf pd_15 rfl) rfl (by show 2 * 0 + _ ≤ _; exact Nat.le_of_eq rfl) (hb hby d25_62) (fun _ _ => ⟨rfl, e3, Nat.le_of_ble_eq_true rfl, Nat.le_of_ble_eq_true rfl⟩)
      dsimp only [Pt.U, Pt.locs, Pt.cells, Pt.slots] at X6 l6 y6 z6 st6 hQ6
      subst l6 y6 z6
      obtain ⟨rfl, N6q, e6⟩ := hQ6
      have N6 := Fr.app N3 N6q
      refine own_go (fun _ k => st6 _ k) ?_
      show own_Ends p e below s _ _ _ (T6.setTop (mkF m 65 #[.val (.ref a1), .val (.int (Int32.ofNat (i + 1))), .val (.int (Int32.ofNat cs.length)), .val (.int (0 : Int32)), .val (.int (cs.getD i 0)), .unset] [(.int (cs.getD (i + 1) 0))]))
      refine own_go (fun _ k => XS.istore X6.here hx rfl (hb hby d25_65) rfl (l' := #[.val (.ref a1), .val (.int (Int32.ofNat (i + 1))), .val (.int (Int32.ofNat cs.length)), .val (.int (0 : Int32)), .val (.int (cs.getD i 0)), .val (.int (cs.getD (i + 1) 0))]) rfl <| XS.iload X6.here hx rfl (hb hby d25_67) rfl <| k) ?_
      show own_Ends p e below s _ _ _ (T6.setTop (mkF m 69 #[.val (.ref a1), .val (.int (Int32.ofNat (i + 1))), .val (.int (Int32.ofNat cs.length)), .val (.int (0 : Int32)), .val (.int (cs.getD i 0)), .val (.int (cs.getD (i + 1) 0))] [(.int (cs.getD (i + 1) 0))]))
      obtain ⟨_, _, ⟨T7, L7, k7, n7⟩, -, X7, ⟨Lc7, hQ7, l7, y7, z7⟩, st7⟩ := Jvm.LawKit.callS X6 hx (y := (⟨"java/lang/Character", "isLowSurrogate", "(C)Z"⟩ : MethodName)) hown (mvT hZ (hw _ (List.mem_of_getElem? (i := 124) rfl))) (mvT hZ (hw _ (List.mem_of_getElem? (i := 125) rfl))) (mvT hZ (hw _ (List.mem_of_getElem? (i := 114) rfl))) (mvT hZ (hw _ (List.mem_of_getElem? (i := 126) rfl))) (by decide) (backOf (W := 0) (rm28 l Z a0 hw [] (cs.getD (i + 1) 0) h0 n0 Z0) hZ (hw _ (List.mem_of_getElem? (i := 126) rfl)) (hw _ (List.mem_of_getElem? (i := 114) rfl)) (by decide) (by decide)) (g := (mkF m 69 #[.val (.ref a1), .val (.int (Int32.ofNat (i + 1))), .val (.int (Int32.ofNat cs.length)), .val (.int (0 : Int32)), .val (.int (cs.getD i 0)), .val (.int (cs.getD (i + 1) 0))] [(.int (cs.getD (i + 1) 0))])) rfl (by rw [hml]; rfl) (argsL := [(.int (cs.getD (i + 1) 0))]) (rest := []) (lenOf pd_9 rfl) rfl (by show 2 * 0 + _ ≤ _; exact Nat.le_of_eq rfl) (hb hby d25_69) (fun _ _ => ⟨rfl, e6, Nat.le_of_ble_eq_true rfl, Nat.le_of_ble_eq_true rfl⟩)
      dsimp only [Pt.U, Pt.locs, Pt.cells, Pt.slots] at X7 l7 y7 z7 st7 hQ7
      subst l7 y7 z7
      obtain ⟨rfl, N7q, e7⟩ := hQ7
      have N7 := Fr.app N6 N7q
      refine own_go (fun _ k => st7 _ k) ?_
      show own_Ends p e below s _ _ _ (T7.setTop (mkF m 72 #[.val (.ref a1), .val (.int (Int32.ofNat (i + 1))), .val (.int (Int32.ofNat cs.length)), .val (.int (0 : Int32)), .val (.int (cs.getD i 0)), .val (.int (cs.getD (i + 1) 0))] [(.int (own_l (cs.getD (i + 1) 0)))]))
      by_cases hc72_8 : (own_l (cs.getD (i + 1) 0)) = (0 : Int32)
      · -- true
        refine own_go (fun _ k => XS.ifYes X7.here hx rfl (pc0 := 72) (pc' := 83) rfl (hb hby d25_72) rfl ((if0 _ _).trans (teq hc72_8).1) (by decide) (by decide) <| XS.iload X7.here hx rfl (hb hby d25_83) rfl <| k) ?_
        show own_Ends p e below s _ _ _ (T7.setTop (mkF m 85 #[.val (.ref a1), .val (.int (Int32.ofNat (i + 1))), .val (.int (Int32.ofNat cs.length)), .val (.int (0 : Int32)), .val (.int (cs.getD i 0)), .val (.int (cs.getD (i + 1) 0))] [(.int (cs.getD i 0))]))
        exact own_ret X7 hx hrt rfl (Or.inl ⟨rfl, Or.inl rfl, _, rfl⟩) (hb hby d25_85) hlk (by rw [e7]; exact ⟨by unfold own_cp; rw [if_neg hc40_4, if_pos hc48_5, if_pos hc72_8], N7, rfl⟩) (by decide) (by decide)
      · -- false
        refine own_go (fun _ k => XS.ifNo X7.here hx rfl (hb hby d25_72) rfl ((if0 _ _).trans (feq hc72_8).1) <| XS.iload X7.here hx rfl (hb hby d25_75) rfl <| XS.iload X7.here hx rfl (hb hby d25_77) rfl <| k) ?_
        show own_Ends p e below s _ _ _ (T7.setTop (mkF m 79 #[.val (.ref a1), .val (.int (Int32.ofNat (i + 1))), .val (.int (Int32.ofNat cs.length)), .val (.int (0 : Int32)), .val (.int (cs.getD i 0)), .val (.int (cs.getD (i + 1) 0))] [(.int (cs.getD (i + 1) 0)), (.int (cs.getD i 0))]))
        obtain ⟨_, _, ⟨T9, L9, k9, n9⟩, -, X9, ⟨Lc9, hQ9, l9, y9, z9⟩, st9⟩ := Jvm.LawKit.callS X7 hx (y := (⟨"java/lang/Character", "toCodePoint", "(CC)I"⟩ : MethodName)) hown (mvT hZ (hw _ (List.mem_of_getElem? (i := 128) rfl))) (mvT hZ (hw _ (List.mem_of_getElem? (i := 129) rfl))) (mvT hZ (hw _ (List.mem_of_getElem? (i := 114) rfl))) (mvT hZ (hw _ (List.mem_of_getElem? (i := 130) rfl))) (by decide) (backOf (W := 0) (rm29 l Z a0 hw [] (cs.getD i 0) (cs.getD (i + 1) 0) h0 n0 Z0) hZ (hw _ (List.mem_of_getElem? (i := 130) rfl)) (hw _ (List.mem_of_getElem? (i := 114) rfl)) (by decide) (by decide)) (g := (mkF m 79 #[.val (.ref a1), .val (.int (Int32.ofNat (i + 1))), .val (.int (Int32.ofNat cs.length)), .val (.int (0 : Int32)), .val (.int (cs.getD i 0)), .val (.int (cs.getD (i + 1) 0))] [(.int (cs.getD (i + 1) 0)), (.int (cs.getD i 0))])) rfl (by rw [hml]; rfl) (argsL := [(.int (cs.getD i 0)), (.int (cs.getD (i + 1) 0))]) (rest := []) (lenOf pd_22 rfl) rfl (by show 2 * 0 + _ ≤ _; exact Nat.le_of_eq rfl) (hb hby d25_79) (fun _ _ => ⟨rfl, e7, Nat.le_of_ble_eq_true rfl, Nat.le_of_ble_eq_true rfl⟩)
        dsimp only [Pt.U, Pt.locs, Pt.cells, Pt.slots] at X9 l9 y9 z9 st9 hQ9
        subst l9 y9 z9
        obtain ⟨rfl, N9q, e9⟩ := hQ9
        have N9 := Fr.app N7 N9q
        refine own_go (fun _ k => st9 _ k) ?_
        show own_Ends p e below s _ _ _ (T9.setTop (mkF m 82 #[.val (.ref a1), .val (.int (Int32.ofNat (i + 1))), .val (.int (Int32.ofNat cs.length)), .val (.int (0 : Int32)), .val (.int (cs.getD i 0)), .val (.int (cs.getD (i + 1) 0))] [(.int (own_tcp (cs.getD i 0) (cs.getD (i + 1) 0)))]))
        exact own_ret X9 hx hrt rfl (Or.inl ⟨rfl, Or.inl rfl, _, rfl⟩) (hb hby d25_82) hlk (by rw [e9]; exact ⟨by unfold own_cp; rw [if_neg hc40_4, if_pos hc48_5, if_neg hc72_8], N9, rfl⟩) (by decide) (by decide)
    · -- false
      refine own_go (fun _ k => XS.icmpYes X3.here hx rfl (pc0 := 48) (pc' := 83) rfl (hb hby d25_48) rfl (flt hc48_5).2.1 (by decide) (by decide) <| XS.iload X3.here hx rfl (hb hby d25_83) rfl <| k) ?_
      show own_Ends p e below s _ _ _ (T3.setTop (mkF m 85 #[.val (.ref a1), .val (.int (Int32.ofNat (i + 1))), .val (.int (Int32.ofNat cs.length)), .val (.int (0 : Int32)), .val (.int (cs.getD i 0)), .unset] [(.int (cs.getD i 0))]))
      exact own_ret X3 hx hrt rfl (Or.inl ⟨rfl, Or.inl rfl, _, rfl⟩) (hb hby d25_85) hlk (by rw [e3]; exact ⟨by unfold own_cp; rw [if_neg hc40_4, if_neg hc48_5], N3, rfl⟩) (by decide) (by decide)
theorem d24_0 : decode jdk_52_method_8_code 0 = .ok (.aload_n 0, 1) := by decide +kernel
theorem d24_1 : decode jdk_52_method_8_code 1 = .ok (.iload_n 1, 1) := by decide +kernel
theorem d24_2 : decode jdk_52_method_8_code 2 = .ok (.iload_n 2, 1) := by decide +kernel
theorem d24_3 : decode jdk_52_method_8_code 3 = .ok (.iconst 0, 1) := by decide +kernel
theorem d24_4 : decode jdk_52_method_8_code 4 = .ok (.invokestatic 88, 3) := by decide +kernel
theorem d24_7 : decode jdk_52_method_8_code 7 = .ok (.ireturn, 1) := by decide +kernel
theorem ef_24 (m : MethodId) (x0 : Addr) (x1 : Int32) (x2 : Int32) : entryFrame m #[(.ref x0), (.int x1), (.int x2)] 3 = mkF m 0 #[.val (.ref x0), .val (.int x1), .val (.int x2)] [] := by first | (simp [entryFrame, mkF, argsToLocals, Value.category]; done) | rfl
def Q24 (a1 : Addr) (vc : Int32) (vf : Value) (ka1 : ClassId) (cs : List Int32) (i : Nat) (h0 : Heap) (n0 : Nat) (Z : State) (v : Option Value) (h : Heap) (L : List Loc) : Prop := v = some (.int (own_cp cs i)) ∧ Fr n0 L ∧ h = h0
set_option maxRecDepth 65536 in
set_option maxHeartbeats 40000000 in
theorem rm24 (l : Launch) (Z : State) (a0 : Array Value) (hw : ∀ d ∈ tables_1, d.before a0 Z = true) (ws : List Jvm.Cond) (a1 : Addr) (vc : Int32) (vf : Value) (ka1 : ClassId) (cs : List Int32) (i : Nat) (h0 : Heap) (n0 : Nat) (Z0 : n0 ≤ h0.size) (O0 : Old Z n0 h0) (ST : own_St Z vc vf) (hN : cs.length ≤ 4) (hC : own_Ch cs) (hi : i < cs.length) (V1 : Arv Z h0 a1 ka1 .byte (Int32.ofNat (2 * cs.length)) (cs.flatMap own_lh) (.int (0 : Int32))) :
    MetFree l (⟨"java/lang/StringUTF16", "codePointAt", "([BII)I"⟩ : MethodName) (head1 (Jvm.Cond.code (⟨"java/lang/StringUTF16", "codePointAt", "([BII)I"⟩ : MethodName) jdk_52_method_8_code 3 (some .int) :: ws) ({ frames := 2, cells := 0, slots := 0, locals := 36 } : Room)) (fun a U => a = #[(.ref a1), (.int (Int32.ofNat i)), (.int (Int32.ofNat cs.length))] ∧ Z.Warmed39 U.vm ∧ U.heap = h0) (fun _ _ _ _ _ => True) (fun _ U o U' => ∃ v L, o = .returned v ∧ Q24 a1 vc vf ka1 cs i h0 n0 Z v U'.heap L ∧ FrameEnd U o U' L ({ frames := 2, cells := 0, slots := 0, locals := 36 } : Room).cells ({ frames := 2, cells := 0, slots := 0, locals := 36 } : Room).slots) := by
  refine MetFree.of_bodySF (plainFor_of_name pn_0) hisR ?_
  intro p e s m args below meth c s₁ Bd hml0 hP hK
  obtain ⟨rfl, hZ, hh⟩ := hP
  have hx := Bd.exec
  have hby := Bd.bytes
  have hml : c.maxLocals = 3 := hml0
  have hown : s.vm.findClass "java/lang/StringUTF16" = some m.cls := findClass_of_methodNamed Bd.named
  have hnm := (name_of_methodNamed Bd.named Bd.method).1
  have hlk := Bd.notSynchronized
  have hrt := Bd.returns
  have X0 : Stand p l e ({ frames := 2, cells := 0, slots := 0, locals := 36 } : Room) s m #[(.ref a1), (.int (Int32.ofNat i)), (.int (Int32.ofNat cs.length))] below meth c s₁ [] 0 0 := Stand.of_body Bd
  have e0 : s₁.heap = h0 := by rw [← hh, Bd.state]; rfl
  have N0 := Fr.nil n0
  show own_Ends p e below s (Q24 a1 vc vf ka1 cs i h0 n0 Z) ({ frames := 2, cells := 0, slots := 0, locals := 36 } : Room).cells ({ frames := 2, cells := 0, slots := 0, locals := 36 } : Room).slots (s₁.setTop (entryFrame m #[(.ref a1), (.int (Int32.ofNat i)), (.int (Int32.ofNat cs.length))] 3))
  rw [ef_24]
  obtain ⟨HVC, SCS, SAD, SHI, SLO, SIO, HVF⟩ := id ST
  refine own_go (fun _ k => XS.aloadN X0.here hx rfl (hb hby d24_0) rfl rfl <| XS.iloadN X0.here hx rfl (hb hby d24_1) rfl <| XS.iloadN X0.here hx rfl (hb hby d24_2) rfl <| XT.iconstV X0.here hx rfl (0 : Int32) (hb hby d24_3) rfl <| k) ?_
  show own_Ends p e below s _ _ _ (s₁.setTop (mkF m 4 #[.val (.ref a1), .val (.int (Int32.ofNat i)), .val (.int (Int32.ofNat cs.length))] [(.int (0 : Int32)), (.int (Int32.ofNat cs.length)), (.int (Int32.ofNat i)), (.ref a1)]))
  obtain ⟨_, _, ⟨T1, L1, k1, n1⟩, -, X1, ⟨Lc1, hQ1, l1, y1, z1⟩, st1⟩ := Jvm.LawKit.callS X0 hx (y := (⟨"java/lang/StringUTF16", "codePointAt", "([BIIZ)I"⟩ : MethodName)) hown (mvT hZ (hw _ (List.mem_of_getElem? (i := 109) rfl))) (mvT hZ (hw _ (List.mem_of_getElem? (i := 110) rfl))) (mvT hZ (hw _ (List.mem_of_getElem? (i := 61) rfl))) (mvT hZ (hw _ (List.mem_of_getElem? (i := 111) rfl))) (by decide) (backOf (W := 0) (rm25 l Z a0 hw [] a1 vc vf ka1 cs i h0 n0 Z0 O0 ST hN hC hi V1) hZ (hw _ (List.mem_of_getElem? (i := 111) rfl)) (hw _ (List.mem_of_getElem? (i := 61) rfl)) (by decide) (by decide)) (g := (mkF m 4 #[.val (.ref a1), .val (.int (Int32.ofNat i)), .val (.int (Int32.ofNat cs.length))] [(.int (0 : Int32)), (.int (Int32.ofNat cs.length)), (.int (Int32.ofNat i)), (.ref a1)])) rfl (by rw [hml]; rfl) (argsL := [(.ref a1), (.int (Int32.ofNat i)), (.int (Int32.ofNat cs.length)), (.int (0 : Int32))]) (rest := []) (lenOf pd_21 rfl) rfl (by show 2 * 0 + _ ≤ _; exact Nat.le_of_eq rfl) (hb hby d24_4) (fun _ _ => ⟨rfl, e0, Nat.le_of_ble_eq_true rfl, Nat.le_of_ble_eq_true rfl⟩)
  dsimp only [Pt.U, Pt.locs, Pt.cells, Pt.slots] at X1 l1 y1 z1 st1 hQ1
  subst l1 y1 z1
  obtain ⟨rfl, N1q, e1⟩ := hQ1
  have N1 := Fr.app N0 N1q
  refine own_go (fun _ k => st1 _ k) ?_
  show own_Ends p e below s _ _ _ (T1.setTop (mkF m 7 #[.val (.ref a1), .val (.int (Int32.ofNat i)), .val (.int (Int32.ofNat cs.length))] [(.int (own_cp cs i))]))
  exact own_ret X1 hx hrt rfl (Or.inl ⟨rfl, Or.inl rfl, _, rfl⟩) (hb hby d24_7) hlk (by rw [e1]; exact ⟨rfl, N1, rfl⟩) (by decide) (by decide)
theorem d20_0 : decode jdk_42_method_57_code 0 = .ok (.aload_n 0, 1) := by decide +kernel
theorem d20_1 : decode jdk_42_method_57_code 1 = .ok (.invokevirtual 492, 3) := by decide +kernel
theorem d20_4 : decode jdk_42_method_57_code 4 = .ok (.ifCond .eq 23, 3) := by decide +kernel
theorem d20_7 : decode jdk_42_method_57_code 7 = .ok (.iload_n 1, 1) := by decide +kernel
theorem d20_8 : decode jdk_42_method_57_code 8 = .ok (.aload_n 0, 1) := by decide +kernel
theorem d20_9 : decode jdk_42_method_57_code 9 = .ok (.getfield 9, 3) := by decide +kernel
theorem d20_12 : decode jdk_42_method_57_code 12 = .ok (.arraylength, 1) := by decide +kernel
theorem d20_13 : decode jdk_42_method_57_code 13 = .ok (.invokestatic 499, 3) := by decide +kernel
theorem d20_16 : decode jdk_42_method_57_code 16 = .ok (.aload_n 0, 1) := by decide +kernel
theorem d20_17 : decode jdk_42_method_57_code 17 = .ok (.getfield 9, 3) := by decide +kernel
theorem d20_20 : decode jdk_42_method_57_code 20 = .ok (.iload_n 1, 1) := by decide +kernel
theorem d20_21 : decode jdk_42_method_57_code 21 = .ok (.baload, 1) := by decide +kernel
theorem d20_22 : decode jdk_42_method_57_code 22 = .ok (.sipush 255, 3) := by decide +kernel
theorem d20_25 : decode jdk_42_method_57_code 25 = .ok (.iand, 1) := by decide +kernel
theorem d20_26 : decode jdk_42_method_57_code 26 = .ok (.ireturn, 1) := by decide +kernel
theorem d20_27 : decode jdk_42_method_57_code 27 = .ok (.aload_n 0, 1) := by decide +kernel
theorem d20_28 : decode jdk_42_method_57_code 28 = .ok (.getfield 9, 3) := by decide +kernel
theorem d20_31 : decode jdk_42_method_57_code 31 = .ok (.arraylength, 1) := by decide +kernel
theorem d20_32 : decode jdk_42_method_57_code 32 = .ok (.iconst 1, 1) := by decide +kernel
theorem d20_33 : decode jdk_42_method_57_code 33 = .ok (.ishr, 1) := by decide +kernel
theorem d20_34 : decode jdk_42_method_57_code 34 = .ok (.istore_n 2, 1) := by decide +kernel
theorem d20_35 : decode jdk_42_method_57_code 35 = .ok (.iload_n 1, 1) := by decide +kernel
theorem d20_36 : decode jdk_42_method_57_code 36 = .ok (.iload_n 2, 1) := by decide +kernel
theorem d20_37 : decode jdk_42_method_57_code 37 = .ok (.invokestatic 499, 3) := by decide +kernel
theorem d20_40 : decode jdk_42_method_57_code 40 = .ok (.aload_n 0, 1) := by decide +kernel
theorem d20_41 : decode jdk_42_method_57_code 41 = .ok (.getfield 9, 3) := by decide +kernel
theorem d20_44 : decode jdk_42_method_57_code 44 = .ok (.iload_n 1, 1) := by decide +kernel
theorem d20_45 : decode jdk_42_method_57_code 45 = .ok (.iload_n 2, 1) := by decide +kernel
theorem d20_46 : decode jdk_42_method_57_code 46 = .ok (.invokestatic 502, 3) := by decide +kernel
theorem d20_49 : decode jdk_42_method_57_code 49 = .ok (.ireturn, 1) := by decide +kernel
theorem ef_20 (m : MethodId) (x0 : Addr) (x1 : Int32) : entryFrame m #[(.ref x0), (.int x1)] 3 = mkF m 0 #[.val (.ref x0), .val (.int x1), .unset] [] := by first | (simp [entryFrame, mkF, argsToLocals, Value.category]; done) | rfl
def Q20 (a1 : Addr) (vc : Int32) (vf : Value) (b : Addr) (kb : ClassId) (kc : Int32) (cs : List Int32) (i : Nat) (h0 : Heap) (n0 : Nat) (Z : State) (v : Option Value) (h : Heap) (L : List Loc) : Prop := v = some (.int (own_cp cs i)) ∧ Fr n0 L ∧ h = h0
set_option maxRecDepth 65536 in
set_option maxHeartbeats 40000000 in
theorem rm20 (l : Launch) (Z : State) (a0 : Array Value) (hw : ∀ d ∈ tables_1, d.before a0 Z = true) (ws : List Jvm.Cond) (a1 : Addr) (vc : Int32) (vf : Value) (b : Addr) (kb : ClassId) (kc : Int32) (cs : List Int32) (i : Nat) (h0 : Heap) (n0 : Nat) (Z0 : n0 ≤ h0.size) (O0 : Old Z n0 h0) (ST : own_St Z vc vf) (hN : cs.length ≤ 4) (hC : own_Ch cs) (hi : i < cs.length) (E_a1 : Exa Z h0 a1 "java/lang/String") (Fv_a1 : Fld Z h0 a1 "java/lang/String" "value" "[B" (.ref b)) (Fc_a1 : Fld Z h0 a1 "java/lang/String" "coder" "B" (.int kc)) (V_a1 : Arv Z h0 b kb .byte (own_zz kc (cs).length) (own_vs kc cs) (.int (0 : Int32))) (hk_a1 : own_KC kc cs) :
    MetFree l (⟨"java/lang/String", "codePointAt", "(I)I"⟩ : MethodName) (head1 (Jvm.Cond.code (⟨"java/lang/String", "codePointAt", "(I)I"⟩ : MethodName) jdk_42_method_57_code 3 (some .int) :: ws) ({ frames := 3, cells := 0, slots := 0, locals := 52 } : Room)) (fun a U => a = #[(.ref a1), (.int (Int32.ofNat i))] ∧ Z.Warmed39 U.vm ∧ U.heap = h0) (fun _ _ _ _ _ => True) (fun _ U o U' => ∃ v L, o = .returned v ∧ Q20 a1 vc vf b kb kc cs i h0 n0 Z v U'.heap L ∧ FrameEnd U o U' L ({ frames := 3, cells := 0, slots := 0, locals := 52 } : Room).cells ({ frames := 3, cells := 0, slots := 0, locals := 52 } : Room).slots) := by
  refine MetFree.of_bodySF (plainFor_of_name pn_1) hisR ?_
  intro p e s m args below meth c s₁ Bd hml0 hP hK
  obtain ⟨rfl, hZ, hh⟩ := hP
  have hx := Bd.exec
  have hby := Bd.bytes
  have hml : c.maxLocals = 3 := hml0
  have hown : s.vm.findClass "java/lang/String" = some m.cls := findClass_of_methodNamed Bd.named
  have hnm := (name_of_methodNamed Bd.named Bd.method).1
  have hlk := Bd.notSynchronized
  have hrt := Bd.returns
  have X0 : Stand p l e ({ frames := 3, cells := 0, slots := 0, locals := 52 } : Room) s m #[(.ref a1), (.int (Int32.ofNat i))] below meth c s₁ [] 0 0 := Stand.of_body Bd
  have e0 : s₁.heap = h0 := by rw [← hh, Bd.state]; rfl
  have N0 := Fr.nil n0
  show own_Ends p e below s (Q20 a1 vc vf b kb kc cs i h0 n0 Z) ({ frames := 3, cells := 0, slots := 0, locals := 52 } : Room).cells ({ frames := 3, cells := 0, slots := 0, locals := 52 } : Room).slots (s₁.setTop (entryFrame m #[(.ref a1), (.int (Int32.ofNat i))] 3))
  rw [ef_20]
  obtain ⟨HVC, SCS, SAD, SHI, SLO, SIO, HVF⟩ := id ST
  rcases id hk_a1 with ⟨rfl, hlo⟩ | rfl
  ·
    rw [own_zz_0, own_vs_0] at V_a1
    refine own_go (fun _ k => XS.aloadN X0.here hx rfl (hb hby d20_0) rfl rfl <| k) ?_
    show own_Ends p e below s _ _ _ (s₁.setTop (mkF m 1 #[.val (.ref a1), .val (.int (Int32.ofNat i)), .unset] [(.ref a1)]))
    obtain ⟨cq1, kq1, q1a, q1b, q1c⟩ := isOf hZ e0 E_a1
    obtain ⟨_, _, ⟨T1, L1, k1, n1⟩, -, X1, ⟨Lc1, hQ1, l1, y1, z1⟩, st1⟩ := X0.virtualBack hx (y := (⟨"java/lang/String", "isLatin1", "()Z"⟩ : MethodName)) (z := (⟨"java/lang/String", "isLatin1", "()Z"⟩ : MethodName)) hown (mvT hZ (hw _ (List.mem_of_getElem? (i := 93) rfl))) (mvT hZ (hw _ (List.mem_of_getElem? (i := 94) rfl))) (notFace_of_selects (args := #[]) (mvT hZ (hw _ (List.mem_of_getElem? (i := 96) rfl)))) (mvT hZ (hw _ (List.mem_of_getElem? (i := 96) rfl))) (mvT hZ (hw _ (List.mem_of_getElem? (i := 95) rfl))) (by decide) (backOf (W := 0) (rm21 l Z a0 hw [] a1 vc vf (0 : Int32) h0 n0 Z0 O0 ST Fc_a1) hZ (hw _ (List.mem_of_getElem? (i := 97) rfl)) (hw _ (List.mem_of_getElem? (i := 17) rfl)) (by decide) (by decide)) q1a q1c (g := (mkF m 1 #[.val (.ref a1), .val (.int (Int32.ofNat i)), .unset] [(.ref a1)])) rfl (by rw [hml]; rfl) (Steps.refl _) (argsL := []) (rest := []) (lenOf pd_17 rfl) rfl (by show 2 * 0 + _ ≤ _; exact Nat.le_of_eq rfl) (hb hby d20_1) (fun _ _ => ⟨rfl, e0, Nat.le_of_ble_eq_true rfl, Nat.le_of_ble_eq_true rfl⟩)
    dsimp only [Pt.U, Pt.locs, Pt.cells, Pt.slots] at X1 l1 y1 z1 st1 hQ1
    subst l1 y1 z1
    obtain ⟨rfl, N1q, e1⟩ := hQ1
    have N1 := Fr.app N0 N1q
    refine own_go (fun _ k => st1.trans k) ?_
    show own_Ends p e below s _ _ _ (T1.setTop (mkF m 4 #[.val (.ref a1), .val (.int (Int32.ofNat i)), .unset] [(.int (own_isl (0 : Int32)))]))
    refine own_go (fun _ k => XS.ifNo X1.here hx rfl (hb hby d20_4) rfl ((if0 _ _).trans (feq (by decide)).1) <| XS.iloadN X1.here hx rfl (hb hby d20_7) rfl <| XS.aloadN X1.here hx rfl (hb hby d20_8) rfl rfl <| k) ?_
    show own_Ends p e below s _ _ _ (T1.setTop (mkF m 9 #[.val (.ref a1), .val (.int (Int32.ofNat i)), .unset] [(.ref a1), (.int (Int32.ofNat i))]))
    obtain ⟨T2, X2, e2, st2⟩ := getF X1 hx hZ hown (host := "") (Or.inl (hw _ (List.mem_of_getElem? (i := 34) rfl))) Via.refl e1 Fv_a1 (g := (mkF m 9 #[.val (.ref a1), .val (.int (Int32.ofNat i)), .unset] [(.ref a1), (.int (Int32.ofNat i))])) rfl rfl (hb hby d20_9)
    refine own_go st2 ?_
    show own_Ends p e below s _ _ _ (T2.setTop (mkF m 12 #[.val (.ref a1), .val (.int (Int32.ofNat i)), .unset] [(.ref b), (.int (Int32.ofNat i))]))
    obtain ⟨clb_12_3, Arb_12_3, qqb_12_3, Szb_12_3, Ngb_12_3, Hsb_12_3, Gfb_12_3⟩ := id V_a1
    refine own_go (fun _ k => X2.arraylength hx (by first | exact Arb_12_3.1 | (rw [e2]; exact Arb_12_3.1)) (State.isArrayOf_alike hZ.alike Arb_12_3.2.1) (g := (mkF m 12 #[.val (.ref a1), .val (.int (Int32.ofNat i)), .unset] [(.ref b), (.int (Int32.ofNat i))])) rfl rfl (hb hby d20_12) _ k) ?_
    rw [len_of Szb_12_3 Ngb_12_3]
    show own_Ends p e below s _ _ _ (T2.setTop (mkF m 13 #[.val (.ref a1), .val (.int (Int32.ofNat i)), .unset] [(.int (Int32.ofNat cs.length)), (.int (Int32.ofNat i))]))
    obtain ⟨_, _, ⟨T4, L4, k4, n4⟩, -, X4, ⟨Lc4, hQ4, l4, y4, z4⟩, st4⟩ := Jvm.LawKit.callS X2 hx (y := (⟨"java/lang/String", "checkIndex", "(II)V"⟩ : MethodName)) hown (mvT hZ (hw _ (List.mem_of_getElem? (i := 98) rfl))) (mvT hZ (hw _ (List.mem_of_getElem? (i := 99) rfl))) (mvT hZ (hw _ (List.mem_of_getElem? (i := 17) rfl))) (mvT hZ (hw _ (List.mem_of_getElem? (i := 100) rfl))) (by decide) (backOf (W := 0) (rm22 l Z a0 hw [] (Int32.ofNat i) (Int32.ofNat cs.length) vc vf h0 n0 Z0 O0 ST (own_nneg (by omega)) ((own_ofNat_lt (by omega) (by omega)).mpr hi)) hZ (hw _ (List.mem_of_getElem? (i := 100) rfl)) (hw _ (List.mem_of_getElem? (i := 17) rfl)) (by decide) (by decide)) (g := (mkF m 13 #[.val (.ref a1), .val (.int (Int32.ofNat i)), .unset] [(.int (Int32.ofNat cs.length)), (.int (Int32.ofNat i))])) rfl (by rw [hml]; rfl) (argsL := [(.int (Int32.ofNat i)), (.int (Int32.ofNat cs.length))]) (rest := []) (lenOf pd_18 rfl) rfl (by show 2 * 0 + _ ≤ _; exact Nat.le_of_eq rfl) (hb hby d20_13) (fun _ _ => ⟨rfl, e2, Nat.le_of_ble_eq_true rfl, Nat.le_of_ble_eq_true rfl⟩)
    dsimp only [Pt.U, Pt.locs, Pt.cells, Pt.slots] at X4 l4 y4 z4 st4 hQ4
    subst l4 y4 z4
    obtain ⟨rfl, N4q, e4⟩ := hQ4
    have N4 := Fr.app N1 N4q
    refine own_go (fun _ k => st4 _ k) ?_
    show own_Ends p e below s _ _ _ (T4.setTop (mkF m 16 #[.val (.ref a1), .val (.int (Int32.ofNat i)), .unset] []))
    refine own_go (fun _ k => XS.aloadN X4.here hx rfl (hb hby d20_16) rfl rfl <| k) ?_
    show own_Ends p e below s _ _ _ (T4.setTop (mkF m 17 #[.val (.ref a1), .val (.int (Int32.ofNat i)), .unset] [(.ref a1)]))
    obtain ⟨T5, X5, e5, st5⟩ := getF X4 hx hZ hown (host := "") (Or.inl (hw _ (List.mem_of_getElem? (i := 34) rfl))) Via.refl e4 Fv_a1 (g := (mkF m 17 #[.val (.ref a1), .val (.int (Int32.ofNat i)), .unset] [(.ref a1)])) rfl rfl (hb hby d20_17)
    refine own_go st5 ?_
    show own_Ends p e below s _ _ _ (T5.setTop (mkF m 20 #[.val (.ref a1), .val (.int (Int32.ofNat i)), .unset] [(.ref b)]))
    refine own_go (fun _ k => XS.iloadN X5.here hx rfl (hb hby d20_20) rfl <| k) ?_
    show own_Ends p e below s _ _ _ (T5.setTop (mkF m 21 #[.val (.ref a1), .val (.int (Int32.ofNat i)), .unset] [(.int (Int32.ofNat i)), (.ref b)]))
    obtain ⟨clb_21_6, Arb_21_6, qqb_21_6, Szb_21_6, Ngb_21_6, Hsb_21_6, Gfb_21_6⟩ := id V_a1
    have hinb_21_6 : ¬ ((Int32.ofNat i) < 0 ∨ clb_21_6.slots.size ≤ ((Int32.ofNat i)).toNatClampNeg) := inb_of Szb_21_6 ⟨own_nneg (by omega), (own_ofNat_lt (by omega) (by omega)).mpr hi⟩
    have hatb_21_6 : clb_21_6.slots[((Int32.ofNat i)).toNatClampNeg]? = some (.int (own_laI (cs.getD i 0))) := Hsb_21_6.at hinb_21_6 (by rw [own_clamp (by omega)]; exact own_la cs hi)
    refine own_go (fun _ k => X5.baloadBytes hx (j := (Int32.ofNat i)) (v := (.int (own_laI (cs.getD i 0)))) (by first | exact Arb_21_6.1 | (rw [e5]; exact Arb_21_6.1)) (State.isArrayOf_alike hZ.alike Arb_21_6.2.1) Arb_21_6.2.2 hinb_21_6 hatb_21_6 (g := (mkF m 21 #[.val (.ref a1), .val (.int (Int32.ofNat i)), .unset] [(.int (Int32.ofNat i)), (.ref b)])) rfl rfl (hb hby d20_21) _ k) ?_
    show own_Ends p e below s _ _ _ (T5.setTop (mkF m 22 #[.val (.ref a1), .val (.int (Int32.ofNat i)), .unset] [(.int (own_laI (cs.getD i 0)))]))
    refine own_go (fun _ k => XT.sipushV X5.here hx rfl (255 : Int32) (hb hby d20_22) rfl <| XS.iand X5.here hx rfl (hb hby d20_25) rfl <| k) ?_
    show own_Ends p e below s _ _ _ (T5.setTop (mkF m 26 #[.val (.ref a1), .val (.int (Int32.ofNat i)), .unset] [(.int ((own_laI (cs.getD i 0)) &&& (255 : Int32)))]))
    exact own_ret X5 hx hrt rfl (Or.inl ⟨rfl, Or.inl rfl, _, rfl⟩) (hb hby d20_26) hlk (by rw [e5]; exact ⟨by rw [own_lat2 (hC _ (own_mem hi)) (hlo _ (own_mem hi))]; unfold own_cp; rw [if_pos (own_lath (hlo _ (own_mem hi)))], N4, rfl⟩) (by decide) (by decide)
  ·
    rw [own_zz_1, own_vs_1] at V_a1
    refine own_go (fun _ k => XS.aloadN X0.here hx rfl (hb hby d20_0) rfl rfl <| k) ?_
    show own_Ends p e below s _ _ _ (s₁.setTop (mkF m 1 #[.val (.ref a1), .val (.int (Int32.ofNat i)), .unset] [(.ref a1)]))
    obtain ⟨cq7, kq7, q7a, q7b, q7c⟩ := isOf hZ e0 E_a1
    obtain ⟨_, _, ⟨T7, L7, k7, n7⟩, -, X7, ⟨Lc7, hQ7, l7, y7, z7⟩, st7⟩ := X0.virtualBack hx (y := (⟨"java/lang/String", "isLatin1", "()Z"⟩ : MethodName)) (z := (⟨"java/lang/String", "isLatin1", "()Z"⟩ : MethodName)) hown (mvT hZ (hw _ (List.mem_of_getElem? (i := 93) rfl))) (mvT hZ (hw _ (List.mem_of_getElem? (i := 94) rfl))) (notFace_of_selects (args := #[]) (mvT hZ (hw _ (List.mem_of_getElem? (i := 96) rfl)))) (mvT hZ (hw _ (List.mem_of_getElem? (i := 96) rfl))) (mvT hZ (hw _ (List.mem_of_getElem? (i := 95) rfl))) (by decide) (backOf (W := 0) (rm21 l Z a0 hw [] a1 vc vf (1 : Int32) h0 n0 Z0 O0 ST Fc_a1) hZ (hw _ (List.mem_of_getElem? (i := 97) rfl)) (hw _ (List.mem_of_getElem? (i := 17) rfl)) (by decide) (by decide)) q7a q7c (g := (mkF m 1 #[.val (.ref a1), .val (.int (Int32.ofNat i)), .unset] [(.ref a1)])) rfl (by rw [hml]; rfl) (Steps.refl _) (argsL := []) (rest := []) (lenOf pd_17 rfl) rfl (by show 2 * 0 + _ ≤ _; exact Nat.le_of_eq rfl) (hb hby d20_1) (fun _ _ => ⟨rfl, e0, Nat.le_of_ble_eq_true rfl, Nat.le_of_ble_eq_true rfl⟩)
    dsimp only [Pt.U, Pt.locs, Pt.cells, Pt.slots] at X7 l7 y7 z7 st7 hQ7
    subst l7 y7 z7
    obtain ⟨rfl, N7q, e7⟩ := hQ7
    have N7 := Fr.app N0 N7q
    refine own_go (fun _ k => st7.trans k) ?_
    show own_Ends p e below s _ _ _ (T7.setTop (mkF m 4 #[.val (.ref a1), .val (.int (Int32.ofNat i)), .unset] [(.int (own_isl (1 : Int32)))]))
    refine own_go (fun _ k => XS.ifYes X7.here hx rfl (pc0 := 4) (pc' := 27) rfl (hb hby d20_4) rfl ((if0 _ _).trans (teq (by decide)).1) (by decide) (by decide) <| XS.aloadN X7.here hx rfl (hb hby d20_27) rfl rfl <| k) ?_
    show own_Ends p e below s _ _ _ (T7.setTop (mkF m 28 #[.val (.ref a1), .val (.int (Int32.ofNat i)), .unset] [(.ref a1)]))
    obtain ⟨T8, X8, e8, st8⟩ := getF X7 hx hZ hown (host := "") (Or.inl (hw _ (List.mem_of_getElem? (i := 34) rfl))) Via.refl e7 Fv_a1 (g := (mkF m 28 #[.val (.ref a1), .val (.int (Int32.ofNat i)), .unset] [(.ref a1)])) rfl rfl (hb hby d20_28)
    refine own_go st8 ?_
    show own_Ends p e below s _ _ _ (T8.setTop (mkF m 31 #[.val (.ref a1), .val (.int (Int32.ofNat i)), .unset] [(.ref b)]))
    obtain ⟨clb_31_9, Arb_31_9, qqb_31_9, Szb_31_9, Ngb_31_9, Hsb_31_9, Gfb_31_9⟩ := id V_a1
    refine own_go (fun _ k => X8.arraylength hx (by first | exact Arb_31_9.1 | (rw [e8]; exact Arb_31_9.1)) (State.isArrayOf_alike hZ.alike Arb_31_9.2.1) (g := (mkF m 31 #[.val (.ref a1), .val (.int (Int32.ofNat i)), .unset] [(.ref b)])) rfl rfl (hb hby d20_31) _ k) ?_
    rw [len_of Szb_31_9 Ngb_31_9]
    show own_Ends p e below s _ _ _ (T8.setTop (mkF m 32 #[.val (.ref a1), .val (.int (Int32.ofNat i)), .unset] [(.int (Int32.ofNat (2 * cs.length)))]))
    refine own_go (fun _ k => XT.iconstV X8.here hx rfl (1 : Int32) (hb hby d20_32) rfl <| XS.ishr X8.here hx rfl (hb hby d20_33) rfl <| k) ?_
    show own_Ends p e below s _ _ _ (T8.setTop (mkF m 34 #[.val (.ref a1), .val (.int (Int32.ofNat i)), .unset] [(.int ((Int32.ofNat (2 * cs.length)) >>> ((1 : Int32) &&& 31)))]))
    rw [own_h2 (by omega)]
    show own_Ends p e below s _ _ _ (T8.setTop (mkF m 34 #[.val (.ref a1), .val (.int (Int32.ofNat i)), .unset] [(.int (Int32.ofNat cs.length))]))
    refine own_go (fun _ k => XS.istoreN X8.here hx rfl (hb hby d20_34) rfl (l' := #[.val (.ref a1), .val (.int (Int32.ofNat i)), .val (.int (Int32.ofNat cs.length))]) rfl <| XS.iloadN X8.here hx rfl (hb hby d20_35) rfl <| XS.iloadN X8.here hx rfl (hb hby d20_36) rfl <| k) ?_
    show own_Ends p e below s _ _ _ (T8.setTop (mkF m 37 #[.val (.ref a1), .val (.int (Int32.ofNat i)), .val (.int (Int32.ofNat cs.length))] [(.int (Int32.ofNat cs.length)), (.int (Int32.ofNat i))]))
    obtain ⟨_, _, ⟨T10, L10, k10, n10⟩, -, X10, ⟨Lc10, hQ10, l10, y10, z10⟩, st10⟩ := Jvm.LawKit.callS X8 hx (y := (⟨"java/lang/String", "checkIndex", "(II)V"⟩ : MethodName)) hown (mvT hZ (hw _ (List.mem_of_getElem? (i := 98) rfl))) (mvT hZ (hw _ (List.mem_of_getElem? (i := 99) rfl))) (mvT hZ (hw _ (List.mem_of_getElem? (i := 17) rfl))) (mvT hZ (hw _ (List.mem_of_getElem? (i := 100) rfl))) (by decide) (backOf (W := 0) (rm22 l Z a0 hw [] (Int32.ofNat i) (Int32.ofNat cs.length) vc vf h0 n0 Z0 O0 ST (own_nneg (by omega)) ((own_ofNat_lt (by omega) (by omega)).mpr hi)) hZ (hw _ (List.mem_of_getElem? (i := 100) rfl)) (hw _ (List.mem_of_getElem? (i := 17) rfl)) (by decide) (by decide)) (g := (mkF m 37 #[.val (.ref a1), .val (.int (Int32.ofNat i)), .val (.int (Int32.ofNat cs.length))] [(.int (Int32.ofNat cs.length)), (.int (Int32.ofNat i))])) rfl (by rw [hml]; rfl) (argsL := [(.int (Int32.ofNat i)), (.int (Int32.ofNat cs.length))]) (rest := []) (lenOf pd_18 rfl) rfl (by show 2 * 0 + _ ≤ _; exact Nat.le_of_eq rfl) (hb hby d20_37) (fun _ _ => ⟨rfl, e8, Nat.le_of_ble_eq_true rfl, Nat.le_of_ble_eq_true rfl⟩)
    dsimp only [Pt.U, Pt.locs, Pt.cells, Pt.slots] at X10 l10 y10 z10 st10 hQ10
    subst l10 y10 z10
    obtain ⟨rfl, N10q, e10⟩ := hQ10
    have N10 := Fr.app N7 N10q
    refine own_go (fun _ k => st10 _ k) ?_
    show own_Ends p e below s _ _ _ (T10.setTop (mkF m 40 #[.val (.ref a1), .val (.int (Int32.ofNat i)), .val (.int (Int32.ofNat cs.length))] []))
    refine own_go (fun _ k => XS.aloadN X10.here hx rfl (hb hby d20_40) rfl rfl <| k) ?_
    show own_Ends p e below s _ _ _ (T10.setTop (mkF m 41 #[.val (.ref a1), .val (.int (Int32.ofNat i)), .val (.int (Int32.ofNat cs.length))] [(.ref a1)]))
    obtain ⟨T11, X11, e11, st11⟩ := getF X10 hx hZ hown (host := "") (Or.inl (hw _ (List.mem_of_getElem? (i := 34) rfl))) Via.refl e10 Fv_a1 (g := (mkF m 41 #[.val (.ref a1), .val (.int (Int32.ofNat i)), .val (.int (Int32.ofNat cs.length))] [(.ref a1)])) rfl rfl (hb hby d20_41)
    refine own_go st11 ?_
    show own_Ends p e below s _ _ _ (T11.setTop (mkF m 44 #[.val (.ref a1), .val (.int (Int32.ofNat i)), .val (.int (Int32.ofNat cs.length))] [(.ref b)]))
    refine own_go (fun _ k => XS.iloadN X11.here hx rfl (hb hby d20_44) rfl <| XS.iloadN X11.here hx rfl (hb hby d20_45) rfl <| k) ?_
    show own_Ends p e below s _ _ _ (T11.setTop (mkF m 46 #[.val (.ref a1), .val (.int (Int32.ofNat i)), .val (.int (Int32.ofNat cs.length))] [(.int (Int32.ofNat cs.length)), (.int (Int32.ofNat i)), (.ref b)]))
    obtain ⟨_, _, ⟨T12, L12, k12, n12⟩, -, X12, ⟨Lc12, hQ12, l12, y12, z12⟩, st12⟩ := Jvm.LawKit.callS X11 hx (y := (⟨"java/lang/StringUTF16", "codePointAt", "([BII)I"⟩ : MethodName)) hown (mvT hZ (hw _ (List.mem_of_getElem? (i := 106) rfl))) (mvT hZ (hw _ (List.mem_of_getElem? (i := 107) rfl))) (mvT hZ (hw _ (List.mem_of_getElem? (i := 61) rfl))) (mvT hZ (hw _ (List.mem_of_getElem? (i := 108) rfl))) (by decide) (backOf (W := 0) (rm24 l Z a0 hw [] b vc vf kb cs i h0 n0 Z0 O0 ST hN hC hi V_a1) hZ (hw _ (List.mem_of_getElem? (i := 108) rfl)) (hw _ (List.mem_of_getElem? (i := 61) rfl)) (by decide) (by decide)) (g := (mkF m 46 #[.val (.ref a1), .val (.int (Int32.ofNat i)), .val (.int (Int32.ofNat cs.length))] [(.int (Int32.ofNat cs.length)), (.int (Int32.ofNat i)), (.ref b)])) rfl (by rw [hml]; rfl) (argsL := [(.ref b), (.int (Int32.ofNat i)), (.int (Int32.ofNat cs.length))]) (rest := []) (lenOf pd_20 rfl) rfl (by show 2 * 0 + _ ≤ _; exact Nat.le_of_eq rfl) (hb hby d20_46) (fun _ _ => ⟨rfl, e11, Nat.le_of_ble_eq_true rfl, Nat.le_of_ble_eq_true rfl⟩)
    dsimp only [Pt.U, Pt.locs, Pt.cells, Pt.slots] at X12 l12 y12 z12 st12 hQ12
    subst l12 y12 z12
    obtain ⟨rfl, N12q, e12⟩ := hQ12
    have N12 := Fr.app N10 N12q
    refine own_go (fun _ k => st12 _ k) ?_
    show own_Ends p e below s _ _ _ (T12.setTop (mkF m 49 #[.val (.ref a1), .val (.int (Int32.ofNat i)), .val (.int (Int32.ofNat cs.length))] [(.int (own_cp cs i))]))
    exact own_ret X12 hx hrt rfl (Or.inl ⟨rfl, Or.inl rfl, _, rfl⟩) (hb hby d20_49) hlk (by rw [e12]; exact ⟨rfl, N12, rfl⟩) (by decide) (by decide)
theorem d7_0 : decode prog_28_method_3_code 0 = .ok (.iconst 0, 1) := by decide +kernel
theorem d7_1 : decode prog_28_method_3_code 1 = .ok (.istore_n 1, 1) := by decide +kernel
theorem d7_2 : decode prog_28_method_3_code 2 = .ok (.iload_n 1, 1) := by decide +kernel
theorem d7_3 : decode prog_28_method_3_code 3 = .ok (.aload_n 0, 1) := by decide +kernel
theorem d7_4 : decode prog_28_method_3_code 4 = .ok (.invokevirtual 37, 3) := by decide +kernel
theorem d7_7 : decode prog_28_method_3_code 7 = .ok (.if_icmp .ge 33, 3) := by decide +kernel
theorem d7_10 : decode prog_28_method_3_code 10 = .ok (.aload_n 0, 1) := by decide +kernel
theorem d7_11 : decode prog_28_method_3_code 11 = .ok (.iload_n 1, 1) := by decide +kernel
theorem d7_12 : decode prog_28_method_3_code 12 = .ok (.invokevirtual 43, 3) := by decide +kernel
theorem d7_15 : decode prog_28_method_3_code 15 = .ok (.istore_n 2, 1) := by decide +kernel
theorem d7_16 : decode prog_28_method_3_code 16 = .ok (.iload_n 2, 1) := by decide +kernel
theorem d7_17 : decode prog_28_method_3_code 17 = .ok (.ldc 49, 2) := by decide +kernel
theorem d7_19 : decode prog_28_method_3_code 19 = .ok (.if_icmp .lt 11, 3) := by decide +kernel
theorem d7_22 : decode prog_28_method_3_code 22 = .ok (.iload_n 2, 1) := by decide +kernel
theorem d7_23 : decode prog_28_method_3_code 23 = .ok (.ldc 50, 2) := by decide +kernel
theorem d7_25 : decode prog_28_method_3_code 25 = .ok (.if_icmp .gt 5, 3) := by decide +kernel
theorem d7_28 : decode prog_28_method_3_code 28 = .ok (.iconst 0, 1) := by decide +kernel
theorem d7_29 : decode prog_28_method_3_code 29 = .ok (.ireturn, 1) := by decide +kernel
theorem d7_30 : decode prog_28_method_3_code 30 = .ok (.iload_n 1, 1) := by decide +kernel
theorem d7_31 : decode prog_28_method_3_code 31 = .ok (.iload_n 2, 1) := by decide +kernel
theorem d7_32 : decode prog_28_method_3_code 32 = .ok (.invokestatic 51, 3) := by decide +kernel
theorem d7_35 : decode prog_28_method_3_code 35 = .ok (.iadd, 1) := by decide +kernel
theorem d7_36 : decode prog_28_method_3_code 36 = .ok (.istore_n 1, 1) := by decide +kernel
theorem d7_37 : decode prog_28_method_3_code 37 = .ok (.goto (-35), 3) := by decide +kernel
theorem d7_40 : decode prog_28_method_3_code 40 = .ok (.iconst 1, 1) := by decide +kernel
theorem d7_41 : decode prog_28_method_3_code 41 = .ok (.ireturn, 1) := by decide +kernel
theorem pn_5 : plainName "com/example/pagra/pagra/core/StrictUtf8" = true := by first | (simp [plainName, overriddenIn]; done) | decide +kernel
theorem ef_7 (m : MethodId) (x0 : Addr) : entryFrame m #[(.ref x0)] 3 = mkF m 0 #[.val (.ref x0), .unset, .unset] [] := by first | (simp [entryFrame, mkF, argsToLocals, Value.category]; done) | rfl
def Q7 (a1 : Addr) (vc : Int32) (vf : Value) (b : Addr) (kb : ClassId) (kc : Int32) (cs : List Int32) (h0 : Heap) (n0 : Nat) (Z : State) (v : Option Value) (h : Heap) (L : List Loc) : Prop := v = some (.int (own_enc cs 5 0)) ∧ Fr n0 L ∧ h = h0
set_option maxRecDepth 65536 in
set_option maxHeartbeats 40000000 in
theorem rm7 (l : Launch) (Z : State) (a0 : Array Value) (hw : ∀ d ∈ tables_1, d.before a0 Z = true) (ws : List Jvm.Cond) (a1 : Addr) (vc : Int32) (vf : Value) (b : Addr) (kb : ClassId) (kc : Int32) (cs : List Int32) (h0 : Heap) (n0 : Nat) (Z0 : n0 ≤ h0.size) (O0 : Old Z n0 h0) (ST : own_St Z vc vf) (hN : cs.length ≤ 4) (hC : own_Ch cs) (E_a1 : Exa Z h0 a1 "java/lang/String") (Fv_a1 : Fld Z h0 a1 "java/lang/String" "value" "[B" (.ref b)) (Fc_a1 : Fld Z h0 a1 "java/lang/String" "coder" "B" (.int kc)) (V_a1 : Arv Z h0 b kb .byte (own_zz kc (cs).length) (own_vs kc cs) (.int (0 : Int32))) (hk_a1 : own_KC kc cs) :
    MetFree l (⟨"com/example/pagra/pagra/core/StrictUtf8", "isEncodable", "(Ljava/lang/String;)Z"⟩ : MethodName) (head1 (Jvm.Cond.code (⟨"com/example/pagra/pagra/core/StrictUtf8", "isEncodable", "(Ljava/lang/String;)Z"⟩ : MethodName) prog_28_method_3_code 3 (some .boolean) :: ws) ({ frames := 4, cells := 0, slots := 0, locals := 70 } : Room)) (fun a U => a = #[(.ref a1)] ∧ Z.Warmed39 U.vm ∧ U.heap = h0) (fun _ _ _ _ _ => True) (fun _ U o U' => ∃ v L, o = .returned v ∧ Q7 a1 vc vf b kb kc cs h0 n0 Z v U'.heap L ∧ FrameEnd U o U' L ({ frames := 4, cells := 0, slots := 0, locals := 70 } : Room).cells ({ frames := 4, cells := 0, slots := 0, locals := 70 } : Room).slots) := by
  refine MetFree.of_bodySF (plainFor_of_name pn_5) hisR ?_
  intro p e s m args below meth c s₁ Bd hml0 hP hK
  obtain ⟨rfl, hZ, hh⟩ := hP
  have hx := Bd.exec
  have hby := Bd.bytes
  have hml : c.maxLocals = 3 := hml0
  have hown : s.vm.findClass "com/example/pagra/pagra/core/StrictUtf8" = some m.cls := findClass_of_methodNamed Bd.named
  have hnm := (name_of_methodNamed Bd.named Bd.method).1
  have hlk := Bd.notSynchronized
  have hrt := Bd.returns
  have X0 : Stand p l e ({ frames := 4, cells := 0, slots := 0, locals := 70 } : Room) s m #[(.ref a1)] below meth c s₁ [] 0 0 := Stand.of_body Bd
  have e0 : s₁.heap = h0 := by rw [← hh, Bd.state]; rfl
  have N0 := Fr.nil n0
  show own_Ends p e below s (Q7 a1 vc vf b kb kc cs h0 n0 Z) ({ frames := 4, cells := 0, slots := 0, locals := 70 } : Room).cells ({ frames := 4, cells := 0, slots := 0, locals := 70 } : Room).slots (s₁.setTop (entryFrame m #[(.ref a1)] 3))
  rw [ef_7]
  obtain ⟨HVC, SCS, SAD, SHI, SLO, SIO, HVF⟩ := id ST
  refine own_go (fun _ k => XT.iconstV X0.here hx rfl (0 : Int32) (hb hby d7_0) rfl <| XS.istoreN X0.here hx rfl (hb hby d7_1) rfl (l' := #[.val (.ref a1), .val (.int (0 : Int32)), .unset]) rfl <| k) ?_
  show own_Ends p e below s _ _ _ (s₁.setTop (mkF m 2 #[.val (.ref a1), .val (.int (0 : Int32)), .unset] []))
  have loop : ∀ (k i : Nat), cs.length ≤ i + k ∧ i ≤ 2 * (5 - k) ∧ k ≤ 5 → own_enc cs k i = own_enc cs 5 0 → ∀ (T : State) (locs : List Loc) (s2 : Slot), One s2 → Stand p l e ({ frames := 4, cells := 0, slots := 0, locals := 70 } : Room) s m #[(.ref a1)] below meth c T locs 0 0 → T.heap = h0 → Fr n0 locs → own_Ends p e below s (Q7 a1 vc vf b kb kc cs h0 n0 Z) ({ frames := 4, cells := 0, slots := 0, locals := 70 } : Room).cells ({ frames := 4, cells := 0, slots := 0, locals := 70 } : Room).slots (T.setTop (mkF m 2 #[.val (.ref a1), .val (.int (Int32.ofNat i)), s2] [])) := by
    intro k
    induction k with
    | zero =>
      intro i hi hr T locs s2 hs2 XM eM NM
      have hr2 : (1 : Int32) = own_enc cs 5 0 := hr
      refine own_go (fun _ k => XS.iloadN XM.here hx rfl (hb hby d7_2) rfl <| XS.aloadN XM.here hx rfl (hb hby d7_3) rfl rfl <| k) ?_
      show own_Ends p e below s _ _ _ (T.setTop (mkF m 4 #[.val (.ref a1), .val (.int (Int32.ofNat i)), s2] [(.ref a1), (.int (Int32.ofNat i))]))
      obtain ⟨cq1, kq1, q1a, q1b, q1c⟩ := isOf hZ eM E_a1
      obtain ⟨_, _, ⟨T1, L1, k1, n1⟩, -, X1, ⟨Lc1, hQ1, l1, y1, z1⟩, st1⟩ := XM.virtualBack hx (y := (⟨"java/lang/String", "length", "()I"⟩ : MethodName)) (z := (⟨"java/lang/String", "length", "()I"⟩ : MethodName)) hown (mvT hZ (hw _ (List.mem_of_getElem? (i := 40) rfl))) (mvT hZ (hw _ (List.mem_of_getElem? (i := 41) rfl))) (notFace_of_selects (args := #[]) (mvT hZ (hw _ (List.mem_of_getElem? (i := 43) rfl)))) (mvT hZ (hw _ (List.mem_of_getElem? (i := 43) rfl))) (mvT hZ (hw _ (List.mem_of_getElem? (i := 42) rfl))) (by decide) (backOf (W := 1) (rm8 l Z a0 hw [] a1 vc vf b kb kc cs h0 n0 Z0 O0 ST hN E_a1 Fv_a1 Fc_a1 V_a1 hk_a1) hZ (hw _ (List.mem_of_getElem? (i := 44) rfl)) (hw _ (List.mem_of_getElem? (i := 17) rfl)) (by decide) (by decide)) q1a q1c (g := (mkF m 4 #[.val (.ref a1), .val (.int (Int32.ofNat i)), s2] [(.ref a1), (.int (Int32.ofNat i))])) rfl (by rw [hml]; rfl) (Steps.refl _) (argsL := []) (rest := [(.int (Int32.ofNat i))]) (lenOf pd_7 rfl) rfl (by show 2 * 0 + _ ≤ _; exact Nat.le_of_eq rfl) (hb hby d7_4) (fun _ _ => ⟨rfl, eM, Nat.le_of_ble_eq_true rfl, Nat.le_of_ble_eq_true rfl⟩)
      dsimp only [Pt.U, Pt.locs, Pt.cells, Pt.slots] at X1 l1 y1 z1 st1 hQ1
      subst l1 y1 z1
      obtain ⟨rfl, N1q, e1⟩ := hQ1
      have N1 := Fr.app NM N1q
      refine own_go (fun _ k => st1.trans k) ?_
      show own_Ends p e below s _ _ _ (T1.setTop (mkF m 7 #[.val (.ref a1), .val (.int (Int32.ofNat i)), s2] [(.int (Int32.ofNat cs.length)), (.int (Int32.ofNat i))]))
      refine own_go (fun _ k => XS.icmpYes X1.here hx rfl (pc0 := 7) (pc' := 40) rfl (hb hby d7_7) rfl (flt (fun z => absurd ((own_ofNat_lt (by omega) (by omega)).mp z) (by omega))).2.1 (by decide) (by decide) <| XT.iconstV X1.here hx rfl (1 : Int32) (hb hby d7_40) rfl <| k) ?_
      show own_Ends p e below s _ _ _ (T1.setTop (mkF m 41 #[.val (.ref a1), .val (.int (Int32.ofNat i)), s2] [(.int (1 : Int32))]))
      exact own_retN X1 hx (t := .boolean) hrt (by simp) (hb hby d7_41) hlk (show nar .boolean (1 : Int32) = (1 : Int32) from by decide) (by rw [e1]; exact ⟨by rw [← hr2], N1, rfl⟩) (by decide) (by decide)
    | succ k ih =>
      intro i hi hr T locs s2 hs2 XM eM NM
      by_cases hlen : i < cs.length
      ·
        refine own_go (fun _ k => XS.iloadN XM.here hx rfl (hb hby d7_2) rfl <| XS.aloadN XM.here hx rfl (hb hby d7_3) rfl rfl <| k) ?_
        show own_Ends p e below s _ _ _ (T.setTop (mkF m 4 #[.val (.ref a1), .val (.int (Int32.ofNat i)), s2] [(.ref a1), (.int (Int32.ofNat i))]))
        obtain ⟨cq2, kq2, q2a, q2b, q2c⟩ := isOf hZ eM E_a1
        obtain ⟨_, _, ⟨T2, L2, k2, n2⟩, -, X2, ⟨Lc2, hQ2, l2, y2, z2⟩, st2⟩ := XM.virtualBack hx (y := (⟨"java/lang/String", "length", "()I"⟩ : MethodName)) (z := (⟨"java/lang/String", "length", "()I"⟩ : MethodName)) hown (mvT hZ (hw _ (List.mem_of_getElem? (i := 40) rfl))) (mvT hZ (hw _ (List.mem_of_getElem? (i := 41) rfl))) (notFace_of_selects (args := #[]) (mvT hZ (hw _ (List.mem_of_getElem? (i := 43) rfl)))) (mvT hZ (hw _ (List.mem_of_getElem? (i := 43) rfl))) (mvT hZ (hw _ (List.mem_of_getElem? (i := 42) rfl))) (by decide) (backOf (W := 1) (rm8 l Z a0 hw [] a1 vc vf b kb kc cs h0 n0 Z0 O0 ST hN E_a1 Fv_a1 Fc_a1 V_a1 hk_a1) hZ (hw _ (List.mem_of_getElem? (i := 44) rfl)) (hw _ (List.mem_of_getElem? (i := 17) rfl)) (by decide) (by decide)) q2a q2c (g := (mkF m 4 #[.val (.ref a1), .val (.int (Int32.ofNat i)), s2] [(.ref a1), (.int (Int32.ofNat i))])) rfl (by rw [hml]; rfl) (Steps.refl _) (argsL := []) (rest := [(.int (Int32.ofNat i))]) (lenOf pd_7 rfl) rfl (by show 2 * 0 + _ ≤ _; exact Nat.le_of_eq rfl) (hb hby d7_4) (fun _ _ => ⟨rfl, eM, Nat.le_of_ble_eq_true rfl, Nat.le_of_ble_eq_true rfl⟩)
        dsimp only [Pt.U, Pt.locs, Pt.cells, Pt.slots] at X2 l2 y2 z2 st2 hQ2
        subst l2 y2 z2
        obtain ⟨rfl, N2q, e2⟩ := hQ2
        have N2 := Fr.app NM N2q
        refine own_go (fun _ k => st2.trans k) ?_
        show own_Ends p e below s _ _ _ (T2.setTop (mkF m 7 #[.val (.ref a1), .val (.int (Int32.ofNat i)), s2] [(.int (Int32.ofNat cs.length)), (.int (Int32.ofNat i))]))
        refine own_go (fun _ k => XS.icmpNo X2.here hx rfl (hb hby d7_7) rfl (tlt ((own_ofNat_lt (by omega) (by omega)).mpr hlen)).2.1 <| XS.aloadN X2.here hx rfl (hb hby d7_10) rfl rfl <| XS.iloadN X2.here hx rfl (hb hby d7_11) rfl <| k) ?_
        show own_Ends p e below s _ _ _ (T2.setTop (mkF m 12 #[.val (.ref a1), .val (.int (Int32.ofNat i)), s2] [(.int (Int32.ofNat i)), (.ref a1)]))
        obtain ⟨cq3, kq3, q3a, q3b, q3c⟩ := isOf hZ e2 E_a1
        obtain ⟨_, _, ⟨T3, L3, k3, n3⟩, -, X3, ⟨Lc3, hQ3, l3, y3, z3⟩, st3⟩ := X2.virtualBack hx (y := (⟨"java/lang/String", "codePointAt", "(I)I"⟩ : MethodName)) (z := (⟨"java/lang/String", "codePointAt", "(I)I"⟩ : MethodName)) hown (mvT hZ (hw _ (List.mem_of_getElem? (i := 88) rfl))) (mvT hZ (hw _ (List.mem_of_getElem? (i := 89) rfl))) (notFace_of_selects (args := #[]) (mvT hZ (hw _ (List.mem_of_getElem? (i := 91) rfl)))) (mvT hZ (hw _ (List.mem_of_getElem? (i := 91) rfl))) (mvT hZ (hw _ (List.mem_of_getElem? (i := 90) rfl))) (by decide) (backOf (W := 0) (rm20 l Z a0 hw [] a1 vc vf b kb kc cs i h0 n0 Z0 O0 ST hN hC hlen E_a1 Fv_a1 Fc_a1 V_a1 hk_a1) hZ (hw _ (List.mem_of_getElem? (i := 92) rfl)) (hw _ (List.mem_of_getElem? (i := 17) rfl)) (by decide) (by decide)) q3a q3c (g := (mkF m 12 #[.val (.ref a1), .val (.int (Int32.ofNat i)), s2] [(.int (Int32.ofNat i)), (.ref a1)])) rfl (by rw [hml]; rfl) (Steps.refl _) (argsL := [(.int (Int32.ofNat i))]) (rest := []) (lenOf pd_13 rfl) rfl (by show 2 * 0 + _ ≤ _; exact Nat.le_of_eq rfl) (hb hby d7_12) (fun _ _ => ⟨rfl, e2, Nat.le_of_ble_eq_true rfl, Nat.le_of_ble_eq_true rfl⟩)
        dsimp only [Pt.U, Pt.locs, Pt.cells, Pt.slots] at X3 l3 y3 z3 st3 hQ3
        subst l3 y3 z3
        obtain ⟨rfl, N3q, e3⟩ := hQ3
        have N3 := Fr.app N2 N3q
        refine own_go (fun _ k => st3.trans k) ?_
        show own_Ends p e below s _ _ _ (T3.setTop (mkF m 15 #[.val (.ref a1), .val (.int (Int32.ofNat i)), s2] [(.int (own_cp cs i))]))
        refine own_go (fun _ k => XS.istoreNS X3.here hx rfl (hb hby d7_15) rfl rfl hs2 <| k) ?_
        show own_Ends p e below s _ _ _ (T3.setTop (mkF m 16 #[.val (.ref a1), .val (.int (Int32.ofNat i)), .val (.int (own_cp cs i))] []))
        refine own_go (fun _ k => XS.iloadN X3.here hx rfl (hb hby d7_16) rfl <| X3.ldcI hx hown (mvT hZ (hw _ (List.mem_of_getElem? (i := 117) rfl))) rfl (hb hby d7_17) <| k) ?_
        show own_Ends p e below s _ _ _ (T3.setTop (mkF m 19 #[.val (.ref a1), .val (.int (Int32.ofNat i)), .val (.int (own_cp cs i))] [(.int (55296 : Int32)), (.int (own_cp cs i))]))
        by_cases hc19_4 : (own_cp cs i) < (55296 : Int32)
        · -- true
          refine own_go (fun _ k => XS.icmpYes X3.here hx rfl (pc0 := 19) (pc' := 30) rfl (hb hby d7_19) rfl (tlt hc19_4).1 (by decide) (by decide) <| XS.iloadN X3.here hx rfl (hb hby d7_30) rfl <| XS.iloadN X3.here hx rfl (hb hby d7_31) rfl <| k) ?_
          show own_Ends p e below s _ _ _ (T3.setTop (mkF m 32 #[.val (.ref a1), .val (.int (Int32.ofNat i)), .val (.int (own_cp cs i))] [(.int (own_cp cs i)), (.int (Int32.ofNat i))]))
          obtain ⟨_, _, ⟨T5, L5, k5, n5⟩, -, X5, ⟨Lc5, hQ5, l5, y5, z5⟩, st5⟩ := Jvm.LawKit.callS X3 hx (y := (⟨"java/lang/Character", "charCount", "(I)I"⟩ : MethodName)) hown (mvT hZ (hw _ (List.mem_of_getElem? (i := 118) rfl))) (mvT hZ (hw _ (List.mem_of_getElem? (i := 119) rfl))) (mvT hZ (hw _ (List.mem_of_getElem? (i := 114) rfl))) (mvT hZ (hw _ (List.mem_of_getElem? (i := 120) rfl))) (by decide) (backOf (W := 1) (rm27 l Z a0 hw [] (own_cp cs i) h0 n0 Z0) hZ (hw _ (List.mem_of_getElem? (i := 120) rfl)) (hw _ (List.mem_of_getElem? (i := 114) rfl)) (by decide) (by decide)) (g := (mkF m 32 #[.val (.ref a1), .val (.int (Int32.ofNat i)), .val (.int (own_cp cs i))] [(.int (own_cp cs i)), (.int (Int32.ofNat i))])) rfl (by rw [hml]; rfl) (argsL := [(.int (own_cp cs i))]) (rest := [(.int (Int32.ofNat i))]) (lenOf pd_13 rfl) rfl (by show 2 * 0 + _ ≤ _; exact Nat.le_of_eq rfl) (hb hby d7_32) (fun _ _ => ⟨rfl, e3, Nat.le_of_ble_eq_true rfl, Nat.le_of_ble_eq_true rfl⟩)
          dsimp only [Pt.U, Pt.locs, Pt.cells, Pt.slots] at X5 l5 y5 z5 st5 hQ5
          subst l5 y5 z5
          obtain ⟨rfl, N5q, e5⟩ := hQ5
          have N5 := Fr.app N3 N5q
          refine own_go (fun _ k => st5 _ k) ?_
          show own_Ends p e below s _ _ _ (T5.setTop (mkF m 35 #[.val (.ref a1), .val (.int (Int32.ofNat i)), .val (.int (own_cp cs i))] [(.int (own_cc (own_cp cs i))), (.int (Int32.ofNat i))]))
          refine own_go (fun _ k => XS.iadd X5.here hx rfl (hb hby d7_35) rfl <| XS.istoreN X5.here hx rfl (hb hby d7_36) rfl (l' := #[.val (.ref a1), .val (.int ((Int32.ofNat i) + (own_cc (own_cp cs i)))), .val (.int (own_cp cs i))]) rfl <| XS.goto X5.here hx rfl (pc0 := 37) (pc' := 2) rfl (hb hby d7_37) (by decide) (by decide) <| k) ?_
          show own_Ends p e below s _ _ _ (T5.setTop (mkF m 2 #[.val (.ref a1), .val (.int ((Int32.ofNat i) + (own_cc (own_cp cs i)))), .val (.int (own_cp cs i))] []))
          have hr2 := hr
          rw [own_enc, if_pos hlen, if_pos hc19_4] at hr2
          rw [own_ccup]
          have hc1 : 1 ≤ own_ccN (own_cp cs i) ∧ own_ccN (own_cp cs i) ≤ 2 := by unfold own_ccN; split <;> omega
          exact ih (i + own_ccN (own_cp cs i)) (by omega) hr2 _ _ _ (One.val rfl) X5 e5 N5
        · -- false
          refine own_go (fun _ k => XS.icmpNo X3.here hx rfl (hb hby d7_19) rfl (flt hc19_4).1 <| XS.iloadN X3.here hx rfl (hb hby d7_22) rfl <| X3.ldcI hx hown (mvT hZ (hw _ (List.mem_of_getElem? (i := 123) rfl))) rfl (hb hby d7_23) <| k) ?_
          show own_Ends p e below s _ _ _ (T3.setTop (mkF m 25 #[.val (.ref a1), .val (.int (Int32.ofNat i)), .val (.int (own_cp cs i))] [(.int (57343 : Int32)), (.int (own_cp cs i))]))
          by_cases hc25_6 : (57343 : Int32) < (own_cp cs i)
          · -- true
            refine own_go (fun _ k => XS.icmpYes X3.here hx rfl (pc0 := 25) (pc' := 30) rfl (hb hby d7_25) rfl (tlt hc25_6).2.2.1 (by decide) (by decide) <| XS.iloadN X3.here hx rfl (hb hby d7_30) rfl <| XS.iloadN X3.here hx rfl (hb hby d7_31) rfl <| k) ?_
            show own_Ends p e below s _ _ _ (T3.setTop (mkF m 32 #[.val (.ref a1), .val (.int (Int32.ofNat i)), .val (.int (own_cp cs i))] [(.int (own_cp cs i)), (.int (Int32.ofNat i))]))
            obtain ⟨_, _, ⟨T7, L7, k7, n7⟩, -, X7, ⟨Lc7, hQ7, l7, y7, z7⟩, st7⟩ := Jvm.LawKit.callS X3 hx (y := (⟨"java/lang/Character", "charCount", "(I)I"⟩ : MethodName)) hown (mvT hZ (hw _ (List.mem_of_getElem? (i := 118) rfl))) (mvT hZ (hw _ (List.mem_of_getElem? (i := 119) rfl))) (mvT hZ (hw _ (List.mem_of_getElem? (i := 114) rfl))) (mvT hZ (hw _ (List.mem_of_getElem? (i := 120) rfl))) (by decide) (backOf (W := 1) (rm27 l Z a0 hw [] (own_cp cs i) h0 n0 Z0) hZ (hw _ (List.mem_of_getElem? (i := 120) rfl)) (hw _ (List.mem_of_getElem? (i := 114) rfl)) (by decide) (by decide)) (g := (mkF m 32 #[.val (.ref a1), .val (.int (Int32.ofNat i)), .val (.int (own_cp cs i))] [(.int (own_cp cs i)), (.int (Int32.ofNat i))])) rfl (by rw [hml]; rfl) (argsL := [(.int (own_cp cs i))]) (rest := [(.int (Int32.ofNat i))]) (lenOf pd_13 rfl) rfl (by show 2 * 0 + _ ≤ _; exact Nat.le_of_eq rfl) (hb hby d7_32) (fun _ _ => ⟨rfl, e3, Nat.le_of_ble_eq_true rfl, Nat.le_of_ble_eq_true rfl⟩)
            dsimp only [Pt.U, Pt.locs, Pt.cells, Pt.slots] at X7 l7 y7 z7 st7 hQ7
            subst l7 y7 z7
            obtain ⟨rfl, N7q, e7⟩ := hQ7
            have N7 := Fr.app N3 N7q
            refine own_go (fun _ k => st7 _ k) ?_
            show own_Ends p e below s _ _ _ (T7.setTop (mkF m 35 #[.val (.ref a1), .val (.int (Int32.ofNat i)), .val (.int (own_cp cs i))] [(.int (own_cc (own_cp cs i))), (.int (Int32.ofNat i))]))
            refine own_go (fun _ k => XS.iadd X7.here hx rfl (hb hby d7_35) rfl <| XS.istoreN X7.here hx rfl (hb hby d7_36) rfl (l' := #[.val (.ref a1), .val (.int ((Int32.ofNat i) + (own_cc (own_cp cs i)))), .val (.int (own_cp cs i))]) rfl <| XS.goto X7.here hx rfl (pc0 := 37) (pc' := 2) rfl (hb hby d7_37) (by decide) (by decide) <| k) ?_
            show own_Ends p e below s _ _ _ (T7.setTop (mkF m 2 #[.val (.ref a1), .val (.int ((Int32.ofNat i) + (own_cc (own_cp cs i)))), .val (.int (own_cp cs i))] []))
            have hr2 := hr
            rw [own_enc, if_pos hlen, if_neg hc19_4, if_pos hc25_6] at hr2
            rw [own_ccup]
            have hc1 : 1 ≤ own_ccN (own_cp cs i) ∧ own_ccN (own_cp cs i) ≤ 2 := by unfold own_ccN; split <;> omega
            exact ih (i + own_ccN (own_cp cs i)) (by omega) hr2 _ _ _ (One.val rfl) X7 e7 N7
          · -- false
            refine own_go (fun _ k => XS.icmpNo X3.here hx rfl (hb hby d7_25) rfl (flt hc25_6).2.2.1 <| k) ?_
            show own_Ends p e below s _ _ _ (T3.setTop (mkF m 28 #[.val (.ref a1), .val (.int (Int32.ofNat i)), .val (.int (own_cp cs i))] []))
            have hr2 := hr
            rw [own_enc, if_pos hlen, if_neg hc19_4, if_neg hc25_6] at hr2
            refine own_go (fun _ k => XT.iconstV X3.here hx rfl (0 : Int32) (hb hby d7_28) rfl <| k) ?_
            show own_Ends p e below s _ _ _ (T3.setTop (mkF m 29 #[.val (.ref a1), .val (.int (Int32.ofNat i)), .val (.int (own_cp cs i))] [(.int (0 : Int32))]))
            exact own_retN X3 hx (t := .boolean) hrt (by simp) (hb hby d7_29) hlk (show nar .boolean (0 : Int32) = (0 : Int32) from by decide) (by rw [e3]; exact ⟨by rw [← hr2], N3, rfl⟩) (by decide) (by decide)
      ·
        have hr2 : (1 : Int32) = own_enc cs 5 0 := by rw [← hr, own_enc, if_neg hlen]
        refine own_go (fun _ k => XS.iloadN XM.here hx rfl (hb hby d7_2) rfl <| XS.aloadN XM.here hx rfl (hb hby d7_3) rfl rfl <| k) ?_
        show own_Ends p e below s _ _ _ (T.setTop (mkF m 4 #[.val (.ref a1), .val (.int (Int32.ofNat i)), s2] [(.ref a1), (.int (Int32.ofNat i))]))
        obtain ⟨cq8, kq8, q8a, q8b, q8c⟩ := isOf hZ eM E_a1
        obtain ⟨_, _, ⟨T8, L8, k8, n8⟩, -, X8, ⟨Lc8, hQ8, l8, y8, z8⟩, st8⟩ := XM.virtualBack hx (y := (⟨"java/lang/String", "length", "()I"⟩ : MethodName)) (z := (⟨"java/lang/String", "length", "()I"⟩ : MethodName)) hown (mvT hZ (hw _ (List.mem_of_getElem? (i := 40) rfl))) (mvT hZ (hw _ (List.mem_of_getElem? (i := 41) rfl))) (notFace_of_selects (args := #[]) (mvT hZ (hw _ (List.mem_of_getElem? (i := 43) rfl)))) (mvT hZ (hw _ (List.mem_of_getElem? (i := 43) rfl))) (mvT hZ (hw _ (List.mem_of_getElem? (i := 42) rfl))) (by decide) (backOf (W := 1) (rm8 l Z a0 hw [] a1 vc vf b kb kc cs h0 n0 Z0 O0 ST hN E_a1 Fv_a1 Fc_a1 V_a1 hk_a1) hZ (hw _ (List.mem_of_getElem? (i := 44) rfl)) (hw _ (List.mem_of_getElem? (i := 17) rfl)) (by decide) (by decide)) q8a q8c (g := (mkF m 4 #[.val (.ref a1), .val (.int (Int32.ofNat i)), s2] [(.ref a1), (.int (Int32.ofNat i))])) rfl (by rw [hml]; rfl) (Steps.refl _) (argsL := []) (rest := [(.int (Int32.ofNat i))]) (lenOf pd_7 rfl) rfl (by show 2 * 0 + _ ≤ _; exact Nat.le_of_eq rfl) (hb hby d7_4) (fun _ _ => ⟨rfl, eM, Nat.le_of_ble_eq_true rfl, Nat.le_of_ble_eq_true rfl⟩)
        dsimp only [Pt.U, Pt.locs, Pt.cells, Pt.slots] at X8 l8 y8 z8 st8 hQ8
        subst l8 y8 z8
        obtain ⟨rfl, N8q, e8⟩ := hQ8
        have N8 := Fr.app NM N8q
        refine own_go (fun _ k => st8.trans k) ?_
        show own_Ends p e below s _ _ _ (T8.setTop (mkF m 7 #[.val (.ref a1), .val (.int (Int32.ofNat i)), s2] [(.int (Int32.ofNat cs.length)), (.int (Int32.ofNat i))]))
        refine own_go (fun _ k => XS.icmpYes X8.here hx rfl (pc0 := 7) (pc' := 40) rfl (hb hby d7_7) rfl (flt (fun z => absurd ((own_ofNat_lt (by omega) (by omega)).mp z) (by omega))).2.1 (by decide) (by decide) <| XT.iconstV X8.here hx rfl (1 : Int32) (hb hby d7_40) rfl <| k) ?_
        show own_Ends p e below s _ _ _ (T8.setTop (mkF m 41 #[.val (.ref a1), .val (.int (Int32.ofNat i)), s2] [(.int (1 : Int32))]))
        exact own_retN X8 hx (t := .boolean) hrt (by simp) (hb hby d7_41) hlk (show nar .boolean (1 : Int32) = (1 : Int32) from by decide) (by rw [e8]; exact ⟨by rw [← hr2], N8, rfl⟩) (by decide) (by decide)
  exact loop 5 0 (by omega) rfl _ _ _ One.u X0 e0 N0
theorem ef_0 (m : MethodId) (x0 : Int32) (x1 : Int32) (x2 : Int32) (x3 : Int32) (x4 : Int32) : entryFrame m #[(.int x0), (.int x1), (.int x2), (.int x3), (.int x4)] maxLocals = mkF m 0 #[.val (.int x0), .val (.int x1), .val (.int x2), .val (.int x3), .val (.int x4), .unset, .unset, .unset] [] := by first | (simp [entryFrame, mkF, argsToLocals, Value.category, maxLocals]; done) | rfl
def Q0 (p1 : Int32) (p2 : Int32) (p3 : Int32) (p4 : Int32) (p5 : Int32) (vc : Int32) (vf : Value) (h0 : Heap) (n0 : Nat) (Z : State) (v : Option Value) (h : Heap) (L : List Loc) : Prop := v = some (.int 1) ∧ Fr n0 L
set_option maxRecDepth 65536 in
set_option maxHeartbeats 40000000 in
theorem rm0 (l : Launch) (Z : State) (a0 : Array Value) (hw : ∀ d ∈ tables_1, d.before a0 Z = true) (ws : List Jvm.Cond) (p1 : Int32) (p2 : Int32) (p3 : Int32) (p4 : Int32) (p5 : Int32) (vc : Int32) (vf : Value) (h0 : Heap) (n0 : Nat) (Z0 : n0 ≤ h0.size) (O0 : Old Z n0 h0) (ST : own_St Z vc vf) :
    MetFree l x (head1 (Jvm.Cond.code x code maxLocals ret :: ws) room_1) (fun a U => a = #[(.int p1), (.int p2), (.int p3), (.int p4), (.int p5)] ∧ Z.Warmed39 U.vm ∧ U.heap = h0 ∧ ConstHeldL U "java/lang/String" 7) (fun _ _ _ _ _ => True) (fun _ U o U' => ∃ v L, o = .returned v ∧ Q0 p1 p2 p3 p4 p5 vc vf h0 n0 Z v U'.heap L ∧ ReturnedEndW U o U' L room_1.cells room_1.slots) := by
  refine MetFree.of_bodySF (plainFor_of_name pn_3) hisR ?_
  intro p e s m args below meth c s₁ Bd hml0 hP hK
  obtain ⟨rfl, hZ, hh, hCH⟩ := hP
  have hx := Bd.exec
  have hby := Bd.bytes
  have hml : c.maxLocals = 8 := hml0
  have hown : s.vm.findClass "com/example/pagra/pagra/core/StrictUtf8IsEncodablePinLaw" = some m.cls := findClass_of_methodNamed Bd.named
  have hnm := (name_of_methodNamed Bd.named Bd.method).1
  have hlk := Bd.notSynchronized
  have hrt := Bd.returns
  have X0 : Stand p l e room_1 (s.setVm s.vm) m #[(.int p1), (.int p2), (.int p3), (.int p4), (.int p5)] below meth c s₁ [] 0 0 := Stand.of_body Bd
  have e0 : s₁.heap = h0 := by rw [← hh, Bd.state]; rfl
  have N0 := Fr.nil n0
  show own_EndsW p e below s (Q0 p1 p2 p3 p4 p5 vc vf h0 n0 Z) room_1.cells room_1.slots (s₁.setTop (entryFrame m #[(.int p1), (.int p2), (.int p3), (.int p4), (.int p5)] maxLocals))
  rw [ef_0]
  have K0 : Keep h0 h0 [] := Keep.refl h0 []
  have hS0 : s.Since s.vm 0 := (State.WarmedH.refl s).since 0
  have hk0 : 0 ≤ h0.size := Nat.zero_le _
  have own_strs := own_strs0 hw
  obtain ⟨HVC, SCS, SAD, SHI, SLO, SIO, HVF⟩ := id ST
  refine own_goW (fun _ k => XS.iloadN X0.here hx rfl (hb hby at_0) rfl <| X0.ldcI hx hown (mvT hZ (hw _ (List.mem_of_getElem? (i := 0) rfl))) rfl (hb hby at_1) <| XS.iand X0.here hx rfl (hb hby at_3) rfl <| XT.iconstV X0.here hx rfl (5 : Int32) (hb hby at_4) rfl <| iremM X0 hx rfl (hb hby at_5) rfl (by decide) <| XS.istore X0.here hx rfl (hb hby at_6) rfl (l' := #[.val (.int p1), .val (.int p2), .val (.int p3), .val (.int p4), .val (.int p5), .val (.int ((p1 &&& (2147483647 : Int32)) % (5 : Int32))), .unset, .unset]) rfl <| XS.iload X0.here hx rfl (hb hby at_8) rfl <| XS.iloadN X0.here hx rfl (hb hby at_10) rfl <| k) ?_
  show own_EndsW p e below s _ _ _ (s₁.setTop (mkF m 11 #[.val (.int p1), .val (.int p2), .val (.int p3), .val (.int p4), .val (.int p5), .val (.int ((p1 &&& (2147483647 : Int32)) % (5 : Int32))), .unset, .unset] [(.int p2), (.int ((p1 &&& (2147483647 : Int32)) % (5 : Int32)))]))
  obtain ⟨_, _, ⟨T1, L1, k1, n1⟩, -, X1, ⟨Lc1, hQ1, l1, y1, z1⟩, st1⟩ := Jvm.LawKit.callS X0 hx (y := (⟨"com/example/pagra/pagra/core/StrictUtf8IsEncodablePinLaw", "draw", "(I)C"⟩ : MethodName)) hown (mvT hZ (hw _ (List.mem_of_getElem? (i := 1) rfl))) (mvT hZ (hw _ (List.mem_of_getElem? (i := 2) rfl))) (mvT hZ (hw _ (List.mem_of_getElem? (i := 3) rfl))) (mvT hZ (hw _ (List.mem_of_getElem? (i := 4) rfl))) (by decide) (backOf (W := 1) (rm1 l Z a0 hw [] p2 h0 n0 Z0) hZ (hw _ (List.mem_of_getElem? (i := 4) rfl)) (hw _ (List.mem_of_getElem? (i := 3) rfl)) (by decide) (by decide)) (g := (mkF m 11 #[.val (.int p1), .val (.int p2), .val (.int p3), .val (.int p4), .val (.int p5), .val (.int ((p1 &&& (2147483647 : Int32)) % (5 : Int32))), .unset, .unset] [(.int p2), (.int ((p1 &&& (2147483647 : Int32)) % (5 : Int32)))])) rfl (by rw [hml]; rfl) (argsL := [(.int p2)]) (rest := [(.int ((p1 &&& (2147483647 : Int32)) % (5 : Int32)))]) (lenOf pd_0 rfl) rfl (by show 2 * 0 + _ ≤ _; exact Nat.le_of_eq rfl) (hb hby at_11) (fun _ _ => ⟨rfl, e0, Nat.le_of_ble_eq_true rfl, Nat.le_of_ble_eq_true rfl⟩)
  dsimp only [Pt.U, Pt.locs, Pt.cells, Pt.slots] at X1 l1 y1 z1 st1 hQ1
  subst l1 y1 z1
  obtain ⟨c1, rfl, hc1, N1q, e1⟩ := hQ1
  have N1 := Fr.app N0 N1q
  refine own_goW (fun _ k => st1 _ k) ?_
  show own_EndsW p e below s _ _ _ (T1.setTop (mkF m 14 #[.val (.int p1), .val (.int p2), .val (.int p3), .val (.int p4), .val (.int p5), .val (.int ((p1 &&& (2147483647 : Int32)) % (5 : Int32))), .unset, .unset] [(.int c1), (.int ((p1 &&& (2147483647 : Int32)) % (5 : Int32)))]))
  refine own_goW (fun _ k => XS.iloadN X1.here hx rfl (hb hby at_14) rfl <| k) ?_
  show own_EndsW p e below s _ _ _ (T1.setTop (mkF m 15 #[.val (.int p1), .val (.int p2), .val (.int p3), .val (.int p4), .val (.int p5), .val (.int ((p1 &&& (2147483647 : Int32)) % (5 : Int32))), .unset, .unset] [(.int p3), (.int c1), (.int ((p1 &&& (2147483647 : Int32)) % (5 : Int32)))]))
  obtain ⟨_, _, ⟨T2, L2, k2, n2⟩, -, X2, ⟨Lc2, hQ2, l2, y2, z2⟩, st2⟩ := Jvm.LawKit.callS X1 hx (y := (⟨"com/example/pagra/pagra/core/StrictUtf8IsEncodablePinLaw", "draw", "(I)C"⟩ : MethodName)) hown (mvT hZ (hw _ (List.mem_of_getElem? (i := 1) rfl))) (mvT hZ (hw _ (List.mem_of_getElem? (i := 2) rfl))) (mvT hZ (hw _ (List.mem_of_getElem? (i := 3) rfl))) (mvT hZ (hw _ (List.mem_of_getElem? (i := 4) rfl))) (by decide) (backOf (W := 2) (rm1 l Z a0 hw [] p3 h0 n0 Z0) hZ (hw _ (List.mem_of_getElem? (i := 4) rfl)) (hw _ (List.mem_of_getElem? (i := 3) rfl)) (by decide) (by decide)) (g := (mkF m 15 #[.val (.int p1), .val (.int p2), .val (.int p3), .val (.int p4), .val (.int p5), .val (.int ((p1 &&& (2147483647 : Int32)) % (5 : Int32))), .unset, .unset] [(.int p3), (.int c1), (.int ((p1 &&& (2147483647 : Int32)) % (5 : Int32)))])) rfl (by rw [hml]; rfl) (argsL := [(.int p3)]) (rest := [(.int c1), (.int ((p1 &&& (2147483647 : Int32)) % (5 : Int32)))]) (lenOf pd_0 rfl) rfl (by show 2 * 0 + _ ≤ _; exact Nat.le_of_eq rfl) (hb hby at_15) (fun _ _ => ⟨rfl, e1, Nat.le_of_ble_eq_true rfl, Nat.le_of_ble_eq_true rfl⟩)
  dsimp only [Pt.U, Pt.locs, Pt.cells, Pt.slots] at X2 l2 y2 z2 st2 hQ2
  subst l2 y2 z2
  obtain ⟨c2, rfl, hc2, N2q, e2⟩ := hQ2
  have N2 := Fr.app N1 N2q
  refine own_goW (fun _ k => st2 _ k) ?_
  show own_EndsW p e below s _ _ _ (T2.setTop (mkF m 18 #[.val (.int p1), .val (.int p2), .val (.int p3), .val (.int p4), .val (.int p5), .val (.int ((p1 &&& (2147483647 : Int32)) % (5 : Int32))), .unset, .unset] [(.int c2), (.int c1), (.int ((p1 &&& (2147483647 : Int32)) % (5 : Int32)))]))
  refine own_goW (fun _ k => XS.iloadN X2.here hx rfl (hb hby at_18) rfl <| k) ?_
  show own_EndsW p e below s _ _ _ (T2.setTop (mkF m 19 #[.val (.int p1), .val (.int p2), .val (.int p3), .val (.int p4), .val (.int p5), .val (.int ((p1 &&& (2147483647 : Int32)) % (5 : Int32))), .unset, .unset] [(.int p4), (.int c2), (.int c1), (.int ((p1 &&& (2147483647 : Int32)) % (5 : Int32)))]))
  obtain ⟨_, _, ⟨T3, L3, k3, n3⟩, -, X3, ⟨Lc3, hQ3, l3, y3, z3⟩, st3⟩ := Jvm.LawKit.callS X2 hx (y := (⟨"com/example/pagra/pagra/core/StrictUtf8IsEncodablePinLaw", "draw", "(I)C"⟩ : MethodName)) hown (mvT hZ (hw _ (List.mem_of_getElem? (i := 1) rfl))) (mvT hZ (hw _ (List.mem_of_getElem? (i := 2) rfl))) (mvT hZ (hw _ (List.mem_of_getElem? (i := 3) rfl))) (mvT hZ (hw _ (List.mem_of_getElem? (i := 4) rfl))) (by decide) (backOf (W := 3) (rm1 l Z a0 hw [] p4 h0 n0 Z0) hZ (hw _ (List.mem_of_getElem? (i := 4) rfl)) (hw _ (List.mem_of_getElem? (i := 3) rfl)) (by decide) (by decide)) (g := (mkF m 19 #[.val (.int p1), .val (.int p2), .val (.int p3), .val (.int p4), .val (.int p5), .val (.int ((p1 &&& (2147483647 : Int32)) % (5 : Int32))), .unset, .unset] [(.int p4), (.int c2), (.int c1), (.int ((p1 &&& (2147483647 : Int32)) % (5 : Int32)))])) rfl (by rw [hml]; rfl) (argsL := [(.int p4)]) (rest := [(.int c2), (.int c1), (.int ((p1 &&& (2147483647 : Int32)) % (5 : Int32)))]) (lenOf pd_0 rfl) rfl (by show 2 * 0 + _ ≤ _; exact Nat.le_of_eq rfl) (hb hby at_19) (fun _ _ => ⟨rfl, e2, Nat.le_of_ble_eq_true rfl, Nat.le_of_ble_eq_true rfl⟩)
  dsimp only [Pt.U, Pt.locs, Pt.cells, Pt.slots] at X3 l3 y3 z3 st3 hQ3
  subst l3 y3 z3
  obtain ⟨c3, rfl, hc3, N3q, e3⟩ := hQ3
  have N3 := Fr.app N2 N3q
  refine own_goW (fun _ k => st3 _ k) ?_
  show own_EndsW p e below s _ _ _ (T3.setTop (mkF m 22 #[.val (.int p1), .val (.int p2), .val (.int p3), .val (.int p4), .val (.int p5), .val (.int ((p1 &&& (2147483647 : Int32)) % (5 : Int32))), .unset, .unset] [(.int c3), (.int c2), (.int c1), (.int ((p1 &&& (2147483647 : Int32)) % (5 : Int32)))]))
  refine own_goW (fun _ k => XS.iload X3.here hx rfl (hb hby at_22) rfl <| k) ?_
  show own_EndsW p e below s _ _ _ (T3.setTop (mkF m 24 #[.val (.int p1), .val (.int p2), .val (.int p3), .val (.int p4), .val (.int p5), .val (.int ((p1 &&& (2147483647 : Int32)) % (5 : Int32))), .unset, .unset] [(.int p5), (.int c3), (.int c2), (.int c1), (.int ((p1 &&& (2147483647 : Int32)) % (5 : Int32)))]))
  obtain ⟨_, _, ⟨T4, L4, k4, n4⟩, -, X4, ⟨Lc4, hQ4, l4, y4, z4⟩, st4⟩ := Jvm.LawKit.callS X3 hx (y := (⟨"com/example/pagra/pagra/core/StrictUtf8IsEncodablePinLaw", "draw", "(I)C"⟩ : MethodName)) hown (mvT hZ (hw _ (List.mem_of_getElem? (i := 1) rfl))) (mvT hZ (hw _ (List.mem_of_getElem? (i := 2) rfl))) (mvT hZ (hw _ (List.mem_of_getElem? (i := 3) rfl))) (mvT hZ (hw _ (List.mem_of_getElem? (i := 4) rfl))) (by decide) (backOf (W := 4) (rm1 l Z a0 hw [] p5 h0 n0 Z0) hZ (hw _ (List.mem_of_getElem? (i := 4) rfl)) (hw _ (List.mem_of_getElem? (i := 3) rfl)) (by decide) (by decide)) (g := (mkF m 24 #[.val (.int p1), .val (.int p2), .val (.int p3), .val (.int p4), .val (.int p5), .val (.int ((p1 &&& (2147483647 : Int32)) % (5 : Int32))), .unset, .unset] [(.int p5), (.int c3), (.int c2), (.int c1), (.int ((p1 &&& (2147483647 : Int32)) % (5 : Int32)))])) rfl (by rw [hml]; rfl) (argsL := [(.int p5)]) (rest := [(.int c3), (.int c2), (.int c1), (.int ((p1 &&& (2147483647 : Int32)) % (5 : Int32)))]) (lenOf pd_0 rfl) rfl (by show 2 * 0 + _ ≤ _; exact Nat.le_of_eq rfl) (hb hby at_24) (fun _ _ => ⟨rfl, e3, Nat.le_of_ble_eq_true rfl, Nat.le_of_ble_eq_true rfl⟩)
  dsimp only [Pt.U, Pt.locs, Pt.cells, Pt.slots] at X4 l4 y4 z4 st4 hQ4
  subst l4 y4 z4
  obtain ⟨c4, rfl, hc4, N4q, e4⟩ := hQ4
  have N4 := Fr.app N3 N4q
  refine own_goW (fun _ k => st4 _ k) ?_
  show own_EndsW p e below s _ _ _ (T4.setTop (mkF m 27 #[.val (.int p1), .val (.int p2), .val (.int p3), .val (.int p4), .val (.int p5), .val (.int ((p1 &&& (2147483647 : Int32)) % (5 : Int32))), .unset, .unset] [(.int c4), (.int c3), (.int c2), (.int c1), (.int ((p1 &&& (2147483647 : Int32)) % (5 : Int32)))]))
  obtain ⟨_, _, ⟨T5, L5, k5, n5⟩, -, X5, ⟨Lc5, hQ5, l5, y5, z5⟩, st5⟩ := Jvm.LawKit.callS X4 hx (y := (⟨"com/example/pagra/pagra/core/StrictUtf8IsEncodablePinLaw", "make", "(ICCCC)[C"⟩ : MethodName)) hown (mvT hZ (hw _ (List.mem_of_getElem? (i := 8) rfl))) (mvT hZ (hw _ (List.mem_of_getElem? (i := 9) rfl))) (mvT hZ (hw _ (List.mem_of_getElem? (i := 3) rfl))) (mvT hZ (hw _ (List.mem_of_getElem? (i := 10) rfl))) (by decide) (backOf (W := 0) (rm2 l Z a0 hw [] ((p1 &&& (2147483647 : Int32)) % (5 : Int32)) c1 c2 c3 c4 h0 n0 Z0) hZ (hw _ (List.mem_of_getElem? (i := 10) rfl)) (hw _ (List.mem_of_getElem? (i := 3) rfl)) (by decide) (by decide)) (g := (mkF m 27 #[.val (.int p1), .val (.int p2), .val (.int p3), .val (.int p4), .val (.int p5), .val (.int ((p1 &&& (2147483647 : Int32)) % (5 : Int32))), .unset, .unset] [(.int c4), (.int c3), (.int c2), (.int c1), (.int ((p1 &&& (2147483647 : Int32)) % (5 : Int32)))])) rfl (by rw [hml]; rfl) (argsL := [(.int ((p1 &&& (2147483647 : Int32)) % (5 : Int32))), (.int c1), (.int c2), (.int c3), (.int c4)]) (rest := []) (lenOf pd_1 rfl) rfl (by show 2 * 0 + _ ≤ _; exact Nat.le_of_eq rfl) (hb hby at_27) (fun _ _ => ⟨rfl, e4, Nat.le_of_ble_eq_true rfl, Nat.le_of_ble_eq_true rfl⟩)
  dsimp only [Pt.U, Pt.locs, Pt.cells, Pt.slots] at X5 l5 y5 z5 st5 hQ5
  subst l5 y5 z5
  obtain ⟨bA, kA, cs, rfl, N5q, K5, gA, szA, hN, hC, VA⟩ := hQ5
  have N5 := Fr.app N4 N5q
  refine own_goW (fun _ k => st5 _ k) ?_
  have Z5 := Nat.le_trans Z0 K5.1
  have O5 := O0.keep K5 all0
  have K5' := K0.trans K5 all0
  have hk5 := Nat.le_trans hk0 K5.1
  show own_EndsW p e below s _ _ _ (T5.setTop (mkF m 30 #[.val (.int p1), .val (.int p2), .val (.int p3), .val (.int p4), .val (.int p5), .val (.int ((p1 &&& (2147483647 : Int32)) % (5 : Int32))), .unset, .unset] [(.ref bA)]))
  refine own_goW (fun _ k => XS.astore X5.here hx rfl (hb hby at_30) rfl rfl (l' := #[.val (.int p1), .val (.int p2), .val (.int p3), .val (.int p4), .val (.int p5), .val (.int ((p1 &&& (2147483647 : Int32)) % (5 : Int32))), .val (.ref bA), .unset]) rfl <| XS.aload X5.here hx rfl (hb hby at_32) rfl rfl <| XT.iconstV X5.here hx rfl (0 : Int32) (hb hby at_34) rfl <| k) ?_
  show own_EndsW p e below s _ _ _ (T5.setTop (mkF m 35 #[.val (.int p1), .val (.int p2), .val (.int p3), .val (.int p4), .val (.int p5), .val (.int ((p1 &&& (2147483647 : Int32)) % (5 : Int32))), .val (.ref bA), .unset] [(.int (0 : Int32)), (.ref bA)]))
  obtain ⟨_, _, ⟨T6, L6, k6, n6⟩, -, X6, ⟨Lc6, hQ6, l6, y6, z6⟩, st6⟩ := Jvm.LawKit.callS X5 hx (y := (⟨"com/example/pagra/pagra/core/StrictUtf8IsEncodablePinLaw", "fine", "([CI)Z"⟩ : MethodName)) hown (mvT hZ (hw _ (List.mem_of_getElem? (i := 12) rfl))) (mvT hZ (hw _ (List.mem_of_getElem? (i := 13) rfl))) (mvT hZ (hw _ (List.mem_of_getElem? (i := 3) rfl))) (mvT hZ (hw _ (List.mem_of_getElem? (i := 14) rfl))) (by decide) (backOf (W := 0) (rm3 l Z a0 hw [] bA kA cs 0 T5.heap n0 Z5 hN (by decide) VA) hZ (hw _ (List.mem_of_getElem? (i := 14) rfl)) (hw _ (List.mem_of_getElem? (i := 3) rfl)) (by decide) (by decide)) (g := (mkF m 35 #[.val (.int p1), .val (.int p2), .val (.int p3), .val (.int p4), .val (.int p5), .val (.int ((p1 &&& (2147483647 : Int32)) % (5 : Int32))), .val (.ref bA), .unset] [(.int (0 : Int32)), (.ref bA)])) rfl (by rw [hml]; rfl) (argsL := [(.ref bA), (.int (0 : Int32))]) (rest := []) (lenOf pd_2 rfl) rfl (by show 2 * 0 + _ ≤ _; exact Nat.le_of_eq rfl) (hb hby at_35) (fun _ _ => ⟨rfl, rfl, Nat.le_of_ble_eq_true rfl, Nat.le_of_ble_eq_true rfl⟩)
  dsimp only [Pt.U, Pt.locs, Pt.cells, Pt.slots] at X6 l6 y6 z6 st6 hQ6
  subst l6 y6 z6
  obtain ⟨rfl, N6q, e6⟩ := hQ6
  have N6 := Fr.app N5 N6q
  refine own_goW (fun _ k => st6 _ k) ?_
  show own_EndsW p e below s _ _ _ (T6.setTop (mkF m 38 #[.val (.int p1), .val (.int p2), .val (.int p3), .val (.int p4), .val (.int p5), .val (.int ((p1 &&& (2147483647 : Int32)) % (5 : Int32))), .val (.ref bA), .unset] [(.int (own_fine cs 0))]))
  by_cases hc38_7 : (own_fine cs 0) = (0 : Int32)
  · -- true
    refine own_goW (fun _ k => XS.ifYes X6.here hx rfl (pc0 := 38) (pc' := 72) rfl (hb hby at_38) rfl ((if0 _ _).trans (teq hc38_7).1) (by decide) (by decide) <| XT.iconstV X6.here hx rfl (0 : Int32) (hb hby at_72) rfl <| XS.istore X6.here hx rfl (hb hby at_73) rfl (l' := #[.val (.int p1), .val (.int p2), .val (.int p3), .val (.int p4), .val (.int p5), .val (.int ((p1 &&& (2147483647 : Int32)) % (5 : Int32))), .val (.ref bA), .val (.int (0 : Int32))]) rfl <| k) ?_
    show own_EndsW p e below s _ _ _ (T6.setTop (mkF m 75 #[.val (.int p1), .val (.int p2), .val (.int p3), .val (.int p4), .val (.int p5), .val (.int ((p1 &&& (2147483647 : Int32)) % (5 : Int32))), .val (.ref bA), .val (.int (0 : Int32))] []))
    rcases Nat.eq_zero_or_pos cs.length with hz | hone
    ·
      obtain rfl : cs = [] := List.eq_nil_of_length_eq_zero hz
      have V0 : Arv Z T5.heap bA kA .char (0 : Int32) [] (.int (0 : Int32)) := VA
      obtain ⟨T8, h8, X8, e8, E8, A8, D8, -, st8⟩ := newO X6 hx hZ hown (hw _ (List.mem_of_getElem? (i := 15) rfl)) (hw _ (List.mem_of_getElem? (i := 16) rfl)) (hw _ (List.mem_of_getElem? (i := 17) rfl)) e6 (g := (mkF m 75 #[.val (.int p1), .val (.int p2), .val (.int p3), .val (.int p4), .val (.int p5), .val (.int ((p1 &&& (2147483647 : Int32)) % (5 : Int32))), .val (.ref bA), .val (.int (0 : Int32))] [])) rfl (hb hby at_75) (by decide) (by decide)
      obtain ⟨b8, g8⟩ : ∃ z, z = T5.heap.size := ⟨_, rfl⟩
      rw [← g8] at A8 D8 st8
      refine own_goW st8 ?_
      have ne_bA_b8 : bA ≠ b8 := Nat.ne_of_lt (Nat.lt_of_lt_of_le V0.lt (Nat.le_of_eq g8.symm))
      have g_b8 : n0 ≤ b8 := Nat.le_trans Z5 (Nat.le_of_eq g8.symm)
      have sz_b8 : h0.size ≤ b8 := Nat.le_trans K5'.1 (Nat.le_of_eq g8.symm)
      have V0'8 := V0.ext E8
      have Z8 := Nat.le_trans Z5 E8.1
      have O8 := O5.ext E8
      have K8' := K5'.ext E8
      have hk8 := Nat.le_trans hk5 E8.1
      have F_value_b8 : Fld Z h8 b8 "java/lang/String" "value" "[B" .null := D8 (Or.inr (hw _ (List.mem_of_getElem? (i := 30) rfl))) (ty := (.array .byte)) (by decide)
      have F_coder_b8 : Fld Z h8 b8 "java/lang/String" "coder" "B" (.int (0 : Int32)) := D8 (Or.inr (hw _ (List.mem_of_getElem? (i := 31) rfl))) (ty := .byte) (by decide)
      show own_EndsW p e below s _ _ _ (T8.setTop (mkF m 78 #[.val (.int p1), .val (.int p2), .val (.int p3), .val (.int p4), .val (.int p5), .val (.int ((p1 &&& (2147483647 : Int32)) % (5 : Int32))), .val (.ref bA), .val (.int (0 : Int32))] [(.ref b8)]))
      refine own_goW (fun _ k => XS.dup X8.here hx rfl (hb hby at_78) rfl rfl <| XS.aload X8.here hx rfl (hb hby at_79) rfl rfl <| k) ?_
      show own_EndsW p e below s _ _ _ (T8.setTop (mkF m 81 #[.val (.int p1), .val (.int p2), .val (.int p3), .val (.int p4), .val (.int p5), .val (.int ((p1 &&& (2147483647 : Int32)) % (5 : Int32))), .val (.ref bA), .val (.int (0 : Int32))] [(.ref bA), (.ref b8), (.ref b8)]))
      obtain ⟨_, _, ⟨T9, L9, k9, n9⟩, -, X9, hs9, hge9, ⟨Lc9, hQ9, l9, y9, z9⟩, st9⟩ := X8.specialBackS hx (y := (⟨"java/lang/String", "<init>", "([C)V"⟩ : MethodName)) rfl hown (mvT hZ (hw _ (List.mem_of_getElem? (i := 18) rfl))) (mvT hZ (hw _ (List.mem_of_getElem? (i := 19) rfl))) (mvT hZ (hw _ (List.mem_of_getElem? (i := 20) rfl))) (by decide) (own_backX (W := 1) (rmE9 l Z a0 hw [] b8 bA kA h8 n0 Z8 A8 F_value_b8 F_coder_b8 g_b8 V0'8 (Ne.symm ne_bA_b8)) hZ (hw _ (List.mem_of_getElem? (i := 20) rfl)) (hw _ (List.mem_of_getElem? (i := 17) rfl)) (by decide) (by decide)) (g := (mkF m 81 #[.val (.int p1), .val (.int p2), .val (.int p3), .val (.int p4), .val (.int p5), .val (.int ((p1 &&& (2147483647 : Int32)) % (5 : Int32))), .val (.ref bA), .val (.int (0 : Int32))] [(.ref bA), (.ref b8), (.ref b8)])) rfl (by rw [hml]; rfl) (Steps.refl _) (a := b8) (argsL := [(.ref bA)]) (rest := [(.ref b8)]) (lenOf pd_3 rfl) rfl (by show 2 * 0 + _ ≤ _; exact Nat.le_of_eq rfl) (hb hby at_81) (fun _ hwm => ⟨rfl, e8, Nat.le_of_ble_eq_true rfl, Nat.le_of_ble_eq_true rfl, own_held hwm (mvS (s := s) (args := #[]) hZ (hw _ (List.mem_of_getElem? (i := 28) rfl))) hCH (fun b c q => by rw [e8]; exact K8'.2.1 b c (hh ▸ q) (by simp))⟩)
      dsimp only [Pt.U, Pt.locs, Pt.cells, Pt.slots] at X9 l9 y9 z9 st9 hQ9 hs9 hge9
      have hS9 : s.Since T9.vm T9.heap.size := hS0.trans hs9 (Nat.le_trans hk8 (by rw [← e8]; exact hge9))
      have hZ : Z.Warmed39 (s.setVm T9.vm).vm := State.Warmed39.trans (t := s.setVm s.vm) hZ hs9.1
      have hown : (s.setVm T9.vm).vm.findClass "com/example/pagra/pagra/core/StrictUtf8IsEncodablePinLaw" = some m.cls := by rw [show (s.setVm T9.vm).vm = T9.vm from rfl, hs9.1.alike.findClass]; exact hown
      have X9 : Stand p l e room_1 (s.setVm T9.vm) m #[(.int p1), (.int p2), (.int p3), (.int p4), (.int p5)] below meth c T9 L9 k9 n9 := X9
      subst l9 y9 z9
      obtain ⟨b9, kb9, rfl, N9q, K9, Fv9, Fc9, Vb9⟩ := hQ9
      have N9 := Fr.app N6 N9q
      refine own_goW (fun _ k => st9.trans k) ?_
      have V0'9 := V0'8.keep K9 (ninS ne_bA_b8 nin0)
      have A8'9 := A8.keep K9
      have Z9 := Nat.le_trans Z8 K9.1
      have O9 := O8.keep K9 (allS g_b8 all0)
      have K9' := K8'.trans K9 (allS (Or.inr sz_b8) all0)
      show own_EndsW p e below s _ _ _ (T9.setTop (mkF m 84 #[.val (.int p1), .val (.int p2), .val (.int p3), .val (.int p4), .val (.int p5), .val (.int ((p1 &&& (2147483647 : Int32)) % (5 : Int32))), .val (.ref bA), .val (.int (0 : Int32))] [(.ref b8)]))
      obtain ⟨_, _, ⟨T10, L10, k10, n10⟩, -, X10, ⟨Lc10, hQ10, l10, y10, z10⟩, st10⟩ := Jvm.LawKit.callS X9 hx (y := (⟨"com/example/pagra/pagra/core/StrictUtf8", "isEncodable", "(Ljava/lang/String;)Z"⟩ : MethodName)) hown (mvT hZ (hw _ (List.mem_of_getElem? (i := 36) rfl))) (mvT hZ (hw _ (List.mem_of_getElem? (i := 37) rfl))) (mvT hZ (hw _ (List.mem_of_getElem? (i := 38) rfl))) (mvT hZ (hw _ (List.mem_of_getElem? (i := 39) rfl))) (by decide) (backOf (W := 0) (rm7 l Z a0 hw [] b8 vc vf b9 kb9 (0 : Int32) (([] : List Int32)) T9.heap n0 Z9 O9 ST (by simp) hC A8'9 Fv9 Fc9 Vb9 own_KCe) hZ (hw _ (List.mem_of_getElem? (i := 39) rfl)) (hw _ (List.mem_of_getElem? (i := 38) rfl)) (by decide) (by decide)) (g := (mkF m 84 #[.val (.int p1), .val (.int p2), .val (.int p3), .val (.int p4), .val (.int p5), .val (.int ((p1 &&& (2147483647 : Int32)) % (5 : Int32))), .val (.ref bA), .val (.int (0 : Int32))] [(.ref b8)])) rfl (by rw [hml]; rfl) (argsL := [(.ref b8)]) (rest := []) (lenOf pd_6 rfl) rfl (by show 2 * 0 + _ ≤ _; exact Nat.le_of_eq rfl) (hb hby at_84) (fun _ _ => ⟨rfl, rfl, Nat.le_of_ble_eq_true rfl, Nat.le_of_ble_eq_true rfl⟩)
      dsimp only [Pt.U, Pt.locs, Pt.cells, Pt.slots] at X10 l10 y10 z10 st10 hQ10
      subst l10 y10 z10
      obtain ⟨rfl, N10q, e10⟩ := hQ10
      have N10 := Fr.app N9 N10q
      refine own_goW (fun _ k => st10 _ k) ?_
      show own_EndsW p e below s _ _ _ (T10.setTop (mkF m 87 #[.val (.int p1), .val (.int p2), .val (.int p3), .val (.int p4), .val (.int p5), .val (.int ((p1 &&& (2147483647 : Int32)) % (5 : Int32))), .val (.ref bA), .val (.int (0 : Int32))] [(.int (own_enc ([] : List Int32) 5 0))]))
      refine own_goW (fun _ k => XS.iload X10.here hx rfl (hb hby at_87) rfl <| XS.icmpNo X10.here hx rfl (hb hby at_89) rfl (teq (by rw [own_main (by simp) hC, if_pos hc38_7])).2 <| XT.iconstV X10.here hx rfl (1 : Int32) (hb hby at_92) rfl <| XS.goto X10.here hx rfl (pc0 := 93) (pc' := 97) rfl (hb hby at_93) (by decide) (by decide) <| k) ?_
      show own_EndsW p e below s _ _ _ (T10.setTop (mkF m 97 #[.val (.int p1), .val (.int p2), .val (.int p3), .val (.int p4), .val (.int p5), .val (.int ((p1 &&& (2147483647 : Int32)) % (5 : Int32))), .val (.ref bA), .val (.int (0 : Int32))] [(.int (1 : Int32))]))
      exact own_retNW X10 hx (t := .boolean) hrt (by simp) hS9 (by first | exact (Nat.le_refl _) | (rw [e10]; exact (Nat.le_refl _))) (hb hby at_97) hlk (show nar .boolean (1 : Int32) = (1 : Int32) from by decide) (by rw [e10]; exact ⟨rfl, N10⟩) (by decide) (by decide)
    ·
      obtain ⟨T11, h11, X11, e11, E11, A11, D11, -, st11⟩ := newO X6 hx hZ hown (hw _ (List.mem_of_getElem? (i := 15) rfl)) (hw _ (List.mem_of_getElem? (i := 16) rfl)) (hw _ (List.mem_of_getElem? (i := 17) rfl)) e6 (g := (mkF m 75 #[.val (.int p1), .val (.int p2), .val (.int p3), .val (.int p4), .val (.int p5), .val (.int ((p1 &&& (2147483647 : Int32)) % (5 : Int32))), .val (.ref bA), .val (.int (0 : Int32))] [])) rfl (hb hby at_75) (by decide) (by decide)
      obtain ⟨b11, g11⟩ : ∃ z, z = T5.heap.size := ⟨_, rfl⟩
      rw [← g11] at A11 D11 st11
      refine own_goW st11 ?_
      have ne_bA_b11 : bA ≠ b11 := Nat.ne_of_lt (Nat.lt_of_lt_of_le VA.lt (Nat.le_of_eq g11.symm))
      have g_b11 : n0 ≤ b11 := Nat.le_trans Z5 (Nat.le_of_eq g11.symm)
      have sz_b11 : h0.size ≤ b11 := Nat.le_trans K5'.1 (Nat.le_of_eq g11.symm)
      have VA'11 := VA.ext E11
      have Z11 := Nat.le_trans Z5 E11.1
      have O11 := O5.ext E11
      have K11' := K5'.ext E11
      have hk11 := Nat.le_trans hk5 E11.1
      have F_value_b11 : Fld Z h11 b11 "java/lang/String" "value" "[B" .null := D11 (Or.inr (hw _ (List.mem_of_getElem? (i := 30) rfl))) (ty := (.array .byte)) (by decide)
      have F_coder_b11 : Fld Z h11 b11 "java/lang/String" "coder" "B" (.int (0 : Int32)) := D11 (Or.inr (hw _ (List.mem_of_getElem? (i := 31) rfl))) (ty := .byte) (by decide)
      show own_EndsW p e below s _ _ _ (T11.setTop (mkF m 78 #[.val (.int p1), .val (.int p2), .val (.int p3), .val (.int p4), .val (.int p5), .val (.int ((p1 &&& (2147483647 : Int32)) % (5 : Int32))), .val (.ref bA), .val (.int (0 : Int32))] [(.ref b11)]))
      refine own_goW (fun _ k => XS.dup X11.here hx rfl (hb hby at_78) rfl rfl <| XS.aload X11.here hx rfl (hb hby at_79) rfl rfl <| k) ?_
      show own_EndsW p e below s _ _ _ (T11.setTop (mkF m 81 #[.val (.int p1), .val (.int p2), .val (.int p3), .val (.int p4), .val (.int p5), .val (.int ((p1 &&& (2147483647 : Int32)) % (5 : Int32))), .val (.ref bA), .val (.int (0 : Int32))] [(.ref bA), (.ref b11), (.ref b11)]))
      obtain ⟨_, _, ⟨T12, L12, k12, n12⟩, -, X12, ⟨Lc12, hQ12, l12, y12, z12⟩, st12⟩ := X11.specialBack hx (y := (⟨"java/lang/String", "<init>", "([C)V"⟩ : MethodName)) rfl hown (mvT hZ (hw _ (List.mem_of_getElem? (i := 18) rfl))) (mvT hZ (hw _ (List.mem_of_getElem? (i := 19) rfl))) (mvT hZ (hw _ (List.mem_of_getElem? (i := 20) rfl))) (by decide) (backOf (W := 1) (rm4 l Z a0 hw [] b11 bA vc vf kA cs h11 n0 Z11 O11 ST hN hC hone VA'11 A11 F_value_b11 F_coder_b11 (Ne.symm ne_bA_b11) g_b11) hZ (hw _ (List.mem_of_getElem? (i := 20) rfl)) (hw _ (List.mem_of_getElem? (i := 17) rfl)) (by decide) (by decide)) (g := (mkF m 81 #[.val (.int p1), .val (.int p2), .val (.int p3), .val (.int p4), .val (.int p5), .val (.int ((p1 &&& (2147483647 : Int32)) % (5 : Int32))), .val (.ref bA), .val (.int (0 : Int32))] [(.ref bA), (.ref b11), (.ref b11)])) rfl (by rw [hml]; rfl) (Steps.refl _) (a := b11) (argsL := [(.ref bA)]) (rest := [(.ref b11)]) (lenOf pd_3 rfl) rfl (by show 2 * 0 + _ ≤ _; exact Nat.le_of_eq rfl) (hb hby at_81) (fun _ _ => ⟨rfl, e11, Nat.le_of_ble_eq_true rfl, Nat.le_of_ble_eq_true rfl⟩)
      dsimp only [Pt.U, Pt.locs, Pt.cells, Pt.slots] at X12 l12 y12 z12 st12 hQ12
      subst l12 y12 z12
      obtain ⟨b12, kb12, kc12, rfl, N12q, K12, g12, sz12, hkc12, Fv12, Fc12, Vb12⟩ := hQ12
      have N12 := Fr.app N6 N12q
      refine own_goW (fun _ k => st12.trans k) ?_
      have VA'12 := VA'11.keep K12 (ninS ne_bA_b11 nin0)
      have A11'12 := A11.keep K12
      have Z12 := Nat.le_trans Z11 K12.1
      have O12 := O11.keep K12 (allS g_b11 all0)
      have K12' := K11'.trans K12 (allS (Or.inr sz_b11) all0)
      have hk12 := Nat.le_trans hk11 K12.1
      show own_EndsW p e below s _ _ _ (T12.setTop (mkF m 84 #[.val (.int p1), .val (.int p2), .val (.int p3), .val (.int p4), .val (.int p5), .val (.int ((p1 &&& (2147483647 : Int32)) % (5 : Int32))), .val (.ref bA), .val (.int (0 : Int32))] [(.ref b11)]))
      have ne_bA_b12 : bA ≠ b12 := Nat.ne_of_lt (Nat.lt_of_lt_of_le VA'11.lt sz12)
      have ne_b11_b12 : b11 ≠ b12 := Nat.ne_of_lt (Nat.lt_of_lt_of_le A11.lt sz12)
      have szk12 : h0.size ≤ b12 := Nat.le_trans K11'.1 sz12
      obtain ⟨_, _, ⟨T13, L13, k13, n13⟩, -, X13, ⟨Lc13, hQ13, l13, y13, z13⟩, st13⟩ := Jvm.LawKit.callS X12 hx (y := (⟨"com/example/pagra/pagra/core/StrictUtf8", "isEncodable", "(Ljava/lang/String;)Z"⟩ : MethodName)) hown (mvT hZ (hw _ (List.mem_of_getElem? (i := 36) rfl))) (mvT hZ (hw _ (List.mem_of_getElem? (i := 37) rfl))) (mvT hZ (hw _ (List.mem_of_getElem? (i := 38) rfl))) (mvT hZ (hw _ (List.mem_of_getElem? (i := 39) rfl))) (by decide) (backOf (W := 0) (rm7 l Z a0 hw [] b11 vc vf b12 kb12 kc12 cs T12.heap n0 Z12 O12 ST hN hC A11'12 Fv12 Fc12 Vb12 hkc12) hZ (hw _ (List.mem_of_getElem? (i := 39) rfl)) (hw _ (List.mem_of_getElem? (i := 38) rfl)) (by decide) (by decide)) (g := (mkF m 84 #[.val (.int p1), .val (.int p2), .val (.int p3), .val (.int p4), .val (.int p5), .val (.int ((p1 &&& (2147483647 : Int32)) % (5 : Int32))), .val (.ref bA), .val (.int (0 : Int32))] [(.ref b11)])) rfl (by rw [hml]; rfl) (argsL := [(.ref b11)]) (rest := []) (lenOf pd_6 rfl) rfl (by show 2 * 0 + _ ≤ _; exact Nat.le_of_eq rfl) (hb hby at_84) (fun _ _ => ⟨rfl, rfl, Nat.le_of_ble_eq_true rfl, Nat.le_of_ble_eq_true rfl⟩)
      dsimp only [Pt.U, Pt.locs, Pt.cells, Pt.slots] at X13 l13 y13 z13 st13 hQ13
      subst l13 y13 z13
      obtain ⟨rfl, N13q, e13⟩ := hQ13
      have N13 := Fr.app N12 N13q
      refine own_goW (fun _ k => st13 _ k) ?_
      show own_EndsW p e below s _ _ _ (T13.setTop (mkF m 87 #[.val (.int p1), .val (.int p2), .val (.int p3), .val (.int p4), .val (.int p5), .val (.int ((p1 &&& (2147483647 : Int32)) % (5 : Int32))), .val (.ref bA), .val (.int (0 : Int32))] [(.int (own_enc cs 5 0))]))
      refine own_goW (fun _ k => XS.iload X13.here hx rfl (hb hby at_87) rfl <| XS.icmpNo X13.here hx rfl (hb hby at_89) rfl (teq (by rw [own_main hN hC, if_pos hc38_7])).2 <| XT.iconstV X13.here hx rfl (1 : Int32) (hb hby at_92) rfl <| XS.goto X13.here hx rfl (pc0 := 93) (pc' := 97) rfl (hb hby at_93) (by decide) (by decide) <| k) ?_
      show own_EndsW p e below s _ _ _ (T13.setTop (mkF m 97 #[.val (.int p1), .val (.int p2), .val (.int p3), .val (.int p4), .val (.int p5), .val (.int ((p1 &&& (2147483647 : Int32)) % (5 : Int32))), .val (.ref bA), .val (.int (0 : Int32))] [(.int (1 : Int32))]))
      exact own_retNW X13 hx (t := .boolean) hrt (by simp) hS0 (by first | exact hk12 | (rw [e13]; exact hk12)) (hb hby at_97) hlk (show nar .boolean (1 : Int32) = (1 : Int32) from by decide) (by rw [e13]; exact ⟨rfl, N13⟩) (by decide) (by decide)
  · -- false
    refine own_goW (fun _ k => XS.ifNo X6.here hx rfl (hb hby at_38) rfl ((if0 _ _).trans (feq hc38_7).1) <| XS.aload X6.here hx rfl (hb hby at_41) rfl rfl <| XT.iconstV X6.here hx rfl (1 : Int32) (hb hby at_43) rfl <| k) ?_
    show own_EndsW p e below s _ _ _ (T6.setTop (mkF m 44 #[.val (.int p1), .val (.int p2), .val (.int p3), .val (.int p4), .val (.int p5), .val (.int ((p1 &&& (2147483647 : Int32)) % (5 : Int32))), .val (.ref bA), .unset] [(.int (1 : Int32)), (.ref bA)]))
    obtain ⟨_, _, ⟨T14, L14, k14, n14⟩, -, X14, ⟨Lc14, hQ14, l14, y14, z14⟩, st14⟩ := Jvm.LawKit.callS X6 hx (y := (⟨"com/example/pagra/pagra/core/StrictUtf8IsEncodablePinLaw", "fine", "([CI)Z"⟩ : MethodName)) hown (mvT hZ (hw _ (List.mem_of_getElem? (i := 12) rfl))) (mvT hZ (hw _ (List.mem_of_getElem? (i := 13) rfl))) (mvT hZ (hw _ (List.mem_of_getElem? (i := 3) rfl))) (mvT hZ (hw _ (List.mem_of_getElem? (i := 14) rfl))) (by decide) (backOf (W := 0) (rm3 l Z a0 hw [] bA kA cs 1 T5.heap n0 Z5 hN (by decide) VA) hZ (hw _ (List.mem_of_getElem? (i := 14) rfl)) (hw _ (List.mem_of_getElem? (i := 3) rfl)) (by decide) (by decide)) (g := (mkF m 44 #[.val (.int p1), .val (.int p2), .val (.int p3), .val (.int p4), .val (.int p5), .val (.int ((p1 &&& (2147483647 : Int32)) % (5 : Int32))), .val (.ref bA), .unset] [(.int (1 : Int32)), (.ref bA)])) rfl (by rw [hml]; rfl) (argsL := [(.ref bA), (.int (1 : Int32))]) (rest := []) (lenOf pd_2 rfl) rfl (by show 2 * 0 + _ ≤ _; exact Nat.le_of_eq rfl) (hb hby at_44) (fun _ _ => ⟨rfl, e6, Nat.le_of_ble_eq_true rfl, Nat.le_of_ble_eq_true rfl⟩)
    dsimp only [Pt.U, Pt.locs, Pt.cells, Pt.slots] at X14 l14 y14 z14 st14 hQ14
    subst l14 y14 z14
    obtain ⟨rfl, N14q, e14⟩ := hQ14
    have N14 := Fr.app N6 N14q
    refine own_goW (fun _ k => st14 _ k) ?_
    show own_EndsW p e below s _ _ _ (T14.setTop (mkF m 47 #[.val (.int p1), .val (.int p2), .val (.int p3), .val (.int p4), .val (.int p5), .val (.int ((p1 &&& (2147483647 : Int32)) % (5 : Int32))), .val (.ref bA), .unset] [(.int (own_fine cs 1))]))
    by_cases hc47_15 : (own_fine cs 1) = (0 : Int32)
    · -- true
      refine own_goW (fun _ k => XS.ifYes X14.here hx rfl (pc0 := 47) (pc' := 72) rfl (hb hby at_47) rfl ((if0 _ _).trans (teq hc47_15).1) (by decide) (by decide) <| XT.iconstV X14.here hx rfl (0 : Int32) (hb hby at_72) rfl <| XS.istore X14.here hx rfl (hb hby at_73) rfl (l' := #[.val (.int p1), .val (.int p2), .val (.int p3), .val (.int p4), .val (.int p5), .val (.int ((p1 &&& (2147483647 : Int32)) % (5 : Int32))), .val (.ref bA), .val (.int (0 : Int32))]) rfl <| k) ?_
      show own_EndsW p e below s _ _ _ (T14.setTop (mkF m 75 #[.val (.int p1), .val (.int p2), .val (.int p3), .val (.int p4), .val (.int p5), .val (.int ((p1 &&& (2147483647 : Int32)) % (5 : Int32))), .val (.ref bA), .val (.int (0 : Int32))] []))
      rcases Nat.eq_zero_or_pos cs.length with hz | hone
      ·
        obtain rfl : cs = [] := List.eq_nil_of_length_eq_zero hz
        have V0 : Arv Z T5.heap bA kA .char (0 : Int32) [] (.int (0 : Int32)) := VA
        obtain ⟨T16, h16, X16, e16, E16, A16, D16, -, st16⟩ := newO X14 hx hZ hown (hw _ (List.mem_of_getElem? (i := 15) rfl)) (hw _ (List.mem_of_getElem? (i := 16) rfl)) (hw _ (List.mem_of_getElem? (i := 17) rfl)) e14 (g := (mkF m 75 #[.val (.int p1), .val (.int p2), .val (.int p3), .val (.int p4), .val (.int p5), .val (.int ((p1 &&& (2147483647 : Int32)) % (5 : Int32))), .val (.ref bA), .val (.int (0 : Int32))] [])) rfl (hb hby at_75) (by decide) (by decide)
        obtain ⟨b16, g16⟩ : ∃ z, z = T5.heap.size := ⟨_, rfl⟩
        rw [← g16] at A16 D16 st16
        refine own_goW st16 ?_
        have ne_bA_b16 : bA ≠ b16 := Nat.ne_of_lt (Nat.lt_of_lt_of_le V0.lt (Nat.le_of_eq g16.symm))
        have g_b16 : n0 ≤ b16 := Nat.le_trans Z5 (Nat.le_of_eq g16.symm)
        have sz_b16 : h0.size ≤ b16 := Nat.le_trans K5'.1 (Nat.le_of_eq g16.symm)
        have V0'16 := V0.ext E16
        have Z16 := Nat.le_trans Z5 E16.1
        have O16 := O5.ext E16
        have K16' := K5'.ext E16
        have hk16 := Nat.le_trans hk5 E16.1
        have F_value_b16 : Fld Z h16 b16 "java/lang/String" "value" "[B" .null := D16 (Or.inr (hw _ (List.mem_of_getElem? (i := 30) rfl))) (ty := (.array .byte)) (by decide)
        have F_coder_b16 : Fld Z h16 b16 "java/lang/String" "coder" "B" (.int (0 : Int32)) := D16 (Or.inr (hw _ (List.mem_of_getElem? (i := 31) rfl))) (ty := .byte) (by decide)
        show own_EndsW p e below s _ _ _ (T16.setTop (mkF m 78 #[.val (.int p1), .val (.int p2), .val (.int p3), .val (.int p4), .val (.int p5), .val (.int ((p1 &&& (2147483647 : Int32)) % (5 : Int32))), .val (.ref bA), .val (.int (0 : Int32))] [(.ref b16)]))
        refine own_goW (fun _ k => XS.dup X16.here hx rfl (hb hby at_78) rfl rfl <| XS.aload X16.here hx rfl (hb hby at_79) rfl rfl <| k) ?_
        show own_EndsW p e below s _ _ _ (T16.setTop (mkF m 81 #[.val (.int p1), .val (.int p2), .val (.int p3), .val (.int p4), .val (.int p5), .val (.int ((p1 &&& (2147483647 : Int32)) % (5 : Int32))), .val (.ref bA), .val (.int (0 : Int32))] [(.ref bA), (.ref b16), (.ref b16)]))
        obtain ⟨_, _, ⟨T17, L17, k17, n17⟩, -, X17, hs17, hge17, ⟨Lc17, hQ17, l17, y17, z17⟩, st17⟩ := X16.specialBackS hx (y := (⟨"java/lang/String", "<init>", "([C)V"⟩ : MethodName)) rfl hown (mvT hZ (hw _ (List.mem_of_getElem? (i := 18) rfl))) (mvT hZ (hw _ (List.mem_of_getElem? (i := 19) rfl))) (mvT hZ (hw _ (List.mem_of_getElem? (i := 20) rfl))) (by decide) (own_backX (W := 1) (rmE9 l Z a0 hw [] b16 bA kA h16 n0 Z16 A16 F_value_b16 F_coder_b16 g_b16 V0'16 (Ne.symm ne_bA_b16)) hZ (hw _ (List.mem_of_getElem? (i := 20) rfl)) (hw _ (List.mem_of_getElem? (i := 17) rfl)) (by decide) (by decide)) (g := (mkF m 81 #[.val (.int p1), .val (.int p2), .val (.int p3), .val (.int p4), .val (.int p5), .val (.int ((p1 &&& (2147483647 : Int32)) % (5 : Int32))), .val (.ref bA), .val (.int (0 : Int32))] [(.ref bA), (.ref b16), (.ref b16)])) rfl (by rw [hml]; rfl) (Steps.refl _) (a := b16) (argsL := [(.ref bA)]) (rest := [(.ref b16)]) (lenOf pd_3 rfl) rfl (by show 2 * 0 + _ ≤ _; exact Nat.le_of_eq rfl) (hb hby at_81) (fun _ hwm => ⟨rfl, e16, Nat.le_of_ble_eq_true rfl, Nat.le_of_ble_eq_true rfl, own_held hwm (mvS (s := s) (args := #[]) hZ (hw _ (List.mem_of_getElem? (i := 28) rfl))) hCH (fun b c q => by rw [e16]; exact K16'.2.1 b c (hh ▸ q) (by simp))⟩)
        dsimp only [Pt.U, Pt.locs, Pt.cells, Pt.slots] at X17 l17 y17 z17 st17 hQ17 hs17 hge17
        have hS17 : s.Since T17.vm T17.heap.size := hS0.trans hs17 (Nat.le_trans hk16 (by rw [← e16]; exact hge17))
        have hZ : Z.Warmed39 (s.setVm T17.vm).vm := State.Warmed39.trans (t := s.setVm s.vm) hZ hs17.1
        have hown : (s.setVm T17.vm).vm.findClass "com/example/pagra/pagra/core/StrictUtf8IsEncodablePinLaw" = some m.cls := by rw [show (s.setVm T17.vm).vm = T17.vm from rfl, hs17.1.alike.findClass]; exact hown
        have X17 : Stand p l e room_1 (s.setVm T17.vm) m #[(.int p1), (.int p2), (.int p3), (.int p4), (.int p5)] below meth c T17 L17 k17 n17 := X17
        subst l17 y17 z17
        obtain ⟨b17, kb17, rfl, N17q, K17, Fv17, Fc17, Vb17⟩ := hQ17
        have N17 := Fr.app N14 N17q
        refine own_goW (fun _ k => st17.trans k) ?_
        have V0'17 := V0'16.keep K17 (ninS ne_bA_b16 nin0)
        have A16'17 := A16.keep K17
        have Z17 := Nat.le_trans Z16 K17.1
        have O17 := O16.keep K17 (allS g_b16 all0)
        have K17' := K16'.trans K17 (allS (Or.inr sz_b16) all0)
        show own_EndsW p e below s _ _ _ (T17.setTop (mkF m 84 #[.val (.int p1), .val (.int p2), .val (.int p3), .val (.int p4), .val (.int p5), .val (.int ((p1 &&& (2147483647 : Int32)) % (5 : Int32))), .val (.ref bA), .val (.int (0 : Int32))] [(.ref b16)]))
        obtain ⟨_, _, ⟨T18, L18, k18, n18⟩, -, X18, ⟨Lc18, hQ18, l18, y18, z18⟩, st18⟩ := Jvm.LawKit.callS X17 hx (y := (⟨"com/example/pagra/pagra/core/StrictUtf8", "isEncodable", "(Ljava/lang/String;)Z"⟩ : MethodName)) hown (mvT hZ (hw _ (List.mem_of_getElem? (i := 36) rfl))) (mvT hZ (hw _ (List.mem_of_getElem? (i := 37) rfl))) (mvT hZ (hw _ (List.mem_of_getElem? (i := 38) rfl))) (mvT hZ (hw _ (List.mem_of_getElem? (i := 39) rfl))) (by decide) (backOf (W := 0) (rm7 l Z a0 hw [] b16 vc vf b17 kb17 (0 : Int32) (([] : List Int32)) T17.heap n0 Z17 O17 ST (by simp) hC A16'17 Fv17 Fc17 Vb17 own_KCe) hZ (hw _ (List.mem_of_getElem? (i := 39) rfl)) (hw _ (List.mem_of_getElem? (i := 38) rfl)) (by decide) (by decide)) (g := (mkF m 84 #[.val (.int p1), .val (.int p2), .val (.int p3), .val (.int p4), .val (.int p5), .val (.int ((p1 &&& (2147483647 : Int32)) % (5 : Int32))), .val (.ref bA), .val (.int (0 : Int32))] [(.ref b16)])) rfl (by rw [hml]; rfl) (argsL := [(.ref b16)]) (rest := []) (lenOf pd_6 rfl) rfl (by show 2 * 0 + _ ≤ _; exact Nat.le_of_eq rfl) (hb hby at_84) (fun _ _ => ⟨rfl, rfl, Nat.le_of_ble_eq_true rfl, Nat.le_of_ble_eq_true rfl⟩)
        dsimp only [Pt.U, Pt.locs, Pt.cells, Pt.slots] at X18 l18 y18 z18 st18 hQ18
        subst l18 y18 z18
        obtain ⟨rfl, N18q, e18⟩ := hQ18
        have N18 := Fr.app N17 N18q
        refine own_goW (fun _ k => st18 _ k) ?_
        show own_EndsW p e below s _ _ _ (T18.setTop (mkF m 87 #[.val (.int p1), .val (.int p2), .val (.int p3), .val (.int p4), .val (.int p5), .val (.int ((p1 &&& (2147483647 : Int32)) % (5 : Int32))), .val (.ref bA), .val (.int (0 : Int32))] [(.int (own_enc ([] : List Int32) 5 0))]))
        refine own_goW (fun _ k => XS.iload X18.here hx rfl (hb hby at_87) rfl <| XS.icmpNo X18.here hx rfl (hb hby at_89) rfl (teq (by rw [own_main (by simp) hC, if_neg hc38_7, if_pos hc47_15])).2 <| XT.iconstV X18.here hx rfl (1 : Int32) (hb hby at_92) rfl <| XS.goto X18.here hx rfl (pc0 := 93) (pc' := 97) rfl (hb hby at_93) (by decide) (by decide) <| k) ?_
        show own_EndsW p e below s _ _ _ (T18.setTop (mkF m 97 #[.val (.int p1), .val (.int p2), .val (.int p3), .val (.int p4), .val (.int p5), .val (.int ((p1 &&& (2147483647 : Int32)) % (5 : Int32))), .val (.ref bA), .val (.int (0 : Int32))] [(.int (1 : Int32))]))
        exact own_retNW X18 hx (t := .boolean) hrt (by simp) hS17 (by first | exact (Nat.le_refl _) | (rw [e18]; exact (Nat.le_refl _))) (hb hby at_97) hlk (show nar .boolean (1 : Int32) = (1 : Int32) from by decide) (by rw [e18]; exact ⟨rfl, N18⟩) (by decide) (by decide)
      ·
        obtain ⟨T19, h19, X19, e19, E19, A19, D19, -, st19⟩ := newO X14 hx hZ hown (hw _ (List.mem_of_getElem? (i := 15) rfl)) (hw _ (List.mem_of_getElem? (i := 16) rfl)) (hw _ (List.mem_of_getElem? (i := 17) rfl)) e14 (g := (mkF m 75 #[.val (.int p1), .val (.int p2), .val (.int p3), .val (.int p4), .val (.int p5), .val (.int ((p1 &&& (2147483647 : Int32)) % (5 : Int32))), .val (.ref bA), .val (.int (0 : Int32))] [])) rfl (hb hby at_75) (by decide) (by decide)
        obtain ⟨b19, g19⟩ : ∃ z, z = T5.heap.size := ⟨_, rfl⟩
        rw [← g19] at A19 D19 st19
        refine own_goW st19 ?_
        have ne_bA_b19 : bA ≠ b19 := Nat.ne_of_lt (Nat.lt_of_lt_of_le VA.lt (Nat.le_of_eq g19.symm))
        have g_b19 : n0 ≤ b19 := Nat.le_trans Z5 (Nat.le_of_eq g19.symm)
        have sz_b19 : h0.size ≤ b19 := Nat.le_trans K5'.1 (Nat.le_of_eq g19.symm)
        have VA'19 := VA.ext E19
        have Z19 := Nat.le_trans Z5 E19.1
        have O19 := O5.ext E19
        have K19' := K5'.ext E19
        have hk19 := Nat.le_trans hk5 E19.1
        have F_value_b19 : Fld Z h19 b19 "java/lang/String" "value" "[B" .null := D19 (Or.inr (hw _ (List.mem_of_getElem? (i := 30) rfl))) (ty := (.array .byte)) (by decide)
        have F_coder_b19 : Fld Z h19 b19 "java/lang/String" "coder" "B" (.int (0 : Int32)) := D19 (Or.inr (hw _ (List.mem_of_getElem? (i := 31) rfl))) (ty := .byte) (by decide)
        show own_EndsW p e below s _ _ _ (T19.setTop (mkF m 78 #[.val (.int p1), .val (.int p2), .val (.int p3), .val (.int p4), .val (.int p5), .val (.int ((p1 &&& (2147483647 : Int32)) % (5 : Int32))), .val (.ref bA), .val (.int (0 : Int32))] [(.ref b19)]))
        refine own_goW (fun _ k => XS.dup X19.here hx rfl (hb hby at_78) rfl rfl <| XS.aload X19.here hx rfl (hb hby at_79) rfl rfl <| k) ?_
        show own_EndsW p e below s _ _ _ (T19.setTop (mkF m 81 #[.val (.int p1), .val (.int p2), .val (.int p3), .val (.int p4), .val (.int p5), .val (.int ((p1 &&& (2147483647 : Int32)) % (5 : Int32))), .val (.ref bA), .val (.int (0 : Int32))] [(.ref bA), (.ref b19), (.ref b19)]))
        obtain ⟨_, _, ⟨T20, L20, k20, n20⟩, -, X20, ⟨Lc20, hQ20, l20, y20, z20⟩, st20⟩ := X19.specialBack hx (y := (⟨"java/lang/String", "<init>", "([C)V"⟩ : MethodName)) rfl hown (mvT hZ (hw _ (List.mem_of_getElem? (i := 18) rfl))) (mvT hZ (hw _ (List.mem_of_getElem? (i := 19) rfl))) (mvT hZ (hw _ (List.mem_of_getElem? (i := 20) rfl))) (by decide) (backOf (W := 1) (rm4 l Z a0 hw [] b19 bA vc vf kA cs h19 n0 Z19 O19 ST hN hC hone VA'19 A19 F_value_b19 F_coder_b19 (Ne.symm ne_bA_b19) g_b19) hZ (hw _ (List.mem_of_getElem? (i := 20) rfl)) (hw _ (List.mem_of_getElem? (i := 17) rfl)) (by decide) (by decide)) (g := (mkF m 81 #[.val (.int p1), .val (.int p2), .val (.int p3), .val (.int p4), .val (.int p5), .val (.int ((p1 &&& (2147483647 : Int32)) % (5 : Int32))), .val (.ref bA), .val (.int (0 : Int32))] [(.ref bA), (.ref b19), (.ref b19)])) rfl (by rw [hml]; rfl) (Steps.refl _) (a := b19) (argsL := [(.ref bA)]) (rest := [(.ref b19)]) (lenOf pd_3 rfl) rfl (by show 2 * 0 + _ ≤ _; exact Nat.le_of_eq rfl) (hb hby at_81) (fun _ _ => ⟨rfl, e19, Nat.le_of_ble_eq_true rfl, Nat.le_of_ble_eq_true rfl⟩)
        dsimp only [Pt.U, Pt.locs, Pt.cells, Pt.slots] at X20 l20 y20 z20 st20 hQ20
        subst l20 y20 z20
        obtain ⟨b20, kb20, kc20, rfl, N20q, K20, g20, sz20, hkc20, Fv20, Fc20, Vb20⟩ := hQ20
        have N20 := Fr.app N14 N20q
        refine own_goW (fun _ k => st20.trans k) ?_
        have VA'20 := VA'19.keep K20 (ninS ne_bA_b19 nin0)
        have A19'20 := A19.keep K20
        have Z20 := Nat.le_trans Z19 K20.1
        have O20 := O19.keep K20 (allS g_b19 all0)
        have K20' := K19'.trans K20 (allS (Or.inr sz_b19) all0)
        have hk20 := Nat.le_trans hk19 K20.1
        show own_EndsW p e below s _ _ _ (T20.setTop (mkF m 84 #[.val (.int p1), .val (.int p2), .val (.int p3), .val (.int p4), .val (.int p5), .val (.int ((p1 &&& (2147483647 : Int32)) % (5 : Int32))), .val (.ref bA), .val (.int (0 : Int32))] [(.ref b19)]))
        have ne_bA_b20 : bA ≠ b20 := Nat.ne_of_lt (Nat.lt_of_lt_of_le VA'19.lt sz20)
        have ne_b19_b20 : b19 ≠ b20 := Nat.ne_of_lt (Nat.lt_of_lt_of_le A19.lt sz20)
        have szk20 : h0.size ≤ b20 := Nat.le_trans K19'.1 sz20
        obtain ⟨_, _, ⟨T21, L21, k21, n21⟩, -, X21, ⟨Lc21, hQ21, l21, y21, z21⟩, st21⟩ := Jvm.LawKit.callS X20 hx (y := (⟨"com/example/pagra/pagra/core/StrictUtf8", "isEncodable", "(Ljava/lang/String;)Z"⟩ : MethodName)) hown (mvT hZ (hw _ (List.mem_of_getElem? (i := 36) rfl))) (mvT hZ (hw _ (List.mem_of_getElem? (i := 37) rfl))) (mvT hZ (hw _ (List.mem_of_getElem? (i := 38) rfl))) (mvT hZ (hw _ (List.mem_of_getElem? (i := 39) rfl))) (by decide) (backOf (W := 0) (rm7 l Z a0 hw [] b19 vc vf b20 kb20 kc20 cs T20.heap n0 Z20 O20 ST hN hC A19'20 Fv20 Fc20 Vb20 hkc20) hZ (hw _ (List.mem_of_getElem? (i := 39) rfl)) (hw _ (List.mem_of_getElem? (i := 38) rfl)) (by decide) (by decide)) (g := (mkF m 84 #[.val (.int p1), .val (.int p2), .val (.int p3), .val (.int p4), .val (.int p5), .val (.int ((p1 &&& (2147483647 : Int32)) % (5 : Int32))), .val (.ref bA), .val (.int (0 : Int32))] [(.ref b19)])) rfl (by rw [hml]; rfl) (argsL := [(.ref b19)]) (rest := []) (lenOf pd_6 rfl) rfl (by show 2 * 0 + _ ≤ _; exact Nat.le_of_eq rfl) (hb hby at_84) (fun _ _ => ⟨rfl, rfl, Nat.le_of_ble_eq_true rfl, Nat.le_of_ble_eq_true rfl⟩)
        dsimp only [Pt.U, Pt.locs, Pt.cells, Pt.slots] at X21 l21 y21 z21 st21 hQ21
        subst l21 y21 z21
        obtain ⟨rfl, N21q, e21⟩ := hQ21
        have N21 := Fr.app N20 N21q
        refine own_goW (fun _ k => st21 _ k) ?_
        show own_EndsW p e below s _ _ _ (T21.setTop (mkF m 87 #[.val (.int p1), .val (.int p2), .val (.int p3), .val (.int p4), .val (.int p5), .val (.int ((p1 &&& (2147483647 : Int32)) % (5 : Int32))), .val (.ref bA), .val (.int (0 : Int32))] [(.int (own_enc cs 5 0))]))
        refine own_goW (fun _ k => XS.iload X21.here hx rfl (hb hby at_87) rfl <| XS.icmpNo X21.here hx rfl (hb hby at_89) rfl (teq (by rw [own_main hN hC, if_neg hc38_7, if_pos hc47_15])).2 <| XT.iconstV X21.here hx rfl (1 : Int32) (hb hby at_92) rfl <| XS.goto X21.here hx rfl (pc0 := 93) (pc' := 97) rfl (hb hby at_93) (by decide) (by decide) <| k) ?_
        show own_EndsW p e below s _ _ _ (T21.setTop (mkF m 97 #[.val (.int p1), .val (.int p2), .val (.int p3), .val (.int p4), .val (.int p5), .val (.int ((p1 &&& (2147483647 : Int32)) % (5 : Int32))), .val (.ref bA), .val (.int (0 : Int32))] [(.int (1 : Int32))]))
        exact own_retNW X21 hx (t := .boolean) hrt (by simp) hS0 (by first | exact hk20 | (rw [e21]; exact hk20)) (hb hby at_97) hlk (show nar .boolean (1 : Int32) = (1 : Int32) from by decide) (by rw [e21]; exact ⟨rfl, N21⟩) (by decide) (by decide)
    · -- false
      refine own_goW (fun _ k => XS.ifNo X14.here hx rfl (hb hby at_47) rfl ((if0 _ _).trans (feq hc47_15).1) <| XS.aload X14.here hx rfl (hb hby at_50) rfl rfl <| XT.iconstV X14.here hx rfl (2 : Int32) (hb hby at_52) rfl <| k) ?_
      show own_EndsW p e below s _ _ _ (T14.setTop (mkF m 53 #[.val (.int p1), .val (.int p2), .val (.int p3), .val (.int p4), .val (.int p5), .val (.int ((p1 &&& (2147483647 : Int32)) % (5 : Int32))), .val (.ref bA), .unset] [(.int (2 : Int32)), (.ref bA)]))
      obtain ⟨_, _, ⟨T22, L22, k22, n22⟩, -, X22, ⟨Lc22, hQ22, l22, y22, z22⟩, st22⟩ := Jvm.LawKit.callS X14 hx (y := (⟨"com/example/pagra/pagra/core/StrictUtf8IsEncodablePinLaw", "fine", "([CI)Z"⟩ : MethodName)) hown (mvT hZ (hw _ (List.mem_of_getElem? (i := 12) rfl))) (mvT hZ (hw _ (List.mem_of_getElem? (i := 13) rfl))) (mvT hZ (hw _ (List.mem_of_getElem? (i := 3) rfl))) (mvT hZ (hw _ (List.mem_of_getElem? (i := 14) rfl))) (by decide) (backOf (W := 0) (rm3 l Z a0 hw [] bA kA cs 2 T5.heap n0 Z5 hN (by decide) VA) hZ (hw _ (List.mem_of_getElem? (i := 14) rfl)) (hw _ (List.mem_of_getElem? (i := 3) rfl)) (by decide) (by decide)) (g := (mkF m 53 #[.val (.int p1), .val (.int p2), .val (.int p3), .val (.int p4), .val (.int p5), .val (.int ((p1 &&& (2147483647 : Int32)) % (5 : Int32))), .val (.ref bA), .unset] [(.int (2 : Int32)), (.ref bA)])) rfl (by rw [hml]; rfl) (argsL := [(.ref bA), (.int (2 : Int32))]) (rest := []) (lenOf pd_2 rfl) rfl (by show 2 * 0 + _ ≤ _; exact Nat.le_of_eq rfl) (hb hby at_53) (fun _ _ => ⟨rfl, e14, Nat.le_of_ble_eq_true rfl, Nat.le_of_ble_eq_true rfl⟩)
      dsimp only [Pt.U, Pt.locs, Pt.cells, Pt.slots] at X22 l22 y22 z22 st22 hQ22
      subst l22 y22 z22
      obtain ⟨rfl, N22q, e22⟩ := hQ22
      have N22 := Fr.app N14 N22q
      refine own_goW (fun _ k => st22 _ k) ?_
      show own_EndsW p e below s _ _ _ (T22.setTop (mkF m 56 #[.val (.int p1), .val (.int p2), .val (.int p3), .val (.int p4), .val (.int p5), .val (.int ((p1 &&& (2147483647 : Int32)) % (5 : Int32))), .val (.ref bA), .unset] [(.int (own_fine cs 2))]))
      by_cases hc56_23 : (own_fine cs 2) = (0 : Int32)
      · -- true
        refine own_goW (fun _ k => XS.ifYes X22.here hx rfl (pc0 := 56) (pc' := 72) rfl (hb hby at_56) rfl ((if0 _ _).trans (teq hc56_23).1) (by decide) (by decide) <| XT.iconstV X22.here hx rfl (0 : Int32) (hb hby at_72) rfl <| XS.istore X22.here hx rfl (hb hby at_73) rfl (l' := #[.val (.int p1), .val (.int p2), .val (.int p3), .val (.int p4), .val (.int p5), .val (.int ((p1 &&& (2147483647 : Int32)) % (5 : Int32))), .val (.ref bA), .val (.int (0 : Int32))]) rfl <| k) ?_
        show own_EndsW p e below s _ _ _ (T22.setTop (mkF m 75 #[.val (.int p1), .val (.int p2), .val (.int p3), .val (.int p4), .val (.int p5), .val (.int ((p1 &&& (2147483647 : Int32)) % (5 : Int32))), .val (.ref bA), .val (.int (0 : Int32))] []))
        rcases Nat.eq_zero_or_pos cs.length with hz | hone
        ·
          obtain rfl : cs = [] := List.eq_nil_of_length_eq_zero hz
          have V0 : Arv Z T5.heap bA kA .char (0 : Int32) [] (.int (0 : Int32)) := VA
          obtain ⟨T24, h24, X24, e24, E24, A24, D24, -, st24⟩ := newO X22 hx hZ hown (hw _ (List.mem_of_getElem? (i := 15) rfl)) (hw _ (List.mem_of_getElem? (i := 16) rfl)) (hw _ (List.mem_of_getElem? (i := 17) rfl)) e22 (g := (mkF m 75 #[.val (.int p1), .val (.int p2), .val (.int p3), .val (.int p4), .val (.int p5), .val (.int ((p1 &&& (2147483647 : Int32)) % (5 : Int32))), .val (.ref bA), .val (.int (0 : Int32))] [])) rfl (hb hby at_75) (by decide) (by decide)
          obtain ⟨b24, g24⟩ : ∃ z, z = T5.heap.size := ⟨_, rfl⟩
          rw [← g24] at A24 D24 st24
          refine own_goW st24 ?_
          have ne_bA_b24 : bA ≠ b24 := Nat.ne_of_lt (Nat.lt_of_lt_of_le V0.lt (Nat.le_of_eq g24.symm))
          have g_b24 : n0 ≤ b24 := Nat.le_trans Z5 (Nat.le_of_eq g24.symm)
          have sz_b24 : h0.size ≤ b24 := Nat.le_trans K5'.1 (Nat.le_of_eq g24.symm)
          have V0'24 := V0.ext E24
          have Z24 := Nat.le_trans Z5 E24.1
          have O24 := O5.ext E24
          have K24' := K5'.ext E24
          have hk24 := Nat.le_trans hk5 E24.1
          have F_value_b24 : Fld Z h24 b24 "java/lang/String" "value" "[B" .null := D24 (Or.inr (hw _ (List.mem_of_getElem? (i := 30) rfl))) (ty := (.array .byte)) (by decide)
          have F_coder_b24 : Fld Z h24 b24 "java/lang/String" "coder" "B" (.int (0 : Int32)) := D24 (Or.inr (hw _ (List.mem_of_getElem? (i := 31) rfl))) (ty := .byte) (by decide)
          show own_EndsW p e below s _ _ _ (T24.setTop (mkF m 78 #[.val (.int p1), .val (.int p2), .val (.int p3), .val (.int p4), .val (.int p5), .val (.int ((p1 &&& (2147483647 : Int32)) % (5 : Int32))), .val (.ref bA), .val (.int (0 : Int32))] [(.ref b24)]))
          refine own_goW (fun _ k => XS.dup X24.here hx rfl (hb hby at_78) rfl rfl <| XS.aload X24.here hx rfl (hb hby at_79) rfl rfl <| k) ?_
          show own_EndsW p e below s _ _ _ (T24.setTop (mkF m 81 #[.val (.int p1), .val (.int p2), .val (.int p3), .val (.int p4), .val (.int p5), .val (.int ((p1 &&& (2147483647 : Int32)) % (5 : Int32))), .val (.ref bA), .val (.int (0 : Int32))] [(.ref bA), (.ref b24), (.ref b24)]))
          obtain ⟨_, _, ⟨T25, L25, k25, n25⟩, -, X25, hs25, hge25, ⟨Lc25, hQ25, l25, y25, z25⟩, st25⟩ := X24.specialBackS hx (y := (⟨"java/lang/String", "<init>", "([C)V"⟩ : MethodName)) rfl hown (mvT hZ (hw _ (List.mem_of_getElem? (i := 18) rfl))) (mvT hZ (hw _ (List.mem_of_getElem? (i := 19) rfl))) (mvT hZ (hw _ (List.mem_of_getElem? (i := 20) rfl))) (by decide) (own_backX (W := 1) (rmE9 l Z a0 hw [] b24 bA kA h24 n0 Z24 A24 F_value_b24 F_coder_b24 g_b24 V0'24 (Ne.symm ne_bA_b24)) hZ (hw _ (List.mem_of_getElem? (i := 20) rfl)) (hw _ (List.mem_of_getElem? (i := 17) rfl)) (by decide) (by decide)) (g := (mkF m 81 #[.val (.int p1), .val (.int p2), .val (.int p3), .val (.int p4), .val (.int p5), .val (.int ((p1 &&& (2147483647 : Int32)) % (5 : Int32))), .val (.ref bA), .val (.int (0 : Int32))] [(.ref bA), (.ref b24), (.ref b24)])) rfl (by rw [hml]; rfl) (Steps.refl _) (a := b24) (argsL := [(.ref bA)]) (rest := [(.ref b24)]) (lenOf pd_3 rfl) rfl (by show 2 * 0 + _ ≤ _; exact Nat.le_of_eq rfl) (hb hby at_81) (fun _ hwm => ⟨rfl, e24, Nat.le_of_ble_eq_true rfl, Nat.le_of_ble_eq_true rfl, own_held hwm (mvS (s := s) (args := #[]) hZ (hw _ (List.mem_of_getElem? (i := 28) rfl))) hCH (fun b c q => by rw [e24]; exact K24'.2.1 b c (hh ▸ q) (by simp))⟩)
          dsimp only [Pt.U, Pt.locs, Pt.cells, Pt.slots] at X25 l25 y25 z25 st25 hQ25 hs25 hge25
          have hS25 : s.Since T25.vm T25.heap.size := hS0.trans hs25 (Nat.le_trans hk24 (by rw [← e24]; exact hge25))
          have hZ : Z.Warmed39 (s.setVm T25.vm).vm := State.Warmed39.trans (t := s.setVm s.vm) hZ hs25.1
          have hown : (s.setVm T25.vm).vm.findClass "com/example/pagra/pagra/core/StrictUtf8IsEncodablePinLaw" = some m.cls := by rw [show (s.setVm T25.vm).vm = T25.vm from rfl, hs25.1.alike.findClass]; exact hown
          have X25 : Stand p l e room_1 (s.setVm T25.vm) m #[(.int p1), (.int p2), (.int p3), (.int p4), (.int p5)] below meth c T25 L25 k25 n25 := X25
          subst l25 y25 z25
          obtain ⟨b25, kb25, rfl, N25q, K25, Fv25, Fc25, Vb25⟩ := hQ25
          have N25 := Fr.app N22 N25q
          refine own_goW (fun _ k => st25.trans k) ?_
          have V0'25 := V0'24.keep K25 (ninS ne_bA_b24 nin0)
          have A24'25 := A24.keep K25
          have Z25 := Nat.le_trans Z24 K25.1
          have O25 := O24.keep K25 (allS g_b24 all0)
          have K25' := K24'.trans K25 (allS (Or.inr sz_b24) all0)
          show own_EndsW p e below s _ _ _ (T25.setTop (mkF m 84 #[.val (.int p1), .val (.int p2), .val (.int p3), .val (.int p4), .val (.int p5), .val (.int ((p1 &&& (2147483647 : Int32)) % (5 : Int32))), .val (.ref bA), .val (.int (0 : Int32))] [(.ref b24)]))
          obtain ⟨_, _, ⟨T26, L26, k26, n26⟩, -, X26, ⟨Lc26, hQ26, l26, y26, z26⟩, st26⟩ := Jvm.LawKit.callS X25 hx (y := (⟨"com/example/pagra/pagra/core/StrictUtf8", "isEncodable", "(Ljava/lang/String;)Z"⟩ : MethodName)) hown (mvT hZ (hw _ (List.mem_of_getElem? (i := 36) rfl))) (mvT hZ (hw _ (List.mem_of_getElem? (i := 37) rfl))) (mvT hZ (hw _ (List.mem_of_getElem? (i := 38) rfl))) (mvT hZ (hw _ (List.mem_of_getElem? (i := 39) rfl))) (by decide) (backOf (W := 0) (rm7 l Z a0 hw [] b24 vc vf b25 kb25 (0 : Int32) (([] : List Int32)) T25.heap n0 Z25 O25 ST (by simp) hC A24'25 Fv25 Fc25 Vb25 own_KCe) hZ (hw _ (List.mem_of_getElem? (i := 39) rfl)) (hw _ (List.mem_of_getElem? (i := 38) rfl)) (by decide) (by decide)) (g := (mkF m 84 #[.val (.int p1), .val (.int p2), .val (.int p3), .val (.int p4), .val (.int p5), .val (.int ((p1 &&& (2147483647 : Int32)) % (5 : Int32))), .val (.ref bA), .val (.int (0 : Int32))] [(.ref b24)])) rfl (by rw [hml]; rfl) (argsL := [(.ref b24)]) (rest := []) (lenOf pd_6 rfl) rfl (by show 2 * 0 + _ ≤ _; exact Nat.le_of_eq rfl) (hb hby at_84) (fun _ _ => ⟨rfl, rfl, Nat.le_of_ble_eq_true rfl, Nat.le_of_ble_eq_true rfl⟩)
          dsimp only [Pt.U, Pt.locs, Pt.cells, Pt.slots] at X26 l26 y26 z26 st26 hQ26
          subst l26 y26 z26
          obtain ⟨rfl, N26q, e26⟩ := hQ26
          have N26 := Fr.app N25 N26q
          refine own_goW (fun _ k => st26 _ k) ?_
          show own_EndsW p e below s _ _ _ (T26.setTop (mkF m 87 #[.val (.int p1), .val (.int p2), .val (.int p3), .val (.int p4), .val (.int p5), .val (.int ((p1 &&& (2147483647 : Int32)) % (5 : Int32))), .val (.ref bA), .val (.int (0 : Int32))] [(.int (own_enc ([] : List Int32) 5 0))]))
          refine own_goW (fun _ k => XS.iload X26.here hx rfl (hb hby at_87) rfl <| XS.icmpNo X26.here hx rfl (hb hby at_89) rfl (teq (by rw [own_main (by simp) hC, if_neg hc38_7, if_neg hc47_15, if_pos hc56_23])).2 <| XT.iconstV X26.here hx rfl (1 : Int32) (hb hby at_92) rfl <| XS.goto X26.here hx rfl (pc0 := 93) (pc' := 97) rfl (hb hby at_93) (by decide) (by decide) <| k) ?_
          show own_EndsW p e below s _ _ _ (T26.setTop (mkF m 97 #[.val (.int p1), .val (.int p2), .val (.int p3), .val (.int p4), .val (.int p5), .val (.int ((p1 &&& (2147483647 : Int32)) % (5 : Int32))), .val (.ref bA), .val (.int (0 : Int32))] [(.int (1 : Int32))]))
          exact own_retNW X26 hx (t := .boolean) hrt (by simp) hS25 (by first | exact (Nat.le_refl _) | (rw [e26]; exact (Nat.le_refl _))) (hb hby at_97) hlk (show nar .boolean (1 : Int32) = (1 : Int32) from by decide) (by rw [e26]; exact ⟨rfl, N26⟩) (by decide) (by decide)
        ·
          obtain ⟨T27, h27, X27, e27, E27, A27, D27, -, st27⟩ := newO X22 hx hZ hown (hw _ (List.mem_of_getElem? (i := 15) rfl)) (hw _ (List.mem_of_getElem? (i := 16) rfl)) (hw _ (List.mem_of_getElem? (i := 17) rfl)) e22 (g := (mkF m 75 #[.val (.int p1), .val (.int p2), .val (.int p3), .val (.int p4), .val (.int p5), .val (.int ((p1 &&& (2147483647 : Int32)) % (5 : Int32))), .val (.ref bA), .val (.int (0 : Int32))] [])) rfl (hb hby at_75) (by decide) (by decide)
          obtain ⟨b27, g27⟩ : ∃ z, z = T5.heap.size := ⟨_, rfl⟩
          rw [← g27] at A27 D27 st27
          refine own_goW st27 ?_
          have ne_bA_b27 : bA ≠ b27 := Nat.ne_of_lt (Nat.lt_of_lt_of_le VA.lt (Nat.le_of_eq g27.symm))
          have g_b27 : n0 ≤ b27 := Nat.le_trans Z5 (Nat.le_of_eq g27.symm)
          have sz_b27 : h0.size ≤ b27 := Nat.le_trans K5'.1 (Nat.le_of_eq g27.symm)
          have VA'27 := VA.ext E27
          have Z27 := Nat.le_trans Z5 E27.1
          have O27 := O5.ext E27
          have K27' := K5'.ext E27
          have hk27 := Nat.le_trans hk5 E27.1
          have F_value_b27 : Fld Z h27 b27 "java/lang/String" "value" "[B" .null := D27 (Or.inr (hw _ (List.mem_of_getElem? (i := 30) rfl))) (ty := (.array .byte)) (by decide)
          have F_coder_b27 : Fld Z h27 b27 "java/lang/String" "coder" "B" (.int (0 : Int32)) := D27 (Or.inr (hw _ (List.mem_of_getElem? (i := 31) rfl))) (ty := .byte) (by decide)
          show own_EndsW p e below s _ _ _ (T27.setTop (mkF m 78 #[.val (.int p1), .val (.int p2), .val (.int p3), .val (.int p4), .val (.int p5), .val (.int ((p1 &&& (2147483647 : Int32)) % (5 : Int32))), .val (.ref bA), .val (.int (0 : Int32))] [(.ref b27)]))
          refine own_goW (fun _ k => XS.dup X27.here hx rfl (hb hby at_78) rfl rfl <| XS.aload X27.here hx rfl (hb hby at_79) rfl rfl <| k) ?_
          show own_EndsW p e below s _ _ _ (T27.setTop (mkF m 81 #[.val (.int p1), .val (.int p2), .val (.int p3), .val (.int p4), .val (.int p5), .val (.int ((p1 &&& (2147483647 : Int32)) % (5 : Int32))), .val (.ref bA), .val (.int (0 : Int32))] [(.ref bA), (.ref b27), (.ref b27)]))
          obtain ⟨_, _, ⟨T28, L28, k28, n28⟩, -, X28, ⟨Lc28, hQ28, l28, y28, z28⟩, st28⟩ := X27.specialBack hx (y := (⟨"java/lang/String", "<init>", "([C)V"⟩ : MethodName)) rfl hown (mvT hZ (hw _ (List.mem_of_getElem? (i := 18) rfl))) (mvT hZ (hw _ (List.mem_of_getElem? (i := 19) rfl))) (mvT hZ (hw _ (List.mem_of_getElem? (i := 20) rfl))) (by decide) (backOf (W := 1) (rm4 l Z a0 hw [] b27 bA vc vf kA cs h27 n0 Z27 O27 ST hN hC hone VA'27 A27 F_value_b27 F_coder_b27 (Ne.symm ne_bA_b27) g_b27) hZ (hw _ (List.mem_of_getElem? (i := 20) rfl)) (hw _ (List.mem_of_getElem? (i := 17) rfl)) (by decide) (by decide)) (g := (mkF m 81 #[.val (.int p1), .val (.int p2), .val (.int p3), .val (.int p4), .val (.int p5), .val (.int ((p1 &&& (2147483647 : Int32)) % (5 : Int32))), .val (.ref bA), .val (.int (0 : Int32))] [(.ref bA), (.ref b27), (.ref b27)])) rfl (by rw [hml]; rfl) (Steps.refl _) (a := b27) (argsL := [(.ref bA)]) (rest := [(.ref b27)]) (lenOf pd_3 rfl) rfl (by show 2 * 0 + _ ≤ _; exact Nat.le_of_eq rfl) (hb hby at_81) (fun _ _ => ⟨rfl, e27, Nat.le_of_ble_eq_true rfl, Nat.le_of_ble_eq_true rfl⟩)
          dsimp only [Pt.U, Pt.locs, Pt.cells, Pt.slots] at X28 l28 y28 z28 st28 hQ28
          subst l28 y28 z28
          obtain ⟨b28, kb28, kc28, rfl, N28q, K28, g28, sz28, hkc28, Fv28, Fc28, Vb28⟩ := hQ28
          have N28 := Fr.app N22 N28q
          refine own_goW (fun _ k => st28.trans k) ?_
          have VA'28 := VA'27.keep K28 (ninS ne_bA_b27 nin0)
          have A27'28 := A27.keep K28
          have Z28 := Nat.le_trans Z27 K28.1
          have O28 := O27.keep K28 (allS g_b27 all0)
          have K28' := K27'.trans K28 (allS (Or.inr sz_b27) all0)
          have hk28 := Nat.le_trans hk27 K28.1
          show own_EndsW p e below s _ _ _ (T28.setTop (mkF m 84 #[.val (.int p1), .val (.int p2), .val (.int p3), .val (.int p4), .val (.int p5), .val (.int ((p1 &&& (2147483647 : Int32)) % (5 : Int32))), .val (.ref bA), .val (.int (0 : Int32))] [(.ref b27)]))
          have ne_bA_b28 : bA ≠ b28 := Nat.ne_of_lt (Nat.lt_of_lt_of_le VA'27.lt sz28)
          have ne_b27_b28 : b27 ≠ b28 := Nat.ne_of_lt (Nat.lt_of_lt_of_le A27.lt sz28)
          have szk28 : h0.size ≤ b28 := Nat.le_trans K27'.1 sz28
          obtain ⟨_, _, ⟨T29, L29, k29, n29⟩, -, X29, ⟨Lc29, hQ29, l29, y29, z29⟩, st29⟩ := Jvm.LawKit.callS X28 hx (y := (⟨"com/example/pagra/pagra/core/StrictUtf8", "isEncodable", "(Ljava/lang/String;)Z"⟩ : MethodName)) hown (mvT hZ (hw _ (List.mem_of_getElem? (i := 36) rfl))) (mvT hZ (hw _ (List.mem_of_getElem? (i := 37) rfl))) (mvT hZ (hw _ (List.mem_of_getElem? (i := 38) rfl))) (mvT hZ (hw _ (List.mem_of_getElem? (i := 39) rfl))) (by decide) (backOf (W := 0) (rm7 l Z a0 hw [] b27 vc vf b28 kb28 kc28 cs T28.heap n0 Z28 O28 ST hN hC A27'28 Fv28 Fc28 Vb28 hkc28) hZ (hw _ (List.mem_of_getElem? (i := 39) rfl)) (hw _ (List.mem_of_getElem? (i := 38) rfl)) (by decide) (by decide)) (g := (mkF m 84 #[.val (.int p1), .val (.int p2), .val (.int p3), .val (.int p4), .val (.int p5), .val (.int ((p1 &&& (2147483647 : Int32)) % (5 : Int32))), .val (.ref bA), .val (.int (0 : Int32))] [(.ref b27)])) rfl (by rw [hml]; rfl) (argsL := [(.ref b27)]) (rest := []) (lenOf pd_6 rfl) rfl (by show 2 * 0 + _ ≤ _; exact Nat.le_of_eq rfl) (hb hby at_84) (fun _ _ => ⟨rfl, rfl, Nat.le_of_ble_eq_true rfl, Nat.le_of_ble_eq_true rfl⟩)
          dsimp only [Pt.U, Pt.locs, Pt.cells, Pt.slots] at X29 l29 y29 z29 st29 hQ29
          subst l29 y29 z29
          obtain ⟨rfl, N29q, e29⟩ := hQ29
          have N29 := Fr.app N28 N29q
          refine own_goW (fun _ k => st29 _ k) ?_
          show own_EndsW p e below s _ _ _ (T29.setTop (mkF m 87 #[.val (.int p1), .val (.int p2), .val (.int p3), .val (.int p4), .val (.int p5), .val (.int ((p1 &&& (2147483647 : Int32)) % (5 : Int32))), .val (.ref bA), .val (.int (0 : Int32))] [(.int (own_enc cs 5 0))]))
          refine own_goW (fun _ k => XS.iload X29.here hx rfl (hb hby at_87) rfl <| XS.icmpNo X29.here hx rfl (hb hby at_89) rfl (teq (by rw [own_main hN hC, if_neg hc38_7, if_neg hc47_15, if_pos hc56_23])).2 <| XT.iconstV X29.here hx rfl (1 : Int32) (hb hby at_92) rfl <| XS.goto X29.here hx rfl (pc0 := 93) (pc' := 97) rfl (hb hby at_93) (by decide) (by decide) <| k) ?_
          show own_EndsW p e below s _ _ _ (T29.setTop (mkF m 97 #[.val (.int p1), .val (.int p2), .val (.int p3), .val (.int p4), .val (.int p5), .val (.int ((p1 &&& (2147483647 : Int32)) % (5 : Int32))), .val (.ref bA), .val (.int (0 : Int32))] [(.int (1 : Int32))]))
          exact own_retNW X29 hx (t := .boolean) hrt (by simp) hS0 (by first | exact hk28 | (rw [e29]; exact hk28)) (hb hby at_97) hlk (show nar .boolean (1 : Int32) = (1 : Int32) from by decide) (by rw [e29]; exact ⟨rfl, N29⟩) (by decide) (by decide)
      · -- false
        refine own_goW (fun _ k => XS.ifNo X22.here hx rfl (hb hby at_56) rfl ((if0 _ _).trans (feq hc56_23).1) <| XS.aload X22.here hx rfl (hb hby at_59) rfl rfl <| XT.iconstV X22.here hx rfl (3 : Int32) (hb hby at_61) rfl <| k) ?_
        show own_EndsW p e below s _ _ _ (T22.setTop (mkF m 62 #[.val (.int p1), .val (.int p2), .val (.int p3), .val (.int p4), .val (.int p5), .val (.int ((p1 &&& (2147483647 : Int32)) % (5 : Int32))), .val (.ref bA), .unset] [(.int (3 : Int32)), (.ref bA)]))
        obtain ⟨_, _, ⟨T30, L30, k30, n30⟩, -, X30, ⟨Lc30, hQ30, l30, y30, z30⟩, st30⟩ := Jvm.LawKit.callS X22 hx (y := (⟨"com/example/pagra/pagra/core/StrictUtf8IsEncodablePinLaw", "fine", "([CI)Z"⟩ : MethodName)) hown (mvT hZ (hw _ (List.mem_of_getElem? (i := 12) rfl))) (mvT hZ (hw _ (List.mem_of_getElem? (i := 13) rfl))) (mvT hZ (hw _ (List.mem_of_getElem? (i := 3) rfl))) (mvT hZ (hw _ (List.mem_of_getElem? (i := 14) rfl))) (by decide) (backOf (W := 0) (rm3 l Z a0 hw [] bA kA cs 3 T5.heap n0 Z5 hN (by decide) VA) hZ (hw _ (List.mem_of_getElem? (i := 14) rfl)) (hw _ (List.mem_of_getElem? (i := 3) rfl)) (by decide) (by decide)) (g := (mkF m 62 #[.val (.int p1), .val (.int p2), .val (.int p3), .val (.int p4), .val (.int p5), .val (.int ((p1 &&& (2147483647 : Int32)) % (5 : Int32))), .val (.ref bA), .unset] [(.int (3 : Int32)), (.ref bA)])) rfl (by rw [hml]; rfl) (argsL := [(.ref bA), (.int (3 : Int32))]) (rest := []) (lenOf pd_2 rfl) rfl (by show 2 * 0 + _ ≤ _; exact Nat.le_of_eq rfl) (hb hby at_62) (fun _ _ => ⟨rfl, e22, Nat.le_of_ble_eq_true rfl, Nat.le_of_ble_eq_true rfl⟩)
        dsimp only [Pt.U, Pt.locs, Pt.cells, Pt.slots] at X30 l30 y30 z30 st30 hQ30
        subst l30 y30 z30
        obtain ⟨rfl, N30q, e30⟩ := hQ30
        have N30 := Fr.app N22 N30q
        refine own_goW (fun _ k => st30 _ k) ?_
        show own_EndsW p e below s _ _ _ (T30.setTop (mkF m 65 #[.val (.int p1), .val (.int p2), .val (.int p3), .val (.int p4), .val (.int p5), .val (.int ((p1 &&& (2147483647 : Int32)) % (5 : Int32))), .val (.ref bA), .unset] [(.int (own_fine cs 3))]))
        by_cases hc65_31 : (own_fine cs 3) = (0 : Int32)
        · -- true
          refine own_goW (fun _ k => XS.ifYes X30.here hx rfl (pc0 := 65) (pc' := 72) rfl (hb hby at_65) rfl ((if0 _ _).trans (teq hc65_31).1) (by decide) (by decide) <| XT.iconstV X30.here hx rfl (0 : Int32) (hb hby at_72) rfl <| XS.istore X30.here hx rfl (hb hby at_73) rfl (l' := #[.val (.int p1), .val (.int p2), .val (.int p3), .val (.int p4), .val (.int p5), .val (.int ((p1 &&& (2147483647 : Int32)) % (5 : Int32))), .val (.ref bA), .val (.int (0 : Int32))]) rfl <| k) ?_
          show own_EndsW p e below s _ _ _ (T30.setTop (mkF m 75 #[.val (.int p1), .val (.int p2), .val (.int p3), .val (.int p4), .val (.int p5), .val (.int ((p1 &&& (2147483647 : Int32)) % (5 : Int32))), .val (.ref bA), .val (.int (0 : Int32))] []))
          rcases Nat.eq_zero_or_pos cs.length with hz | hone
          ·
            obtain rfl : cs = [] := List.eq_nil_of_length_eq_zero hz
            have V0 : Arv Z T5.heap bA kA .char (0 : Int32) [] (.int (0 : Int32)) := VA
            obtain ⟨T32, h32, X32, e32, E32, A32, D32, -, st32⟩ := newO X30 hx hZ hown (hw _ (List.mem_of_getElem? (i := 15) rfl)) (hw _ (List.mem_of_getElem? (i := 16) rfl)) (hw _ (List.mem_of_getElem? (i := 17) rfl)) e30 (g := (mkF m 75 #[.val (.int p1), .val (.int p2), .val (.int p3), .val (.int p4), .val (.int p5), .val (.int ((p1 &&& (2147483647 : Int32)) % (5 : Int32))), .val (.ref bA), .val (.int (0 : Int32))] [])) rfl (hb hby at_75) (by decide) (by decide)
            obtain ⟨b32, g32⟩ : ∃ z, z = T5.heap.size := ⟨_, rfl⟩
            rw [← g32] at A32 D32 st32
            refine own_goW st32 ?_
            have ne_bA_b32 : bA ≠ b32 := Nat.ne_of_lt (Nat.lt_of_lt_of_le V0.lt (Nat.le_of_eq g32.symm))
            have g_b32 : n0 ≤ b32 := Nat.le_trans Z5 (Nat.le_of_eq g32.symm)
            have sz_b32 : h0.size ≤ b32 := Nat.le_trans K5'.1 (Nat.le_of_eq g32.symm)
            have V0'32 := V0.ext E32
            have Z32 := Nat.le_trans Z5 E32.1
            have O32 := O5.ext E32
            have K32' := K5'.ext E32
            have hk32 := Nat.le_trans hk5 E32.1
            have F_value_b32 : Fld Z h32 b32 "java/lang/String" "value" "[B" .null := D32 (Or.inr (hw _ (List.mem_of_getElem? (i := 30) rfl))) (ty := (.array .byte)) (by decide)
            have F_coder_b32 : Fld Z h32 b32 "java/lang/String" "coder" "B" (.int (0 : Int32)) := D32 (Or.inr (hw _ (List.mem_of_getElem? (i := 31) rfl))) (ty := .byte) (by decide)
            show own_EndsW p e below s _ _ _ (T32.setTop (mkF m 78 #[.val (.int p1), .val (.int p2), .val (.int p3), .val (.int p4), .val (.int p5), .val (.int ((p1 &&& (2147483647 : Int32)) % (5 : Int32))), .val (.ref bA), .val (.int (0 : Int32))] [(.ref b32)]))
            refine own_goW (fun _ k => XS.dup X32.here hx rfl (hb hby at_78) rfl rfl <| XS.aload X32.here hx rfl (hb hby at_79) rfl rfl <| k) ?_
            show own_EndsW p e below s _ _ _ (T32.setTop (mkF m 81 #[.val (.int p1), .val (.int p2), .val (.int p3), .val (.int p4), .val (.int p5), .val (.int ((p1 &&& (2147483647 : Int32)) % (5 : Int32))), .val (.ref bA), .val (.int (0 : Int32))] [(.ref bA), (.ref b32), (.ref b32)]))
            obtain ⟨_, _, ⟨T33, L33, k33, n33⟩, -, X33, hs33, hge33, ⟨Lc33, hQ33, l33, y33, z33⟩, st33⟩ := X32.specialBackS hx (y := (⟨"java/lang/String", "<init>", "([C)V"⟩ : MethodName)) rfl hown (mvT hZ (hw _ (List.mem_of_getElem? (i := 18) rfl))) (mvT hZ (hw _ (List.mem_of_getElem? (i := 19) rfl))) (mvT hZ (hw _ (List.mem_of_getElem? (i := 20) rfl))) (by decide) (own_backX (W := 1) (rmE9 l Z a0 hw [] b32 bA kA h32 n0 Z32 A32 F_value_b32 F_coder_b32 g_b32 V0'32 (Ne.symm ne_bA_b32)) hZ (hw _ (List.mem_of_getElem? (i := 20) rfl)) (hw _ (List.mem_of_getElem? (i := 17) rfl)) (by decide) (by decide)) (g := (mkF m 81 #[.val (.int p1), .val (.int p2), .val (.int p3), .val (.int p4), .val (.int p5), .val (.int ((p1 &&& (2147483647 : Int32)) % (5 : Int32))), .val (.ref bA), .val (.int (0 : Int32))] [(.ref bA), (.ref b32), (.ref b32)])) rfl (by rw [hml]; rfl) (Steps.refl _) (a := b32) (argsL := [(.ref bA)]) (rest := [(.ref b32)]) (lenOf pd_3 rfl) rfl (by show 2 * 0 + _ ≤ _; exact Nat.le_of_eq rfl) (hb hby at_81) (fun _ hwm => ⟨rfl, e32, Nat.le_of_ble_eq_true rfl, Nat.le_of_ble_eq_true rfl, own_held hwm (mvS (s := s) (args := #[]) hZ (hw _ (List.mem_of_getElem? (i := 28) rfl))) hCH (fun b c q => by rw [e32]; exact K32'.2.1 b c (hh ▸ q) (by simp))⟩)
            dsimp only [Pt.U, Pt.locs, Pt.cells, Pt.slots] at X33 l33 y33 z33 st33 hQ33 hs33 hge33
            have hS33 : s.Since T33.vm T33.heap.size := hS0.trans hs33 (Nat.le_trans hk32 (by rw [← e32]; exact hge33))
            have hZ : Z.Warmed39 (s.setVm T33.vm).vm := State.Warmed39.trans (t := s.setVm s.vm) hZ hs33.1
            have hown : (s.setVm T33.vm).vm.findClass "com/example/pagra/pagra/core/StrictUtf8IsEncodablePinLaw" = some m.cls := by rw [show (s.setVm T33.vm).vm = T33.vm from rfl, hs33.1.alike.findClass]; exact hown
            have X33 : Stand p l e room_1 (s.setVm T33.vm) m #[(.int p1), (.int p2), (.int p3), (.int p4), (.int p5)] below meth c T33 L33 k33 n33 := X33
            subst l33 y33 z33
            obtain ⟨b33, kb33, rfl, N33q, K33, Fv33, Fc33, Vb33⟩ := hQ33
            have N33 := Fr.app N30 N33q
            refine own_goW (fun _ k => st33.trans k) ?_
            have V0'33 := V0'32.keep K33 (ninS ne_bA_b32 nin0)
            have A32'33 := A32.keep K33
            have Z33 := Nat.le_trans Z32 K33.1
            have O33 := O32.keep K33 (allS g_b32 all0)
            have K33' := K32'.trans K33 (allS (Or.inr sz_b32) all0)
            show own_EndsW p e below s _ _ _ (T33.setTop (mkF m 84 #[.val (.int p1), .val (.int p2), .val (.int p3), .val (.int p4), .val (.int p5), .val (.int ((p1 &&& (2147483647 : Int32)) % (5 : Int32))), .val (.ref bA), .val (.int (0 : Int32))] [(.ref b32)]))
            obtain ⟨_, _, ⟨T34, L34, k34, n34⟩, -, X34, ⟨Lc34, hQ34, l34, y34, z34⟩, st34⟩ := Jvm.LawKit.callS X33 hx (y := (⟨"com/example/pagra/pagra/core/StrictUtf8", "isEncodable", "(Ljava/lang/String;)Z"⟩ : MethodName)) hown (mvT hZ (hw _ (List.mem_of_getElem? (i := 36) rfl))) (mvT hZ (hw _ (List.mem_of_getElem? (i := 37) rfl))) (mvT hZ (hw _ (List.mem_of_getElem? (i := 38) rfl))) (mvT hZ (hw _ (List.mem_of_getElem? (i := 39) rfl))) (by decide) (backOf (W := 0) (rm7 l Z a0 hw [] b32 vc vf b33 kb33 (0 : Int32) (([] : List Int32)) T33.heap n0 Z33 O33 ST (by simp) hC A32'33 Fv33 Fc33 Vb33 own_KCe) hZ (hw _ (List.mem_of_getElem? (i := 39) rfl)) (hw _ (List.mem_of_getElem? (i := 38) rfl)) (by decide) (by decide)) (g := (mkF m 84 #[.val (.int p1), .val (.int p2), .val (.int p3), .val (.int p4), .val (.int p5), .val (.int ((p1 &&& (2147483647 : Int32)) % (5 : Int32))), .val (.ref bA), .val (.int (0 : Int32))] [(.ref b32)])) rfl (by rw [hml]; rfl) (argsL := [(.ref b32)]) (rest := []) (lenOf pd_6 rfl) rfl (by show 2 * 0 + _ ≤ _; exact Nat.le_of_eq rfl) (hb hby at_84) (fun _ _ => ⟨rfl, rfl, Nat.le_of_ble_eq_true rfl, Nat.le_of_ble_eq_true rfl⟩)
            dsimp only [Pt.U, Pt.locs, Pt.cells, Pt.slots] at X34 l34 y34 z34 st34 hQ34
            subst l34 y34 z34
            obtain ⟨rfl, N34q, e34⟩ := hQ34
            have N34 := Fr.app N33 N34q
            refine own_goW (fun _ k => st34 _ k) ?_
            show own_EndsW p e below s _ _ _ (T34.setTop (mkF m 87 #[.val (.int p1), .val (.int p2), .val (.int p3), .val (.int p4), .val (.int p5), .val (.int ((p1 &&& (2147483647 : Int32)) % (5 : Int32))), .val (.ref bA), .val (.int (0 : Int32))] [(.int (own_enc ([] : List Int32) 5 0))]))
            refine own_goW (fun _ k => XS.iload X34.here hx rfl (hb hby at_87) rfl <| XS.icmpNo X34.here hx rfl (hb hby at_89) rfl (teq (by rw [own_main (by simp) hC, if_neg hc38_7, if_neg hc47_15, if_neg hc56_23, if_pos hc65_31])).2 <| XT.iconstV X34.here hx rfl (1 : Int32) (hb hby at_92) rfl <| XS.goto X34.here hx rfl (pc0 := 93) (pc' := 97) rfl (hb hby at_93) (by decide) (by decide) <| k) ?_
            show own_EndsW p e below s _ _ _ (T34.setTop (mkF m 97 #[.val (.int p1), .val (.int p2), .val (.int p3), .val (.int p4), .val (.int p5), .val (.int ((p1 &&& (2147483647 : Int32)) % (5 : Int32))), .val (.ref bA), .val (.int (0 : Int32))] [(.int (1 : Int32))]))
            exact own_retNW X34 hx (t := .boolean) hrt (by simp) hS33 (by first | exact (Nat.le_refl _) | (rw [e34]; exact (Nat.le_refl _))) (hb hby at_97) hlk (show nar .boolean (1 : Int32) = (1 : Int32) from by decide) (by rw [e34]; exact ⟨rfl, N34⟩) (by decide) (by decide)
          ·
            obtain ⟨T35, h35, X35, e35, E35, A35, D35, -, st35⟩ := newO X30 hx hZ hown (hw _ (List.mem_of_getElem? (i := 15) rfl)) (hw _ (List.mem_of_getElem? (i := 16) rfl)) (hw _ (List.mem_of_getElem? (i := 17) rfl)) e30 (g := (mkF m 75 #[.val (.int p1), .val (.int p2), .val (.int p3), .val (.int p4), .val (.int p5), .val (.int ((p1 &&& (2147483647 : Int32)) % (5 : Int32))), .val (.ref bA), .val (.int (0 : Int32))] [])) rfl (hb hby at_75) (by decide) (by decide)
            obtain ⟨b35, g35⟩ : ∃ z, z = T5.heap.size := ⟨_, rfl⟩
            rw [← g35] at A35 D35 st35
            refine own_goW st35 ?_
            have ne_bA_b35 : bA ≠ b35 := Nat.ne_of_lt (Nat.lt_of_lt_of_le VA.lt (Nat.le_of_eq g35.symm))
            have g_b35 : n0 ≤ b35 := Nat.le_trans Z5 (Nat.le_of_eq g35.symm)
            have sz_b35 : h0.size ≤ b35 := Nat.le_trans K5'.1 (Nat.le_of_eq g35.symm)
            have VA'35 := VA.ext E35
            have Z35 := Nat.le_trans Z5 E35.1
            have O35 := O5.ext E35
            have K35' := K5'.ext E35
            have hk35 := Nat.le_trans hk5 E35.1
            have F_value_b35 : Fld Z h35 b35 "java/lang/String" "value" "[B" .null := D35 (Or.inr (hw _ (List.mem_of_getElem? (i := 30) rfl))) (ty := (.array .byte)) (by decide)
            have F_coder_b35 : Fld Z h35 b35 "java/lang/String" "coder" "B" (.int (0 : Int32)) := D35 (Or.inr (hw _ (List.mem_of_getElem? (i := 31) rfl))) (ty := .byte) (by decide)
            show own_EndsW p e below s _ _ _ (T35.setTop (mkF m 78 #[.val (.int p1), .val (.int p2), .val (.int p3), .val (.int p4), .val (.int p5), .val (.int ((p1 &&& (2147483647 : Int32)) % (5 : Int32))), .val (.ref bA), .val (.int (0 : Int32))] [(.ref b35)]))
            refine own_goW (fun _ k => XS.dup X35.here hx rfl (hb hby at_78) rfl rfl <| XS.aload X35.here hx rfl (hb hby at_79) rfl rfl <| k) ?_
            show own_EndsW p e below s _ _ _ (T35.setTop (mkF m 81 #[.val (.int p1), .val (.int p2), .val (.int p3), .val (.int p4), .val (.int p5), .val (.int ((p1 &&& (2147483647 : Int32)) % (5 : Int32))), .val (.ref bA), .val (.int (0 : Int32))] [(.ref bA), (.ref b35), (.ref b35)]))
            obtain ⟨_, _, ⟨T36, L36, k36, n36⟩, -, X36, ⟨Lc36, hQ36, l36, y36, z36⟩, st36⟩ := X35.specialBack hx (y := (⟨"java/lang/String", "<init>", "([C)V"⟩ : MethodName)) rfl hown (mvT hZ (hw _ (List.mem_of_getElem? (i := 18) rfl))) (mvT hZ (hw _ (List.mem_of_getElem? (i := 19) rfl))) (mvT hZ (hw _ (List.mem_of_getElem? (i := 20) rfl))) (by decide) (backOf (W := 1) (rm4 l Z a0 hw [] b35 bA vc vf kA cs h35 n0 Z35 O35 ST hN hC hone VA'35 A35 F_value_b35 F_coder_b35 (Ne.symm ne_bA_b35) g_b35) hZ (hw _ (List.mem_of_getElem? (i := 20) rfl)) (hw _ (List.mem_of_getElem? (i := 17) rfl)) (by decide) (by decide)) (g := (mkF m 81 #[.val (.int p1), .val (.int p2), .val (.int p3), .val (.int p4), .val (.int p5), .val (.int ((p1 &&& (2147483647 : Int32)) % (5 : Int32))), .val (.ref bA), .val (.int (0 : Int32))] [(.ref bA), (.ref b35), (.ref b35)])) rfl (by rw [hml]; rfl) (Steps.refl _) (a := b35) (argsL := [(.ref bA)]) (rest := [(.ref b35)]) (lenOf pd_3 rfl) rfl (by show 2 * 0 + _ ≤ _; exact Nat.le_of_eq rfl) (hb hby at_81) (fun _ _ => ⟨rfl, e35, Nat.le_of_ble_eq_true rfl, Nat.le_of_ble_eq_true rfl⟩)
            dsimp only [Pt.U, Pt.locs, Pt.cells, Pt.slots] at X36 l36 y36 z36 st36 hQ36
            subst l36 y36 z36
            obtain ⟨b36, kb36, kc36, rfl, N36q, K36, g36, sz36, hkc36, Fv36, Fc36, Vb36⟩ := hQ36
            have N36 := Fr.app N30 N36q
            refine own_goW (fun _ k => st36.trans k) ?_
            have VA'36 := VA'35.keep K36 (ninS ne_bA_b35 nin0)
            have A35'36 := A35.keep K36
            have Z36 := Nat.le_trans Z35 K36.1
            have O36 := O35.keep K36 (allS g_b35 all0)
            have K36' := K35'.trans K36 (allS (Or.inr sz_b35) all0)
            have hk36 := Nat.le_trans hk35 K36.1
            show own_EndsW p e below s _ _ _ (T36.setTop (mkF m 84 #[.val (.int p1), .val (.int p2), .val (.int p3), .val (.int p4), .val (.int p5), .val (.int ((p1 &&& (2147483647 : Int32)) % (5 : Int32))), .val (.ref bA), .val (.int (0 : Int32))] [(.ref b35)]))
            have ne_bA_b36 : bA ≠ b36 := Nat.ne_of_lt (Nat.lt_of_lt_of_le VA'35.lt sz36)
            have ne_b35_b36 : b35 ≠ b36 := Nat.ne_of_lt (Nat.lt_of_lt_of_le A35.lt sz36)
            have szk36 : h0.size ≤ b36 := Nat.le_trans K35'.1 sz36
            obtain ⟨_, _, ⟨T37, L37, k37, n37⟩, -, X37, ⟨Lc37, hQ37, l37, y37, z37⟩, st37⟩ := Jvm.LawKit.callS X36 hx (y := (⟨"com/example/pagra/pagra/core/StrictUtf8", "isEncodable", "(Ljava/lang/String;)Z"⟩ : MethodName)) hown (mvT hZ (hw _ (List.mem_of_getElem? (i := 36) rfl))) (mvT hZ (hw _ (List.mem_of_getElem? (i := 37) rfl))) (mvT hZ (hw _ (List.mem_of_getElem? (i := 38) rfl))) (mvT hZ (hw _ (List.mem_of_getElem? (i := 39) rfl))) (by decide) (backOf (W := 0) (rm7 l Z a0 hw [] b35 vc vf b36 kb36 kc36 cs T36.heap n0 Z36 O36 ST hN hC A35'36 Fv36 Fc36 Vb36 hkc36) hZ (hw _ (List.mem_of_getElem? (i := 39) rfl)) (hw _ (List.mem_of_getElem? (i := 38) rfl)) (by decide) (by decide)) (g := (mkF m 84 #[.val (.int p1), .val (.int p2), .val (.int p3), .val (.int p4), .val (.int p5), .val (.int ((p1 &&& (2147483647 : Int32)) % (5 : Int32))), .val (.ref bA), .val (.int (0 : Int32))] [(.ref b35)])) rfl (by rw [hml]; rfl) (argsL := [(.ref b35)]) (rest := []) (lenOf pd_6 rfl) rfl (by show 2 * 0 + _ ≤ _; exact Nat.le_of_eq rfl) (hb hby at_84) (fun _ _ => ⟨rfl, rfl, Nat.le_of_ble_eq_true rfl, Nat.le_of_ble_eq_true rfl⟩)
            dsimp only [Pt.U, Pt.locs, Pt.cells, Pt.slots] at X37 l37 y37 z37 st37 hQ37
            subst l37 y37 z37
            obtain ⟨rfl, N37q, e37⟩ := hQ37
            have N37 := Fr.app N36 N37q
            refine own_goW (fun _ k => st37 _ k) ?_
            show own_EndsW p e below s _ _ _ (T37.setTop (mkF m 87 #[.val (.int p1), .val (.int p2), .val (.int p3), .val (.int p4), .val (.int p5), .val (.int ((p1 &&& (2147483647 : Int32)) % (5 : Int32))), .val (.ref bA), .val (.int (0 : Int32))] [(.int (own_enc cs 5 0))]))
            refine own_goW (fun _ k => XS.iload X37.here hx rfl (hb hby at_87) rfl <| XS.icmpNo X37.here hx rfl (hb hby at_89) rfl (teq (by rw [own_main hN hC, if_neg hc38_7, if_neg hc47_15, if_neg hc56_23, if_pos hc65_31])).2 <| XT.iconstV X37.here hx rfl (1 : Int32) (hb hby at_92) rfl <| XS.goto X37.here hx rfl (pc0 := 93) (pc' := 97) rfl (hb hby at_93) (by decide) (by decide) <| k) ?_
            show own_EndsW p e below s _ _ _ (T37.setTop (mkF m 97 #[.val (.int p1), .val (.int p2), .val (.int p3), .val (.int p4), .val (.int p5), .val (.int ((p1 &&& (2147483647 : Int32)) % (5 : Int32))), .val (.ref bA), .val (.int (0 : Int32))] [(.int (1 : Int32))]))
            exact own_retNW X37 hx (t := .boolean) hrt (by simp) hS0 (by first | exact hk36 | (rw [e37]; exact hk36)) (hb hby at_97) hlk (show nar .boolean (1 : Int32) = (1 : Int32) from by decide) (by rw [e37]; exact ⟨rfl, N37⟩) (by decide) (by decide)
        · -- false
          refine own_goW (fun _ k => XS.ifNo X30.here hx rfl (hb hby at_65) rfl ((if0 _ _).trans (feq hc65_31).1) <| XT.iconstV X30.here hx rfl (1 : Int32) (hb hby at_68) rfl <| XS.goto X30.here hx rfl (pc0 := 69) (pc' := 73) rfl (hb hby at_69) (by decide) (by decide) <| XS.istore X30.here hx rfl (hb hby at_73) rfl (l' := #[.val (.int p1), .val (.int p2), .val (.int p3), .val (.int p4), .val (.int p5), .val (.int ((p1 &&& (2147483647 : Int32)) % (5 : Int32))), .val (.ref bA), .val (.int (1 : Int32))]) rfl <| k) ?_
          show own_EndsW p e below s _ _ _ (T30.setTop (mkF m 75 #[.val (.int p1), .val (.int p2), .val (.int p3), .val (.int p4), .val (.int p5), .val (.int ((p1 &&& (2147483647 : Int32)) % (5 : Int32))), .val (.ref bA), .val (.int (1 : Int32))] []))
          rcases Nat.eq_zero_or_pos cs.length with hz | hone
          ·
            obtain rfl : cs = [] := List.eq_nil_of_length_eq_zero hz
            have V0 : Arv Z T5.heap bA kA .char (0 : Int32) [] (.int (0 : Int32)) := VA
            obtain ⟨T38, h38, X38, e38, E38, A38, D38, -, st38⟩ := newO X30 hx hZ hown (hw _ (List.mem_of_getElem? (i := 15) rfl)) (hw _ (List.mem_of_getElem? (i := 16) rfl)) (hw _ (List.mem_of_getElem? (i := 17) rfl)) e30 (g := (mkF m 75 #[.val (.int p1), .val (.int p2), .val (.int p3), .val (.int p4), .val (.int p5), .val (.int ((p1 &&& (2147483647 : Int32)) % (5 : Int32))), .val (.ref bA), .val (.int (1 : Int32))] [])) rfl (hb hby at_75) (by decide) (by decide)
            obtain ⟨b38, g38⟩ : ∃ z, z = T5.heap.size := ⟨_, rfl⟩
            rw [← g38] at A38 D38 st38
            refine own_goW st38 ?_
            have ne_bA_b38 : bA ≠ b38 := Nat.ne_of_lt (Nat.lt_of_lt_of_le V0.lt (Nat.le_of_eq g38.symm))
            have g_b38 : n0 ≤ b38 := Nat.le_trans Z5 (Nat.le_of_eq g38.symm)
            have sz_b38 : h0.size ≤ b38 := Nat.le_trans K5'.1 (Nat.le_of_eq g38.symm)
            have V0'38 := V0.ext E38
            have Z38 := Nat.le_trans Z5 E38.1
            have O38 := O5.ext E38
            have K38' := K5'.ext E38
            have hk38 := Nat.le_trans hk5 E38.1
            have F_value_b38 : Fld Z h38 b38 "java/lang/String" "value" "[B" .null := D38 (Or.inr (hw _ (List.mem_of_getElem? (i := 30) rfl))) (ty := (.array .byte)) (by decide)
            have F_coder_b38 : Fld Z h38 b38 "java/lang/String" "coder" "B" (.int (0 : Int32)) := D38 (Or.inr (hw _ (List.mem_of_getElem? (i := 31) rfl))) (ty := .byte) (by decide)
            show own_EndsW p e below s _ _ _ (T38.setTop (mkF m 78 #[.val (.int p1), .val (.int p2), .val (.int p3), .val (.int p4), .val (.int p5), .val (.int ((p1 &&& (2147483647 : Int32)) % (5 : Int32))), .val (.ref bA), .val (.int (1 : Int32))] [(.ref b38)]))
            refine own_goW (fun _ k => XS.dup X38.here hx rfl (hb hby at_78) rfl rfl <| XS.aload X38.here hx rfl (hb hby at_79) rfl rfl <| k) ?_
            show own_EndsW p e below s _ _ _ (T38.setTop (mkF m 81 #[.val (.int p1), .val (.int p2), .val (.int p3), .val (.int p4), .val (.int p5), .val (.int ((p1 &&& (2147483647 : Int32)) % (5 : Int32))), .val (.ref bA), .val (.int (1 : Int32))] [(.ref bA), (.ref b38), (.ref b38)]))
            obtain ⟨_, _, ⟨T39, L39, k39, n39⟩, -, X39, hs39, hge39, ⟨Lc39, hQ39, l39, y39, z39⟩, st39⟩ := X38.specialBackS hx (y := (⟨"java/lang/String", "<init>", "([C)V"⟩ : MethodName)) rfl hown (mvT hZ (hw _ (List.mem_of_getElem? (i := 18) rfl))) (mvT hZ (hw _ (List.mem_of_getElem? (i := 19) rfl))) (mvT hZ (hw _ (List.mem_of_getElem? (i := 20) rfl))) (by decide) (own_backX (W := 1) (rmE9 l Z a0 hw [] b38 bA kA h38 n0 Z38 A38 F_value_b38 F_coder_b38 g_b38 V0'38 (Ne.symm ne_bA_b38)) hZ (hw _ (List.mem_of_getElem? (i := 20) rfl)) (hw _ (List.mem_of_getElem? (i := 17) rfl)) (by decide) (by decide)) (g := (mkF m 81 #[.val (.int p1), .val (.int p2), .val (.int p3), .val (.int p4), .val (.int p5), .val (.int ((p1 &&& (2147483647 : Int32)) % (5 : Int32))), .val (.ref bA), .val (.int (1 : Int32))] [(.ref bA), (.ref b38), (.ref b38)])) rfl (by rw [hml]; rfl) (Steps.refl _) (a := b38) (argsL := [(.ref bA)]) (rest := [(.ref b38)]) (lenOf pd_3 rfl) rfl (by show 2 * 0 + _ ≤ _; exact Nat.le_of_eq rfl) (hb hby at_81) (fun _ hwm => ⟨rfl, e38, Nat.le_of_ble_eq_true rfl, Nat.le_of_ble_eq_true rfl, own_held hwm (mvS (s := s) (args := #[]) hZ (hw _ (List.mem_of_getElem? (i := 28) rfl))) hCH (fun b c q => by rw [e38]; exact K38'.2.1 b c (hh ▸ q) (by simp))⟩)
            dsimp only [Pt.U, Pt.locs, Pt.cells, Pt.slots] at X39 l39 y39 z39 st39 hQ39 hs39 hge39
            have hS39 : s.Since T39.vm T39.heap.size := hS0.trans hs39 (Nat.le_trans hk38 (by rw [← e38]; exact hge39))
            have hZ : Z.Warmed39 (s.setVm T39.vm).vm := State.Warmed39.trans (t := s.setVm s.vm) hZ hs39.1
            have hown : (s.setVm T39.vm).vm.findClass "com/example/pagra/pagra/core/StrictUtf8IsEncodablePinLaw" = some m.cls := by rw [show (s.setVm T39.vm).vm = T39.vm from rfl, hs39.1.alike.findClass]; exact hown
            have X39 : Stand p l e room_1 (s.setVm T39.vm) m #[(.int p1), (.int p2), (.int p3), (.int p4), (.int p5)] below meth c T39 L39 k39 n39 := X39
            subst l39 y39 z39
            obtain ⟨b39, kb39, rfl, N39q, K39, Fv39, Fc39, Vb39⟩ := hQ39
            have N39 := Fr.app N30 N39q
            refine own_goW (fun _ k => st39.trans k) ?_
            have V0'39 := V0'38.keep K39 (ninS ne_bA_b38 nin0)
            have A38'39 := A38.keep K39
            have Z39 := Nat.le_trans Z38 K39.1
            have O39 := O38.keep K39 (allS g_b38 all0)
            have K39' := K38'.trans K39 (allS (Or.inr sz_b38) all0)
            show own_EndsW p e below s _ _ _ (T39.setTop (mkF m 84 #[.val (.int p1), .val (.int p2), .val (.int p3), .val (.int p4), .val (.int p5), .val (.int ((p1 &&& (2147483647 : Int32)) % (5 : Int32))), .val (.ref bA), .val (.int (1 : Int32))] [(.ref b38)]))
            obtain ⟨_, _, ⟨T40, L40, k40, n40⟩, -, X40, ⟨Lc40, hQ40, l40, y40, z40⟩, st40⟩ := Jvm.LawKit.callS X39 hx (y := (⟨"com/example/pagra/pagra/core/StrictUtf8", "isEncodable", "(Ljava/lang/String;)Z"⟩ : MethodName)) hown (mvT hZ (hw _ (List.mem_of_getElem? (i := 36) rfl))) (mvT hZ (hw _ (List.mem_of_getElem? (i := 37) rfl))) (mvT hZ (hw _ (List.mem_of_getElem? (i := 38) rfl))) (mvT hZ (hw _ (List.mem_of_getElem? (i := 39) rfl))) (by decide) (backOf (W := 0) (rm7 l Z a0 hw [] b38 vc vf b39 kb39 (0 : Int32) (([] : List Int32)) T39.heap n0 Z39 O39 ST (by simp) hC A38'39 Fv39 Fc39 Vb39 own_KCe) hZ (hw _ (List.mem_of_getElem? (i := 39) rfl)) (hw _ (List.mem_of_getElem? (i := 38) rfl)) (by decide) (by decide)) (g := (mkF m 84 #[.val (.int p1), .val (.int p2), .val (.int p3), .val (.int p4), .val (.int p5), .val (.int ((p1 &&& (2147483647 : Int32)) % (5 : Int32))), .val (.ref bA), .val (.int (1 : Int32))] [(.ref b38)])) rfl (by rw [hml]; rfl) (argsL := [(.ref b38)]) (rest := []) (lenOf pd_6 rfl) rfl (by show 2 * 0 + _ ≤ _; exact Nat.le_of_eq rfl) (hb hby at_84) (fun _ _ => ⟨rfl, rfl, Nat.le_of_ble_eq_true rfl, Nat.le_of_ble_eq_true rfl⟩)
            dsimp only [Pt.U, Pt.locs, Pt.cells, Pt.slots] at X40 l40 y40 z40 st40 hQ40
            subst l40 y40 z40
            obtain ⟨rfl, N40q, e40⟩ := hQ40
            have N40 := Fr.app N39 N40q
            refine own_goW (fun _ k => st40 _ k) ?_
            show own_EndsW p e below s _ _ _ (T40.setTop (mkF m 87 #[.val (.int p1), .val (.int p2), .val (.int p3), .val (.int p4), .val (.int p5), .val (.int ((p1 &&& (2147483647 : Int32)) % (5 : Int32))), .val (.ref bA), .val (.int (1 : Int32))] [(.int (own_enc ([] : List Int32) 5 0))]))
            refine own_goW (fun _ k => XS.iload X40.here hx rfl (hb hby at_87) rfl <| XS.icmpNo X40.here hx rfl (hb hby at_89) rfl (teq (by rw [own_main (by simp) hC, if_neg hc38_7, if_neg hc47_15, if_neg hc56_23, if_neg hc65_31])).2 <| XT.iconstV X40.here hx rfl (1 : Int32) (hb hby at_92) rfl <| XS.goto X40.here hx rfl (pc0 := 93) (pc' := 97) rfl (hb hby at_93) (by decide) (by decide) <| k) ?_
            show own_EndsW p e below s _ _ _ (T40.setTop (mkF m 97 #[.val (.int p1), .val (.int p2), .val (.int p3), .val (.int p4), .val (.int p5), .val (.int ((p1 &&& (2147483647 : Int32)) % (5 : Int32))), .val (.ref bA), .val (.int (1 : Int32))] [(.int (1 : Int32))]))
            exact own_retNW X40 hx (t := .boolean) hrt (by simp) hS39 (by first | exact (Nat.le_refl _) | (rw [e40]; exact (Nat.le_refl _))) (hb hby at_97) hlk (show nar .boolean (1 : Int32) = (1 : Int32) from by decide) (by rw [e40]; exact ⟨rfl, N40⟩) (by decide) (by decide)
          ·
            obtain ⟨T41, h41, X41, e41, E41, A41, D41, -, st41⟩ := newO X30 hx hZ hown (hw _ (List.mem_of_getElem? (i := 15) rfl)) (hw _ (List.mem_of_getElem? (i := 16) rfl)) (hw _ (List.mem_of_getElem? (i := 17) rfl)) e30 (g := (mkF m 75 #[.val (.int p1), .val (.int p2), .val (.int p3), .val (.int p4), .val (.int p5), .val (.int ((p1 &&& (2147483647 : Int32)) % (5 : Int32))), .val (.ref bA), .val (.int (1 : Int32))] [])) rfl (hb hby at_75) (by decide) (by decide)
            obtain ⟨b41, g41⟩ : ∃ z, z = T5.heap.size := ⟨_, rfl⟩
            rw [← g41] at A41 D41 st41
            refine own_goW st41 ?_
            have ne_bA_b41 : bA ≠ b41 := Nat.ne_of_lt (Nat.lt_of_lt_of_le VA.lt (Nat.le_of_eq g41.symm))
            have g_b41 : n0 ≤ b41 := Nat.le_trans Z5 (Nat.le_of_eq g41.symm)
            have sz_b41 : h0.size ≤ b41 := Nat.le_trans K5'.1 (Nat.le_of_eq g41.symm)
            have VA'41 := VA.ext E41
            have Z41 := Nat.le_trans Z5 E41.1
            have O41 := O5.ext E41
            have K41' := K5'.ext E41
            have hk41 := Nat.le_trans hk5 E41.1
            have F_value_b41 : Fld Z h41 b41 "java/lang/String" "value" "[B" .null := D41 (Or.inr (hw _ (List.mem_of_getElem? (i := 30) rfl))) (ty := (.array .byte)) (by decide)
            have F_coder_b41 : Fld Z h41 b41 "java/lang/String" "coder" "B" (.int (0 : Int32)) := D41 (Or.inr (hw _ (List.mem_of_getElem? (i := 31) rfl))) (ty := .byte) (by decide)
            show own_EndsW p e below s _ _ _ (T41.setTop (mkF m 78 #[.val (.int p1), .val (.int p2), .val (.int p3), .val (.int p4), .val (.int p5), .val (.int ((p1 &&& (2147483647 : Int32)) % (5 : Int32))), .val (.ref bA), .val (.int (1 : Int32))] [(.ref b41)]))
            refine own_goW (fun _ k => XS.dup X41.here hx rfl (hb hby at_78) rfl rfl <| XS.aload X41.here hx rfl (hb hby at_79) rfl rfl <| k) ?_
            show own_EndsW p e below s _ _ _ (T41.setTop (mkF m 81 #[.val (.int p1), .val (.int p2), .val (.int p3), .val (.int p4), .val (.int p5), .val (.int ((p1 &&& (2147483647 : Int32)) % (5 : Int32))), .val (.ref bA), .val (.int (1 : Int32))] [(.ref bA), (.ref b41), (.ref b41)]))
            obtain ⟨_, _, ⟨T42, L42, k42, n42⟩, -, X42, ⟨Lc42, hQ42, l42, y42, z42⟩, st42⟩ := X41.specialBack hx (y := (⟨"java/lang/String", "<init>", "([C)V"⟩ : MethodName)) rfl hown (mvT hZ (hw _ (List.mem_of_getElem? (i := 18) rfl))) (mvT hZ (hw _ (List.mem_of_getElem? (i := 19) rfl))) (mvT hZ (hw _ (List.mem_of_getElem? (i := 20) rfl))) (by decide) (backOf (W := 1) (rm4 l Z a0 hw [] b41 bA vc vf kA cs h41 n0 Z41 O41 ST hN hC hone VA'41 A41 F_value_b41 F_coder_b41 (Ne.symm ne_bA_b41) g_b41) hZ (hw _ (List.mem_of_getElem? (i := 20) rfl)) (hw _ (List.mem_of_getElem? (i := 17) rfl)) (by decide) (by decide)) (g := (mkF m 81 #[.val (.int p1), .val (.int p2), .val (.int p3), .val (.int p4), .val (.int p5), .val (.int ((p1 &&& (2147483647 : Int32)) % (5 : Int32))), .val (.ref bA), .val (.int (1 : Int32))] [(.ref bA), (.ref b41), (.ref b41)])) rfl (by rw [hml]; rfl) (Steps.refl _) (a := b41) (argsL := [(.ref bA)]) (rest := [(.ref b41)]) (lenOf pd_3 rfl) rfl (by show 2 * 0 + _ ≤ _; exact Nat.le_of_eq rfl) (hb hby at_81) (fun _ _ => ⟨rfl, e41, Nat.le_of_ble_eq_true rfl, Nat.le_of_ble_eq_true rfl⟩)
            dsimp only [Pt.U, Pt.locs, Pt.cells, Pt.slots] at X42 l42 y42 z42 st42 hQ42
            subst l42 y42 z42
            obtain ⟨b42, kb42, kc42, rfl, N42q, K42, g42, sz42, hkc42, Fv42, Fc42, Vb42⟩ := hQ42
            have N42 := Fr.app N30 N42q
            refine own_goW (fun _ k => st42.trans k) ?_
            have VA'42 := VA'41.keep K42 (ninS ne_bA_b41 nin0)
            have A41'42 := A41.keep K42
            have Z42 := Nat.le_trans Z41 K42.1
            have O42 := O41.keep K42 (allS g_b41 all0)
            have K42' := K41'.trans K42 (allS (Or.inr sz_b41) all0)
            have hk42 := Nat.le_trans hk41 K42.1
            show own_EndsW p e below s _ _ _ (T42.setTop (mkF m 84 #[.val (.int p1), .val (.int p2), .val (.int p3), .val (.int p4), .val (.int p5), .val (.int ((p1 &&& (2147483647 : Int32)) % (5 : Int32))), .val (.ref bA), .val (.int (1 : Int32))] [(.ref b41)]))
            have ne_bA_b42 : bA ≠ b42 := Nat.ne_of_lt (Nat.lt_of_lt_of_le VA'41.lt sz42)
            have ne_b41_b42 : b41 ≠ b42 := Nat.ne_of_lt (Nat.lt_of_lt_of_le A41.lt sz42)
            have szk42 : h0.size ≤ b42 := Nat.le_trans K41'.1 sz42
            obtain ⟨_, _, ⟨T43, L43, k43, n43⟩, -, X43, ⟨Lc43, hQ43, l43, y43, z43⟩, st43⟩ := Jvm.LawKit.callS X42 hx (y := (⟨"com/example/pagra/pagra/core/StrictUtf8", "isEncodable", "(Ljava/lang/String;)Z"⟩ : MethodName)) hown (mvT hZ (hw _ (List.mem_of_getElem? (i := 36) rfl))) (mvT hZ (hw _ (List.mem_of_getElem? (i := 37) rfl))) (mvT hZ (hw _ (List.mem_of_getElem? (i := 38) rfl))) (mvT hZ (hw _ (List.mem_of_getElem? (i := 39) rfl))) (by decide) (backOf (W := 0) (rm7 l Z a0 hw [] b41 vc vf b42 kb42 kc42 cs T42.heap n0 Z42 O42 ST hN hC A41'42 Fv42 Fc42 Vb42 hkc42) hZ (hw _ (List.mem_of_getElem? (i := 39) rfl)) (hw _ (List.mem_of_getElem? (i := 38) rfl)) (by decide) (by decide)) (g := (mkF m 84 #[.val (.int p1), .val (.int p2), .val (.int p3), .val (.int p4), .val (.int p5), .val (.int ((p1 &&& (2147483647 : Int32)) % (5 : Int32))), .val (.ref bA), .val (.int (1 : Int32))] [(.ref b41)])) rfl (by rw [hml]; rfl) (argsL := [(.ref b41)]) (rest := []) (lenOf pd_6 rfl) rfl (by show 2 * 0 + _ ≤ _; exact Nat.le_of_eq rfl) (hb hby at_84) (fun _ _ => ⟨rfl, rfl, Nat.le_of_ble_eq_true rfl, Nat.le_of_ble_eq_true rfl⟩)
            dsimp only [Pt.U, Pt.locs, Pt.cells, Pt.slots] at X43 l43 y43 z43 st43 hQ43
            subst l43 y43 z43
            obtain ⟨rfl, N43q, e43⟩ := hQ43
            have N43 := Fr.app N42 N43q
            refine own_goW (fun _ k => st43 _ k) ?_
            show own_EndsW p e below s _ _ _ (T43.setTop (mkF m 87 #[.val (.int p1), .val (.int p2), .val (.int p3), .val (.int p4), .val (.int p5), .val (.int ((p1 &&& (2147483647 : Int32)) % (5 : Int32))), .val (.ref bA), .val (.int (1 : Int32))] [(.int (own_enc cs 5 0))]))
            refine own_goW (fun _ k => XS.iload X43.here hx rfl (hb hby at_87) rfl <| XS.icmpNo X43.here hx rfl (hb hby at_89) rfl (teq (by rw [own_main hN hC, if_neg hc38_7, if_neg hc47_15, if_neg hc56_23, if_neg hc65_31])).2 <| XT.iconstV X43.here hx rfl (1 : Int32) (hb hby at_92) rfl <| XS.goto X43.here hx rfl (pc0 := 93) (pc' := 97) rfl (hb hby at_93) (by decide) (by decide) <| k) ?_
            show own_EndsW p e below s _ _ _ (T43.setTop (mkF m 97 #[.val (.int p1), .val (.int p2), .val (.int p3), .val (.int p4), .val (.int p5), .val (.int ((p1 &&& (2147483647 : Int32)) % (5 : Int32))), .val (.ref bA), .val (.int (1 : Int32))] [(.int (1 : Int32))]))
            exact own_retNW X43 hx (t := .boolean) hrt (by simp) hS0 (by first | exact hk42 | (rw [e43]; exact hk42)) (hb hby at_97) hlk (show nar .boolean (1 : Int32) = (1 : Int32) from by decide) (by rw [e43]; exact ⟨rfl, N43⟩) (by decide) (by decide)
set_option maxRecDepth 65536 in
set_option maxHeartbeats 40000000 in
theorem comes_1 {Post : Tables → Env → Array Value → State → Outcome → State → Prop} (hpost : ∀ tb e args s v u, (limb_1_1.after args s (.returned v) u = true ∧ limb_1_2.after args s (.returned v) u = true ∧ True) → ReturnedEndW s (.returned v) u (Jvm.fieldLocs frame_1_writes args s ++ Jvm.arrayLocs frame_1_arrays args s ++ Jvm.staticLocs frame_1_statics s) 24 1152 → Post tb e args s (.returned v) u) :
    ArmFor flags0 classFile x code maxLocals ret World_1 tables_1 room_1 Calls_1 rest_1 Pre_1 Post := by
  intro l hfl _ _ p e ha hc hk s m args below hf hA hF happ hP
  obtain ⟨hcalls, hrest, hpre⟩ := hP
  obtain ⟨-, -, -, hnamed, -, -, -, hat⟩ := (Spec.applies_iff hf).mp happ
  obtain ⟨hg, hn⟩ := and_e (Cond.before_iff.mp (show (Jvm.Cond.and given_1 narrow_1).before args s = true from hpre))
  obtain ⟨g1, g2⟩ := and_e hg
  obtain ⟨g3, g4⟩ := and_e g2
  obtain ⟨g5, g6⟩ := and_e g4
  obtain ⟨g7, g8⟩ := and_e g6
  obtain ⟨g9, g10⟩ := and_e g8
  obtain ⟨w0, w1, w2, w3, w4, rfl⟩ : ∃ w0 w1 w2 w3 w4 : Value, args = #[w0, w1, w2, w3, w4] := by
    have hs : args.size = 5 := by simpa [Cond.value, given_1] using g1
    obtain ⟨L⟩ := args
    match L, hs with
    | [w0, w1, w2, w3, w4], _ => exact ⟨w0, w1, w2, w3, w4, rfl⟩
  have hw := fun d (hd : d ∈ tables_1) => atoms_spec (ws := Jvm.Cond.code x code maxLocals ret :: tables_1) hat d (List.mem_cons_of_mem _ hd)
  have hfit : Fit s := fun {y c} hc i hi => by
    obtain ⟨ha, rfl⟩ := Array.getElem?_eq_some_iff.mp hc
    have q := List.all_eq_true.mp ((Array.all_eq_true_iff_forall_mem.mp hF) _ (Array.getElem_mem ha)) i (List.mem_range.mpr hi)
    simpa [Array.getElem?_eq_getElem hi] using q
  obtain ⟨hsets, hown0⟩ := atoms_of _ (rest_1_c_eq ▸ (show rest_1_c.before _ s = true from hrest))
  have hr0 := Cond.before_iff.mp hown0
  obtain ⟨i0, ei0⟩ := is_v g3
  obtain rfl : w0 = (.int i0) := Option.some.inj ei0
  obtain ⟨i1, ei1⟩ := is_v g5
  obtain rfl : w1 = (.int i1) := Option.some.inj ei1
  obtain ⟨i2, ei2⟩ := is_v g7
  obtain rfl : w2 = (.int i2) := Option.some.inj ei2
  obtain ⟨i3, ei3⟩ := is_v g9
  obtain rfl : w3 = (.int i3) := Option.some.inj ei3
  obtain ⟨i4, ei4⟩ := is_v g10
  obtain rfl : w4 = (.int i4) := Option.some.inj ei4
  obtain ⟨vc, evc⟩ := is_v (Cond.before_iff.mp (hsets _ (List.mem_of_getElem? (i := 1) rfl)))
  have SCS := Sta.start evc (Or.inl (hsets _ (List.mem_of_getElem? (i := 0) rfl)))
  have HVC : ¬ vc = 0 := own_not0 evc (Cond.before_iff.mp (hsets _ (List.mem_of_getElem? (i := 2) rfl)))
  have evSAD := eqv_i (Term.int_eval (1 : Int32)) (Cond.before_iff.mp (hsets _ (List.mem_of_getElem? (i := 12) rfl)))
  have SAD := Sta.start evSAD (Or.inl (hsets _ (List.mem_of_getElem? (i := 11) rfl)))
  have evSHI := eqv_i (Term.int_eval (0 : Int32)) (Cond.before_iff.mp (hsets _ (List.mem_of_getElem? (i := 15) rfl)))
  have SHI := Sta.start evSHI (Or.inl (hsets _ (List.mem_of_getElem? (i := 14) rfl)))
  have evSLO := eqv_i (Term.int_eval (8 : Int32)) (Cond.before_iff.mp (hsets _ (List.mem_of_getElem? (i := 18) rfl)))
  have SLO := Sta.start evSLO (Or.inl (hsets _ (List.mem_of_getElem? (i := 17) rfl)))
  obtain ⟨vf, evf, HVF⟩ := own_isref (Cond.before_iff.mp (hsets _ (List.mem_of_getElem? (i := 8) rfl)))
  have SIO := Sta.start evf (Or.inl (hsets _ (List.mem_of_getElem? (i := 7) rfl)))
  have ST : own_St s vc vf := ⟨HVC, SCS, SAD, SHI, SLO, SIO, HVF⟩
  have hCH : ConstHeldL s "java/lang/String" 7 := own_heldE (hcalls.1 ("java/lang/String", 7) (by simp [consts_1])) (hw _ (List.mem_of_getElem? (i := 28) rfl)) (own_cw (hsets _ (List.mem_of_getElem? (i := 2) rfl))) (hw _ (List.mem_of_getElem? (i := 29) rfl)) (hw _ (List.mem_of_getElem? (i := 16) rfl))
  obtain ⟨n, o, h1, h2, h3, _, L, rfl, ⟨rfl, N⟩, hq⟩ := rm0 l s _ hw tables_1 i0 i1 i2 i3 i4 vc vf s.heap s.heap.size (Nat.le_refl _) (Old.start s) ST p e ha hc hk s m _ below hf ((Spec.applies_iff_loose hf).mp happ).1 ⟨rfl, State.Warmed39.refl s, rfl, hCH⟩ trivial
  refine ⟨n, _, h1, h2, h3, hpost _ _ _ _ _ _ ⟨Cond.after_iff.mpr rfl, Cond.after_iff.mpr (eq_i res_at (Term.int_eval (1)) rfl), trivial⟩ ⟨hq.1, hq.2.1, hq.2.2.1, (hq.2.2.2.sift fun y hy => Or.inr (N y hy)).mono (by decide) (by decide)⟩⟩
theorem main_1_1 : Claimed_1_1 := comes_1 fun _ _ _ _ _ _ h hF => ⟨h.1, hF⟩
theorem main_1_2 : Claimed_1_2 := comes_1 fun _ _ _ _ _ _ h hF => ⟨h.2.1, hF⟩
end Jvm.Pilot.@@N@@
namespace Jvm.Pilot.@@N@@
open Jvm Jvm.ClassFile Sem Op Lib Jvm.Free Jvm.Stand Jvm.Pilot.@@N@@.Jvm.D
/-! MADE BY PROGRAM (witnessworld.py) out of the Statement's table words and the real class files: 21 classes; the members and pool entries that the words name. The judged class is class 1, her method 1. -/
namespace start1
open Jvm.ClassFile
def u (s : String) : CpInfo := .utf8 (stringToUtf16 s)
/-- a pool by its gaps: so many unusable entries, then the entry; so many at the end -/
def gap : Nat → List CpInfo → List CpInfo
  | 0, r => r
  | n + 1, r => .unusable :: gap n r
def poolList (es : List (Nat × CpInfo)) (last : Nat) : List CpInfo := es.foldr (fun e r => gap e.1 (e.2 :: r)) (gap last [])
def pool (es : List (Nat × CpInfo)) (last : Nat) : Array CpInfo := ⟨poolList es last⟩
def fileOf (pool : Array CpInfo) (this : Nat) (attrs : Array Attribute := #[]) (ms : Array MethodInfo := #[]) (fl : Nat := 33) (sup : Nat := 0) (ifs : Array Nat := #[]) (fds : Array FieldInfo := #[]) : ClassFile where
  minorVersion := 0
  majorVersion := 65
  constantPool := pool
  accessFlags := fl
  thisClass := this
  superClass := sup
  interfaces := ifs
  fields := fds
  methods := ms
  attributes := attrs
def plain (name : String) (sup : Option ClassId) : Class where
  name := name
  kind := .ordinary
  loader := none
  accessFlags := 33
  super := sup
  interfaces := #[]
  cf := none
  fields := #[]
  methods := #[]
  instanceTypes := #[]
  staticTypes := #[]
  resolved := #[]
  callSites := []
  init := .initialized
  statics := none
  mirror := none

def pool0 : Array CpInfo := pool [(5, u "<init>"), (0, u "()V"), (1, .class_ 10), (1, u "java/lang/Object")] 113

def k0c0 : Code := { maxStack := 0, maxLocals := 1, code := object_method_1_code, exceptionTable := #[], attributes := #[] }
def k0m0 : Method := { name := "<init>", desc := "()V", sig := { parameters := [], returnType := none }, accessFlags := 1, code := some k0c0 }
/-- java/lang/Object -/
def k0 : Class := { plain "java/lang/Object" none with
  accessFlags := 33
  interfaces := #[]
  cf := some (fileOf pool0 8 #[] #[{ accessFlags := 1, nameIndex := 5, descriptorIndex := 6, attributes := #[] }] 33 0 #[] #[])
  fields := #[]
  methods := #[k0m0]
  instanceTypes := #[]
  staticTypes := #[]
  resolved := Array.replicate 124 none
  statics := none }

def pool1 : Array CpInfo := pool [(2, .class_ 4), (1, u "java/lang/Object"), (0, u "<init>"), (0, u "()V"), (0, .integer 2147483647), (0, .methodref 9 10), (0, .class_ 11), (0, .nameAndType 12 13), (0, u "com/example/pagra/pagra/core/StrictUtf8IsEncodablePinLaw"), (0, u "draw"), (0, u "(I)C"), (0, .methodref 9 15), (0, .nameAndType 16 17), (0, u "make"), (0, u "(ICCCC)[C"), (0, .methodref 9 19), (0, .nameAndType 20 21), (0, u "fine"), (0, u "([CI)Z"), (0, .class_ 23), (0, u "java/lang/String"), (0, .methodref 22 25), (0, .nameAndType 5 26), (0, u "([C)V"), (0, .methodref 28 29), (0, .class_ 30), (0, .nameAndType 31 32), (0, u "com/example/pagra/pagra/core/StrictUtf8"), (0, u "isEncodable"), (0, u "(Ljava/lang/String;)Z"), (0, .integer 55296), (0, .integer 56320), (0, .integer 65535), (0, .integer 56319), (0, .integer 57343), (0, .methodref 9 39), (0, .nameAndType 40 41), (0, u "high"), (0, u "(C)Z"), (0, .methodref 9 43), (0, .nameAndType 44 41), (0, u "low"), (2, u "law"), (0, u "(IIIII)Z")] 5

def k1m0 : Method := { name := "<init>", desc := "()V", sig := { parameters := [], returnType := none }, accessFlags := 1, code := none }
def k1c1 : Code := { maxStack := 5, maxLocals := 8, code := code, exceptionTable := #[], attributes := #[] }
def k1m1 : Method := { name := "law", desc := "(IIIII)Z", sig := { parameters := [.int, .int, .int, .int, .int], returnType := some .boolean }, accessFlags := 9, code := some k1c1 }
def k1c2 : Code := { maxStack := 3, maxLocals := 2, code := method_3_code, exceptionTable := #[], attributes := #[] }
def k1m2 : Method := { name := "draw", desc := "(I)C", sig := { parameters := [.int], returnType := some .char }, accessFlags := 10, code := some k1c2 }
def k1c3 : Code := { maxStack := 4, maxLocals := 5, code := method_4_code, exceptionTable := #[], attributes := #[] }
def k1m3 : Method := { name := "make", desc := "(ICCCC)[C", sig := { parameters := [.int, .char, .char, .char, .char], returnType := some (.array .char) }, accessFlags := 10, code := some k1c3 }
def k1c4 : Code := { maxStack := 2, maxLocals := 1, code := method_5_code, exceptionTable := #[], attributes := #[] }
def k1m4 : Method := { name := "high", desc := "(C)Z", sig := { parameters := [.char], returnType := some .boolean }, accessFlags := 10, code := some k1c4 }
def k1c5 : Code := { maxStack := 2, maxLocals := 1, code := method_6_code, exceptionTable := #[], attributes := #[] }
def k1m5 : Method := { name := "low", desc := "(C)Z", sig := { parameters := [.char], returnType := some .boolean }, accessFlags := 10, code := some k1c5 }
def k1c6 : Code := { maxStack := 3, maxLocals := 2, code := method_7_code, exceptionTable := #[], attributes := #[] }
def k1m6 : Method := { name := "fine", desc := "([CI)Z", sig := { parameters := [(.array .char), .int], returnType := some .boolean }, accessFlags := 10, code := some k1c6 }
/-- com/example/pagra/pagra/core/StrictUtf8IsEncodablePinLaw -/
def k1 : Class := { plain "com/example/pagra/pagra/core/StrictUtf8IsEncodablePinLaw" (some 0) with
  accessFlags := 49
  interfaces := #[]
  cf := some (fileOf pool1 9 #[] #[{ accessFlags := 1, nameIndex := 5, descriptorIndex := 6, attributes := #[] }, { accessFlags := 9, nameIndex := 47, descriptorIndex := 48, attributes := #[] }, { accessFlags := 10, nameIndex := 12, descriptorIndex := 13, attributes := #[] }, { accessFlags := 10, nameIndex := 16, descriptorIndex := 17, attributes := #[] }, { accessFlags := 10, nameIndex := 40, descriptorIndex := 41, attributes := #[] }, { accessFlags := 10, nameIndex := 44, descriptorIndex := 41, attributes := #[] }, { accessFlags := 10, nameIndex := 20, descriptorIndex := 21, attributes := #[] }] 49 2 #[] #[])
  fields := #[]
  methods := #[k1m0, k1m1, k1m2, k1m3, k1m4, k1m5, k1m6]
  instanceTypes := #[]
  staticTypes := #[]
  resolved := Array.replicate 54 none
  statics := none }

def pool2 : Array CpInfo := pool [(1, .class_ 2), (0, u "java/io/Serializable"), (0, .class_ 4), (0, u "java/lang/Object")] 2

/-- java/io/Serializable -/
def k2 : Class := { plain "java/io/Serializable" (some 0) with
  accessFlags := 1537
  interfaces := #[]
  cf := some (fileOf pool2 1 #[] #[] 1537 3 #[] #[])
  fields := #[]
  methods := #[]
  instanceTypes := #[]
  staticTypes := #[]
  resolved := Array.replicate 7 none
  statics := none }

def pool3 : Array CpInfo := pool [(1, .class_ 2), (0, u "java/lang/Comparable"), (0, .class_ 4), (0, u "java/lang/Object")] 7

/-- java/lang/Comparable -/
def k3 : Class := { plain "java/lang/Comparable" (some 0) with
  accessFlags := 1537
  interfaces := #[]
  cf := some (fileOf pool3 1 #[] #[] 1537 3 #[] #[])
  fields := #[]
  methods := #[]
  instanceTypes := #[]
  staticTypes := #[]
  resolved := Array.replicate 12 none
  statics := none }

def pool4 : Array CpInfo := pool [(2, .class_ 4), (1, u "java/lang/CharSequence"), (42, .class_ 48), (0, u "java/lang/CharSequence$1CodePointIterator"), (10, .class_ 60), (0, u "java/lang/CharSequence$1CharIterator"), (5, .class_ 67), (0, u "java/lang/Object")] 63

/-- java/lang/CharSequence -/
def k4 : Class := { plain "java/lang/CharSequence" (some 0) with
  accessFlags := 1537
  interfaces := #[]
  cf := some (fileOf pool4 2 #[.nestMembers #[47, 59]] #[] 1537 66 #[] #[])
  fields := #[]
  methods := #[]
  instanceTypes := #[]
  staticTypes := #[]
  resolved := Array.replicate 131 none
  statics := none }

def pool5 : Array CpInfo := pool [(1, .class_ 2), (0, u "java/lang/constant/Constable"), (0, .class_ 4), (0, u "java/lang/Object")] 6

/-- java/lang/constant/Constable -/
def k5 : Class := { plain "java/lang/constant/Constable" (some 0) with
  accessFlags := 1537
  interfaces := #[]
  cf := some (fileOf pool5 1 #[] #[] 1537 3 #[] #[])
  fields := #[]
  methods := #[]
  instanceTypes := #[]
  staticTypes := #[]
  resolved := Array.replicate 11 none
  statics := none }

def pool6 : Array CpInfo := pool [(1, .class_ 2), (0, u "java/lang/constant/ConstantDesc"), (0, .class_ 4), (0, u "java/lang/Object")] 32

/-- java/lang/constant/ConstantDesc -/
def k6 : Class := { plain "java/lang/constant/ConstantDesc" (some 0) with
  accessFlags := 1537
  interfaces := #[]
  cf := some (fileOf pool6 1 #[] #[] 1537 3 #[] #[])
  fields := #[]
  methods := #[]
  instanceTypes := #[]
  staticTypes := #[]
  resolved := Array.replicate 37 none
  statics := none }

def pool7 : Array CpInfo := pool [(1, .methodref 2 3), (0, .class_ 4), (0, .nameAndType 5 6), (0, u "java/lang/Object"), (0, u "<init>"), (0, u "()V"), (0, .string 8), (0, u ""), (0, .fieldref 10 11), (0, .class_ 12), (0, .nameAndType 13 14), (0, u "java/lang/String"), (0, u "value"), (0, u "[B"), (0, .fieldref 10 16), (0, .nameAndType 17 18), (0, u "coder"), (0, u "B"), (2, u "hash"), (0, u "I"), (2, u "hashIsZero"), (0, u "Z"), (0, .methodref 10 28), (0, .nameAndType 5 29), (0, u "([CIILjava/lang/Void;)V"), (8, .fieldref 10 39), (0, .nameAndType 40 26), (0, u "COMPACT_STRINGS"), (1, .class_ 44), (1, u "java/lang/StringUTF16"), (0, u "compress"), (1, .methodref 42 48), (0, .nameAndType 49 50), (0, u "coderFromArrayLen"), (0, u "([BI)B"), (46, u "([BII)I"), (44, u "()Z"), (34, .methodref 42 178), (0, .nameAndType 45 179), (0, u "([CII)[B"), (154, u "()I"), (0, .methodref 10 336), (0, .nameAndType 17 337), (0, u "()B"), (53, u "(II)V"), (100, .methodref 10 493), (0, .nameAndType 494 142), (0, u "isLatin1"), (4, .methodref 10 500), (0, .nameAndType 501 391), (0, u "checkIndex"), (0, .methodref 42 503), (0, .nameAndType 504 97), (0, u "codePointAt"), (2, u "length"), (67, .class_ 576), (0, u "java/lang/CharSequence"), (22, u "CASE_INSENSITIVE_ORDER"), (0, u "Ljava/util/Comparator;"), (164, u "(I)I"), (244, u "([C)V"), (42, .fieldref 1054 1055), (0, .class_ 1056), (0, .nameAndType 1057 1058), (0, u "jdk/internal/util/Preconditions"), (0, u "SIOOBE_FORMATTER"), (0, u "Ljava/util/function/BiFunction;"), (0, .methodref 1054 1060), (0, .nameAndType 501 1061), (0, u "(IILjava/util/function/BiFunction;)I"), (39, u "serialPersistentFields"), (0, u "[Ljava/io/ObjectStreamField;"), (0, .class_ 1104), (0, u "java/lang/String$CaseInsensitiveComparator"), (1, .class_ 1107), (0, u "java/io/Serializable"), (0, .class_ 1109), (0, u "java/lang/Comparable"), (0, .class_ 1111), (0, u "java/lang/constant/Constable"), (0, .class_ 1113), (0, u "java/lang/constant/ConstantDesc"), (2, u "serialVersionUID"), (0, u "J"), (3, u "REPL"), (0, u "C"), (2, u "LATIN1"), (1, u "UTF16")] 323

def k7m0 : Method := { name := "<init>", desc := "()V", sig := { parameters := [], returnType := none }, accessFlags := 1, code := none }
def k7c1 : Code := { maxStack := 5, maxLocals := 2, code := jdk_42_method_3_code, exceptionTable := #[], attributes := #[] }
def k7m1 : Method := { name := "<init>", desc := "([C)V", sig := { parameters := [(.array .char)], returnType := none }, accessFlags := 1, code := some k7c1 }
def k7c2 : Code := { maxStack := 2, maxLocals := 1, code := jdk_42_method_54_code, exceptionTable := #[], attributes := #[] }
def k7m2 : Method := { name := "length", desc := "()I", sig := { parameters := [], returnType := some .int }, accessFlags := 1, code := some k7c2 }
def k7c3 : Code := { maxStack := 3, maxLocals := 3, code := jdk_42_method_57_code, exceptionTable := #[], attributes := #[] }
def k7m3 : Method := { name := "codePointAt", desc := "(I)I", sig := { parameters := [.int], returnType := some .int }, accessFlags := 1, code := some k7c3 }
def k7c4 : Code := { maxStack := 4, maxLocals := 6, code := jdk_42_method_149_code, exceptionTable := #[], attributes := #[] }
def k7m4 : Method := { name := "<init>", desc := "([CIILjava/lang/Void;)V", sig := { parameters := [(.array .char), .int, .int, (.object "java/lang/Void")], returnType := none }, accessFlags := 2, code := some k7c4 }
def k7c5 : Code := { maxStack := 1, maxLocals := 1, code := jdk_42_method_152_code, exceptionTable := #[], attributes := #[] }
def k7m5 : Method := { name := "coder", desc := "()B", sig := { parameters := [], returnType := some .byte }, accessFlags := 0, code := some k7c5 }
def k7c6 : Code := { maxStack := 1, maxLocals := 1, code := jdk_42_method_154_code, exceptionTable := #[], attributes := #[] }
def k7m6 : Method := { name := "isLatin1", desc := "()Z", sig := { parameters := [], returnType := some .boolean }, accessFlags := 0, code := some k7c6 }
def k7c7 : Code := { maxStack := 3, maxLocals := 2, code := jdk_42_method_155_code, exceptionTable := #[], attributes := #[] }
def k7m7 : Method := { name := "checkIndex", desc := "(II)V", sig := { parameters := [.int, .int], returnType := none }, accessFlags := 8, code := some k7c7 }
/-- java/lang/String -/
def k7 : Class := { plain "java/lang/String" (some 0) with
  accessFlags := 49
  interfaces := #[2, 3, 4, 5, 6]
  cf := some (fileOf pool7 10 #[.nestMembers #[1103]] #[{ accessFlags := 1, nameIndex := 5, descriptorIndex := 6, attributes := #[] }, { accessFlags := 1, nameIndex := 5, descriptorIndex := 1010, attributes := #[] }, { accessFlags := 1, nameIndex := 507, descriptorIndex := 334, attributes := #[] }, { accessFlags := 1, nameIndex := 504, descriptorIndex := 765, attributes := #[] }, { accessFlags := 2, nameIndex := 5, descriptorIndex := 29, attributes := #[] }, { accessFlags := 0, nameIndex := 17, descriptorIndex := 337, attributes := #[] }, { accessFlags := 0, nameIndex := 494, descriptorIndex := 142, attributes := #[] }, { accessFlags := 8, nameIndex := 501, descriptorIndex := 391, attributes := #[] }] 49 2 #[1106, 1108, 575, 1110, 1112] #[{ accessFlags := 18, nameIndex := 13, descriptorIndex := 14, attributes := #[] }, { accessFlags := 18, nameIndex := 17, descriptorIndex := 18, attributes := #[] }, { accessFlags := 2, nameIndex := 21, descriptorIndex := 22, attributes := #[] }, { accessFlags := 2, nameIndex := 25, descriptorIndex := 26, attributes := #[] }, { accessFlags := 26, nameIndex := 1116, descriptorIndex := 1117, attributes := #[] }, { accessFlags := 24, nameIndex := 40, descriptorIndex := 26, attributes := #[] }, { accessFlags := 26, nameIndex := 1101, descriptorIndex := 1102, attributes := #[] }, { accessFlags := 26, nameIndex := 1121, descriptorIndex := 1122, attributes := #[] }, { accessFlags := 25, nameIndex := 599, descriptorIndex := 600, attributes := #[] }, { accessFlags := 24, nameIndex := 1125, descriptorIndex := 18, attributes := #[] }, { accessFlags := 24, nameIndex := 1127, descriptorIndex := 18, attributes := #[] }])
  fields := #[{ name := "value", type := (.array .byte), accessFlags := 18, slot := 0, constantValue := 0 }, { name := "coder", type := .byte, accessFlags := 18, slot := 1, constantValue := 0 }, { name := "hash", type := .int, accessFlags := 2, slot := 2, constantValue := 0 }, { name := "hashIsZero", type := .boolean, accessFlags := 2, slot := 3, constantValue := 0 }, { name := "serialVersionUID", type := .long, accessFlags := 26, slot := 0, constantValue := 0 }, { name := "COMPACT_STRINGS", type := .boolean, accessFlags := 24, slot := 1, constantValue := 0 }, { name := "serialPersistentFields", type := (.array (.object "java/io/ObjectStreamField")), accessFlags := 26, slot := 2, constantValue := 0 }, { name := "REPL", type := .char, accessFlags := 26, slot := 3, constantValue := 0 }, { name := "CASE_INSENSITIVE_ORDER", type := (.object "java/util/Comparator"), accessFlags := 25, slot := 4, constantValue := 0 }, { name := "LATIN1", type := .byte, accessFlags := 24, slot := 5, constantValue := 0 }, { name := "UTF16", type := .byte, accessFlags := 24, slot := 6, constantValue := 0 }]
  methods := #[k7m0, k7m1, k7m2, k7m3, k7m4, k7m5, k7m6, k7m7]
  instanceTypes := #[(.array .byte), .byte, .int, .boolean]
  staticTypes := #[.long, .boolean, (.array (.object "java/io/ObjectStreamField")), .char, (.object "java/util/Comparator"), .byte, .byte]
  resolved := Array.replicate 1451 none
  statics := some 0 }

def pool8 : Array CpInfo := pool [(2, .class_ 4), (1, u "java/lang/Object"), (0, u "<init>"), (0, u "()V"), (30, .methodref 38 39), (0, .class_ 40), (0, .nameAndType 41 42), (0, u "java/lang/String"), (0, u "length"), (0, u "()I"), (0, .methodref 38 44), (0, .nameAndType 45 46), (0, u "codePointAt"), (0, u "(I)I"), (0, .class_ 48), (0, u "java/lang/Character"), (0, .integer 55296), (0, .integer 57343), (0, .methodref 47 52), (0, .nameAndType 53 46), (0, u "charCount"), (4, .class_ 59), (0, u "com/example/pagra/pagra/core/StrictUtf8"), (0, u "INVALID"), (0, u "Ljava/lang/String;"), (9, u "isEncodable"), (0, u "(Ljava/lang/String;)Z")] 19

def k8m0 : Method := { name := "<init>", desc := "()V", sig := { parameters := [], returnType := none }, accessFlags := 2, code := none }
def k8c1 : Code := { maxStack := 2, maxLocals := 3, code := prog_28_method_3_code, exceptionTable := #[], attributes := #[] }
def k8m1 : Method := { name := "isEncodable", desc := "(Ljava/lang/String;)Z", sig := { parameters := [(.object "java/lang/String")], returnType := some .boolean }, accessFlags := 8, code := some k8c1 }
/-- com/example/pagra/pagra/core/StrictUtf8 -/
def k8 : Class := { plain "com/example/pagra/pagra/core/StrictUtf8" (some 0) with
  accessFlags := 48
  interfaces := #[]
  cf := some (fileOf pool8 58 #[] #[{ accessFlags := 2, nameIndex := 5, descriptorIndex := 6, attributes := #[] }, { accessFlags := 8, nameIndex := 71, descriptorIndex := 72, attributes := #[] }] 48 2 #[] #[{ accessFlags := 24, nameIndex := 60, descriptorIndex := 61, attributes := #[] }])
  fields := #[{ name := "INVALID", type := (.object "java/lang/String"), accessFlags := 24, slot := 0, constantValue := 0 }]
  methods := #[k8m0, k8m1]
  instanceTypes := #[]
  staticTypes := #[(.object "java/lang/String")]
  resolved := Array.replicate 92 none
  statics := none }

def pool9 : Array CpInfo := pool [(6, .class_ 8), (1, u "java/lang/Object"), (0, u "<init>"), (0, u "()V"), (0, .methodref 12 13), (0, .class_ 14), (0, .nameAndType 15 16), (0, u "java/lang/StringUTF16"), (0, u "newBytesLength"), (0, u "(I)I"), (3, .integer 1073741823), (23, .fieldref 12 45), (0, .nameAndType 46 47), (0, u "$assertionsDisabled"), (0, u "Z"), (11, .fieldref 12 60), (0, .nameAndType 61 62), (0, u "HI_BYTE_SHIFT"), (0, u "I"), (0, .fieldref 12 64), (0, .nameAndType 65 62), (0, u "LO_BYTE_SHIFT"), (5, .methodref 12 72), (0, .nameAndType 73 74), (0, u "getChar"), (0, u "([BI)C"), (0, .methodref 76 77), (0, .class_ 78), (0, .nameAndType 79 80), (0, u "java/lang/Character"), (0, u "isHighSurrogate"), (0, u "(C)Z"), (0, .methodref 76 82), (0, .nameAndType 83 80), (0, u "isLowSurrogate"), (0, .methodref 76 85), (0, .nameAndType 86 87), (0, u "toCodePoint"), (0, u "(CC)I"), (0, .methodref 12 89), (0, .nameAndType 90 91), (0, u "codePointAt"), (0, u "([BIIZ)I"), (15, .methodref 12 108), (0, .nameAndType 109 110), (0, u "newBytesFor"), (0, u "(I)[B"), (0, .methodref 12 112), (0, .nameAndType 113 114), (0, u "putChar"), (0, u "([BII)V"), (0, .methodref 12 116), (0, .nameAndType 117 118), (0, u "compress"), (0, u "([CI[BII)I"), (0, .methodref 12 120), (0, .nameAndType 121 122), (0, u "toBytes"), (0, u "([CII)[B"), (127, u "([BII)I"), (10, u "coderFromArrayLen"), (0, u "([BI)B"), (106, .class_ 371), (1, u "java/lang/StringUTF16$LinesSpliterator"), (58, u "MAX_LENGTH"), (196, .class_ 628), (0, u "java/lang/StringUTF16$CodePointsSpliterator"), (0, .class_ 630), (0, u "java/lang/StringUTF16$CharsSpliterator")] 4

def k9m0 : Method := { name := "<init>", desc := "()V", sig := { parameters := [], returnType := none }, accessFlags := 0, code := none }
def k9c1 : Code := { maxStack := 1, maxLocals := 1, code := jdk_52_method_2_code, exceptionTable := #[], attributes := #[] }
def k9m1 : Method := { name := "newBytesFor", desc := "(I)[B", sig := { parameters := [.int], returnType := some (.array .byte) }, accessFlags := 9, code := some k9c1 }
def k9c2 : Code := { maxStack := 4, maxLocals := 1, code := jdk_52_method_3_code, exceptionTable := #[], attributes := #[] }
def k9m2 : Method := { name := "newBytesLength", desc := "(I)I", sig := { parameters := [.int], returnType := some .int }, accessFlags := 9, code := some k9c2 }
def k9c3 : Code := { maxStack := 4, maxLocals := 3, code := jdk_52_method_4_code, exceptionTable := #[], attributes := #[] }
def k9m3 : Method := { name := "putChar", desc := "([BII)V", sig := { parameters := [(.array .byte), .int, .int], returnType := none }, accessFlags := 8, code := some k9c3 }
def k9c4 : Code := { maxStack := 3, maxLocals := 2, code := jdk_52_method_5_code, exceptionTable := #[], attributes := #[] }
def k9m4 : Method := { name := "getChar", desc := "([BI)C", sig := { parameters := [(.array .byte), .int], returnType := some .char }, accessFlags := 8, code := some k9c4 }
def k9c5 : Code := { maxStack := 2, maxLocals := 6, code := jdk_52_method_7_code, exceptionTable := #[], attributes := #[] }
def k9m5 : Method := { name := "codePointAt", desc := "([BIIZ)I", sig := { parameters := [(.array .byte), .int, .int, .boolean], returnType := some .int }, accessFlags := 10, code := some k9c5 }
def k9c6 : Code := { maxStack := 4, maxLocals := 3, code := jdk_52_method_8_code, exceptionTable := #[], attributes := #[] }
def k9m6 : Method := { name := "codePointAt", desc := "([BII)I", sig := { parameters := [(.array .byte), .int, .int], returnType := some .int }, accessFlags := 9, code := some k9c6 }
def k9c7 : Code := { maxStack := 4, maxLocals := 5, code := jdk_52_method_14_code, exceptionTable := #[], attributes := #[] }
def k9m7 : Method := { name := "toBytes", desc := "([CII)[B", sig := { parameters := [(.array .char), .int, .int], returnType := some (.array .byte) }, accessFlags := 9, code := some k9c7 }
def k9c8 : Code := { maxStack := 2, maxLocals := 2, code := jdk_52_method_15_code, exceptionTable := #[], attributes := #[] }
def k9m8 : Method := { name := "coderFromArrayLen", desc := "([BI)B", sig := { parameters := [(.array .byte), .int], returnType := some .byte }, accessFlags := 8, code := some k9c8 }
def k9c9 : Code := { maxStack := 5, maxLocals := 6, code := jdk_52_method_16_code, exceptionTable := #[], attributes := #[] }
def k9m9 : Method := { name := "compress", desc := "([CII)[B", sig := { parameters := [(.array .char), .int, .int], returnType := some (.array .byte) }, accessFlags := 9, code := some k9c9 }
def k9c10 : Code := { maxStack := 3, maxLocals := 7, code := jdk_52_method_21_code, exceptionTable := #[], attributes := #[] }
def k9m10 : Method := { name := "compress", desc := "([CI[BII)I", sig := { parameters := [(.array .char), .int, (.array .byte), .int, .int], returnType := some .int }, accessFlags := 9, code := some k9c10 }
/-- java/lang/StringUTF16 -/
def k9 : Class := { plain "java/lang/StringUTF16" (some 0) with
  accessFlags := 48
  interfaces := #[]
  cf := some (fileOf pool9 12 #[.nestMembers #[627, 629, 369]] #[{ accessFlags := 0, nameIndex := 9, descriptorIndex := 10, attributes := #[] }, { accessFlags := 9, nameIndex := 109, descriptorIndex := 110, attributes := #[] }, { accessFlags := 9, nameIndex := 15, descriptorIndex := 16, attributes := #[] }, { accessFlags := 8, nameIndex := 113, descriptorIndex := 114, attributes := #[] }, { accessFlags := 8, nameIndex := 73, descriptorIndex := 74, attributes := #[] }, { accessFlags := 10, nameIndex := 90, descriptorIndex := 91, attributes := #[] }, { accessFlags := 9, nameIndex := 90, descriptorIndex := 250, attributes := #[] }, { accessFlags := 9, nameIndex := 121, descriptorIndex := 122, attributes := #[] }, { accessFlags := 8, nameIndex := 261, descriptorIndex := 262, attributes := #[] }, { accessFlags := 9, nameIndex := 117, descriptorIndex := 122, attributes := #[] }, { accessFlags := 9, nameIndex := 117, descriptorIndex := 118, attributes := #[] }] 48 6 #[] #[{ accessFlags := 26, nameIndex := 61, descriptorIndex := 62, attributes := #[] }, { accessFlags := 26, nameIndex := 65, descriptorIndex := 62, attributes := #[] }, { accessFlags := 24, nameIndex := 430, descriptorIndex := 62, attributes := #[] }, { accessFlags := 4120, nameIndex := 46, descriptorIndex := 47, attributes := #[] }])
  fields := #[{ name := "HI_BYTE_SHIFT", type := .int, accessFlags := 26, slot := 0, constantValue := 0 }, { name := "LO_BYTE_SHIFT", type := .int, accessFlags := 26, slot := 1, constantValue := 0 }, { name := "MAX_LENGTH", type := .int, accessFlags := 24, slot := 2, constantValue := 0 }, { name := "$assertionsDisabled", type := .boolean, accessFlags := 4120, slot := 3, constantValue := 0 }]
  methods := #[k9m0, k9m1, k9m2, k9m3, k9m4, k9m5, k9m6, k9m7, k9m8, k9m9, k9m10]
  instanceTypes := #[]
  staticTypes := #[.int, .int, .int, .boolean]
  resolved := Array.replicate 635 none
  statics := some 1 }

def pool10 : Array CpInfo := pool [(2, .class_ 4), (1, u "java/lang/Object"), (0, u "<init>"), (0, u "()V"), (17, .class_ 26), (1, u "jdk/internal/util/Preconditions"), (6, u "checkIndex"), (21, .class_ 56), (0, u "jdk/internal/util/Preconditions$4"), (57, .class_ 115), (0, u "jdk/internal/util/Preconditions$1"), (7, u "SIOOBE_FORMATTER"), (0, u "Ljava/util/function/BiFunction;"), (0, .class_ 126), (0, u "jdk/internal/util/Preconditions$2"), (3, u "AIOOBE_FORMATTER"), (0, .class_ 132), (0, u "jdk/internal/util/Preconditions$3"), (3, u "IOOBE_FORMATTER"), (41, u "(IILjava/util/function/BiFunction;)I")] 15

def k10m0 : Method := { name := "<init>", desc := "()V", sig := { parameters := [], returnType := none }, accessFlags := 1, code := none }
def k10c1 : Code := { maxStack := 3, maxLocals := 3, code := jdk_41_method_11_code, exceptionTable := #[], attributes := #[] }
def k10m1 : Method := { name := "checkIndex", desc := "(IILjava/util/function/BiFunction;)I", sig := { parameters := [.int, .int, (.object "java/util/function/BiFunction")], returnType := some .int }, accessFlags := 9, code := some k10c1 }
/-- jdk/internal/util/Preconditions -/
def k10 : Class := { plain "jdk/internal/util/Preconditions" (some 0) with
  accessFlags := 33
  interfaces := #[]
  cf := some (fileOf pool10 24 #[.nestMembers #[55, 131, 125, 114]] #[{ accessFlags := 1, nameIndex := 5, descriptorIndex := 6, attributes := #[] }, { accessFlags := 9, nameIndex := 33, descriptorIndex := 178, attributes := #[] }] 33 2 #[] #[{ accessFlags := 25, nameIndex := 123, descriptorIndex := 124, attributes := #[] }, { accessFlags := 25, nameIndex := 130, descriptorIndex := 124, attributes := #[] }, { accessFlags := 25, nameIndex := 136, descriptorIndex := 124, attributes := #[] }])
  fields := #[{ name := "SIOOBE_FORMATTER", type := (.object "java/util/function/BiFunction"), accessFlags := 25, slot := 0, constantValue := 0 }, { name := "AIOOBE_FORMATTER", type := (.object "java/util/function/BiFunction"), accessFlags := 25, slot := 1, constantValue := 0 }, { name := "IOOBE_FORMATTER", type := (.object "java/util/function/BiFunction"), accessFlags := 25, slot := 2, constantValue := 0 }]
  methods := #[k10m0, k10m1]
  instanceTypes := #[]
  staticTypes := #[(.object "java/util/function/BiFunction"), (.object "java/util/function/BiFunction"), (.object "java/util/function/BiFunction")]
  resolved := Array.replicate 194 none
  statics := some 2 }

def pool11 : Array CpInfo := pool [(1, .class_ 2), (0, u "java/lang/Character"), (18, u "value"), (0, u "C"), (19, .class_ 44), (1, u "java/lang/Object"), (3, .class_ 50), (1, u "java/lang/Character$CharacterCache"), (22, .integer 65536), (1, .integer 55296), (0, .integer 56320), (0, .integer 57344), (2, u "isHighSurrogate"), (0, u "(C)Z"), (2, u "isLowSurrogate"), (0, .integer 4238353408), (12, u "toCodePoint"), (0, u "(CC)I"), (74, u "(I)I"), (109, u "$assertionsDisabled"), (0, u "Z"), (21, .class_ 309), (1, u "java/lang/Character$UnicodeBlock"), (73, u "TYPE"), (0, u "Ljava/lang/Class;"), (0, .class_ 386), (0, u "java/io/Serializable"), (0, .class_ 388), (0, u "java/lang/Comparable"), (0, .class_ 390), (0, u "java/lang/constant/Constable"), (0, u "MIN_RADIX"), (0, u "I"), (2, u "MAX_RADIX"), (1, u "MIN_VALUE"), (1, u "MAX_VALUE"), (3, u "UNASSIGNED"), (0, u "B"), (0, u "UPPERCASE_LETTER"), (1, u "LOWERCASE_LETTER"), (0, u "TITLECASE_LETTER"), (1, u "MODIFIER_LETTER"), (1, u "OTHER_LETTER"), (1, u "NON_SPACING_MARK"), (1, u "ENCLOSING_MARK"), (1, u "COMBINING_SPACING_MARK"), (1, u "DECIMAL_DIGIT_NUMBER"), (1, u "LETTER_NUMBER"), (1, u "OTHER_NUMBER"), (1, u "SPACE_SEPARATOR"), (1, u "LINE_SEPARATOR"), (1, u "PARAGRAPH_SEPARATOR"), (1, u "CONTROL"), (1, u "FORMAT"), (1, u "PRIVATE_USE"), (1, u "SURROGATE"), (1, u "DASH_PUNCTUATION"), (1, u "START_PUNCTUATION"), (1, u "END_PUNCTUATION"), (1, u "CONNECTOR_PUNCTUATION"), (1, u "OTHER_PUNCTUATION"), (1, u "MATH_SYMBOL"), (1, u "CURRENCY_SYMBOL"), (1, u "MODIFIER_SYMBOL"), (1, u "OTHER_SYMBOL"), (1, u "INITIAL_QUOTE_PUNCTUATION"), (1, u "FINAL_QUOTE_PUNCTUATION"), (1, u "ERROR"), (1, u "DIRECTIONALITY_UNDEFINED"), (0, u "DIRECTIONALITY_LEFT_TO_RIGHT"), (0, u "DIRECTIONALITY_RIGHT_TO_LEFT"), (0, u "DIRECTIONALITY_RIGHT_TO_LEFT_ARABIC"), (0, u "DIRECTIONALITY_EUROPEAN_NUMBER"), (0, u "DIRECTIONALITY_EUROPEAN_NUMBER_SEPARATOR"), (0, u "DIRECTIONALITY_EUROPEAN_NUMBER_TERMINATOR"), (0, u "DIRECTIONALITY_ARABIC_NUMBER"), (0, u "DIRECTIONALITY_COMMON_NUMBER_SEPARATOR"), (0, u "DIRECTIONALITY_NONSPACING_MARK"), (0, u "DIRECTIONALITY_BOUNDARY_NEUTRAL"), (0, u "DIRECTIONALITY_PARAGRAPH_SEPARATOR"), (0, u "DIRECTIONALITY_SEGMENT_SEPARATOR"), (0, u "DIRECTIONALITY_WHITESPACE"), (0, u "DIRECTIONALITY_OTHER_NEUTRALS"), (0, u "DIRECTIONALITY_LEFT_TO_RIGHT_EMBEDDING"), (0, u "DIRECTIONALITY_LEFT_TO_RIGHT_OVERRIDE"), (0, u "DIRECTIONALITY_RIGHT_TO_LEFT_EMBEDDING"), (0, u "DIRECTIONALITY_RIGHT_TO_LEFT_OVERRIDE"), (1, u "DIRECTIONALITY_POP_DIRECTIONAL_FORMAT"), (0, u "DIRECTIONALITY_LEFT_TO_RIGHT_ISOLATE"), (0, u "DIRECTIONALITY_RIGHT_TO_LEFT_ISOLATE"), (0, u "DIRECTIONALITY_FIRST_STRONG_ISOLATE"), (0, u "DIRECTIONALITY_POP_DIRECTIONAL_ISOLATE"), (0, u "MIN_HIGH_SURROGATE"), (0, u "MAX_HIGH_SURROGATE"), (1, u "MIN_LOW_SURROGATE"), (0, u "MAX_LOW_SURROGATE"), (1, u "MIN_SURROGATE"), (0, u "MAX_SURROGATE"), (0, u "MIN_SUPPLEMENTARY_CODE_POINT"), (0, u "MIN_CODE_POINT"), (0, u "MAX_CODE_POINT"), (1, u "serialVersionUID"), (0, u "J"), (2, u "SIZE"), (0, u "BYTES"), (29, u "charCount"), (58, .class_ 596), (0, u "java/lang/Character$UnicodeScript"), (0, .class_ 598), (0, u "java/lang/Character$Subset")] 5

def k11c0 : Code := { maxStack := 2, maxLocals := 1, code := jdk_89_method_14_code, exceptionTable := #[], attributes := #[] }
def k11m0 : Method := { name := "isHighSurrogate", desc := "(C)Z", sig := { parameters := [.char], returnType := some .boolean }, accessFlags := 9, code := some k11c0 }
def k11c1 : Code := { maxStack := 2, maxLocals := 1, code := jdk_89_method_15_code, exceptionTable := #[], attributes := #[] }
def k11m1 : Method := { name := "isLowSurrogate", desc := "(C)Z", sig := { parameters := [.char], returnType := some .boolean }, accessFlags := 9, code := some k11c1 }
def k11c2 : Code := { maxStack := 2, maxLocals := 1, code := jdk_89_method_18_code, exceptionTable := #[], attributes := #[] }
def k11m2 : Method := { name := "charCount", desc := "(I)I", sig := { parameters := [.int], returnType := some .int }, accessFlags := 9, code := some k11c2 }
def k11c3 : Code := { maxStack := 2, maxLocals := 2, code := jdk_89_method_19_code, exceptionTable := #[], attributes := #[] }
def k11m3 : Method := { name := "toCodePoint", desc := "(CC)I", sig := { parameters := [.char, .char], returnType := some .int }, accessFlags := 9, code := some k11c3 }
/-- java/lang/Character -/
def k11 : Class := { plain "java/lang/Character" (some 0) with
  accessFlags := 49
  interfaces := #[2, 3, 5]
  cf := some (fileOf pool11 1 #[.nestMembers #[48, 595, 307, 597]] #[{ accessFlags := 9, nameIndex := 80, descriptorIndex := 81, attributes := #[] }, { accessFlags := 9, nameIndex := 84, descriptorIndex := 81, attributes := #[] }, { accessFlags := 9, nameIndex := 536, descriptorIndex := 174, attributes := #[] }, { accessFlags := 9, nameIndex := 98, descriptorIndex := 99, attributes := #[] }] 49 42 #[385, 387, 389] #[{ accessFlags := 25, nameIndex := 391, descriptorIndex := 392, attributes := #[] }, { accessFlags := 25, nameIndex := 395, descriptorIndex := 392, attributes := #[] }, { accessFlags := 25, nameIndex := 397, descriptorIndex := 22, attributes := #[] }, { accessFlags := 25, nameIndex := 399, descriptorIndex := 22, attributes := #[] }, { accessFlags := 25, nameIndex := 383, descriptorIndex := 384, attributes := #[] }, { accessFlags := 25, nameIndex := 403, descriptorIndex := 404, attributes := #[] }, { accessFlags := 25, nameIndex := 405, descriptorIndex := 404, attributes := #[] }, { accessFlags := 25, nameIndex := 407, descriptorIndex := 404, attributes := #[] }, { accessFlags := 25, nameIndex := 408, descriptorIndex := 404, attributes := #[] }, { accessFlags := 25, nameIndex := 410, descriptorIndex := 404, attributes := #[] }, { accessFlags := 25, nameIndex := 412, descriptorIndex := 404, attributes := #[] }, { accessFlags := 25, nameIndex := 414, descriptorIndex := 404, attributes := #[] }, { accessFlags := 25, nameIndex := 416, descriptorIndex := 404, attributes := #[] }, { accessFlags := 25, nameIndex := 418, descriptorIndex := 404, attributes := #[] }, { accessFlags := 25, nameIndex := 420, descriptorIndex := 404, attributes := #[] }, { accessFlags := 25, nameIndex := 422, descriptorIndex := 404, attributes := #[] }, { accessFlags := 25, nameIndex := 424, descriptorIndex := 404, attributes := #[] }, { accessFlags := 25, nameIndex := 426, descriptorIndex := 404, attributes := #[] }, { accessFlags := 25, nameIndex := 428, descriptorIndex := 404, attributes := #[] }, { accessFlags := 25, nameIndex := 430, descriptorIndex := 404, attributes := #[] }, { accessFlags := 25, nameIndex := 432, descriptorIndex := 404, attributes := #[] }, { accessFlags := 25, nameIndex := 434, descriptorIndex := 404, attributes := #[] }, { accessFlags := 25, nameIndex := 436, descriptorIndex := 404, attributes := #[] }, { accessFlags := 25, nameIndex := 438, descriptorIndex := 404, attributes := #[] }, { accessFlags := 25, nameIndex := 440, descriptorIndex := 404, attributes := #[] }, { accessFlags := 25, nameIndex := 442, descriptorIndex := 404, attributes := #[] }, { accessFlags := 25, nameIndex := 444, descriptorIndex := 404, attributes := #[] }, { accessFlags := 25, nameIndex := 446, descriptorIndex := 404, attributes := #[] }, { accessFlags := 25, nameIndex := 448, descriptorIndex := 404, attributes := #[] }, { accessFlags := 25, nameIndex := 450, descriptorIndex := 404, attributes := #[] }, { accessFlags := 25, nameIndex := 452, descriptorIndex := 404, attributes := #[] }, { accessFlags := 25, nameIndex := 454, descriptorIndex := 404, attributes := #[] }, { accessFlags := 25, nameIndex := 456, descriptorIndex := 404, attributes := #[] }, { accessFlags := 25, nameIndex := 458, descriptorIndex := 404, attributes := #[] }, { accessFlags := 25, nameIndex := 460, descriptorIndex := 404, attributes := #[] }, { accessFlags := 24, nameIndex := 462, descriptorIndex := 392, attributes := #[] }, { accessFlags := 25, nameIndex := 464, descriptorIndex := 404, attributes := #[] }, { accessFlags := 25, nameIndex := 465, descriptorIndex := 404, attributes := #[] }, { accessFlags := 25, nameIndex := 466, descriptorIndex := 404, attributes := #[] }, { accessFlags := 25, nameIndex := 467, descriptorIndex := 404, attributes := #[] }, { accessFlags := 25, nameIndex := 468, descriptorIndex := 404, attributes := #[] }, { accessFlags := 25, nameIndex := 469, descriptorIndex := 404, attributes := #[] }, { accessFlags := 25, nameIndex := 470, descriptorIndex := 404, attributes := #[] }, { accessFlags := 25, nameIndex := 471, descriptorIndex := 404, attributes := #[] }, { accessFlags := 25, nameIndex := 472, descriptorIndex := 404, attributes := #[] }, { accessFlags := 25, nameIndex := 473, descriptorIndex := 404, attributes := #[] }, { accessFlags := 25, nameIndex := 474, descriptorIndex := 404, attributes := #[] }, { accessFlags := 25, nameIndex := 475, descriptorIndex := 404, attributes := #[] }, { accessFlags := 25, nameIndex := 476, descriptorIndex := 404, attributes := #[] }, { accessFlags := 25, nameIndex := 477, descriptorIndex := 404, attributes := #[] }, { accessFlags := 25, nameIndex := 478, descriptorIndex := 404, attributes := #[] }, { accessFlags := 25, nameIndex := 479, descriptorIndex := 404, attributes := #[] }, { accessFlags := 25, nameIndex := 480, descriptorIndex := 404, attributes := #[] }, { accessFlags := 25, nameIndex := 481, descriptorIndex := 404, attributes := #[] }, { accessFlags := 25, nameIndex := 482, descriptorIndex := 404, attributes := #[] }, { accessFlags := 25, nameIndex := 484, descriptorIndex := 404, attributes := #[] }, { accessFlags := 25, nameIndex := 485, descriptorIndex := 404, attributes := #[] }, { accessFlags := 25, nameIndex := 486, descriptorIndex := 404, attributes := #[] }, { accessFlags := 25, nameIndex := 487, descriptorIndex := 404, attributes := #[] }, { accessFlags := 25, nameIndex := 488, descriptorIndex := 404, attributes := #[] }, { accessFlags := 25, nameIndex := 489, descriptorIndex := 22, attributes := #[] }, { accessFlags := 25, nameIndex := 490, descriptorIndex := 22, attributes := #[] }, { accessFlags := 25, nameIndex := 492, descriptorIndex := 22, attributes := #[] }, { accessFlags := 25, nameIndex := 493, descriptorIndex := 22, attributes := #[] }, { accessFlags := 25, nameIndex := 495, descriptorIndex := 22, attributes := #[] }, { accessFlags := 25, nameIndex := 496, descriptorIndex := 22, attributes := #[] }, { accessFlags := 25, nameIndex := 497, descriptorIndex := 392, attributes := #[] }, { accessFlags := 25, nameIndex := 498, descriptorIndex := 392, attributes := #[] }, { accessFlags := 25, nameIndex := 499, descriptorIndex := 392, attributes := #[] }, { accessFlags := 18, nameIndex := 21, descriptorIndex := 22, attributes := #[] }, { accessFlags := 26, nameIndex := 501, descriptorIndex := 502, attributes := #[] }, { accessFlags := 25, nameIndex := 505, descriptorIndex := 392, attributes := #[] }, { accessFlags := 25, nameIndex := 506, descriptorIndex := 392, attributes := #[] }, { accessFlags := 4120, nameIndex := 284, descriptorIndex := 285, attributes := #[] }])
  fields := #[{ name := "MIN_RADIX", type := .int, accessFlags := 25, slot := 0, constantValue := 0 }, { name := "MAX_RADIX", type := .int, accessFlags := 25, slot := 1, constantValue := 0 }, { name := "MIN_VALUE", type := .char, accessFlags := 25, slot := 2, constantValue := 0 }, { name := "MAX_VALUE", type := .char, accessFlags := 25, slot := 3, constantValue := 0 }, { name := "TYPE", type := (.object "java/lang/Class"), accessFlags := 25, slot := 4, constantValue := 0 }, { name := "UNASSIGNED", type := .byte, accessFlags := 25, slot := 5, constantValue := 0 }, { name := "UPPERCASE_LETTER", type := .byte, accessFlags := 25, slot := 6, constantValue := 0 }, { name := "LOWERCASE_LETTER", type := .byte, accessFlags := 25, slot := 7, constantValue := 0 }, { name := "TITLECASE_LETTER", type := .byte, accessFlags := 25, slot := 8, constantValue := 0 }, { name := "MODIFIER_LETTER", type := .byte, accessFlags := 25, slot := 9, constantValue := 0 }, { name := "OTHER_LETTER", type := .byte, accessFlags := 25, slot := 10, constantValue := 0 }, { name := "NON_SPACING_MARK", type := .byte, accessFlags := 25, slot := 11, constantValue := 0 }, { name := "ENCLOSING_MARK", type := .byte, accessFlags := 25, slot := 12, constantValue := 0 }, { name := "COMBINING_SPACING_MARK", type := .byte, accessFlags := 25, slot := 13, constantValue := 0 }, { name := "DECIMAL_DIGIT_NUMBER", type := .byte, accessFlags := 25, slot := 14, constantValue := 0 }, { name := "LETTER_NUMBER", type := .byte, accessFlags := 25, slot := 15, constantValue := 0 }, { name := "OTHER_NUMBER", type := .byte, accessFlags := 25, slot := 16, constantValue := 0 }, { name := "SPACE_SEPARATOR", type := .byte, accessFlags := 25, slot := 17, constantValue := 0 }, { name := "LINE_SEPARATOR", type := .byte, accessFlags := 25, slot := 18, constantValue := 0 }, { name := "PARAGRAPH_SEPARATOR", type := .byte, accessFlags := 25, slot := 19, constantValue := 0 }, { name := "CONTROL", type := .byte, accessFlags := 25, slot := 20, constantValue := 0 }, { name := "FORMAT", type := .byte, accessFlags := 25, slot := 21, constantValue := 0 }, { name := "PRIVATE_USE", type := .byte, accessFlags := 25, slot := 22, constantValue := 0 }, { name := "SURROGATE", type := .byte, accessFlags := 25, slot := 23, constantValue := 0 }, { name := "DASH_PUNCTUATION", type := .byte, accessFlags := 25, slot := 24, constantValue := 0 }, { name := "START_PUNCTUATION", type := .byte, accessFlags := 25, slot := 25, constantValue := 0 }, { name := "END_PUNCTUATION", type := .byte, accessFlags := 25, slot := 26, constantValue := 0 }, { name := "CONNECTOR_PUNCTUATION", type := .byte, accessFlags := 25, slot := 27, constantValue := 0 }, { name := "OTHER_PUNCTUATION", type := .byte, accessFlags := 25, slot := 28, constantValue := 0 }, { name := "MATH_SYMBOL", type := .byte, accessFlags := 25, slot := 29, constantValue := 0 }, { name := "CURRENCY_SYMBOL", type := .byte, accessFlags := 25, slot := 30, constantValue := 0 }, { name := "MODIFIER_SYMBOL", type := .byte, accessFlags := 25, slot := 31, constantValue := 0 }, { name := "OTHER_SYMBOL", type := .byte, accessFlags := 25, slot := 32, constantValue := 0 }, { name := "INITIAL_QUOTE_PUNCTUATION", type := .byte, accessFlags := 25, slot := 33, constantValue := 0 }, { name := "FINAL_QUOTE_PUNCTUATION", type := .byte, accessFlags := 25, slot := 34, constantValue := 0 }, { name := "ERROR", type := .int, accessFlags := 24, slot := 35, constantValue := 0 }, { name := "DIRECTIONALITY_UNDEFINED", type := .byte, accessFlags := 25, slot := 36, constantValue := 0 }, { name := "DIRECTIONALITY_LEFT_TO_RIGHT", type := .byte, accessFlags := 25, slot := 37, constantValue := 0 }, { name := "DIRECTIONALITY_RIGHT_TO_LEFT", type := .byte, accessFlags := 25, slot := 38, constantValue := 0 }, { name := "DIRECTIONALITY_RIGHT_TO_LEFT_ARABIC", type := .byte, accessFlags := 25, slot := 39, constantValue := 0 }, { name := "DIRECTIONALITY_EUROPEAN_NUMBER", type := .byte, accessFlags := 25, slot := 40, constantValue := 0 }, { name := "DIRECTIONALITY_EUROPEAN_NUMBER_SEPARATOR", type := .byte, accessFlags := 25, slot := 41, constantValue := 0 }, { name := "DIRECTIONALITY_EUROPEAN_NUMBER_TERMINATOR", type := .byte, accessFlags := 25, slot := 42, constantValue := 0 }, { name := "DIRECTIONALITY_ARABIC_NUMBER", type := .byte, accessFlags := 25, slot := 43, constantValue := 0 }, { name := "DIRECTIONALITY_COMMON_NUMBER_SEPARATOR", type := .byte, accessFlags := 25, slot := 44, constantValue := 0 }, { name := "DIRECTIONALITY_NONSPACING_MARK", type := .byte, accessFlags := 25, slot := 45, constantValue := 0 }, { name := "DIRECTIONALITY_BOUNDARY_NEUTRAL", type := .byte, accessFlags := 25, slot := 46, constantValue := 0 }, { name := "DIRECTIONALITY_PARAGRAPH_SEPARATOR", type := .byte, accessFlags := 25, slot := 47, constantValue := 0 }, { name := "DIRECTIONALITY_SEGMENT_SEPARATOR", type := .byte, accessFlags := 25, slot := 48, constantValue := 0 }, { name := "DIRECTIONALITY_WHITESPACE", type := .byte, accessFlags := 25, slot := 49, constantValue := 0 }, { name := "DIRECTIONALITY_OTHER_NEUTRALS", type := .byte, accessFlags := 25, slot := 50, constantValue := 0 }, { name := "DIRECTIONALITY_LEFT_TO_RIGHT_EMBEDDING", type := .byte, accessFlags := 25, slot := 51, constantValue := 0 }, { name := "DIRECTIONALITY_LEFT_TO_RIGHT_OVERRIDE", type := .byte, accessFlags := 25, slot := 52, constantValue := 0 }, { name := "DIRECTIONALITY_RIGHT_TO_LEFT_EMBEDDING", type := .byte, accessFlags := 25, slot := 53, constantValue := 0 }, { name := "DIRECTIONALITY_RIGHT_TO_LEFT_OVERRIDE", type := .byte, accessFlags := 25, slot := 54, constantValue := 0 }, { name := "DIRECTIONALITY_POP_DIRECTIONAL_FORMAT", type := .byte, accessFlags := 25, slot := 55, constantValue := 0 }, { name := "DIRECTIONALITY_LEFT_TO_RIGHT_ISOLATE", type := .byte, accessFlags := 25, slot := 56, constantValue := 0 }, { name := "DIRECTIONALITY_RIGHT_TO_LEFT_ISOLATE", type := .byte, accessFlags := 25, slot := 57, constantValue := 0 }, { name := "DIRECTIONALITY_FIRST_STRONG_ISOLATE", type := .byte, accessFlags := 25, slot := 58, constantValue := 0 }, { name := "DIRECTIONALITY_POP_DIRECTIONAL_ISOLATE", type := .byte, accessFlags := 25, slot := 59, constantValue := 0 }, { name := "MIN_HIGH_SURROGATE", type := .char, accessFlags := 25, slot := 60, constantValue := 0 }, { name := "MAX_HIGH_SURROGATE", type := .char, accessFlags := 25, slot := 61, constantValue := 0 }, { name := "MIN_LOW_SURROGATE", type := .char, accessFlags := 25, slot := 62, constantValue := 0 }, { name := "MAX_LOW_SURROGATE", type := .char, accessFlags := 25, slot := 63, constantValue := 0 }, { name := "MIN_SURROGATE", type := .char, accessFlags := 25, slot := 64, constantValue := 0 }, { name := "MAX_SURROGATE", type := .char, accessFlags := 25, slot := 65, constantValue := 0 }, { name := "MIN_SUPPLEMENTARY_CODE_POINT", type := .int, accessFlags := 25, slot := 66, constantValue := 0 }, { name := "MIN_CODE_POINT", type := .int, accessFlags := 25, slot := 67, constantValue := 0 }, { name := "MAX_CODE_POINT", type := .int, accessFlags := 25, slot := 68, constantValue := 0 }, { name := "value", type := .char, accessFlags := 18, slot := 0, constantValue := 0 }, { name := "serialVersionUID", type := .long, accessFlags := 26, slot := 69, constantValue := 0 }, { name := "SIZE", type := .int, accessFlags := 25, slot := 70, constantValue := 0 }, { name := "BYTES", type := .int, accessFlags := 25, slot := 71, constantValue := 0 }, { name := "$assertionsDisabled", type := .boolean, accessFlags := 4120, slot := 72, constantValue := 0 }]
  methods := #[k11m0, k11m1, k11m2, k11m3]
  instanceTypes := #[.char]
  staticTypes := #[.int, .int, .char, .char, (.object "java/lang/Class"), .byte, .byte, .byte, .byte, .byte, .byte, .byte, .byte, .byte, .byte, .byte, .byte, .byte, .byte, .byte, .byte, .byte, .byte, .byte, .byte, .byte, .byte, .byte, .byte, .byte, .byte, .byte, .byte, .byte, .byte, .int, .byte, .byte, .byte, .byte, .byte, .byte, .byte, .byte, .byte, .byte, .byte, .byte, .byte, .byte, .byte, .byte, .byte, .byte, .byte, .byte, .byte, .byte, .byte, .byte, .char, .char, .char, .char, .char, .char, .int, .int, .int, .long, .int, .int, .boolean]
  resolved := Array.replicate 604 none
  statics := none }

def pool12 : Array CpInfo := pool [(4, .class_ 6), (1, u "java/lang/Object"), (0, u "<init>"), (0, u "()V"), (5, .class_ 16), (1, u "java/lang/StringLatin1"), (104, u "$assertionsDisabled"), (0, u "Z"), (98, .class_ 223), (1, u "java/lang/StringLatin1$LinesSpliterator"), (166, .class_ 391), (0, u "java/lang/StringLatin1$CharsSpliterator")] 3

def k12m0 : Method := { name := "<init>", desc := "()V", sig := { parameters := [], returnType := none }, accessFlags := 0, code := none }
/-- java/lang/StringLatin1 -/
def k12 : Class := { plain "java/lang/StringLatin1" (some 0) with
  accessFlags := 48
  interfaces := #[]
  cf := some (fileOf pool12 14 #[.nestMembers #[390, 221]] #[{ accessFlags := 0, nameIndex := 7, descriptorIndex := 8, attributes := #[] }] 48 4 #[] #[{ accessFlags := 4120, nameIndex := 121, descriptorIndex := 122, attributes := #[] }])
  fields := #[{ name := "$assertionsDisabled", type := .boolean, accessFlags := 4120, slot := 0, constantValue := 0 }]
  methods := #[k12m0]
  instanceTypes := #[]
  staticTypes := #[.boolean]
  resolved := Array.replicate 395 none
  statics := none }

def pool13 : Array CpInfo := pool [(9, u "<init>"), (6, .class_ 18), (1, u "java/lang/Object"), (0, u "()V"), (1, .class_ 23), (1, u "jdk/internal/util/ArraysSupport"), (0, u "LOG2_ARRAY_LONG_INDEX_SCALE"), (0, u "I"), (2, u "U"), (0, u "Ljdk/internal/misc/Unsafe;"), (8, u "BIG_ENDIAN"), (0, u "Z"), (8, u "LOG2_BYTE_BIT_SIZE"), (4, u "LOG2_ARRAY_INT_INDEX_SCALE"), (54, u "JLA"), (0, u "Ljdk/internal/access/JavaLangAccess;"), (11, u "LOG2_ARRAY_BOOLEAN_INDEX_SCALE"), (9, u "LOG2_ARRAY_BYTE_INDEX_SCALE"), (5, u "LOG2_ARRAY_CHAR_INDEX_SCALE"), (5, u "LOG2_ARRAY_SHORT_INDEX_SCALE"), (18, u "LOG2_ARRAY_FLOAT_INDEX_SCALE"), (24, u "LOG2_ARRAY_DOUBLE_INDEX_SCALE"), (89, u "T_BOOLEAN"), (2, u "T_CHAR"), (1, u "T_FLOAT"), (1, u "T_DOUBLE"), (1, u "T_BYTE"), (1, u "T_SHORT"), (1, u "T_INT"), (1, u "T_LONG"), (1, u "SOFT_MAX_ARRAY_LENGTH")] 83

def k13m0 : Method := { name := "<init>", desc := "()V", sig := { parameters := [], returnType := none }, accessFlags := 2, code := none }
/-- jdk/internal/util/ArraysSupport -/
def k13 : Class := { plain "jdk/internal/util/ArraysSupport" (some 0) with
  accessFlags := 33
  interfaces := #[]
  cf := some (fileOf pool13 21 #[] #[{ accessFlags := 2, nameIndex := 9, descriptorIndex := 19, attributes := #[] }] 33 16 #[] #[{ accessFlags := 24, nameIndex := 28, descriptorIndex := 29, attributes := #[] }, { accessFlags := 26, nameIndex := 38, descriptorIndex := 39, attributes := #[] }, { accessFlags := 25, nameIndex := 121, descriptorIndex := 25, attributes := #[] }, { accessFlags := 25, nameIndex := 131, descriptorIndex := 25, attributes := #[] }, { accessFlags := 25, nameIndex := 137, descriptorIndex := 25, attributes := #[] }, { accessFlags := 25, nameIndex := 143, descriptorIndex := 25, attributes := #[] }, { accessFlags := 25, nameIndex := 53, descriptorIndex := 25, attributes := #[] }, { accessFlags := 25, nameIndex := 24, descriptorIndex := 25, attributes := #[] }, { accessFlags := 25, nameIndex := 162, descriptorIndex := 25, attributes := #[] }, { accessFlags := 25, nameIndex := 187, descriptorIndex := 25, attributes := #[] }, { accessFlags := 26, nameIndex := 48, descriptorIndex := 25, attributes := #[] }, { accessFlags := 25, nameIndex := 277, descriptorIndex := 25, attributes := #[] }, { accessFlags := 25, nameIndex := 280, descriptorIndex := 25, attributes := #[] }, { accessFlags := 25, nameIndex := 282, descriptorIndex := 25, attributes := #[] }, { accessFlags := 25, nameIndex := 284, descriptorIndex := 25, attributes := #[] }, { accessFlags := 25, nameIndex := 286, descriptorIndex := 25, attributes := #[] }, { accessFlags := 25, nameIndex := 288, descriptorIndex := 25, attributes := #[] }, { accessFlags := 25, nameIndex := 290, descriptorIndex := 25, attributes := #[] }, { accessFlags := 25, nameIndex := 292, descriptorIndex := 25, attributes := #[] }, { accessFlags := 26, nameIndex := 108, descriptorIndex := 109, attributes := #[] }, { accessFlags := 25, nameIndex := 294, descriptorIndex := 25, attributes := #[] }])
  fields := #[{ name := "U", type := (.object "jdk/internal/misc/Unsafe"), accessFlags := 24, slot := 0, constantValue := 0 }, { name := "BIG_ENDIAN", type := .boolean, accessFlags := 26, slot := 1, constantValue := 0 }, { name := "LOG2_ARRAY_BOOLEAN_INDEX_SCALE", type := .int, accessFlags := 25, slot := 2, constantValue := 0 }, { name := "LOG2_ARRAY_BYTE_INDEX_SCALE", type := .int, accessFlags := 25, slot := 3, constantValue := 0 }, { name := "LOG2_ARRAY_CHAR_INDEX_SCALE", type := .int, accessFlags := 25, slot := 4, constantValue := 0 }, { name := "LOG2_ARRAY_SHORT_INDEX_SCALE", type := .int, accessFlags := 25, slot := 5, constantValue := 0 }, { name := "LOG2_ARRAY_INT_INDEX_SCALE", type := .int, accessFlags := 25, slot := 6, constantValue := 0 }, { name := "LOG2_ARRAY_LONG_INDEX_SCALE", type := .int, accessFlags := 25, slot := 7, constantValue := 0 }, { name := "LOG2_ARRAY_FLOAT_INDEX_SCALE", type := .int, accessFlags := 25, slot := 8, constantValue := 0 }, { name := "LOG2_ARRAY_DOUBLE_INDEX_SCALE", type := .int, accessFlags := 25, slot := 9, constantValue := 0 }, { name := "LOG2_BYTE_BIT_SIZE", type := .int, accessFlags := 26, slot := 10, constantValue := 0 }, { name := "T_BOOLEAN", type := .int, accessFlags := 25, slot := 11, constantValue := 0 }, { name := "T_CHAR", type := .int, accessFlags := 25, slot := 12, constantValue := 0 }, { name := "T_FLOAT", type := .int, accessFlags := 25, slot := 13, constantValue := 0 }, { name := "T_DOUBLE", type := .int, accessFlags := 25, slot := 14, constantValue := 0 }, { name := "T_BYTE", type := .int, accessFlags := 25, slot := 15, constantValue := 0 }, { name := "T_SHORT", type := .int, accessFlags := 25, slot := 16, constantValue := 0 }, { name := "T_INT", type := .int, accessFlags := 25, slot := 17, constantValue := 0 }, { name := "T_LONG", type := .int, accessFlags := 25, slot := 18, constantValue := 0 }, { name := "JLA", type := (.object "jdk/internal/access/JavaLangAccess"), accessFlags := 26, slot := 19, constantValue := 0 }, { name := "SOFT_MAX_ARRAY_LENGTH", type := .int, accessFlags := 25, slot := 20, constantValue := 0 }]
  methods := #[k13m0]
  instanceTypes := #[]
  staticTypes := #[(.object "jdk/internal/misc/Unsafe"), .boolean, .int, .int, .int, .int, .int, .int, .int, .int, .int, .int, .int, .int, .int, .int, .int, .int, .int, (.object "jdk/internal/access/JavaLangAccess"), .int]
  resolved := Array.replicate 378 none
  statics := none }

def pool14 : Array CpInfo := pool [(1, u "java/lang/Cloneable"), (0, .class_ 1), (0, u "java/lang/Object"), (0, .class_ 3)] 3

/-- java/lang/Cloneable -/
def k14 : Class := { plain "java/lang/Cloneable" (some 0) with
  accessFlags := 1537
  interfaces := #[]
  cf := some (fileOf pool14 2 #[] #[] 1537 4 #[] #[])
  fields := #[]
  methods := #[]
  instanceTypes := #[]
  staticTypes := #[]
  resolved := Array.replicate 8 none
  statics := none }

/-- the primitive byte -/
def k15 : Class := { plain "byte" none with kind := .primitive 'B', accessFlags := 0x411 }
/-- [B -/
def k16 : Class := { plain "[B" (some 0) with kind := .array 15 .byte, interfaces := #[14, 2], accessFlags := 1041 }

/-- the primitive char -/
def k17 : Class := { plain "char" none with kind := .primitive 'C', accessFlags := 0x411 }
/-- [C -/
def k18 : Class := { plain "[C" (some 0) with kind := .array 17 .char, interfaces := #[14, 2], accessFlags := 1041 }

/-- the primitive int -/
def k19 : Class := { plain "int" none with kind := .primitive 'I', accessFlags := 0x411 }
/-- [I -/
def k20 : Class := { plain "[I" (some 0) with kind := .array 19 .int, interfaces := #[14, 2], accessFlags := 1041 }

def heap : Heap := #[{ cls := 7, slots := #[.long 0, .int 1, .null, .int 0, .null, .int 0, .int 0], vm := .statics 7 },
  { cls := 9, slots := #[.int 0, .int 8, .int 0, .int 1], vm := .statics 9 },
  { cls := 10, slots := #[.null, .null, .null], vm := .statics 10 }]
def classes : Array Class := #[k0, k1, k2, k3, k4, k5, k6, k7, k8, k9, k10, k11, k12, k13, k14, k15, k16, k17, k18, k19, k20]
def interned : List (Array UInt16 × Addr) := []
def slotsUsed : Nat := 14
def theMethod : MethodId := ⟨1, 1⟩
def args0 : Array Value := #[.int 5, .int 6, .int 7, .int 8, .int 9]
def aboutOver (below : List Frame) : State where
  vm := { classes := classes, interned := interned.toArray }
  heap := heap
  slotsUsed := slotsUsed
  threads := #[{ frames := .invoking theMethod args0 :: below }]
def below0 : List Frame := [.native { method := ⟨0, 0⟩, args := #[] }]
def about1 : State := aboutOver below0
def p0 : Program := .bare "" "" ""
def e0 : Env := launch0.env 0 0 0
theorem w_frames : about1.frames = Frame.invoking theMethod args0 :: below0 := rfl
set_option maxRecDepth 65536 in
theorem w_args : argsFit about1.vm theMethod args0 = true := by decide +kernel
set_option maxRecDepth 65536 in
theorem w_heap : heapFits about1 = true := by decide +kernel
set_option maxRecDepth 65536 in
theorem w_runnable : about1.curStatus? = some .runnable := by decide +kernel
set_option maxRecDepth 65536 in
theorem w_alone : about1.alone = true := by decide +kernel
set_option maxRecDepth 65536 in
theorem w_named : about1.methodNamed? x = some theMethod := by decide +kernel
set_option maxRecDepth 65536 in
theorem w_hears : about1.hears theMethod below0 = true := by decide +kernel
set_option maxRecDepth 65536 in
theorem w_ripe : about1.ripe theMethod args0 below0 = true := by decide +kernel
theorem w_running : about1.status = .running := rfl
set_option maxRecDepth 65536 in
theorem w_room : about1.hasRoom e0.platform room_1 = true :=
  launch0.hasRoom_least _ room_1 (by decide +kernel) (by decide +kernel) (by decide +kernel) (by decide +kernel) (by decide +kernel) (by decide +kernel)
theorem allAtoms_all (ts : List Jvm.Cond) (a : Array Jvm.Value) (st : Jvm.State) : (allAtoms ts).before a st = ts.all (fun c => c.before a st) := by
  induction ts with
  | nil => rfl
  | cons c t ih =>
    show (Jvm.Cond.and c (allAtoms t)).before a st = _
    rw [Jvm.Cond.before_and, ih, List.all_cons]
def words1 : List Jvm.Cond := Jvm.Cond.code x code maxLocals ret :: tables_1
/-- a 'code' word, met by the world's own term for the bytes: nothing is compared byte by byte -/
theorem code_word {y : MethodName} {bytes : ByteArray} {mx : Nat} {rt : Option FieldType} {a : Array Value} {s : State} {m : MethodId} {meth : Method} {c : Code} (h1 : s.methodNamed? y = some m) (h2 : s.vm.method? m = some meth) (h3 : meth.code = some c) (h4 : c.code = bytes)
    (h5 : (c.maxLocals == mx && c.exceptionTable.isEmpty && decide (c.maxStack ≤ mostOperands) && decide (meth.sig.returnType = rt) && !meth.locks && decide (parseMethodDescriptor y.desc = some meth.sig)) = true) : (Jvm.Cond.code y bytes mx rt).before a s = true := by
  simp only [Bool.and_eq_true, beq_iff_eq, Bool.not_eq_true', decide_eq_true_eq] at h5
  obtain ⟨⟨⟨⟨⟨g1, g2⟩, g3⟩, g4⟩, g5⟩, g6⟩ := h5
  simp [Cond.before, Cond.holds, Cond.value, h1, h2, h3, h4, g1, g2, g3, g4, g5, g6]
def isCode : Jvm.Cond → Bool
  | .code _ _ _ _ => true
  | _ => false
theorem all_split {L : List Jvm.Cond} {P : Jvm.Cond → Bool} (h1 : L.all (fun c => isCode c || P c) = true) (h2 : ∀ c ∈ L.filter isCode, P c = true) : L.all P = true := by
  refine List.all_eq_true.mpr fun c hc => ?_
  have h := List.all_eq_true.mp h1 c hc
  rcases Bool.eq_false_or_eq_true (isCode c) with hi | hi
  · exact h2 c (List.mem_filter.mpr ⟨hc, hi⟩)
  · simpa [hi] using h
set_option maxRecDepth 65536 in
theorem w_c0 : (Jvm.Cond.code x code maxLocals ret).before args0 about1 = true := code_word (m := ⟨1, 1⟩) (meth := k1m1) (c := k1c1) (by decide +kernel) rfl rfl rfl (by decide +kernel)
set_option maxRecDepth 65536 in
theorem w_c1 : (Jvm.Cond.code ({ cls := "com/example/pagra/pagra/core/StrictUtf8IsEncodablePinLaw", name := "draw", desc := "(I)C" } : Jvm.MethodName) method_3_code (2 : Nat) (Option.some Jvm.ClassFile.FieldType.char)).before args0 about1 = true := code_word (m := ⟨1, 2⟩) (meth := k1m2) (c := k1c2) (by decide +kernel) rfl rfl rfl (by decide +kernel)
set_option maxRecDepth 65536 in
theorem w_c2 : (Jvm.Cond.code ({ cls := "com/example/pagra/pagra/core/StrictUtf8IsEncodablePinLaw", name := "make", desc := "(ICCCC)[C" } : Jvm.MethodName) method_4_code (5 : Nat) (Option.some (Jvm.ClassFile.FieldType.array Jvm.ClassFile.FieldType.char))).before args0 about1 = true := code_word (m := ⟨1, 3⟩) (meth := k1m3) (c := k1c3) (by decide +kernel) rfl rfl rfl (by decide +kernel)
set_option maxRecDepth 65536 in
theorem w_c3 : (Jvm.Cond.code ({ cls := "com/example/pagra/pagra/core/StrictUtf8IsEncodablePinLaw", name := "fine", desc := "([CI)Z" } : Jvm.MethodName) method_7_code (2 : Nat) (Option.some Jvm.ClassFile.FieldType.boolean)).before args0 about1 = true := code_word (m := ⟨1, 6⟩) (meth := k1m6) (c := k1c6) (by decide +kernel) rfl rfl rfl (by decide +kernel)
set_option maxRecDepth 65536 in
theorem w_c4 : (Jvm.Cond.code ({ cls := "java/lang/String", name := "<init>", desc := "([C)V" } : Jvm.MethodName) jdk_42_method_3_code (2 : Nat) (Option.none : Option Jvm.ClassFile.FieldType)).before args0 about1 = true := code_word (m := ⟨7, 1⟩) (meth := k7m1) (c := k7c1) (by decide +kernel) rfl rfl rfl (by decide +kernel)
set_option maxRecDepth 65536 in
theorem w_c5 : (Jvm.Cond.code ({ cls := "java/lang/String", name := "<init>", desc := "([CIILjava/lang/Void;)V" } : Jvm.MethodName) jdk_42_method_149_code (6 : Nat) (Option.none : Option Jvm.ClassFile.FieldType)).before args0 about1 = true := code_word (m := ⟨7, 4⟩) (meth := k7m4) (c := k7c4) (by decide +kernel) rfl rfl rfl (by decide +kernel)
set_option maxRecDepth 65536 in
theorem w_c6 : (Jvm.Cond.code ({ cls := "java/lang/Object", name := "<init>", desc := "()V" } : Jvm.MethodName) object_method_1_code (1 : Nat) (Option.none : Option Jvm.ClassFile.FieldType)).before args0 about1 = true := code_word (m := ⟨0, 0⟩) (meth := k0m0) (c := k0c0) (by decide +kernel) rfl rfl rfl (by decide +kernel)
set_option maxRecDepth 65536 in
theorem w_c7 : (Jvm.Cond.code ({ cls := "com/example/pagra/pagra/core/StrictUtf8", name := "isEncodable", desc := "(Ljava/lang/String;)Z" } : Jvm.MethodName) prog_28_method_3_code (3 : Nat) (Option.some Jvm.ClassFile.FieldType.boolean)).before args0 about1 = true := code_word (m := ⟨8, 1⟩) (meth := k8m1) (c := k8c1) (by decide +kernel) rfl rfl rfl (by decide +kernel)
set_option maxRecDepth 65536 in
theorem w_c8 : (Jvm.Cond.code ({ cls := "java/lang/String", name := "length", desc := "()I" } : Jvm.MethodName) jdk_42_method_54_code (1 : Nat) (Option.some Jvm.ClassFile.FieldType.int)).before args0 about1 = true := code_word (m := ⟨7, 2⟩) (meth := k7m2) (c := k7c2) (by decide +kernel) rfl rfl rfl (by decide +kernel)
set_option maxRecDepth 65536 in
theorem w_c9 : (Jvm.Cond.code ({ cls := "java/lang/String", name := "coder", desc := "()B" } : Jvm.MethodName) jdk_42_method_152_code (1 : Nat) (Option.some Jvm.ClassFile.FieldType.byte)).before args0 about1 = true := code_word (m := ⟨7, 5⟩) (meth := k7m5) (c := k7c5) (by decide +kernel) rfl rfl rfl (by decide +kernel)
set_option maxRecDepth 65536 in
theorem w_c10 : (Jvm.Cond.code ({ cls := "com/example/pagra/pagra/core/StrictUtf8IsEncodablePinLaw", name := "high", desc := "(C)Z" } : Jvm.MethodName) method_5_code (1 : Nat) (Option.some Jvm.ClassFile.FieldType.boolean)).before args0 about1 = true := code_word (m := ⟨1, 4⟩) (meth := k1m4) (c := k1c4) (by decide +kernel) rfl rfl rfl (by decide +kernel)
set_option maxRecDepth 65536 in
theorem w_c11 : (Jvm.Cond.code ({ cls := "com/example/pagra/pagra/core/StrictUtf8IsEncodablePinLaw", name := "low", desc := "(C)Z" } : Jvm.MethodName) method_6_code (1 : Nat) (Option.some Jvm.ClassFile.FieldType.boolean)).before args0 about1 = true := code_word (m := ⟨1, 5⟩) (meth := k1m5) (c := k1c5) (by decide +kernel) rfl rfl rfl (by decide +kernel)
set_option maxRecDepth 65536 in
theorem w_c12 : (Jvm.Cond.code ({ cls := "java/lang/StringUTF16", name := "compress", desc := "([CII)[B" } : Jvm.MethodName) jdk_52_method_16_code (6 : Nat) (Option.some (Jvm.ClassFile.FieldType.array Jvm.ClassFile.FieldType.byte))).before args0 about1 = true := code_word (m := ⟨9, 9⟩) (meth := k9m9) (c := k9c9) (by decide +kernel) rfl rfl rfl (by decide +kernel)
set_option maxRecDepth 65536 in
theorem w_c13 : (Jvm.Cond.code ({ cls := "java/lang/StringUTF16", name := "compress", desc := "([CI[BII)I" } : Jvm.MethodName) jdk_52_method_21_code (7 : Nat) (Option.some Jvm.ClassFile.FieldType.int)).before args0 about1 = true := code_word (m := ⟨9, 10⟩) (meth := k9m10) (c := k9c10) (by decide +kernel) rfl rfl rfl (by decide +kernel)
set_option maxRecDepth 65536 in
theorem w_c14 : (Jvm.Cond.code ({ cls := "java/lang/StringUTF16", name := "toBytes", desc := "([CII)[B" } : Jvm.MethodName) jdk_52_method_14_code (5 : Nat) (Option.some (Jvm.ClassFile.FieldType.array Jvm.ClassFile.FieldType.byte))).before args0 about1 = true := code_word (m := ⟨9, 7⟩) (meth := k9m7) (c := k9c7) (by decide +kernel) rfl rfl rfl (by decide +kernel)
set_option maxRecDepth 65536 in
theorem w_c15 : (Jvm.Cond.code ({ cls := "java/lang/StringUTF16", name := "newBytesFor", desc := "(I)[B" } : Jvm.MethodName) jdk_52_method_2_code (1 : Nat) (Option.some (Jvm.ClassFile.FieldType.array Jvm.ClassFile.FieldType.byte))).before args0 about1 = true := code_word (m := ⟨9, 1⟩) (meth := k9m1) (c := k9c1) (by decide +kernel) rfl rfl rfl (by decide +kernel)
set_option maxRecDepth 65536 in
theorem w_c16 : (Jvm.Cond.code ({ cls := "java/lang/StringUTF16", name := "newBytesLength", desc := "(I)I" } : Jvm.MethodName) jdk_52_method_3_code (1 : Nat) (Option.some Jvm.ClassFile.FieldType.int)).before args0 about1 = true := code_word (m := ⟨9, 2⟩) (meth := k9m2) (c := k9c2) (by decide +kernel) rfl rfl rfl (by decide +kernel)
set_option maxRecDepth 65536 in
theorem w_c17 : (Jvm.Cond.code ({ cls := "java/lang/StringUTF16", name := "putChar", desc := "([BII)V" } : Jvm.MethodName) jdk_52_method_4_code (3 : Nat) (Option.none : Option Jvm.ClassFile.FieldType)).before args0 about1 = true := code_word (m := ⟨9, 3⟩) (meth := k9m3) (c := k9c3) (by decide +kernel) rfl rfl rfl (by decide +kernel)
set_option maxRecDepth 65536 in
theorem w_c18 : (Jvm.Cond.code ({ cls := "java/lang/StringUTF16", name := "getChar", desc := "([BI)C" } : Jvm.MethodName) jdk_52_method_5_code (2 : Nat) (Option.some Jvm.ClassFile.FieldType.char)).before args0 about1 = true := code_word (m := ⟨9, 4⟩) (meth := k9m4) (c := k9c4) (by decide +kernel) rfl rfl rfl (by decide +kernel)
set_option maxRecDepth 65536 in
theorem w_c19 : (Jvm.Cond.code ({ cls := "java/lang/StringUTF16", name := "coderFromArrayLen", desc := "([BI)B" } : Jvm.MethodName) jdk_52_method_15_code (2 : Nat) (Option.some Jvm.ClassFile.FieldType.byte)).before args0 about1 = true := code_word (m := ⟨9, 8⟩) (meth := k9m8) (c := k9c8) (by decide +kernel) rfl rfl rfl (by decide +kernel)
set_option maxRecDepth 65536 in
theorem w_c20 : (Jvm.Cond.code ({ cls := "java/lang/String", name := "codePointAt", desc := "(I)I" } : Jvm.MethodName) jdk_42_method_57_code (3 : Nat) (Option.some Jvm.ClassFile.FieldType.int)).before args0 about1 = true := code_word (m := ⟨7, 3⟩) (meth := k7m3) (c := k7c3) (by decide +kernel) rfl rfl rfl (by decide +kernel)
set_option maxRecDepth 65536 in
theorem w_c21 : (Jvm.Cond.code ({ cls := "java/lang/String", name := "isLatin1", desc := "()Z" } : Jvm.MethodName) jdk_42_method_154_code (1 : Nat) (Option.some Jvm.ClassFile.FieldType.boolean)).before args0 about1 = true := code_word (m := ⟨7, 6⟩) (meth := k7m6) (c := k7c6) (by decide +kernel) rfl rfl rfl (by decide +kernel)
set_option maxRecDepth 65536 in
theorem w_c22 : (Jvm.Cond.code ({ cls := "java/lang/String", name := "checkIndex", desc := "(II)V" } : Jvm.MethodName) jdk_42_method_155_code (2 : Nat) (Option.none : Option Jvm.ClassFile.FieldType)).before args0 about1 = true := code_word (m := ⟨7, 7⟩) (meth := k7m7) (c := k7c7) (by decide +kernel) rfl rfl rfl (by decide +kernel)
set_option maxRecDepth 65536 in
theorem w_c23 : (Jvm.Cond.code ({ cls := "jdk/internal/util/Preconditions", name := "checkIndex", desc := "(IILjava/util/function/BiFunction;)I" } : Jvm.MethodName) jdk_41_method_11_code (3 : Nat) (Option.some Jvm.ClassFile.FieldType.int)).before args0 about1 = true := code_word (m := ⟨10, 1⟩) (meth := k10m1) (c := k10c1) (by decide +kernel) rfl rfl rfl (by decide +kernel)
set_option maxRecDepth 65536 in
theorem w_c24 : (Jvm.Cond.code ({ cls := "java/lang/StringUTF16", name := "codePointAt", desc := "([BII)I" } : Jvm.MethodName) jdk_52_method_8_code (3 : Nat) (Option.some Jvm.ClassFile.FieldType.int)).before args0 about1 = true := code_word (m := ⟨9, 6⟩) (meth := k9m6) (c := k9c6) (by decide +kernel) rfl rfl rfl (by decide +kernel)
set_option maxRecDepth 65536 in
theorem w_c25 : (Jvm.Cond.code ({ cls := "java/lang/StringUTF16", name := "codePointAt", desc := "([BIIZ)I" } : Jvm.MethodName) jdk_52_method_7_code (6 : Nat) (Option.some Jvm.ClassFile.FieldType.int)).before args0 about1 = true := code_word (m := ⟨9, 5⟩) (meth := k9m5) (c := k9c5) (by decide +kernel) rfl rfl rfl (by decide +kernel)
set_option maxRecDepth 65536 in
theorem w_c26 : (Jvm.Cond.code ({ cls := "java/lang/Character", name := "isHighSurrogate", desc := "(C)Z" } : Jvm.MethodName) jdk_89_method_14_code (1 : Nat) (Option.some Jvm.ClassFile.FieldType.boolean)).before args0 about1 = true := code_word (m := ⟨11, 0⟩) (meth := k11m0) (c := k11c0) (by decide +kernel) rfl rfl rfl (by decide +kernel)
set_option maxRecDepth 65536 in
theorem w_c27 : (Jvm.Cond.code ({ cls := "java/lang/Character", name := "charCount", desc := "(I)I" } : Jvm.MethodName) jdk_89_method_18_code (1 : Nat) (Option.some Jvm.ClassFile.FieldType.int)).before args0 about1 = true := code_word (m := ⟨11, 2⟩) (meth := k11m2) (c := k11c2) (by decide +kernel) rfl rfl rfl (by decide +kernel)
set_option maxRecDepth 65536 in
theorem w_c28 : (Jvm.Cond.code ({ cls := "java/lang/Character", name := "isLowSurrogate", desc := "(C)Z" } : Jvm.MethodName) jdk_89_method_15_code (1 : Nat) (Option.some Jvm.ClassFile.FieldType.boolean)).before args0 about1 = true := code_word (m := ⟨11, 1⟩) (meth := k11m1) (c := k11c1) (by decide +kernel) rfl rfl rfl (by decide +kernel)
set_option maxRecDepth 65536 in
theorem w_c29 : (Jvm.Cond.code ({ cls := "java/lang/Character", name := "toCodePoint", desc := "(CC)I" } : Jvm.MethodName) jdk_89_method_19_code (2 : Nat) (Option.some Jvm.ClassFile.FieldType.int)).before args0 about1 = true := code_word (m := ⟨11, 3⟩) (meth := k11m3) (c := k11c3) (by decide +kernel) rfl rfl rfl (by decide +kernel)
def codes1 : List Jvm.Cond := [Jvm.Cond.code x code maxLocals ret, Jvm.Cond.code ({ cls := "com/example/pagra/pagra/core/StrictUtf8IsEncodablePinLaw", name := "draw", desc := "(I)C" } : Jvm.MethodName) method_3_code (2 : Nat) (Option.some Jvm.ClassFile.FieldType.char), Jvm.Cond.code ({ cls := "com/example/pagra/pagra/core/StrictUtf8IsEncodablePinLaw", name := "make", desc := "(ICCCC)[C" } : Jvm.MethodName) method_4_code (5 : Nat) (Option.some (Jvm.ClassFile.FieldType.array Jvm.ClassFile.FieldType.char)), Jvm.Cond.code ({ cls := "com/example/pagra/pagra/core/StrictUtf8IsEncodablePinLaw", name := "fine", desc := "([CI)Z" } : Jvm.MethodName) method_7_code (2 : Nat) (Option.some Jvm.ClassFile.FieldType.boolean), Jvm.Cond.code ({ cls := "java/lang/String", name := "<init>", desc := "([C)V" } : Jvm.MethodName) jdk_42_method_3_code (2 : Nat) (Option.none : Option Jvm.ClassFile.FieldType), Jvm.Cond.code ({ cls := "java/lang/String", name := "<init>", desc := "([CIILjava/lang/Void;)V" } : Jvm.MethodName) jdk_42_method_149_code (6 : Nat) (Option.none : Option Jvm.ClassFile.FieldType), Jvm.Cond.code ({ cls := "java/lang/Object", name := "<init>", desc := "()V" } : Jvm.MethodName) object_method_1_code (1 : Nat) (Option.none : Option Jvm.ClassFile.FieldType), Jvm.Cond.code ({ cls := "com/example/pagra/pagra/core/StrictUtf8", name := "isEncodable", desc := "(Ljava/lang/String;)Z" } : Jvm.MethodName) prog_28_method_3_code (3 : Nat) (Option.some Jvm.ClassFile.FieldType.boolean), Jvm.Cond.code ({ cls := "java/lang/String", name := "length", desc := "()I" } : Jvm.MethodName) jdk_42_method_54_code (1 : Nat) (Option.some Jvm.ClassFile.FieldType.int), Jvm.Cond.code ({ cls := "java/lang/String", name := "coder", desc := "()B" } : Jvm.MethodName) jdk_42_method_152_code (1 : Nat) (Option.some Jvm.ClassFile.FieldType.byte), Jvm.Cond.code ({ cls := "com/example/pagra/pagra/core/StrictUtf8IsEncodablePinLaw", name := "high", desc := "(C)Z" } : Jvm.MethodName) method_5_code (1 : Nat) (Option.some Jvm.ClassFile.FieldType.boolean), Jvm.Cond.code ({ cls := "com/example/pagra/pagra/core/StrictUtf8IsEncodablePinLaw", name := "low", desc := "(C)Z" } : Jvm.MethodName) method_6_code (1 : Nat) (Option.some Jvm.ClassFile.FieldType.boolean), Jvm.Cond.code ({ cls := "java/lang/StringUTF16", name := "compress", desc := "([CII)[B" } : Jvm.MethodName) jdk_52_method_16_code (6 : Nat) (Option.some (Jvm.ClassFile.FieldType.array Jvm.ClassFile.FieldType.byte)), Jvm.Cond.code ({ cls := "java/lang/StringUTF16", name := "compress", desc := "([CI[BII)I" } : Jvm.MethodName) jdk_52_method_21_code (7 : Nat) (Option.some Jvm.ClassFile.FieldType.int), Jvm.Cond.code ({ cls := "java/lang/StringUTF16", name := "toBytes", desc := "([CII)[B" } : Jvm.MethodName) jdk_52_method_14_code (5 : Nat) (Option.some (Jvm.ClassFile.FieldType.array Jvm.ClassFile.FieldType.byte)), Jvm.Cond.code ({ cls := "java/lang/StringUTF16", name := "newBytesFor", desc := "(I)[B" } : Jvm.MethodName) jdk_52_method_2_code (1 : Nat) (Option.some (Jvm.ClassFile.FieldType.array Jvm.ClassFile.FieldType.byte)), Jvm.Cond.code ({ cls := "java/lang/StringUTF16", name := "newBytesLength", desc := "(I)I" } : Jvm.MethodName) jdk_52_method_3_code (1 : Nat) (Option.some Jvm.ClassFile.FieldType.int), Jvm.Cond.code ({ cls := "java/lang/StringUTF16", name := "putChar", desc := "([BII)V" } : Jvm.MethodName) jdk_52_method_4_code (3 : Nat) (Option.none : Option Jvm.ClassFile.FieldType), Jvm.Cond.code ({ cls := "java/lang/StringUTF16", name := "getChar", desc := "([BI)C" } : Jvm.MethodName) jdk_52_method_5_code (2 : Nat) (Option.some Jvm.ClassFile.FieldType.char), Jvm.Cond.code ({ cls := "java/lang/StringUTF16", name := "coderFromArrayLen", desc := "([BI)B" } : Jvm.MethodName) jdk_52_method_15_code (2 : Nat) (Option.some Jvm.ClassFile.FieldType.byte), Jvm.Cond.code ({ cls := "java/lang/String", name := "codePointAt", desc := "(I)I" } : Jvm.MethodName) jdk_42_method_57_code (3 : Nat) (Option.some Jvm.ClassFile.FieldType.int), Jvm.Cond.code ({ cls := "java/lang/String", name := "isLatin1", desc := "()Z" } : Jvm.MethodName) jdk_42_method_154_code (1 : Nat) (Option.some Jvm.ClassFile.FieldType.boolean), Jvm.Cond.code ({ cls := "java/lang/String", name := "checkIndex", desc := "(II)V" } : Jvm.MethodName) jdk_42_method_155_code (2 : Nat) (Option.none : Option Jvm.ClassFile.FieldType), Jvm.Cond.code ({ cls := "jdk/internal/util/Preconditions", name := "checkIndex", desc := "(IILjava/util/function/BiFunction;)I" } : Jvm.MethodName) jdk_41_method_11_code (3 : Nat) (Option.some Jvm.ClassFile.FieldType.int), Jvm.Cond.code ({ cls := "java/lang/StringUTF16", name := "codePointAt", desc := "([BII)I" } : Jvm.MethodName) jdk_52_method_8_code (3 : Nat) (Option.some Jvm.ClassFile.FieldType.int), Jvm.Cond.code ({ cls := "java/lang/StringUTF16", name := "codePointAt", desc := "([BIIZ)I" } : Jvm.MethodName) jdk_52_method_7_code (6 : Nat) (Option.some Jvm.ClassFile.FieldType.int), Jvm.Cond.code ({ cls := "java/lang/Character", name := "isHighSurrogate", desc := "(C)Z" } : Jvm.MethodName) jdk_89_method_14_code (1 : Nat) (Option.some Jvm.ClassFile.FieldType.boolean), Jvm.Cond.code ({ cls := "java/lang/Character", name := "charCount", desc := "(I)I" } : Jvm.MethodName) jdk_89_method_18_code (1 : Nat) (Option.some Jvm.ClassFile.FieldType.int), Jvm.Cond.code ({ cls := "java/lang/Character", name := "isLowSurrogate", desc := "(C)Z" } : Jvm.MethodName) jdk_89_method_15_code (1 : Nat) (Option.some Jvm.ClassFile.FieldType.boolean), Jvm.Cond.code ({ cls := "java/lang/Character", name := "toCodePoint", desc := "(CC)I" } : Jvm.MethodName) jdk_89_method_19_code (2 : Nat) (Option.some Jvm.ClassFile.FieldType.int)]
set_option maxRecDepth 65536 in
theorem codes_eq : words1.filter isCode = codes1 := rfl
theorem w_codes : ∀ c ∈ words1.filter isCode, c.before args0 about1 = true := by
  rw [codes_eq]
  intro c hc
  simp only [codes1, List.mem_cons, List.not_mem_nil, or_false] at hc
  rcases hc with rfl | rfl | rfl | rfl | rfl | rfl | rfl | rfl | rfl | rfl | rfl | rfl | rfl | rfl | rfl | rfl | rfl | rfl | rfl | rfl | rfl | rfl | rfl | rfl | rfl | rfl | rfl | rfl | rfl | rfl
  · exact w_c0
  · exact w_c1
  · exact w_c2
  · exact w_c3
  · exact w_c4
  · exact w_c5
  · exact w_c6
  · exact w_c7
  · exact w_c8
  · exact w_c9
  · exact w_c10
  · exact w_c11
  · exact w_c12
  · exact w_c13
  · exact w_c14
  · exact w_c15
  · exact w_c16
  · exact w_c17
  · exact w_c18
  · exact w_c19
  · exact w_c20
  · exact w_c21
  · exact w_c22
  · exact w_c23
  · exact w_c24
  · exact w_c25
  · exact w_c26
  · exact w_c27
  · exact w_c28
  · exact w_c29
set_option maxRecDepth 65536 in
theorem w_t1 : (words1.take 24).all (fun c => isCode c || c.before args0 about1) = true := by decide +kernel
set_option maxRecDepth 65536 in
theorem w_t2 : ((words1.drop 24).take 24).all (fun c => isCode c || c.before args0 about1) = true := by decide +kernel
set_option maxRecDepth 65536 in
theorem w_t3 : (((words1.drop 24).drop 24).take 24).all (fun c => isCode c || c.before args0 about1) = true := by decide +kernel
set_option maxRecDepth 65536 in
theorem w_t4 : ((((words1.drop 24).drop 24).drop 24).take 24).all (fun c => isCode c || c.before args0 about1) = true := by decide +kernel
set_option maxRecDepth 65536 in
theorem w_t5 : (((((words1.drop 24).drop 24).drop 24).drop 24).take 24).all (fun c => isCode c || c.before args0 about1) = true := by decide +kernel
set_option maxRecDepth 65536 in
theorem w_t6 : (((((words1.drop 24).drop 24).drop 24).drop 24).drop 24).all (fun c => isCode c || c.before args0 about1) = true := by decide +kernel
theorem w_tables : (allAtoms (Jvm.Cond.code x code maxLocals ret :: tables_1)).before args0 about1 = true := by
  rw [allAtoms_all]
  show words1.all (fun c => c.before args0 about1) = true
  refine all_split ?_ w_codes
  rw [← List.take_append_drop 24 words1, List.all_append, w_t1, ← List.take_append_drop 24 (words1.drop 24), List.all_append, w_t2, ← List.take_append_drop 24 ((words1.drop 24).drop 24), List.all_append, w_t3, ← List.take_append_drop 24 (((words1.drop 24).drop 24).drop 24), List.all_append, w_t4, ← List.take_append_drop 24 ((((words1.drop 24).drop 24).drop 24).drop 24), List.all_append, w_t5, w_t6]
  rfl
set_option maxRecDepth 65536 in
theorem w_rest : rest_1_c.before args0 about1 = true := by decide +kernel
set_option maxRecDepth 65536 in
theorem w_case : (Jvm.Cond.and given_1 narrow_1).before args0 about1 = true := by decide +kernel
set_option maxRecDepth 65536 in
theorem w_consts : constsHeld consts_1 about1 := Jvm.Lit.constsHeldB_iff.mp (by decide +kernel)
theorem w_applies : (headSpec (Jvm.Cond.code x code maxLocals ret :: tables_1) room_1).applies x e0.platform about1 = true :=
  (Spec.applies_iff w_frames).mpr ⟨w_running, w_runnable, w_alone, w_named, w_hears, w_ripe, w_room, w_tables⟩
theorem atStart : AtStart classFile x code maxLocals ret World_1 tables_1 room_1 Calls_1 rest_1 Pre_1 launch0 p0 e0 about1 theMethod args0 below0 :=
  ⟨lists_1, trivial, launch0.admits_env _ _ _, launch0.least_env, fairChoices_fair.cas, fairChoices_fair.clock, w_frames, w_args, w_heap, w_applies, ⟨w_consts, trivial⟩, w_rest, w_case⟩
end start1
theorem witness_1 : WitnessClaimed_1 := ⟨start1.p0, start1.e0, start1.about1, start1.theMethod, start1.args0, start1.below0, start1.atStart⟩
end Jvm.Pilot.@@N@@
